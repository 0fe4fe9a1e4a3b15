/- FnGjMap: whatever text comes in, the law returns true and the text reads afterwards as before; with the thirteen package-level variables that its row lists as the program's own text lays them (the tied card) (part 14 of 19: lemmas for its last part) -/
import Derived.Test.YtpgfjbimodnkeaaGreatDoorMpd2
import Derived.Test.YtpgfjbimodnkeaaGreatDoorMpd9
import Derived.Test.YtpgfjbimodnkeaaGreatDoorMpd11
import Derived.Test.YtpgfjbimodnkeaaGreatDoorMpd12
import Derived.Test.YtpgfjbimodnkeaaGreatDoorMpd13
set_option maxHeartbeats 16000000
set_option maxRecDepth 100000
set_option linter.unusedVariables false
set_option linter.unusedSimpArgs false
namespace Go.Proofs.YtpgfjbimodnkeaaGreatDoor.Q
open Go.RowKit Go.Proofs.YtpgfjbimodnkeaaGreatDoorW.PrintWords Go.Proofs.YtpgfjbimodnkeaaGreatDoorW.PrintLast Go.Proofs.YtpgfjbimodnkeaaGreatDoorW.PrintMore
attribute [local go_sem] dm di dL dK cu bZ dD dC
def fU.f (k:Nat) (a0:ByteArray):Option (Int × ByteArray × List ByteArray × (List (S25)) × Bool):=(fZ.f k a0).bind fun bt375=>(if bt375.2.2.2.2.2=true then ((bI.f k a0 bt375.1 bt375.2.1 bt375.2.2.1 bt375.2.2.2.1 bt375.2.2.2.2.1).bind fun bt386=>(some (bt386.1,bt386.2.1,bt386.2.2.1,bt386.2.2.2,true))) else (some (0,(⟨#[]⟩:ByteArray),([]:List ByteArray),([]:List (S25)),false)))
theorem fU.calls (k:Nat) (a0:ByteArray) (r1:Int) (r2:ByteArray) (r3:List ByteArray) (r4:List (S25)) (r5:Bool) (w:World) (h:fU.f k a0=some (r1,r2,r3,r4,r5)) :
 Calls Tryz.prog 28 #[.string a0] w fun e w'=>∃ v2_ v3_:Value,e = .returned (.tuple #[.agg #[.int .i64 r1,.string r2,v2_,v3_],.bool r5])∧Kd.R Kd.string 9 w' w.heap.size (fun _=>True) v2_ r3∧Kd.R k25 25 w' w.heap.size (fun k_=>some k_≠(v2_:Value).ownBlock) v3_ r4∧Below w.heap.size w w':=by
 have hu25:=Tryz.underlying25
 have hu32:=Tryz.underlying32
 have HB:=ae.mk (Below.refl w.heap.size w)
 have H:((fZ.f k a0).bind fun bt375=>(if bt375.2.2.2.2.2=true then ((bI.f k a0 bt375.1 bt375.2.1 bt375.2.2.1 bt375.2.2.2.1 bt375.2.2.2.2.1).bind fun bt386=>(some (bt386.1,bt386.2.1,bt386.2.2.1,bt386.2.2.2,true))) else (some (0,(⟨#[]⟩:ByteArray),([]:List ByteArray),([]:List (S25)),false))))=some (r1,r2,r3,r4,r5):=h
 clear h
 replace H:=Option.bind_eq_some_iff.mp H
 obtain ⟨⟨t375,t376,t377,t378,t381,t384⟩,A20,H⟩:=H
 replace H:(if t384=true then ((bI.f k a0 t375 t376 t377 t378 t381).bind fun bt386=>(some (bt386.1,bt386.2.1,bt386.2.2.1,bt386.2.2.2,true))) else (some (0,(⟨#[]⟩:ByteArray),([]:List ByteArray),([]:List (S25)),false)))=some (r1,r2,r3,r4,r5):=H
 have A2:=ae.mk A20
 clear A20
 by_cases c3:t384=true
 ·subst c3
  have H1:((bI.f k a0 t375 t376 t377 t378 t381).bind fun bt386=>(some (bt386.1,bt386.2.1,bt386.2.2.1,bt386.2.2.2,true)))=some (r1,r2,r3,r4,r5):=by rw [if_pos rfl] at H;exact H
  clear H
  have H:=H1
  clear H1
  replace H:=Option.bind_eq_some_iff.mp H
  obtain ⟨⟨t386,t387,t388,t391⟩,A40,H⟩:=H
  replace H:(some (t386,t387,t388,t391,true))=some (r1,r2,r3,r4,r5):=H
  have A4:=ae.mk A40
  clear A40
  simp only [Option.some.injEq,Prod.mk.injEq] at H
  obtain ⟨rfl,rfl,rfl,rfl,rfl⟩:=H
  go_enter Tryz.func28,Tryz.ntmps28
  go_wp2_with (first | ((with_reducible refine gm (N:=2) rfl ?_);refine gI ?hg (N:=2) ?hd (cs:=#[.int .i64 0,.string (⟨#[]⟩:ByteArray),.slice none 0 0,.slice none 0 0]) (t:=25) ?hr ?_;(case hd=>rfl);(case hg=>rfl);(case hr=>first | (go_simp;done) | (go_simp;rfl));intro gb374 hg w5 hbox hb;have n0_:=ae.mk (bz (by repeat (first | (with_reducible first | exact HB.out | apply ah | apply ag | apply aj) | exact HB.out)) hb);have n1_:=ae.mk (hbox);have n2_:=ae.mk ((by rw [hg];exact (bQ (by repeat (first | (with_reducible first | exact HB.out | apply ah | apply ag | apply aj) | exact HB.out))):w.heap.size≤gb374));have n3_:=ae.mk ((by rw [hg];exact (bQ (by repeat (first | (with_reducible first | exact HB.out | apply ah | apply ag | apply aj) | exact HB.out))):w.heap.size≤gb374));clear HB;have HB:=n0_;have BK374:=n1_;have GW374:=n2_;have GE374:=n3_;clear n0_ n1_ n2_ n3_;clear hb hbox hg) | ((with_reducible refine bD (f:=10) rfl ?_);refine dS (some 8) rfl rfl Tryz.func10 (by kernel_rfl) rfl #[.string a0] rfl (by (try simp only [List.map_toArray,List.map_cons,List.map_nil]);first | done | rfl | (simp only [List.length_drop,List.length_take];rfl)) ?_;(with_reducible refine (fZ.calls k a0 t375 t376 t377 t378 t381 true _ A2.out).mono ?_);rintro e w6 ⟨v379,v382,rfl,ho0,ho1,hb⟩;refine ⟨_,rfl,?_⟩;have n0_:=ae.mk (Kd.eP ho0 (bQ (by repeat (first | (with_reducible first | exact HB.out | apply ah | apply ag | apply aj | refine aA ?_ GE374.out) | exact HB.out))));have n1_:=ae.mk (Kd.eP ho1 (bQ (by repeat (first | (with_reducible first | exact HB.out | apply ah | apply ag | apply aj | refine aA ?_ GE374.out) | exact HB.out))));have n2_:=ae.mk (df (g:=gb374) (o:=.cells #[.int .i64 0,.string (⟨#[]⟩:ByteArray),.slice none 0 0,.slice none 0 0] 25 (0,0)) (by (with_reducible repeat (first | refine aW ?_ _ | refine bn ?_ | refine aJ ?_ _));exact BK374.out) hb);have n3_:=ae.mk (bz (by repeat (first | (with_reducible first | exact HB.out | apply ah | apply ag | apply aj | refine aA ?_ GE374.out) | exact HB.out)) hb);clear BK374;clear HB;have HO380:=n0_;have HO383:=n1_;have BK374:=n2_;have HB:=n3_;clear n0_ n1_ n2_ n3_;(try clear hb);(try clear hb2);(try clear hk);(try clear hi);(try clear ho0);(try clear ho1)) | ((with_reducible refine gm (N:=4) rfl ?_);refine gI ?hg (N:=4) ?hd (cs:=#[.int .i64 0,.int .i64 0,.int .i64 0,.slice none 0 0,.slice none 0 0]) (t:=32) ?hr ?_;(case hd=>rfl);(case hg=>rfl);(case hr=>first | (go_simp;done) | (go_simp;rfl));intro gb385 hg w7 hbox hb;have n0_:=ae.mk (Kd.jv (by (with_reducible repeat (first | apply Kd.cO | apply Kd.dh | apply Kd.R_drew));exact HO380.out) hb);have n1_:=ae.mk (Kd.jv (Kd.uF (by (with_reducible repeat (first | apply Kd.cO | apply Kd.dh | apply Kd.R_drew));exact HO383.out) gb385 (Nat.le_of_eq hg.symm)) hb);have n2_:=ae.mk (df (g:=gb374) (o:=.cells #[.int .i64 0,.string (⟨#[]⟩:ByteArray),.slice none 0 0,.slice none 0 0] 25 (0,0)) (by (with_reducible repeat (first | refine aW ?_ _ | refine bn ?_ | refine aJ ?_ _));exact BK374.out) hb);have n3_:=ae.mk (bz (by repeat (first | (with_reducible first | exact HB.out | apply ah | apply ag | apply aj | refine aA ?_ GE374.out) | exact HB.out)) hb);have n4_:=ae.mk (hbox);have n5_:=ae.mk ((by rw [hg];exact (bQ (by repeat (first | (with_reducible first | exact HB.out | apply ah | apply ag | apply aj | refine aA ?_ GE374.out) | exact HB.out))):w.heap.size≤gb385));have n6_:=ae.mk ((by rw [hg];exact (bQ (by repeat (first | (with_reducible first | exact HB.out | apply ah | apply ag | apply aj | refine aA ?_ GE374.out) | exact HB.out))):w.heap.size≤gb385));have n7_:=ae.mk ((by rw [hg];exact Nat.ne_of_lt (jy (g:=gb374) (o:=.cells #[.int .i64 0,.string (⟨#[]⟩:ByteArray),.slice none 0 0,.slice none 0 0] 25 (0,0)) (by (with_reducible repeat (first | refine aW ?_ _ | refine bn ?_ | refine aJ ?_ _));exact BK374.out)):gb374≠gb385));have n8_:=ae.mk ((by rw [hg];exact Nat.ne_of_gt (jy (g:=gb374) (o:=.cells #[.int .i64 0,.string (⟨#[]⟩:ByteArray),.slice none 0 0,.slice none 0 0] 25 (0,0)) (by (with_reducible repeat (first | refine aW ?_ _ | refine bn ?_ | refine aJ ?_ _));exact BK374.out)):gb385≠gb374));clear HO380;clear HO383;clear BK374;clear HB;have HO380:=n0_;have HO383:=n1_;have BK374:=n2_;have HB:=n3_;have BK385:=n4_;have GW385:=n5_;have GE385:=n6_;have NB374_385:=n7_;have NB385_374:=n8_;clear n0_ n1_ n2_ n3_ n4_ n5_ n6_ n7_ n8_;clear hb hbox hg;have hnb8:=NB385_374.out;have hnc8:=NB374_385.out;have hcz9_0:w7.cell? ⟨gb385,0,none⟩=some (.int .i64 0):=(ak BK385.out 0).trans rfl;have hcz9_1:w7.cell? ⟨gb385,1,none⟩=some (.int .i64 0):=(ak BK385.out 1).trans rfl;have hcz9_2:w7.cell? ⟨gb385,2,none⟩=some (.int .i64 0):=(ak BK385.out 2).trans rfl;have hcz9_3:w7.cell? ⟨gb385,3,none⟩=some (.slice none 0 0):=(ak BK385.out 3).trans rfl;have hcz9_4:w7.cell? ⟨gb385,4,none⟩=some (.slice none 0 0):=(ak BK385.out 4).trans rfl;have hfz9_0:=ax BK385.out 0;have hfz9_1:=ax BK385.out 1;have hfz9_2:=ax BK385.out 2;have hfz9_3:=ax BK385.out 3;have hfz9_4:=ax BK385.out 4;obtain ⟨Ao10,co10,eo10⟩:=Kd.dX HO380.out;subst eo10;obtain ⟨Ao11,co11,eo11⟩:=Kd.dX HO383.out;subst eo11) | ((with_reducible refine bD (f:=52) rfl ?_);refine dS (some 16) rfl rfl Tryz.func52 (by kernel_rfl) rfl #[.string a0,.agg #[.int .i64 t375,.int .i64 t376,.int .i64 t377,.slice Ao10 t378.length co10,.slice Ao11 t381.length co11]] rfl (by (try simp only [List.map_toArray,List.map_cons,List.map_nil]);first | done | rfl | (simp only [List.length_drop,List.length_take];rfl)) ?_;(with_reducible refine (bI.calls k a0 t375 t376 t377 _ _ t378 _ _ t381 t386 t387 t388 t391 _ ?side1 ?side2 ?side3 ?side4 A4.out).mono ?_);(case side1=>refine (Kd.jY (e:=44) (base:=w.heap.size) (ok:=fun k_=>True) (n:=t378.length) (c:=co10) ?_).2.2;exact (by (with_reducible repeat (first | apply Kd.cO | apply Kd.dh | apply Kd.R_drew));exact (Kd.dJ (Kd.fV (p:=⟨gb385,4,none⟩) (Kd.fV (p:=⟨gb385,3,none⟩) (Kd.fV (p:=⟨gb385,2,none⟩) (Kd.fV (p:=⟨gb385,1,none⟩) (Kd.fV (p:=⟨gb385,0,none⟩) (Kd.nX HO380.out BK385.out (by decide)) (fun _ hk=>hk.2) (.int .i64 t375)) (fun _ hk=>hk.2) (.int .i64 t376)) (fun _ hk=>hk.2) (.int .i64 t377)) (fun _ hk=>hk.2) (.slice Ao10 t378.length co10)) (fun _ hk=>hk.2) (.slice Ao11 t381.length co11)) (fun _ h_=>h_.1))));(case side2=>exact (Kd.jY HO380.out).2.1);(case side3=>refine (Kd.jY (e:=32) (base:=w.heap.size) (ok:=fun k_=>(some k_≠(.slice Ao10 t378.length co10:Value).ownBlock∧k_≠gb385)) (n:=t381.length) (c:=co11) ?_).2.2;exact (by (with_reducible repeat (first | apply Kd.cO | apply Kd.dh | apply Kd.R_drew));exact (Kd.dJ (Kd.fV (p:=⟨gb385,4,none⟩) (Kd.fV (p:=⟨gb385,3,none⟩) (Kd.fV (p:=⟨gb385,2,none⟩) (Kd.fV (p:=⟨gb385,1,none⟩) (Kd.fV (p:=⟨gb385,0,none⟩) (Kd.dJ HO383.out (fun k_ hk=>(⟨hk,hk.2⟩:_∧k_≠gb385))) (fun _ hk=>hk.2) (.int .i64 t375)) (fun _ hk=>hk.2) (.int .i64 t376)) (fun _ hk=>hk.2) (.int .i64 t377)) (fun _ hk=>hk.2) (.slice Ao10 t378.length co10)) (fun _ hk=>hk.2) (.slice Ao11 t381.length co11)) (fun _ h_=>h_.1))));(case side4=>exact (Kd.jY HO383.out).2.1);rintro e w12 ⟨v389,v392,rfl,ho0,ho1,hb⟩;refine ⟨_,rfl,?_⟩;have n0_:=ae.mk (Kd.jv (by (with_reducible repeat (first | apply Kd.cO | apply Kd.dh | apply Kd.R_drew));exact (Kd.dJ (Kd.fV (p:=⟨gb385,4,none⟩) (Kd.fV (p:=⟨gb385,3,none⟩) (Kd.fV (p:=⟨gb385,2,none⟩) (Kd.fV (p:=⟨gb385,1,none⟩) (Kd.fV (p:=⟨gb385,0,none⟩) (Kd.nX HO380.out BK385.out (by decide)) (fun _ hk=>hk.2) (.int .i64 t375)) (fun _ hk=>hk.2) (.int .i64 t376)) (fun _ hk=>hk.2) (.int .i64 t377)) (fun _ hk=>hk.2) (.slice Ao10 t378.length co10)) (fun _ hk=>hk.2) (.slice Ao11 t381.length co11)) (fun _ h_=>h_.1))) hb);have n1_:=ae.mk (Kd.jv (by (with_reducible repeat (first | apply Kd.cO | apply Kd.dh | apply Kd.R_drew));exact (Kd.dJ (Kd.fV (p:=⟨gb385,4,none⟩) (Kd.fV (p:=⟨gb385,3,none⟩) (Kd.fV (p:=⟨gb385,2,none⟩) (Kd.fV (p:=⟨gb385,1,none⟩) (Kd.fV (p:=⟨gb385,0,none⟩) (Kd.dJ HO383.out (fun k_ hk=>(⟨hk,hk.2⟩:_∧k_≠gb385))) (fun _ hk=>hk.2) (.int .i64 t375)) (fun _ hk=>hk.2) (.int .i64 t376)) (fun _ hk=>hk.2) (.int .i64 t377)) (fun _ hk=>hk.2) (.slice Ao10 t378.length co10)) (fun _ hk=>hk.2) (.slice Ao11 t381.length co11)) (fun _ h_=>h_.1))) hb);have n2_:=ae.mk (Kd.eP ho0 (bQ (by repeat (first | (with_reducible first | exact HB.out | apply ah | apply ag | apply aj | refine aA ?_ GE374.out | refine aA ?_ GE385.out) | exact HB.out))));have n3_:=ae.mk (Kd.eP (Kd.zg ho1 (g:=gb374) (o:=.cells #[.int .i64 0,.string (⟨#[]⟩:ByteArray),.slice none 0 0,.slice none 0 0] 25 (0,0)) (by (with_reducible repeat (first | refine aW ?_ _ | refine bn ?_ | refine aJ ?_ _));refine dW ?_ NB374_385.out _;(with_reducible repeat (first | refine aW ?_ _ | refine bn ?_ | refine aJ ?_ _));refine dW ?_ NB374_385.out _;(with_reducible repeat (first | refine aW ?_ _ | refine bn ?_ | refine aJ ?_ _));refine dW ?_ NB374_385.out _;(with_reducible repeat (first | refine aW ?_ _ | refine bn ?_ | refine aJ ?_ _));refine dW ?_ NB374_385.out _;(with_reducible repeat (first | refine aW ?_ _ | refine bn ?_ | refine aJ ?_ _));refine dW ?_ NB374_385.out _;(with_reducible repeat (first | refine aW ?_ _ | refine bn ?_ | refine aJ ?_ _));exact BK374.out)) (bQ (by repeat (first | (with_reducible first | exact HB.out | apply ah | apply ag | apply aj | refine aA ?_ GE374.out | refine aA ?_ GE385.out) | exact HB.out))));have n4_:=ae.mk (df (g:=gb374) (o:=.cells #[.int .i64 0,.string (⟨#[]⟩:ByteArray),.slice none 0 0,.slice none 0 0] 25 (0,0)) (by (with_reducible repeat (first | refine aW ?_ _ | refine bn ?_ | refine aJ ?_ _));refine dW ?_ NB374_385.out _;(with_reducible repeat (first | refine aW ?_ _ | refine bn ?_ | refine aJ ?_ _));refine dW ?_ NB374_385.out _;(with_reducible repeat (first | refine aW ?_ _ | refine bn ?_ | refine aJ ?_ _));refine dW ?_ NB374_385.out _;(with_reducible repeat (first | refine aW ?_ _ | refine bn ?_ | refine aJ ?_ _));refine dW ?_ NB374_385.out _;(with_reducible repeat (first | refine aW ?_ _ | refine bn ?_ | refine aJ ?_ _));refine dW ?_ NB374_385.out _;(with_reducible repeat (first | refine aW ?_ _ | refine bn ?_ | refine aJ ?_ _));exact BK374.out) hb);have n5_:=ae.mk (df (g:=gb385) (o:=.cells #[.int .i64 t375,.int .i64 t376,.int .i64 t377,.slice Ao10 t378.length co10,.slice Ao11 t381.length co11] 32 (0,0)) (by (with_reducible repeat (first | refine aW ?_ _ | refine bn ?_ | refine aJ ?_ _));refine bU (cs:=#[.int .i64 t375,.int .i64 t376,.int .i64 t377,.slice Ao10 t378.length co10,.slice none 0 0]) ?_ 4 _ rfl;(with_reducible repeat (first | refine aW ?_ _ | refine bn ?_ | refine aJ ?_ _));refine bU (cs:=#[.int .i64 t375,.int .i64 t376,.int .i64 t377,.slice none 0 0,.slice none 0 0]) ?_ 3 _ rfl;(with_reducible repeat (first | refine aW ?_ _ | refine bn ?_ | refine aJ ?_ _));refine bU (cs:=#[.int .i64 t375,.int .i64 t376,.int .i64 0,.slice none 0 0,.slice none 0 0]) ?_ 2 _ rfl;(with_reducible repeat (first | refine aW ?_ _ | refine bn ?_ | refine aJ ?_ _));refine bU (cs:=#[.int .i64 t375,.int .i64 0,.int .i64 0,.slice none 0 0,.slice none 0 0]) ?_ 1 _ rfl;(with_reducible repeat (first | refine aW ?_ _ | refine bn ?_ | refine aJ ?_ _));refine bU (cs:=#[.int .i64 0,.int .i64 0,.int .i64 0,.slice none 0 0,.slice none 0 0]) ?_ 0 _ rfl;(with_reducible repeat (first | refine aW ?_ _ | refine bn ?_ | refine aJ ?_ _));exact BK385.out) hb);have n6_:=ae.mk (bz (by repeat (first | (with_reducible first | exact HB.out | apply ah | apply ag | apply aj | refine aA ?_ GE374.out | refine aA ?_ GE385.out) | exact HB.out)) hb);clear HO380;clear HO383;clear BK374;clear BK385;clear HB;have HO380:=n0_;have HO383:=n1_;have HO390:=n2_;have HO393:=n3_;have BK374:=n4_;have BK385:=n5_;have HB:=n6_;clear n0_ n1_ n2_ n3_ n4_ n5_ n6_;(try clear hb);(try clear hb2);(try clear hk);(try clear hi);(try clear ho0);(try clear ho1);have hcz13_0:w12.cell? ⟨gb374,0,none⟩=some (.int .i64 0):=(ak BK374.out 0).trans rfl;have hcz13_1:w12.cell? ⟨gb374,1,none⟩=some (.string (⟨#[]⟩:ByteArray)):=(ak BK374.out 1).trans rfl;have hcz13_2:w12.cell? ⟨gb374,2,none⟩=some (.slice none 0 0):=(ak BK374.out 2).trans rfl;have hcz13_3:w12.cell? ⟨gb374,3,none⟩=some (.slice none 0 0):=(ak BK374.out 3).trans rfl;have hfz13_0:=ax BK374.out 0;have hfz13_1:=ax BK374.out 1;have hfz13_2:=ax BK374.out 2;have hfz13_3:=ax BK374.out 3;obtain ⟨Ao14,co14,eo14⟩:=Kd.dX HO390.out;subst eo14;obtain ⟨Ao15,co15,eo15⟩:=Kd.dX HO393.out;subst eo15))
  refine bodyPost_ret (jd rfl _ _ gb374 25 #[.int .i64 t386,.string t387,.slice Ao14 t388.length co14,.slice Ao15 t391.length co15] (0,0) _ rfl (by (with_reducible repeat (first | refine aW ?_ _ | refine bn ?_ | refine aJ ?_ _));refine bU (cs:=#[.int .i64 t386,.string t387,.slice Ao14 t388.length co14,.slice none 0 0]) ?_ 3 _ rfl;(with_reducible repeat (first | refine aW ?_ _ | refine bn ?_ | refine aJ ?_ _));refine bU (cs:=#[.int .i64 t386,.string t387,.slice none 0 0,.slice none 0 0]) ?_ 2 _ rfl;(with_reducible repeat (first | refine aW ?_ _ | refine bn ?_ | refine aJ ?_ _));refine bU (cs:=#[.int .i64 t386,.string (⟨#[]⟩:ByteArray),.slice none 0 0,.slice none 0 0]) ?_ 1 _ rfl;(with_reducible repeat (first | refine aW ?_ _ | refine bn ?_ | refine aJ ?_ _));refine bU (cs:=#[.int .i64 0,.string (⟨#[]⟩:ByteArray),.slice none 0 0,.slice none 0 0]) ?_ 0 _ rfl;(with_reducible repeat (first | refine aW ?_ _ | refine bn ?_ | refine aJ ?_ _));exact BK374.out) Tryz.underlying25 rfl (by kernel_rfl)) rfl ?_
  exact ⟨_,_,by first | rfl | (simp [aZ,bf] <;> rfl) | (simp [*,aZ,bf] <;> rfl),by (with_reducible repeat (first | apply Kd.cO | apply Kd.dh | apply Kd.R_drew));exact Kd.dJ (Kd.fV (p:=⟨gb374,3,none⟩) (Kd.fV (p:=⟨gb374,2,none⟩) (Kd.fV (p:=⟨gb374,1,none⟩) (Kd.fV (p:=⟨gb374,0,none⟩) (Kd.nX HO390.out BK374.out (by decide)) (fun _ hk=>hk.2) (.int .i64 t386)) (fun _ hk=>hk.2) (.string t387)) (fun _ hk=>hk.2) (.slice Ao14 t388.length co14)) (fun _ hk=>hk.2) (.slice Ao15 t391.length co15)) (fun _ hk=>trivial),by (with_reducible repeat (first | apply Kd.cO | apply Kd.dh | apply Kd.R_drew));exact Kd.dJ (Kd.fV (p:=⟨gb374,3,none⟩) (Kd.fV (p:=⟨gb374,2,none⟩) (Kd.fV (p:=⟨gb374,1,none⟩) (Kd.fV (p:=⟨gb374,0,none⟩) (Kd.dJ HO393.out (fun k_ hk=>(⟨hk,hk.2⟩:_∧k_≠gb374))) (fun _ hk=>hk.2) (.int .i64 t386)) (fun _ hk=>hk.2) (.string t387)) (fun _ hk=>hk.2) (.slice Ao14 t388.length co14)) (fun _ hk=>hk.2) (.slice Ao15 t391.length co15)) (fun _ hk=>hk.1.1),by repeat (first | (with_reducible first | exact HB.out | apply ah | apply ag | apply aj | refine aA ?_ GE374.out | refine aA ?_ GE385.out) | exact HB.out)⟩
 ·replace c3:=Bool.eq_false_iff.mpr c3
  subst c3
  have H1:(some (0,(⟨#[]⟩:ByteArray),([]:List ByteArray),([]:List (S25)),false))=some (r1,r2,r3,r4,r5):=by rw [if_neg (show ¬ (false=true) by decide)] at H;exact H
  clear H
  have H:=H1
  clear H1
  simp only [Option.some.injEq,Prod.mk.injEq] at H
  obtain ⟨rfl,rfl,rfl,rfl,rfl⟩:=H
  go_enter Tryz.func28,Tryz.ntmps28
  go_wp2_with (first | ((with_reducible refine gm (N:=2) rfl ?_);refine gI ?hg (N:=2) ?hd (cs:=#[.int .i64 0,.string (⟨#[]⟩:ByteArray),.slice none 0 0,.slice none 0 0]) (t:=25) ?hr ?_;(case hd=>rfl);(case hg=>rfl);(case hr=>first | (go_simp;done) | (go_simp;rfl));intro gb374 hg w16 hbox hb;have n0_:=ae.mk (bz (by repeat (first | (with_reducible first | exact HB.out | apply ah | apply ag | apply aj) | exact HB.out)) hb);have n1_:=ae.mk (hbox);have n2_:=ae.mk ((by rw [hg];exact (bQ (by repeat (first | (with_reducible first | exact HB.out | apply ah | apply ag | apply aj) | exact HB.out))):w.heap.size≤gb374));have n3_:=ae.mk ((by rw [hg];exact (bQ (by repeat (first | (with_reducible first | exact HB.out | apply ah | apply ag | apply aj) | exact HB.out))):w.heap.size≤gb374));clear HB;have HB:=n0_;have BK374:=n1_;have GW374:=n2_;have GE374:=n3_;clear n0_ n1_ n2_ n3_;clear hb hbox hg) | ((with_reducible refine bD (f:=10) rfl ?_);refine dS (some 8) rfl rfl Tryz.func10 (by kernel_rfl) rfl #[.string a0] rfl (by (try simp only [List.map_toArray,List.map_cons,List.map_nil]);first | done | rfl | (simp only [List.length_drop,List.length_take];rfl)) ?_;(with_reducible refine (fZ.calls k a0 t375 t376 t377 t378 t381 false _ A2.out).mono ?_);rintro e w17 ⟨v379,v382,rfl,ho0,ho1,hb⟩;refine ⟨_,rfl,?_⟩;have n0_:=ae.mk (Kd.eP ho0 (bQ (by repeat (first | (with_reducible first | exact HB.out | apply ah | apply ag | apply aj | refine aA ?_ GE374.out) | exact HB.out))));have n1_:=ae.mk (Kd.eP ho1 (bQ (by repeat (first | (with_reducible first | exact HB.out | apply ah | apply ag | apply aj | refine aA ?_ GE374.out) | exact HB.out))));have n2_:=ae.mk (df (g:=gb374) (o:=.cells #[.int .i64 0,.string (⟨#[]⟩:ByteArray),.slice none 0 0,.slice none 0 0] 25 (0,0)) (by (with_reducible repeat (first | refine aW ?_ _ | refine bn ?_ | refine aJ ?_ _));exact BK374.out) hb);have n3_:=ae.mk (bz (by repeat (first | (with_reducible first | exact HB.out | apply ah | apply ag | apply aj | refine aA ?_ GE374.out) | exact HB.out)) hb);clear BK374;clear HB;have HO380:=n0_;have HO383:=n1_;have BK374:=n2_;have HB:=n3_;clear n0_ n1_ n2_ n3_;(try clear hb);(try clear hb2);(try clear hk);(try clear hi);(try clear ho0);(try clear ho1)) | ((with_reducible refine gm (N:=4) rfl ?_);refine gI ?hg (N:=4) ?hd (cs:=#[.int .i64 0,.int .i64 0,.int .i64 0,.slice none 0 0,.slice none 0 0]) (t:=32) ?hr ?_;(case hd=>rfl);(case hg=>rfl);(case hr=>first | (go_simp;done) | (go_simp;rfl));intro gb385 hg w18 hbox hb;have n0_:=ae.mk (Kd.jv (by (with_reducible repeat (first | apply Kd.cO | apply Kd.dh | apply Kd.R_drew));exact HO380.out) hb);have n1_:=ae.mk (Kd.jv (Kd.uF (by (with_reducible repeat (first | apply Kd.cO | apply Kd.dh | apply Kd.R_drew));exact HO383.out) gb385 (Nat.le_of_eq hg.symm)) hb);have n2_:=ae.mk (df (g:=gb374) (o:=.cells #[.int .i64 0,.string (⟨#[]⟩:ByteArray),.slice none 0 0,.slice none 0 0] 25 (0,0)) (by (with_reducible repeat (first | refine aW ?_ _ | refine bn ?_ | refine aJ ?_ _));exact BK374.out) hb);have n3_:=ae.mk (bz (by repeat (first | (with_reducible first | exact HB.out | apply ah | apply ag | apply aj | refine aA ?_ GE374.out) | exact HB.out)) hb);have n4_:=ae.mk (hbox);have n5_:=ae.mk ((by rw [hg];exact (bQ (by repeat (first | (with_reducible first | exact HB.out | apply ah | apply ag | apply aj | refine aA ?_ GE374.out) | exact HB.out))):w.heap.size≤gb385));have n6_:=ae.mk ((by rw [hg];exact (bQ (by repeat (first | (with_reducible first | exact HB.out | apply ah | apply ag | apply aj | refine aA ?_ GE374.out) | exact HB.out))):w.heap.size≤gb385));have n7_:=ae.mk ((by rw [hg];exact Nat.ne_of_lt (jy (g:=gb374) (o:=.cells #[.int .i64 0,.string (⟨#[]⟩:ByteArray),.slice none 0 0,.slice none 0 0] 25 (0,0)) (by (with_reducible repeat (first | refine aW ?_ _ | refine bn ?_ | refine aJ ?_ _));exact BK374.out)):gb374≠gb385));have n8_:=ae.mk ((by rw [hg];exact Nat.ne_of_gt (jy (g:=gb374) (o:=.cells #[.int .i64 0,.string (⟨#[]⟩:ByteArray),.slice none 0 0,.slice none 0 0] 25 (0,0)) (by (with_reducible repeat (first | refine aW ?_ _ | refine bn ?_ | refine aJ ?_ _));exact BK374.out)):gb385≠gb374));clear HO380;clear HO383;clear BK374;clear HB;have HO380:=n0_;have HO383:=n1_;have BK374:=n2_;have HB:=n3_;have BK385:=n4_;have GW385:=n5_;have GE385:=n6_;have NB374_385:=n7_;have NB385_374:=n8_;clear n0_ n1_ n2_ n3_ n4_ n5_ n6_ n7_ n8_;clear hb hbox hg;have hnb19:=NB385_374.out;have hnc19:=NB374_385.out;have hcz20_0:w18.cell? ⟨gb385,0,none⟩=some (.int .i64 0):=(ak BK385.out 0).trans rfl;have hcz20_1:w18.cell? ⟨gb385,1,none⟩=some (.int .i64 0):=(ak BK385.out 1).trans rfl;have hcz20_2:w18.cell? ⟨gb385,2,none⟩=some (.int .i64 0):=(ak BK385.out 2).trans rfl;have hcz20_3:w18.cell? ⟨gb385,3,none⟩=some (.slice none 0 0):=(ak BK385.out 3).trans rfl;have hcz20_4:w18.cell? ⟨gb385,4,none⟩=some (.slice none 0 0):=(ak BK385.out 4).trans rfl;have hfz20_0:=ax BK385.out 0;have hfz20_1:=ax BK385.out 1;have hfz20_2:=ax BK385.out 2;have hfz20_3:=ax BK385.out 3;have hfz20_4:=ax BK385.out 4;obtain ⟨Ao21,co21,eo21⟩:=Kd.dX HO380.out;subst eo21;obtain ⟨Ao22,co22,eo22⟩:=Kd.dX HO383.out;subst eo22;have hcz23_0:w18.cell? ⟨gb374,0,none⟩=some (.int .i64 0):=(ak BK374.out 0).trans rfl;have hcz23_1:w18.cell? ⟨gb374,1,none⟩=some (.string (⟨#[]⟩:ByteArray)):=(ak BK374.out 1).trans rfl;have hcz23_2:w18.cell? ⟨gb374,2,none⟩=some (.slice none 0 0):=(ak BK374.out 2).trans rfl;have hcz23_3:w18.cell? ⟨gb374,3,none⟩=some (.slice none 0 0):=(ak BK374.out 3).trans rfl;have hfz23_0:=ax BK374.out 0;have hfz23_1:=ax BK374.out 1;have hfz23_2:=ax BK374.out 2;have hfz23_3:=ax BK374.out 3))
  refine bodyPost_ret (jd rfl _ _ gb374 25 #[.int .i64 0,.string (⟨#[]⟩:ByteArray),.slice none 0 0,.slice none 0 0] (0,0) _ rfl (by (with_reducible repeat (first | refine aW ?_ _ | refine bn ?_ | refine aJ ?_ _));refine bU (cs:=#[.int .i64 0,.string (⟨#[]⟩:ByteArray),.slice none 0 0,.slice none 0 0]) ?_ 3 _ rfl;(with_reducible repeat (first | refine aW ?_ _ | refine bn ?_ | refine aJ ?_ _));refine bU (cs:=#[.int .i64 0,.string (⟨#[]⟩:ByteArray),.slice none 0 0,.slice none 0 0]) ?_ 2 _ rfl;(with_reducible repeat (first | refine aW ?_ _ | refine bn ?_ | refine aJ ?_ _));refine bU (cs:=#[.int .i64 0,.string (⟨#[]⟩:ByteArray),.slice none 0 0,.slice none 0 0]) ?_ 1 _ rfl;(with_reducible repeat (first | refine aW ?_ _ | refine bn ?_ | refine aJ ?_ _));refine bU (cs:=#[.int .i64 0,.string (⟨#[]⟩:ByteArray),.slice none 0 0,.slice none 0 0]) ?_ 0 _ rfl;(with_reducible repeat (first | refine aW ?_ _ | refine bn ?_ | refine aJ ?_ _));refine dW ?_ NB374_385.out _;(with_reducible repeat (first | refine aW ?_ _ | refine bn ?_ | refine aJ ?_ _));refine dW ?_ NB374_385.out _;(with_reducible repeat (first | refine aW ?_ _ | refine bn ?_ | refine aJ ?_ _));refine dW ?_ NB374_385.out _;(with_reducible repeat (first | refine aW ?_ _ | refine bn ?_ | refine aJ ?_ _));refine dW ?_ NB374_385.out _;(with_reducible repeat (first | refine aW ?_ _ | refine bn ?_ | refine aJ ?_ _));refine dW ?_ NB374_385.out _;(with_reducible repeat (first | refine aW ?_ _ | refine bn ?_ | refine aJ ?_ _));exact BK374.out) Tryz.underlying25 rfl (by kernel_rfl)) rfl ?_
  exact ⟨_,_,by first | rfl | (simp [aZ,bf] <;> rfl) | (simp [*,aZ,bf] <;> rfl),by first | exact Kd.iZ _ _ _ _ _ | exact Kd.N_nil _ _ _ _ _ | exact Kd.V_nil _ _ _ _ _ | exact Kd.Q_nil _ _ _ _ _ | exact Kd.S_nil _ _ _ _ _,by first | exact Kd.iZ _ _ _ _ _ | exact Kd.N_nil _ _ _ _ _ | exact Kd.V_nil _ _ _ _ _ | exact Kd.Q_nil _ _ _ _ _ | exact Kd.S_nil _ _ _ _ _,by repeat (first | (with_reducible first | exact HB.out | apply ah | apply ag | apply aj | refine aA ?_ GE374.out | refine aA ?_ GE385.out) | exact HB.out)⟩
attribute [local go_sem] dm di dL dK cu bZ dD dC
def fD.f (k:Nat) (a0:ByteArray):Option (Int × ByteArray × List ByteArray × (List (S25)) × Bool):=if (a0.size:Int) > 65536 then (some (0,(⟨#[]⟩:ByteArray),([]:List ByteArray),([]:List (S25)),false)) else ((ed.f k a0).bind fun t395=>(if t395=true then ((bu.f k a0).bind fun t396=>(if t396=true then ((fU.f k a0).bind fun bt397=>(some (bt397.1,bt397.2.1,bt397.2.2.1,bt397.2.2.2.1,bt397.2.2.2.2))) else (some (0,(⟨#[]⟩:ByteArray),([]:List ByteArray),([]:List (S25)),false)))) else (some (0,(⟨#[]⟩:ByteArray),([]:List ByteArray),([]:List (S25)),false))))
theorem fD.calls (k:Nat) (a0:ByteArray) (r1:Int) (r2:ByteArray) (r3:List ByteArray) (r4:List (S25)) (r5:Bool) (w:World) (h:fD.f k a0=some (r1,r2,r3,r4,r5)) :
 Calls Tryz.prog 8 #[.string a0] w fun e w'=>∃ v2_ v3_:Value,e = .returned (.tuple #[.agg #[.int .i64 r1,.string r2,v2_,v3_],.bool r5])∧Kd.R Kd.string 9 w' w.heap.size (fun _=>True) v2_ r3∧Kd.R k25 25 w' w.heap.size (fun k_=>some k_≠(v2_:Value).ownBlock) v3_ r4∧Below w.heap.size w w':=by
 have hu25:=Tryz.underlying25
 have HB:=ae.mk (Below.refl w.heap.size w)
 have H:(if (a0.size:Int) > 65536 then (some (0,(⟨#[]⟩:ByteArray),([]:List ByteArray),([]:List (S25)),false)) else ((ed.f k a0).bind fun t395=>(if t395=true then ((bu.f k a0).bind fun t396=>(if t396=true then ((fU.f k a0).bind fun bt397=>(some (bt397.1,bt397.2.1,bt397.2.2.1,bt397.2.2.2.1,bt397.2.2.2.2))) else (some (0,(⟨#[]⟩:ByteArray),([]:List ByteArray),([]:List (S25)),false)))) else (some (0,(⟨#[]⟩:ByteArray),([]:List ByteArray),([]:List (S25)),false)))))=some (r1,r2,r3,r4,r5):=h
 clear h
 by_cases c2:(a0.size:Int) > 65536
 ·rw [if_pos c2] at H
  have c2b0:decide (65536 < (a0.size:Int))=true:=decide_eq_true c2
  have c2b1:decide (65536 < a0.size)=true:=decide_eq_true (by omega)
  clear c2
  simp only [Option.some.injEq,Prod.mk.injEq] at H
  obtain ⟨rfl,rfl,rfl,rfl,rfl⟩:=H
  go_enter Tryz.func8,Tryz.ntmps8
  go_wp2_with (first | ((with_reducible refine gm (N:=2) rfl ?_);refine gI ?hg (N:=2) ?hd (cs:=#[.int .i64 0,.string (⟨#[]⟩:ByteArray),.slice none 0 0,.slice none 0 0]) (t:=25) ?hr ?_;(case hd=>rfl);(case hg=>rfl);(case hr=>first | (go_simp;done) | (go_simp;rfl));intro gb394 hg w3 hbox hb;have n0_:=ae.mk (bz (by repeat (first | (with_reducible first | exact HB.out | apply ah | apply ag | apply aj) | exact HB.out)) hb);have n1_:=ae.mk (hbox);have n2_:=ae.mk ((by rw [hg];exact (bQ (by repeat (first | (with_reducible first | exact HB.out | apply ah | apply ag | apply aj) | exact HB.out))):w.heap.size≤gb394));have n3_:=ae.mk ((by rw [hg];exact (bQ (by repeat (first | (with_reducible first | exact HB.out | apply ah | apply ag | apply aj) | exact HB.out))):w.heap.size≤gb394));clear HB;have HB:=n0_;have BK394:=n1_;have GW394:=n2_;have GE394:=n3_;clear n0_ n1_ n2_ n3_;clear hb hbox hg;have hcz4_0:w3.cell? ⟨gb394,0,none⟩=some (.int .i64 0):=(ak BK394.out 0).trans rfl;have hcz4_1:w3.cell? ⟨gb394,1,none⟩=some (.string (⟨#[]⟩:ByteArray)):=(ak BK394.out 1).trans rfl;have hcz4_2:w3.cell? ⟨gb394,2,none⟩=some (.slice none 0 0):=(ak BK394.out 2).trans rfl;have hcz4_3:w3.cell? ⟨gb394,3,none⟩=some (.slice none 0 0):=(ak BK394.out 3).trans rfl;have hfz4_0:=ax BK394.out 0;have hfz4_1:=ax BK394.out 1;have hfz4_2:=ax BK394.out 2;have hfz4_3:=ax BK394.out 3))
  refine bodyPost_ret (jd rfl _ _ gb394 25 #[.int .i64 0,.string (⟨#[]⟩:ByteArray),.slice none 0 0,.slice none 0 0] (0,0) _ rfl (by (with_reducible repeat (first | refine aW ?_ _ | refine bn ?_ | refine aJ ?_ _));refine bU (cs:=#[.int .i64 0,.string (⟨#[]⟩:ByteArray),.slice none 0 0,.slice none 0 0]) ?_ 3 _ rfl;(with_reducible repeat (first | refine aW ?_ _ | refine bn ?_ | refine aJ ?_ _));refine bU (cs:=#[.int .i64 0,.string (⟨#[]⟩:ByteArray),.slice none 0 0,.slice none 0 0]) ?_ 2 _ rfl;(with_reducible repeat (first | refine aW ?_ _ | refine bn ?_ | refine aJ ?_ _));refine bU (cs:=#[.int .i64 0,.string (⟨#[]⟩:ByteArray),.slice none 0 0,.slice none 0 0]) ?_ 1 _ rfl;(with_reducible repeat (first | refine aW ?_ _ | refine bn ?_ | refine aJ ?_ _));refine bU (cs:=#[.int .i64 0,.string (⟨#[]⟩:ByteArray),.slice none 0 0,.slice none 0 0]) ?_ 0 _ rfl;(with_reducible repeat (first | refine aW ?_ _ | refine bn ?_ | refine aJ ?_ _));exact BK394.out) Tryz.underlying25 rfl (by kernel_rfl)) rfl ?_
  exact ⟨_,_,by first | rfl | (simp [aZ,bf] <;> rfl) | (simp [*,aZ,bf] <;> rfl),by first | exact Kd.iZ _ _ _ _ _ | exact Kd.N_nil _ _ _ _ _ | exact Kd.V_nil _ _ _ _ _ | exact Kd.Q_nil _ _ _ _ _ | exact Kd.S_nil _ _ _ _ _,by first | exact Kd.iZ _ _ _ _ _ | exact Kd.N_nil _ _ _ _ _ | exact Kd.V_nil _ _ _ _ _ | exact Kd.Q_nil _ _ _ _ _ | exact Kd.S_nil _ _ _ _ _,by repeat (first | (with_reducible first | exact HB.out | apply ah | apply ag | apply aj | refine aA ?_ GE394.out) | exact HB.out)⟩
 ·rw [if_neg c2] at H
  have c2b0:decide (65536 < (a0.size:Int))=false:=decide_eq_false c2
  have c2b1:decide (65536 < a0.size)=false:=decide_eq_false (by omega)
  clear c2
  replace H:=Option.bind_eq_some_iff.mp H
  obtain ⟨t395,A50,H⟩:=H
  replace H:(if t395=true then ((bu.f k a0).bind fun t396=>(if t396=true then ((fU.f k a0).bind fun bt397=>(some (bt397.1,bt397.2.1,bt397.2.2.1,bt397.2.2.2.1,bt397.2.2.2.2))) else (some (0,(⟨#[]⟩:ByteArray),([]:List ByteArray),([]:List (S25)),false)))) else (some (0,(⟨#[]⟩:ByteArray),([]:List ByteArray),([]:List (S25)),false)))=some (r1,r2,r3,r4,r5):=H
  have A5:=ae.mk A50
  clear A50
  by_cases c6:t395=true
  ·subst c6
   have H1:((bu.f k a0).bind fun t396=>(if t396=true then ((fU.f k a0).bind fun bt397=>(some (bt397.1,bt397.2.1,bt397.2.2.1,bt397.2.2.2.1,bt397.2.2.2.2))) else (some (0,(⟨#[]⟩:ByteArray),([]:List ByteArray),([]:List (S25)),false))))=some (r1,r2,r3,r4,r5):=by rw [if_pos rfl] at H;exact H
   clear H
   have H:=H1
   clear H1
   replace H:=Option.bind_eq_some_iff.mp H
   obtain ⟨t396,A70,H⟩:=H
   replace H:(if t396=true then ((fU.f k a0).bind fun bt397=>(some (bt397.1,bt397.2.1,bt397.2.2.1,bt397.2.2.2.1,bt397.2.2.2.2))) else (some (0,(⟨#[]⟩:ByteArray),([]:List ByteArray),([]:List (S25)),false)))=some (r1,r2,r3,r4,r5):=H
   have A7:=ae.mk A70
   clear A70
   by_cases c8:t396=true
   ·subst c8
    have H1:((fU.f k a0).bind fun bt397=>(some (bt397.1,bt397.2.1,bt397.2.2.1,bt397.2.2.2.1,bt397.2.2.2.2)))=some (r1,r2,r3,r4,r5):=by rw [if_pos rfl] at H;exact H
    clear H
    have H:=H1
    clear H1
    replace H:=Option.bind_eq_some_iff.mp H
    obtain ⟨⟨t397,t398,t399,t402,t405⟩,A90,H⟩:=H
    replace H:(some (t397,t398,t399,t402,t405))=some (r1,r2,r3,r4,r5):=H
    have A9:=ae.mk A90
    clear A90
    simp only [Option.some.injEq,Prod.mk.injEq] at H
    obtain ⟨rfl,rfl,rfl,rfl,rfl⟩:=H
    go_enter Tryz.func8,Tryz.ntmps8
    go_wp2_with (first | ((with_reducible refine gm (N:=2) rfl ?_);refine gI ?hg (N:=2) ?hd (cs:=#[.int .i64 0,.string (⟨#[]⟩:ByteArray),.slice none 0 0,.slice none 0 0]) (t:=25) ?hr ?_;(case hd=>rfl);(case hg=>rfl);(case hr=>first | (go_simp;done) | (go_simp;rfl));intro gb394 hg w10 hbox hb;have n0_:=ae.mk (bz (by repeat (first | (with_reducible first | exact HB.out | apply ah | apply ag | apply aj) | exact HB.out)) hb);have n1_:=ae.mk (hbox);have n2_:=ae.mk ((by rw [hg];exact (bQ (by repeat (first | (with_reducible first | exact HB.out | apply ah | apply ag | apply aj) | exact HB.out))):w.heap.size≤gb394));have n3_:=ae.mk ((by rw [hg];exact (bQ (by repeat (first | (with_reducible first | exact HB.out | apply ah | apply ag | apply aj) | exact HB.out))):w.heap.size≤gb394));clear HB;have HB:=n0_;have BK394:=n1_;have GW394:=n2_;have GE394:=n3_;clear n0_ n1_ n2_ n3_;clear hb hbox hg) | (go_at_call 26;(with_reducible refine (ed.calls k a0 true _ A5.out).mono ?_);rintro e w' ⟨rfl,⟨nd,rfl⟩⟩;(try (rw [jR w10];generalize hq_:World.drewN w10 _=w10;have n0_:ae (w10.heap[gb394]?=some (.cells #[.int .i64 0,.string (⟨#[]⟩:ByteArray),.slice none 0 0,.slice none 0 0] 25 (0,0))):=⟨by rw [← hq_];exact (by (with_reducible repeat (first | refine aW ?_ _ | refine bn ?_ | refine aJ ?_ _));exact BK394.out)⟩;have n1_:ae (Below w.heap.size w w10):=⟨by rw [← hq_];exact (by repeat (first | (with_reducible first | exact HB.out | apply ah | apply ag | apply aj | refine aA ?_ GE394.out) | exact HB.out))⟩;clear BK394 HB hq_;have BK394:=n0_;have HB:=n1_;clear n0_ n1_))) | (go_at_call 27;(with_reducible refine (bu.calls k a0 true _ A7.out).mono ?_);rintro e w' ⟨rfl,⟨nd,rfl⟩⟩;(try (rw [jR w10];generalize hq_:World.drewN w10 _=w10;have n0_:ae (w10.heap[gb394]?=some (.cells #[.int .i64 0,.string (⟨#[]⟩:ByteArray),.slice none 0 0,.slice none 0 0] 25 (0,0))):=⟨by rw [← hq_];exact (by (with_reducible repeat (first | refine aW ?_ _ | refine bn ?_ | refine aJ ?_ _));exact BK394.out)⟩;have n1_:ae (Below w.heap.size w w10):=⟨by rw [← hq_];exact (by repeat (first | (with_reducible first | exact HB.out | apply ah | apply ag | apply aj | refine aA ?_ GE394.out) | exact HB.out))⟩;clear BK394 HB hq_;have BK394:=n0_;have HB:=n1_;clear n0_ n1_))) | ((with_reducible refine bD (f:=28) rfl ?_);refine dS (some 19) rfl rfl Tryz.func28 (by kernel_rfl) rfl #[.string a0] rfl (by (try simp only [List.map_toArray,List.map_cons,List.map_nil]);first | done | rfl | (simp only [List.length_drop,List.length_take];rfl)) ?_;(with_reducible refine (fU.calls k a0 t397 t398 t399 t402 t405 _ A9.out).mono ?_);rintro e w11 ⟨v400,v403,rfl,ho0,ho1,hb⟩;refine ⟨_,rfl,?_⟩;have n0_:=ae.mk (Kd.eP ho0 (bQ (by repeat (first | (with_reducible first | exact HB.out | apply ah | apply ag | apply aj | refine aA ?_ GE394.out) | exact HB.out))));have n1_:=ae.mk (Kd.eP (Kd.zg ho1 (g:=gb394) (o:=.cells #[.int .i64 0,.string (⟨#[]⟩:ByteArray),.slice none 0 0,.slice none 0 0] 25 (0,0)) (by (with_reducible repeat (first | refine aW ?_ _ | refine bn ?_ | refine aJ ?_ _));exact BK394.out)) (bQ (by repeat (first | (with_reducible first | exact HB.out | apply ah | apply ag | apply aj | refine aA ?_ GE394.out) | exact HB.out))));have n2_:=ae.mk (df (g:=gb394) (o:=.cells #[.int .i64 0,.string (⟨#[]⟩:ByteArray),.slice none 0 0,.slice none 0 0] 25 (0,0)) (by (with_reducible repeat (first | refine aW ?_ _ | refine bn ?_ | refine aJ ?_ _));exact BK394.out) hb);have n3_:=ae.mk (bz (by repeat (first | (with_reducible first | exact HB.out | apply ah | apply ag | apply aj | refine aA ?_ GE394.out) | exact HB.out)) hb);clear BK394;clear HB;have HO401:=n0_;have HO404:=n1_;have BK394:=n2_;have HB:=n3_;clear n0_ n1_ n2_ n3_;(try clear hb);(try clear hb2);(try clear hk);(try clear hi);(try clear ho0);(try clear ho1);have hcz12_0:w11.cell? ⟨gb394,0,none⟩=some (.int .i64 0):=(ak BK394.out 0).trans rfl;have hcz12_1:w11.cell? ⟨gb394,1,none⟩=some (.string (⟨#[]⟩:ByteArray)):=(ak BK394.out 1).trans rfl;have hcz12_2:w11.cell? ⟨gb394,2,none⟩=some (.slice none 0 0):=(ak BK394.out 2).trans rfl;have hcz12_3:w11.cell? ⟨gb394,3,none⟩=some (.slice none 0 0):=(ak BK394.out 3).trans rfl;have hfz12_0:=ax BK394.out 0;have hfz12_1:=ax BK394.out 1;have hfz12_2:=ax BK394.out 2;have hfz12_3:=ax BK394.out 3;obtain ⟨Ao13,co13,eo13⟩:=Kd.dX HO401.out;subst eo13;obtain ⟨Ao14,co14,eo14⟩:=Kd.dX HO404.out;subst eo14))
    refine bodyPost_ret (jd rfl _ _ gb394 25 #[.int .i64 t397,.string t398,.slice Ao13 t399.length co13,.slice Ao14 t402.length co14] (0,0) _ rfl (by (with_reducible repeat (first | refine aW ?_ _ | refine bn ?_ | refine aJ ?_ _));refine bU (cs:=#[.int .i64 t397,.string t398,.slice Ao13 t399.length co13,.slice none 0 0]) ?_ 3 _ rfl;(with_reducible repeat (first | refine aW ?_ _ | refine bn ?_ | refine aJ ?_ _));refine bU (cs:=#[.int .i64 t397,.string t398,.slice none 0 0,.slice none 0 0]) ?_ 2 _ rfl;(with_reducible repeat (first | refine aW ?_ _ | refine bn ?_ | refine aJ ?_ _));refine bU (cs:=#[.int .i64 t397,.string (⟨#[]⟩:ByteArray),.slice none 0 0,.slice none 0 0]) ?_ 1 _ rfl;(with_reducible repeat (first | refine aW ?_ _ | refine bn ?_ | refine aJ ?_ _));refine bU (cs:=#[.int .i64 0,.string (⟨#[]⟩:ByteArray),.slice none 0 0,.slice none 0 0]) ?_ 0 _ rfl;(with_reducible repeat (first | refine aW ?_ _ | refine bn ?_ | refine aJ ?_ _));exact BK394.out) Tryz.underlying25 rfl (by kernel_rfl)) rfl ?_
    exact ⟨_,_,by first | rfl | (simp [aZ,bf] <;> rfl) | (simp [*,aZ,bf] <;> rfl),by (with_reducible repeat (first | apply Kd.cO | apply Kd.dh | apply Kd.R_drew));exact Kd.dJ (Kd.fV (p:=⟨gb394,3,none⟩) (Kd.fV (p:=⟨gb394,2,none⟩) (Kd.fV (p:=⟨gb394,1,none⟩) (Kd.fV (p:=⟨gb394,0,none⟩) (Kd.nX HO401.out BK394.out (by decide)) (fun _ hk=>hk.2) (.int .i64 t397)) (fun _ hk=>hk.2) (.string t398)) (fun _ hk=>hk.2) (.slice Ao13 t399.length co13)) (fun _ hk=>hk.2) (.slice Ao14 t402.length co14)) (fun _ hk=>trivial),by (with_reducible repeat (first | apply Kd.cO | apply Kd.dh | apply Kd.R_drew));exact Kd.dJ (Kd.fV (p:=⟨gb394,3,none⟩) (Kd.fV (p:=⟨gb394,2,none⟩) (Kd.fV (p:=⟨gb394,1,none⟩) (Kd.fV (p:=⟨gb394,0,none⟩) (Kd.dJ HO404.out (fun k_ hk=>(⟨hk,hk.2⟩:_∧k_≠gb394))) (fun _ hk=>hk.2) (.int .i64 t397)) (fun _ hk=>hk.2) (.string t398)) (fun _ hk=>hk.2) (.slice Ao13 t399.length co13)) (fun _ hk=>hk.2) (.slice Ao14 t402.length co14)) (fun _ hk=>hk.1.1),by repeat (first | (with_reducible first | exact HB.out | apply ah | apply ag | apply aj | refine aA ?_ GE394.out) | exact HB.out)⟩
   ·replace c8:=Bool.eq_false_iff.mpr c8
    subst c8
    have H1:(some (0,(⟨#[]⟩:ByteArray),([]:List ByteArray),([]:List (S25)),false))=some (r1,r2,r3,r4,r5):=by rw [if_neg (show ¬ (false=true) by decide)] at H;exact H
    clear H
    have H:=H1
    clear H1
    simp only [Option.some.injEq,Prod.mk.injEq] at H
    obtain ⟨rfl,rfl,rfl,rfl,rfl⟩:=H
    go_enter Tryz.func8,Tryz.ntmps8
    go_wp2_with (first | ((with_reducible refine gm (N:=2) rfl ?_);refine gI ?hg (N:=2) ?hd (cs:=#[.int .i64 0,.string (⟨#[]⟩:ByteArray),.slice none 0 0,.slice none 0 0]) (t:=25) ?hr ?_;(case hd=>rfl);(case hg=>rfl);(case hr=>first | (go_simp;done) | (go_simp;rfl));intro gb394 hg w15 hbox hb;have n0_:=ae.mk (bz (by repeat (first | (with_reducible first | exact HB.out | apply ah | apply ag | apply aj) | exact HB.out)) hb);have n1_:=ae.mk (hbox);have n2_:=ae.mk ((by rw [hg];exact (bQ (by repeat (first | (with_reducible first | exact HB.out | apply ah | apply ag | apply aj) | exact HB.out))):w.heap.size≤gb394));have n3_:=ae.mk ((by rw [hg];exact (bQ (by repeat (first | (with_reducible first | exact HB.out | apply ah | apply ag | apply aj) | exact HB.out))):w.heap.size≤gb394));clear HB;have HB:=n0_;have BK394:=n1_;have GW394:=n2_;have GE394:=n3_;clear n0_ n1_ n2_ n3_;clear hb hbox hg) | (go_at_call 26;(with_reducible refine (ed.calls k a0 true _ A5.out).mono ?_);rintro e w' ⟨rfl,⟨nd,rfl⟩⟩;(try (rw [jR w15];generalize hq_:World.drewN w15 _=w15;have n0_:ae (w15.heap[gb394]?=some (.cells #[.int .i64 0,.string (⟨#[]⟩:ByteArray),.slice none 0 0,.slice none 0 0] 25 (0,0))):=⟨by rw [← hq_];exact (by (with_reducible repeat (first | refine aW ?_ _ | refine bn ?_ | refine aJ ?_ _));exact BK394.out)⟩;have n1_:ae (Below w.heap.size w w15):=⟨by rw [← hq_];exact (by repeat (first | (with_reducible first | exact HB.out | apply ah | apply ag | apply aj | refine aA ?_ GE394.out) | exact HB.out))⟩;clear BK394 HB hq_;have BK394:=n0_;have HB:=n1_;clear n0_ n1_))) | (go_at_call 27;(with_reducible refine (bu.calls k a0 false _ A7.out).mono ?_);rintro e w' ⟨rfl,⟨nd,rfl⟩⟩;(try (rw [jR w15];generalize hq_:World.drewN w15 _=w15;have n0_:ae (w15.heap[gb394]?=some (.cells #[.int .i64 0,.string (⟨#[]⟩:ByteArray),.slice none 0 0,.slice none 0 0] 25 (0,0))):=⟨by rw [← hq_];exact (by (with_reducible repeat (first | refine aW ?_ _ | refine bn ?_ | refine aJ ?_ _));exact BK394.out)⟩;have n1_:ae (Below w.heap.size w w15):=⟨by rw [← hq_];exact (by repeat (first | (with_reducible first | exact HB.out | apply ah | apply ag | apply aj | refine aA ?_ GE394.out) | exact HB.out))⟩;clear BK394 HB hq_;have BK394:=n0_;have HB:=n1_;clear n0_ n1_));have hcz16_0:w15.cell? ⟨gb394,0,none⟩=some (.int .i64 0):=(ak BK394.out 0).trans rfl;have hcz16_1:w15.cell? ⟨gb394,1,none⟩=some (.string (⟨#[]⟩:ByteArray)):=(ak BK394.out 1).trans rfl;have hcz16_2:w15.cell? ⟨gb394,2,none⟩=some (.slice none 0 0):=(ak BK394.out 2).trans rfl;have hcz16_3:w15.cell? ⟨gb394,3,none⟩=some (.slice none 0 0):=(ak BK394.out 3).trans rfl;have hfz16_0:=ax BK394.out 0;have hfz16_1:=ax BK394.out 1;have hfz16_2:=ax BK394.out 2;have hfz16_3:=ax BK394.out 3))
    refine bodyPost_ret (jd rfl _ _ gb394 25 #[.int .i64 0,.string (⟨#[]⟩:ByteArray),.slice none 0 0,.slice none 0 0] (0,0) _ rfl (by (with_reducible repeat (first | refine aW ?_ _ | refine bn ?_ | refine aJ ?_ _));refine bU (cs:=#[.int .i64 0,.string (⟨#[]⟩:ByteArray),.slice none 0 0,.slice none 0 0]) ?_ 3 _ rfl;(with_reducible repeat (first | refine aW ?_ _ | refine bn ?_ | refine aJ ?_ _));refine bU (cs:=#[.int .i64 0,.string (⟨#[]⟩:ByteArray),.slice none 0 0,.slice none 0 0]) ?_ 2 _ rfl;(with_reducible repeat (first | refine aW ?_ _ | refine bn ?_ | refine aJ ?_ _));refine bU (cs:=#[.int .i64 0,.string (⟨#[]⟩:ByteArray),.slice none 0 0,.slice none 0 0]) ?_ 1 _ rfl;(with_reducible repeat (first | refine aW ?_ _ | refine bn ?_ | refine aJ ?_ _));refine bU (cs:=#[.int .i64 0,.string (⟨#[]⟩:ByteArray),.slice none 0 0,.slice none 0 0]) ?_ 0 _ rfl;(with_reducible repeat (first | refine aW ?_ _ | refine bn ?_ | refine aJ ?_ _));exact BK394.out) Tryz.underlying25 rfl (by kernel_rfl)) rfl ?_
    exact ⟨_,_,by first | rfl | (simp [aZ,bf] <;> rfl) | (simp [*,aZ,bf] <;> rfl),by first | exact Kd.iZ _ _ _ _ _ | exact Kd.N_nil _ _ _ _ _ | exact Kd.V_nil _ _ _ _ _ | exact Kd.Q_nil _ _ _ _ _ | exact Kd.S_nil _ _ _ _ _,by first | exact Kd.iZ _ _ _ _ _ | exact Kd.N_nil _ _ _ _ _ | exact Kd.V_nil _ _ _ _ _ | exact Kd.Q_nil _ _ _ _ _ | exact Kd.S_nil _ _ _ _ _,by repeat (first | (with_reducible first | exact HB.out | apply ah | apply ag | apply aj | refine aA ?_ GE394.out) | exact HB.out)⟩
  ·replace c6:=Bool.eq_false_iff.mpr c6
   subst c6
   have H1:(some (0,(⟨#[]⟩:ByteArray),([]:List ByteArray),([]:List (S25)),false))=some (r1,r2,r3,r4,r5):=by rw [if_neg (show ¬ (false=true) by decide)] at H;exact H
   clear H
   have H:=H1
   clear H1
   simp only [Option.some.injEq,Prod.mk.injEq] at H
   obtain ⟨rfl,rfl,rfl,rfl,rfl⟩:=H
   go_enter Tryz.func8,Tryz.ntmps8
   go_wp2_with (first | ((with_reducible refine gm (N:=2) rfl ?_);refine gI ?hg (N:=2) ?hd (cs:=#[.int .i64 0,.string (⟨#[]⟩:ByteArray),.slice none 0 0,.slice none 0 0]) (t:=25) ?hr ?_;(case hd=>rfl);(case hg=>rfl);(case hr=>first | (go_simp;done) | (go_simp;rfl));intro gb394 hg w17 hbox hb;have n0_:=ae.mk (bz (by repeat (first | (with_reducible first | exact HB.out | apply ah | apply ag | apply aj) | exact HB.out)) hb);have n1_:=ae.mk (hbox);have n2_:=ae.mk ((by rw [hg];exact (bQ (by repeat (first | (with_reducible first | exact HB.out | apply ah | apply ag | apply aj) | exact HB.out))):w.heap.size≤gb394));have n3_:=ae.mk ((by rw [hg];exact (bQ (by repeat (first | (with_reducible first | exact HB.out | apply ah | apply ag | apply aj) | exact HB.out))):w.heap.size≤gb394));clear HB;have HB:=n0_;have BK394:=n1_;have GW394:=n2_;have GE394:=n3_;clear n0_ n1_ n2_ n3_;clear hb hbox hg) | (go_at_call 26;(with_reducible refine (ed.calls k a0 false _ A5.out).mono ?_);rintro e w' ⟨rfl,⟨nd,rfl⟩⟩;(try (rw [jR w17];generalize hq_:World.drewN w17 _=w17;have n0_:ae (w17.heap[gb394]?=some (.cells #[.int .i64 0,.string (⟨#[]⟩:ByteArray),.slice none 0 0,.slice none 0 0] 25 (0,0))):=⟨by rw [← hq_];exact (by (with_reducible repeat (first | refine aW ?_ _ | refine bn ?_ | refine aJ ?_ _));exact BK394.out)⟩;have n1_:ae (Below w.heap.size w w17):=⟨by rw [← hq_];exact (by repeat (first | (with_reducible first | exact HB.out | apply ah | apply ag | apply aj | refine aA ?_ GE394.out) | exact HB.out))⟩;clear BK394 HB hq_;have BK394:=n0_;have HB:=n1_;clear n0_ n1_));have hcz18_0:w17.cell? ⟨gb394,0,none⟩=some (.int .i64 0):=(ak BK394.out 0).trans rfl;have hcz18_1:w17.cell? ⟨gb394,1,none⟩=some (.string (⟨#[]⟩:ByteArray)):=(ak BK394.out 1).trans rfl;have hcz18_2:w17.cell? ⟨gb394,2,none⟩=some (.slice none 0 0):=(ak BK394.out 2).trans rfl;have hcz18_3:w17.cell? ⟨gb394,3,none⟩=some (.slice none 0 0):=(ak BK394.out 3).trans rfl;have hfz18_0:=ax BK394.out 0;have hfz18_1:=ax BK394.out 1;have hfz18_2:=ax BK394.out 2;have hfz18_3:=ax BK394.out 3))
   refine bodyPost_ret (jd rfl _ _ gb394 25 #[.int .i64 0,.string (⟨#[]⟩:ByteArray),.slice none 0 0,.slice none 0 0] (0,0) _ rfl (by (with_reducible repeat (first | refine aW ?_ _ | refine bn ?_ | refine aJ ?_ _));refine bU (cs:=#[.int .i64 0,.string (⟨#[]⟩:ByteArray),.slice none 0 0,.slice none 0 0]) ?_ 3 _ rfl;(with_reducible repeat (first | refine aW ?_ _ | refine bn ?_ | refine aJ ?_ _));refine bU (cs:=#[.int .i64 0,.string (⟨#[]⟩:ByteArray),.slice none 0 0,.slice none 0 0]) ?_ 2 _ rfl;(with_reducible repeat (first | refine aW ?_ _ | refine bn ?_ | refine aJ ?_ _));refine bU (cs:=#[.int .i64 0,.string (⟨#[]⟩:ByteArray),.slice none 0 0,.slice none 0 0]) ?_ 1 _ rfl;(with_reducible repeat (first | refine aW ?_ _ | refine bn ?_ | refine aJ ?_ _));refine bU (cs:=#[.int .i64 0,.string (⟨#[]⟩:ByteArray),.slice none 0 0,.slice none 0 0]) ?_ 0 _ rfl;(with_reducible repeat (first | refine aW ?_ _ | refine bn ?_ | refine aJ ?_ _));exact BK394.out) Tryz.underlying25 rfl (by kernel_rfl)) rfl ?_
   exact ⟨_,_,by first | rfl | (simp [aZ,bf] <;> rfl) | (simp [*,aZ,bf] <;> rfl),by first | exact Kd.iZ _ _ _ _ _ | exact Kd.N_nil _ _ _ _ _ | exact Kd.V_nil _ _ _ _ _ | exact Kd.Q_nil _ _ _ _ _ | exact Kd.S_nil _ _ _ _ _,by first | exact Kd.iZ _ _ _ _ _ | exact Kd.N_nil _ _ _ _ _ | exact Kd.V_nil _ _ _ _ _ | exact Kd.Q_nil _ _ _ _ _ | exact Kd.S_nil _ _ _ _ _,by repeat (first | (with_reducible first | exact HB.out | apply ah | apply ag | apply aj | refine aA ?_ GE394.out) | exact HB.out)⟩
end Go.Proofs.YtpgfjbimodnkeaaGreatDoor.Q
namespace Go.Proofs.YtpgfjbimodnkeaaGreatDoor.Scan
open Go Go.RowKit Go.Proofs.YtpgfjbimodnkeaaGreatDoorW.PrintWords Go.Proofs.YtpgfjbimodnkeaaGreatDoor.Q Go.Proofs.YtpgfjbimodnkeaaGreatDoor.Dec
theorem BO (s:ByteArray) (hS:s.size≤1099511627776) (a more:Nat) (hm:more≤3) (ha:a+more < s.size) (least:Int) (n:Nat):∀ (j:Nat) (c:Int),j+n=more+1→1≤j→0≤c→c < 64 ^ j →
 ∃ (r:Int) (z:Nat) (ok:Bool),Evt (fun k=>aH.l0 k s a c more least j) (r,(z:Int),ok)∧1≤z∧z≤4:=by
 induction n with
 | zero =>
   intro j c hj h1 hc0 hc1
   have hp:(64:Int) ^ j≤16777216:=by
    have:j=1∨j=2∨j=3∨j=4:=by omega
    rcases this with rfl | rfl | rfl | rfl <;> decide
   by_cases c0:c < least
   ·refine ⟨65533,1,false,Evt.succ ?_,by omega,by omega⟩
    simp only [aH.l0]
    exact Evt.neg (by omega) (Evt.pos c0 (Evt.pure _))
   by_cases c1:c > 1114111
   ·refine ⟨65533,1,false,Evt.succ ?_,by omega,by omega⟩
    simp only [aH.l0]
    exact Evt.neg (by omega) (Evt.neg c0 (Evt.pos c1 (Evt.pure _)))
   by_cases c2:55296≤c∧c≤56319
   ·refine ⟨65533,1,false,Evt.succ ?_,by omega,by omega⟩
    simp only [aH.l0]
    exact Evt.neg (by omega) (Evt.neg c0 (Evt.neg c1 (Evt.aI (jK c) (Evt.pos (decide_eq_true c2) (Evt.pure _)))))
   by_cases c3:56320≤c∧c≤57343
   ·refine ⟨65533,1,false,Evt.succ ?_,by omega,by omega⟩
    simp only [aH.l0]
    exact Evt.neg (by omega) (Evt.neg c0 (Evt.neg c1 (Evt.aI (jK c) (Evt.neg (by simp only [decide_eq_true_eq];exact c2) (Evt.aI (lW c) (Evt.pos (decide_eq_true c3) (Evt.pure _)))))))
   ·refine ⟨c,more+1,true,Evt.succ ?_,by omega,by omega⟩
    simp only [aH.l0]
    rw [bJ (i:=(more:Int)+1) (more+1) (by omega) (by omega)]
    exact Evt.neg (by omega) (Evt.neg c0 (Evt.neg c1 (Evt.aI (jK c) (Evt.neg (by simp only [decide_eq_true_eq];exact c2) (Evt.aI (lW c) (Evt.neg (by simp only [decide_eq_true_eq];exact c3) (Evt.pure _)))))))
 | succ n ih =>
   intro j c hj h1 hc0 hc1
   have hr:=fP s ((a+j:Nat):Int)
   have hp:(64:Int) ^ j≤262144:=by
    have:j=1∨j=2∨j=3:=by omega
    rcases this with rfl | rfl | rfl <;> decide
   have w1:wrap64 ((a:Int)+j)=((a+j:Nat):Int):=bJ _ (by omega) (by omega)
   have w2:wrap64 (bt s ((a+j:Nat):Int))=bt s ((a+j:Nat):Int):=gy (by omega) (by omega)
   by_cases c0:bt s ((a+j:Nat):Int) < 128
   ·refine ⟨65533,1,false,Evt.succ ?_,by omega,by omega⟩
    simp only [aH.l0]
    rw [w1,w2]
    exact Evt.pos (by omega) (Evt.pos (by omega) (Evt.pos (by omega) (Evt.pos c0 (Evt.pure _))))
   by_cases c1:bt s ((a+j:Nat):Int) > 191
   ·refine ⟨65533,1,false,Evt.succ ?_,by omega,by omega⟩
    simp only [aH.l0]
    rw [w1,w2]
    exact Evt.pos (by omega) (Evt.pos (by omega) (Evt.pos (by omega) (Evt.neg c0 (Evt.pos c1 (Evt.pure _)))))
   ·obtain ⟨r,z,ok,g1,g2,g3⟩:=ih (j+1) (c*64+bt s ((a+j:Nat):Int) - 128) (by omega) (by omega) (by omega) (by rw [Int.pow_succ];omega)
    refine ⟨r,z,ok,Evt.succ ?_,g2,g3⟩
    simp only [aH.l0]
    rw [w1,w2,gy (i:=c*64) (by omega) (by omega),gy (i:=c*64+bt s ((a+j:Nat):Int)) (by omega) (by omega),gy (i:=c*64+bt s ((a+j:Nat):Int) - 128) (by omega) (by omega),bJ (i:=(j:Int)+1) (j+1) (by omega) (by omega)]
    exact Evt.pos (by omega) (Evt.pos (by omega) (Evt.pos (by omega) (Evt.neg c0 (Evt.neg c1 g1))))
theorem ug (s:ByteArray) (hS:s.size≤1099511627776) (a more:Nat) (ha:a < s.size) (h1:1≤more) (hm:more≤3) (least c:Int) (hc0:0≤c) (hc1:c < 64) :
 ∃ (r:Int) (z:Nat) (ok:Bool),Evt (fun k=>aH.j2 k s a c more least) (r,(z:Int),ok)∧1≤z∧z≤4:=by
 by_cases h:s.size - a≤more
 ·refine ⟨65533,1,false,Evt.succ ?_,by omega,by omega⟩
  simp only [aH.j2]
  rw [bJ (i:=(s.size:Int) - a) (s.size - a) (by omega) (by omega)]
  exact Evt.pos (by omega) (Evt.pure _)
 ·obtain ⟨r,z,ok,g1,g2,g3⟩:=BO s hS a more hm (by omega) least more 1 c (by omega) (by omega) hc0 (by simpa using hc1)
  refine ⟨r,z,ok,Evt.succ ?_,g2,g3⟩
  simp only [aH.j2]
  rw [bJ (i:=(s.size:Int) - a) (s.size - a) (by omega) (by omega)]
  exact Evt.neg (by omega) g1
theorem D8 (s:ByteArray) (hS:s.size≤1099511627776) (a:Nat) (ha:a < s.size):∃ (r:Int) (z:Nat) (ok:Bool),Evt (fun k=>aH.f k s a) (r,(z:Int),ok)∧1≤z∧z≤4:=by
 have hr:=fP s a
 have w:wrap64 (bt s a)=bt s a:=gy (by omega) (by omega)
 unfold aH.f
 rw [w]
 by_cases c0:bt s a < 128
 ·exact ⟨bt s a,1,true,Evt.pos (by omega) (Evt.pos (by omega) (Evt.pos c0 (Evt.pure _))),by omega,by omega⟩
 have hj1:∀ b:Bool,b=decide (224≤bt s a∧bt s a≤239)→∃ (r:Int) (z:Nat) (ok:Bool),Evt (fun k=>aH.j1 k s a (bt s a) b) (r,(z:Int),ok)∧1≤z∧z≤4:=by
  intro b hb
  by_cases c2:224≤bt s a∧bt s a≤239
  ·obtain ⟨r,z,ok,g1,g2,g3⟩:=ug s hS a 2 ha (by omega) (by omega) 2048 (bt s a - 224) (by omega) (by omega)
   refine ⟨r,z,ok,Evt.succ ?_,g2,g3⟩
   simp only [aH.j1]
   rw [gy (i:=bt s a - 224) (by omega) (by omega)]
   exact Evt.pos (by rw [hb];exact decide_eq_true c2) g1
  ·have hbf:¬ (b=true):=by rw [hb,decide_eq_false c2];decide
   by_cases c3:240≤bt s a
   ·by_cases c4:bt s a≤244
    ·obtain ⟨r,z,ok,g1,g2,g3⟩:=ug s hS a 3 ha (by omega) (by omega) 65536 (bt s a - 240) (by omega) (by omega)
     refine ⟨r,z,ok,Evt.succ ?_,g2,g3⟩
     simp only [aH.j1]
     rw [gy (i:=bt s a - 240) (by omega) (by omega)]
     exact Evt.neg hbf (Evt.pos c3 (Evt.pos c4 g1))
    ·refine ⟨65533,1,false,Evt.succ ?_,by omega,by omega⟩
     simp only [aH.j1]
     exact Evt.neg hbf (Evt.pos c3 (Evt.neg c4 (Evt.pure _)))
   ·refine ⟨65533,1,false,Evt.succ ?_,by omega,by omega⟩
    simp only [aH.j1]
    exact Evt.neg hbf (Evt.neg c3 (Evt.pure _))
 have hj0:∀ b:Bool,b=decide (194≤bt s a∧bt s a≤223)→∃ (r:Int) (z:Nat) (ok:Bool),Evt (fun k=>aH.j0 k s a (bt s a) b) (r,(z:Int),ok)∧1≤z∧z≤4:=by
  intro b hb
  by_cases c2:194≤bt s a∧bt s a≤223
  ·obtain ⟨r,z,ok,g1,g2,g3⟩:=ug s hS a 1 ha (by omega) (by omega) 128 (bt s a - 192) (by omega) (by omega)
   refine ⟨r,z,ok,Evt.succ ?_,g2,g3⟩
   simp only [aH.j0]
   rw [gy (i:=bt s a - 192) (by omega) (by omega)]
   exact Evt.pos (by rw [hb];exact decide_eq_true c2) g1
  ·have hbf:¬ (b=true):=by rw [hb,decide_eq_false c2];decide
   by_cases c3:224≤bt s a
   ·obtain ⟨r,z,ok,g1,g2,g3⟩:=hj1 (decide (bt s a≤239)) (by simp [c3])
    refine ⟨r,z,ok,Evt.succ ?_,g2,g3⟩
    simp only [aH.j0]
    exact Evt.neg hbf (Evt.pos c3 g1)
   ·obtain ⟨r,z,ok,g1,g2,g3⟩:=hj1 false (by simp [c3])
    refine ⟨r,z,ok,Evt.succ ?_,g2,g3⟩
    simp only [aH.j0]
    exact Evt.neg hbf (Evt.neg c3 g1)
 by_cases c1:194≤bt s a
 ·obtain ⟨r,z,ok,g1,g2,g3⟩:=hj0 (decide (bt s a≤223)) (by simp [c1])
  exact ⟨r,z,ok,Evt.pos (by omega) (Evt.pos (by omega) (Evt.neg c0 (Evt.pos c1 g1))),g2,g3⟩
 ·obtain ⟨r,z,ok,g1,g2,g3⟩:=hj0 false (by simp [c1])
  exact ⟨r,z,ok,Evt.pos (by omega) (Evt.pos (by omega) (Evt.neg c0 (Evt.neg c1 g1))),g2,g3⟩
theorem Cb (s:ByteArray) (hS:s.size≤1099511627776) (n:Nat):∀ a:Nat,s.size+10 - a=n→a≤s.size+4→∃ b,Evt (fun k=>ed.l0 k s a) b:=by
 induction n using Nat.strongRecOn with
 | _ n ih =>
   intro a hn ha
   by_cases hlt:a < s.size
   ·obtain ⟨r,z,ok,g1,g2,g3⟩:=D8 s hS a hlt
    cases ok with
    | false =>
      refine ⟨false,Evt.succ ?_⟩
      simp only [ed.l0]
      exact Evt.pos (by omega) (Evt.bind g1 (Evt.neg (by simp) (Evt.pure _)))
    | true =>
      obtain ⟨b,hb⟩:=ih (s.size+10 - (a+z)) (by omega) (a+z) rfl (by omega)
      refine ⟨b,Evt.succ ?_⟩
      simp only [ed.l0]
      refine Evt.pos (by omega) (Evt.bind g1 (Evt.pos (by simp) ?_))
      simp only [bJ (i:=(a:Int)+(z:Int)) (a+z) (by omega) (by omega)]
      exact hb
   ·refine ⟨true,Evt.succ ?_⟩
    simp only [ed.l0]
    exact Evt.neg (by omega) (Evt.pure _)
theorem DV (s:ByteArray) (hS:s.size≤1099511627776):∃ b,Evt (fun k=>ed.f k s) b:=Cb s hS _ 0 rfl (by omega)
theorem J.lens {s:ByteArray} {md:Md} {i e:Nat} {kd:Int} {ns:List S44} {ks:List S32} (h:J s md i e kd ns ks):ks.length+i≤e∧ns.length≤ks.length:=by
 induction h with
 | null i h=>simp
 | fals i h=>simp
 | tru i h=>simp
 | num i e h0 h1 h2 h3=>simp;omega
 | str i q h0 h1 h2=>have:=h2.bound;simp;omega
 | arr0 i j h0 h1 h2 h3 h4=>have:=h2.le;simp;omega
 | arr i j e ks h0 h1 h2 h3 ih=>have:=h2.le;exact ⟨by omega,by simp⟩
 | obj0 i j h0 h1 h2 h3 h4=>have:=h2.le;simp;omega
 | obj i j e ns ks h0 h1 h2 h3 ih=>have:=h2.le;exact ⟨by omega,ih.2⟩
 | el1 i m e kd ns ks h0 h1 h2 h3 ih=>have:=h0.bound;have:=h1.le;simp;omega
 | els i m c n e kd ns ks l h0 h1 h2 h3 h4 h5 ih ih2=>have:=h0.bound;have:=h1.le;have:=h4.le;simp;omega
 | mem1 i q c b m e kd ns ks h0 h1 h2 h3 h4 h5 h6 h7 h8 h9 h10 ih=>have:=h2.bound;have:=h3.le;have:=h6.le;have:=h7.bound;have:=h8.le;simp;omega
 | mems i q c b m d n e kd ns nl ks l h0 h1 h2 h3 h4 h5 h6 h7 h8 h9 h10 h11 h12 ih ih2=>have:=h2.bound;have:=h3.le;have:=h6.le;have:=h7.bound;have:=h8.le;have:=h11.le;simp;omega
structure qo (s:ByteArray) (n:S44) (v:ByteArray):Prop where
 at_:∃ b q:Nat,n.f0=b∧n.f1=(q+1:Nat)∧b < q∧q < s.size∧Says s (b+1) q v
def dZ (s:ByteArray):List S44→List ByteArray→Prop
 | [],[]=>True
 | n :: ns,v :: vs=>qo s n v∧dZ s ns vs
 | _,_=>False
def fF (s:ByteArray):List S32→List S25→Prop
 | [],[]=>True
 | p :: ps,t :: ts=>Evt (fun k=>bI.f k s p.f0 p.f1 p.f2 p.f3 p.f4) (t.f0,t.f1,t.f2,t.f3)∧fF s ps ts
 | _,_=>False
theorem dZ.length {s:ByteArray}:∀ {ns:List S44} {vs:List ByteArray},dZ s ns vs→ns.length=vs.length
 | [],[],_=>rfl
 | _ :: _,_ :: _,h=>by simp [dZ.length h.2]
 | [],_ :: _,h=>h.elim
 | _ :: _,[],h=>h.elim
theorem dZ.at {s:ByteArray}:∀ {ns:List S44} {vs:List ByteArray},dZ s ns vs→∀ (j:Nat) (p:S44) (r:ByteArray),ns[j]?=some p→vs[j]?=some r→qo s p r
 | [],[],_,j,p,r,h1,_=>by simp at h1
 | a :: ns,b :: vs,h,0,p,r,h1,h2=>by
   simp only [List.getElem?_cons_zero,Option.some.injEq] at h1 h2
   subst h1;subst h2
   exact h.1
 | a :: ns,b :: vs,h,j+1,p,r,h1,h2=>dZ.at h.2 j p r (by simpa using h1) (by simpa using h2)
 | [],_ :: _,h,_,_,_,_,_=>h.elim
 | _ :: _,[],h,_,_,_,_,_=>h.elim
theorem BF (pre suf:List S44) (n:S44):kC (pre ++ n :: suf) (pre.length:Nat)=n:=by simp [kC,List.getD_eq_getElem?_getD]
theorem Bl (pre suf:List S32) (n:S32):iG (pre ++ n :: suf) (pre.length:Nat)=n:=by simp [iG,List.getD_eq_getElem?_getD]
theorem wZ (s:ByteArray) (kd b e:Int) (ns:List S44) (ks:List S32) (hk:ks.length≤1099511627776) (kd':Int) (txt:ByteArray) (keys:List ByteArray):∀ (suf:List S32) (tsuf:List S25) (pre:List S32) (tpre:List S25),ks=pre ++ suf→pre.length=tpre.length→fF s suf tsuf →
 Evt (fun k=>bI.l1 k s (pre.length:Nat) kd b e ns ks kd' txt keys tpre) (kd',txt,keys,tpre ++ tsuf)
 | [],[],pre,tpre,he,hl,_=>by
   refine Evt.succ ?_
   simp only [bI.l1]
   rw [he,List.append_nil,List.append_nil]
   exact Evt.neg (by omega) (Evt.pure _)
 | p :: suf,t :: tsuf,pre,tpre,he,hl,ht=>by
   have ih:=wZ s kd b e ns ks hk kd' txt keys suf tsuf (pre ++ [p]) (tpre ++ [t]) (by rw [he];simp) (by simp [hl]) ht.2
   have hlen:pre.length < ks.length:=by rw [he];simp
   refine Evt.succ ?_
   simp only [bI.l1]
   have hrd:iG ks (pre.length:Nat)=p:=by rw [he];exact Bl pre suf p
   rw [hrd]
   refine Evt.pos (by omega) (Evt.pos (by omega) (Evt.bind ht.1 (Evt.pos (by omega) ?_)))
   rw [bJ (i:=((pre.length:Nat):Int)+1) (pre.length+1) (by omega) (by omega)]
   have e1:(pre ++ [p]).length=pre.length+1:=by simp
   have e2:(tpre ++ [t]) ++ tsuf=tpre ++ t :: tsuf:=by simp
   rw [e1,e2] at ih
   cases t
   exact ih
 | [],_ :: _,_,_,_,_,h=>h.elim
 | _ :: _,[],_,_,_,_,h=>h.elim
theorem xg (s:ByteArray) (hS:s.size≤1099511627776) (kd b e:Int) (ns:List S44) (hn:ns.length≤1099511627776) (ks:List S32) (kd':Int) (txt:ByteArray) (r:Int × ByteArray × List ByteArray × (List (S25))) (keys:List ByteArray)
 (hl1:Evt (fun k=>bI.l1 k s 0 kd b e ns ks kd' txt keys []) r):∀ (suf:List S44) (ksuf:List ByteArray) (pre:List S44) (kpre:List ByteArray),ns=pre ++ suf→keys=kpre ++ ksuf→pre.length=kpre.length→dZ s suf ksuf →
 Evt (fun k=>bI.l0 k s (pre.length:Nat) kd b e ns ks kd' txt kpre) r
 | [],[],pre,kpre,he,hk,hl,_=>by
   refine Evt.succ ?_
   simp only [bI.l0]
   rw [List.append_nil] at he hk
   subst hk
   have hlen:pre.length=ns.length:=by rw [he]
   exact Evt.neg (by omega) hl1
 | n :: suf,v :: ksuf,pre,kpre,he,hk,hl,h=>by
   have ih:=xg s hS kd b e ns hn ks kd' txt r keys hl1 suf ksuf (pre ++ [n]) (kpre ++ [v]) (by rw [he];simp) (by rw [hk];simp) (by simp [hl]) h.2
   have hlen:pre.length < ns.length:=by rw [he];simp
   obtain ⟨x,q,h0,h1,h2,h3,h4⟩:=h.1.at_
   have hu:=h4.nY hS (show 1≤x+1 by omega) (by omega) h3
   rw [Nat.add_sub_cancel] at hu
   refine Evt.succ ?_
   simp only [bI.l0]
   have hrd:kC ns (pre.length:Nat)=n:=by rw [he];exact BF pre suf n
   rw [hrd,h0,h1,Int.toNat_natCast,Int.toNat_natCast]
   refine Evt.pos (by omega) (Evt.pos (by omega) (Evt.pos (by omega) (Evt.pos (by omega) (Evt.pos (by omega) (Evt.bind hu (Evt.pos (by omega) ?_))))))
   rw [bJ (i:=((pre.length:Nat):Int)+1) (pre.length+1) (by omega) (by omega)]
   have e1:(pre ++ [n]).length=pre.length+1:=by simp
   rw [e1] at ih
   exact ih
 | [],_ :: _,_,_,_,_,_,h=>h.elim
 | _ :: _,[],_,_,_,_,_,h=>h.elim
theorem mF (s:ByteArray) (hS:s.size≤1099511627776) (kd b e:Int) {ns:List S44} {ks:List S32} (hn:ns.length≤1099511627776) (hk:ks.length≤1099511627776) (txt:ByteArray) {keys:List ByteArray} {ts:List S25} (h1:dZ s ns keys) (h2:fF s ks ts) :
 Evt (fun k=>bI.j0 k s kd b e ns ks kd txt) (kd,txt,keys,ts):=by
 refine Evt.succ ?_
 simp only [bI.j0]
 have g1:=wZ s kd b e ns ks hk kd txt keys ks ts [] [] rfl rfl h2
 exact xg s hS kd b e ns hn ks kd txt _ keys g1 ns keys [] [] rfl rfl rfl h1
def DC (s:ByteArray) (md:Md) (i e:Nat) (kd:Int) (ns:List S44) (ks:List S32):Prop :=
 (∃ keys,dZ s ns keys)∧(∃ ts,fF s ks ts)∧(md = .val→∃ (txt:ByteArray) (keys:List ByteArray) (ts:List S25),Evt (fun k=>bI.f k s kd i e ns ks) (kd,txt,keys,ts)∧dZ s ns keys)
theorem nH {s:ByteArray} (hS:s.size≤1099511627776) (i e kd:Int) (h3:kd≠3) (h4:kd≠4) {ns:List S44} {ks:List S32} (hn:ns.length≤1099511627776) (hk:ks.length≤1099511627776) {keys:List ByteArray} {ts:List S25} (h1:dZ s ns keys) (h2:fF s ks ts) :
 ∃ (txt:ByteArray) (keys:List ByteArray) (ts:List S25),Evt (fun k=>bI.f k s kd i e ns ks) (kd,txt,keys,ts)∧dZ s ns keys:=by
 refine ⟨⟨#[]⟩,keys,ts,Evt.succ ?_,h1⟩
 simp only [bI.f]
 exact Evt.neg h3 (Evt.neg h4 (mF s hS kd i e hn hk _ h1 h2))
theorem xq {s:ByteArray} (hS:s.size≤1099511627776) {md:Md} {i e:Nat} {kd:Int} {ns:List S44} {ks:List S32} (h:J s md i e kd ns ks):Prd s i→DC s md i e kd ns ks:=by
 have flat:∀ (i e kd:Int),kd≠3→kd≠4→(∃ keys,dZ s [] keys)∧(∃ ts,fF s [] ts)∧(Md.val = .val→∃ (txt:ByteArray) (keys:List ByteArray) (ts:List S25),Evt (fun k=>bI.f k s kd i e [] []) (kd,txt,keys,ts)∧dZ s [] keys):=fun i e kd h3 h4 =>
  ⟨⟨[],trivial⟩,⟨[],trivial⟩,fun _=>nH hS i e kd h3 h4 (ns:=[]) (ks:=[]) (by simp) (by simp) (keys:=[]) (ts:=[]) trivial trivial⟩
 induction h with
 | null i h=>exact fun _=>flat _ _ _ (by decide) (by decide)
 | fals i h=>exact fun _=>flat _ _ _ (by decide) (by decide)
 | tru i h=>exact fun _=>flat _ _ _ (by decide) (by decide)
 | num i e h0 h1 h2 h3 =>
   intro _
   refine ⟨⟨[],trivial⟩,⟨[],trivial⟩,fun _=>⟨s.extract i e,[],[],Evt.succ ?_,trivial⟩⟩
   simp only [bI.f]
   rw [Int.toNat_natCast,Int.toNat_natCast]
   exact Evt.pos (by simp) (Evt.pos (by omega) (Evt.pos (by omega) (Evt.pos (by omega) (mF s hS 3 i e (ns:=[]) (ks:=[]) (by simp) (by simp) _ (keys:=[]) (ts:=[]) trivial trivial))))
 | str i q h0 h1 h2 =>
   intro hp
   obtain ⟨_,v,hv⟩:=jB hS h2 (gp.prd hS h0 h1 h2 hp).1
   have hb:=h2.bound
   have hu:=hv.nY hS (show 1≤i+1 by omega) (by omega) (by omega)
   rw [Nat.add_sub_cancel] at hu
   refine ⟨⟨[],trivial⟩,⟨[],trivial⟩,fun _=>⟨v,[],[],Evt.succ ?_,trivial⟩⟩
   simp only [bI.f]
   rw [Int.toNat_natCast,Int.toNat_natCast]
   exact Evt.neg (by simp) (Evt.pos (by simp) (Evt.pos (by omega) (Evt.pos (by omega) (Evt.pos (by omega) (Evt.bind hu (mF s hS 4 i _ (ns:=[]) (ks:=[]) (by simp) (by simp) _ (keys:=[]) (ts:=[]) trivial trivial))))))
 | arr0 i j h0 h1 h2 h3 h4=>exact fun _=>flat _ _ _ (by decide) (by decide)
 | arr i j e ks h0 h1 h2 h3 ih =>
   intro hp
   have hb:=h3.bound
   have hl:=h3.lens
   obtain ⟨⟨keys,hk⟩,⟨ts,ht⟩,_⟩:=ih (h2.prd hS (by omega) (Prd.plain hS hp h0 (by omega)))
   exact ⟨⟨keys,hk⟩,⟨ts,ht⟩,fun _=>nH hS i e 5 (by decide) (by decide) (by simp) (by omega) hk ht⟩
 | obj0 i j h0 h1 h2 h3 h4=>exact fun _=>flat _ _ _ (by decide) (by decide)
 | obj i j e ns ks h0 h1 h2 h3 ih =>
   intro hp
   have hb:=h3.bound
   have hl:=h3.lens
   obtain ⟨⟨keys,hk⟩,⟨ts,ht⟩,_⟩:=ih (h2.prd hS (by omega) (Prd.plain hS hp h0 (by omega)))
   exact ⟨⟨keys,hk⟩,⟨ts,ht⟩,fun _=>nH hS i e 6 (by decide) (by decide) (by omega) (by omega) hk ht⟩
 | el1 i m e kd ns ks h0 h1 h2 h3 ih =>
   intro hp
   obtain ⟨_,_,h⟩:=ih hp
   obtain ⟨txt,keys,ts,g1,g2⟩:=h rfl
   exact ⟨⟨[],trivial⟩,⟨[⟨kd,txt,keys,ts⟩],g1,trivial⟩,fun h=>by cases h⟩
 | els i m c n e kd ns ks l h0 h1 h2 h3 h4 h5 ih ih2 =>
   intro hp
   obtain ⟨_,_,h⟩:=ih hp
   obtain ⟨txt,keys,ts,g1,g2⟩:=h rfl
   have hb:=h5.bound
   obtain ⟨_,⟨ts2,ht⟩,_⟩:=ih2 (h4.prd hS (by omega) (Prd.plain hS (h1.prd hS (by omega) (h0.prd hS hp)) h2 (by omega)))
   exact ⟨⟨[],trivial⟩,⟨⟨kd,txt,keys,ts⟩ :: ts2,g1,ht⟩,fun h=>by cases h⟩
 | mem1 i q c b m e kd ns ks h0 h1 h2 h3 h4 h5 h6 h7 h8 h9 h10 ih =>
   intro hp
   have hb:=h7.bound
   have hq:=h2.bound
   have hpb:=h6.prd hS (by omega) (Prd.plain hS (h3.prd hS (by omega) (gp.prd hS h0 h1 h2 hp).2) h4 (by omega))
   obtain ⟨_,v,hv⟩:=jB hS h2 (gp.prd hS h0 h1 h2 hp).1
   obtain ⟨_,_,h⟩:=ih hpb
   obtain ⟨txt,keys,ts,g1,g2⟩:=h rfl
   exact ⟨⟨[v],⟨⟨i,q,rfl,rfl,by omega,by omega,hv⟩⟩,trivial⟩,⟨[⟨kd,txt,keys,ts⟩],g1,trivial⟩,fun h=>by cases h⟩
 | mems i q c b m d n e kd ns nl ks l h0 h1 h2 h3 h4 h5 h6 h7 h8 h9 h10 h11 h12 ih ih2 =>
   intro hp
   have hb:=h7.bound
   have hq:=h2.bound
   have hn:=h12.bound
   have hpb:=h6.prd hS (by omega) (Prd.plain hS (h3.prd hS (by omega) (gp.prd hS h0 h1 h2 hp).2) h4 (by omega))
   obtain ⟨_,v,hv⟩:=jB hS h2 (gp.prd hS h0 h1 h2 hp).1
   obtain ⟨_,_,h⟩:=ih hpb
   obtain ⟨txt,keys,ts,g1,g2⟩:=h rfl
   obtain ⟨⟨keys2,hk2⟩,⟨ts2,ht2⟩,_⟩:=ih2 (h11.prd hS (by omega) (Prd.plain hS (h8.prd hS (by omega) (h7.prd hS hpb)) h9 (by omega)))
   exact ⟨⟨v :: keys2,⟨⟨i,q,rfl,rfl,by omega,by omega,hv⟩⟩,hk2⟩,⟨⟨kd,txt,keys,ts⟩ :: ts2,g1,ht2⟩,fun h=>by cases h⟩
structure vS (s:ByteArray) (kd:Int) (i m:Nat) (ns:List S44) (ks:List S32) (keys:List ByteArray):Prop where
 size:s.size≤65536
 pre:Blanks s 0 i
 val:J s .val i m kd ns ks
 post:Blanks s m s.size
 prd:Prd s i
 names:dZ s ns keys
 places:Evt (fun k=>fZ.f k s) (kd,(i:Int),(m:Int),ns,ks,true)
 tree:∀ t,Evt (fun k=>fD.f k s) t→Evt (fun k=>bI.f k s kd i m ns ks) (t.1,t.2.1,t.2.2.1,t.2.2.2.1)
theorem zM (s:ByteArray):∃ (kd:Int) (txt:ByteArray) (keys:List ByteArray) (ts:List S25) (ok:Bool),Evt (fun k=>fD.f k s) (kd,txt,keys,ts,ok)∧(ok=true→∃ (i m:Nat) (ns:List S44) (ks:List S32),vS s kd i m ns ks keys):=by
 unfold fD.f
 by_cases hS0:s.size≤65536
 ·have hS:s.size≤1099511627776:=by omega
  obtain ⟨b1,h1⟩:=DV s hS
  cases b1 with
  | false=>exact ⟨0,⟨#[]⟩,[],[],false,Evt.neg (by omega) (Evt.bind h1 (Evt.neg (by simp) (Evt.pure _))),fun h=>by cases h⟩
  | true =>
    obtain ⟨b2,h2,hp⟩:=y7 s hS
    cases b2 with
    | false=>exact ⟨0,⟨#[]⟩,[],[],false,Evt.neg (by omega) (Evt.bind h1 (Evt.pos (by simp) (Evt.bind h2 (Evt.neg (by simp) (Evt.pure _))))),fun h=>by cases h⟩
    | true =>
      obtain ⟨kd,b,e,ns,ks,ok,g1,g2⟩:=zD s hS
      cases ok with
      | false =>
        refine ⟨0,⟨#[]⟩,[],[],false,Evt.neg (by omega) (Evt.bind h1 (Evt.pos (by simp) (Evt.bind h2 (Evt.pos (by simp) (Evt.bind (x:=(0,⟨#[]⟩,[],[],false)) ?_ (Evt.pure _)))))),fun h=>by cases h⟩
        unfold fU.f
        exact Evt.bind g1 (Evt.neg (by simp) (Evt.pure _))
      | true =>
        obtain ⟨i,m,rfl,rfl,hb1,hJ,hb2⟩:=g2 rfl
        have hb:=hJ.bound
        have hpi:=hb1.prd hS (by omega) (hp rfl)
        obtain ⟨_,_,ht⟩:=xq hS hJ hpi
        obtain ⟨txt,keys,ts,t1,t2⟩:=ht rfl
        have hall:Evt (fun k=>fD.f k s) (kd,txt,keys,ts,true):=by
         unfold fD.f
         refine Evt.neg (by omega) (Evt.bind h1 (Evt.pos (by simp) (Evt.bind h2 (Evt.pos (by simp) (Evt.bind (x:=(kd,txt,keys,ts,true)) ?_ (Evt.pure _))))))
         unfold fU.f
         exact Evt.bind g1 (Evt.pos (by simp) (Evt.bind t1 (Evt.pure _)))
        have hall':=hall
        unfold fD.f at hall'
        exact ⟨kd,txt,keys,ts,true,hall',fun _=>⟨i,m,ns,ks,hS0,hb1,hJ,hb2,hpi,t2,g1,fun t ht=>by obtain rfl:=hall.uniq ht;exact t1⟩⟩
 ·exact ⟨0,⟨#[]⟩,[],[],false,Evt.pos (by omega) (Evt.pure _),fun h=>by cases h⟩
theorem fQ {s:ByteArray} (hS:s.size≤1099511627776) {i j:Nat} (h:Blanks s i j) (hj:j≤s.size) (hn:¬ blank (bt s j)):Evt (fun k=>bg.f k s i) (s,(j:Int)):=by
 have hle:=h.le
 obtain ⟨j',h1,h2,h3,h4⟩:=jh s hS i (by omega)
 have hle':=h1.le
 have:j'=j:=by
  rcases Nat.lt_trichotomy j' j with hl | hl | hl
  ·exact absurd (h.all j' hle' hl) (h3 (by omega))
  ·exact hl
  ·exact absurd (h1.all j hle hl) hn
 subst this
 exact h4
theorem oN {s:ByteArray} (hS:s.size≤1099511627776) {i j:Nat} (h:gY s Dg i j) (hj:j≤s.size) (hn:¬ Dg (bt s j)):Evt (fun k=>bH.f k s i) (decide (i < j),s,(j:Int)):=by
 have hle:=h.le
 obtain ⟨b,j',h1,h2,h3,h4,h5⟩:=mi s hS i (by omega)
 have hle':=h3.le
 have:j'=j:=by
  rcases Nat.lt_trichotomy j' j with hl | hl | hl
  ·exact absurd (h.all j' hle' hl) h5
  ·exact hl
  ·exact absurd (h3.all j hle hl) hn
 subst this
 have:b=decide (i < j'):=by
  cases b with
  | true=>exact (decide_eq_true (h4.1 rfl)).symm
  | false=>exact (decide_eq_false (fun h=>Bool.noConfusion (h4.2 h))).symm
 rwa [this] at h1
def NumEnd (c:Int):Prop:=¬ Dg c∧c≠46∧c≠101∧c≠69
instance (c:Int):Decidable (NumEnd c):=by unfold NumEnd Dg;infer_instance
theorem zk {s:ByteArray} (hS:s.size≤1099511627776) {p e:Nat} (h:zx s p e) (he:e≤s.size) (hn:NumEnd (bt s e)):Evt (fun k=>aC.j2 k true s p) (true,s,(e:Int)):=by
 obtain ⟨d,h1,h2,h3⟩:=h
 have hd:=oN hS h3 he hn.1
 rw [decide_eq_true h2] at hd
 have hdg:=h3.all d (Nat.le_refl _) h2
 unfold Dg at hdg
 refine Evt.succ ?_
 simp only [aC.j2]
 refine Evt.pos (by simp) ?_
 rcases h1 with rfl | ⟨rfl,h1 | h1⟩
 ·exact Evt.aI (fK s d 43 (fun h=>by omega)) (Evt.neg (by simp) (Evt.aI (fK s d 45 (fun h=>by omega)) (Evt.bind hd (Evt.pure _))))
 ·exact Evt.aI (dY s hS p 43 (by omega) h1) (Evt.pos (by simp) (Evt.bind hd (Evt.pure _)))
 ·exact Evt.aI (fK s p 43 (fun h=>by omega)) (Evt.neg (by simp) (Evt.aI (dY s hS p 45 (by omega) h1) (Evt.bind hd (Evt.pure _))))
theorem zx.lt {s:ByteArray} {p e:Nat} (h:zx s p e):p < e:=by
 obtain ⟨d,h1,h2,_⟩:=h
 omega
theorem zl {s:ByteArray} (hS:s.size≤1099511627776) {p e:Nat} (h:uY s p e) (he:e≤s.size) (hn:NumEnd (bt s e)):Evt (fun k=>aC.j1 k false s p) (true,s,(e:Int)):=by
 refine Evt.succ ?_
 simp only [aC.j1]
 refine Evt.neg (by simp) ?_
 rcases h with rfl | ⟨h | h,h2⟩
 ·have n1:=hn.2.2
  refine Evt.aI (fK s e 101 (fun h=>n1.1 h.2)) (Evt.neg (by simp) (Evt.aI (fK s e 69 (fun h=>n1.2 h.2)) (Evt.succ ?_)))
  simp only [aC.j2]
  exact Evt.neg (by simp) (Evt.pure _)
 ·have:=h2.lt
  exact Evt.aI (dY s hS p 101 (by omega) h) (Evt.pos (by simp) (zk hS h2 he hn))
 ·have:=h2.lt
  exact Evt.aI (fK s p 101 (fun h=>by omega)) (Evt.neg (by simp) (Evt.aI (dY s hS p 69 (by omega) h) (zk hS h2 he hn)))
theorem uY.head {s:ByteArray} {p e:Nat} (h:uY s p e) (hn:NumEnd (bt s e)):¬ Dg (bt s p)∧bt s p≠46:=by
 rcases h with rfl | ⟨h,_⟩
 ·exact ⟨hn.1,hn.2.1⟩
 ·unfold Dg;omega
theorem wW {s:ByteArray} (hS:s.size≤1099511627776) {p e:Nat} (h:qi s p e) (he:e≤s.size) (hn:NumEnd (bt s e)):Evt (fun k=>aC.j0 k false s p) (true,s,(e:Int)):=by
 obtain ⟨c,h1,h2⟩:=h
 have hd:=h2.head hn
 have hle:=h2.le
 refine Evt.succ ?_
 simp only [aC.j0]
 refine Evt.neg (by simp) ?_
 rcases h1 with rfl | ⟨h1,h3,h4⟩
 ·exact Evt.aI (fK s c 46 (fun h=>hd.2 h.2)) (Evt.neg (by simp) (zl hS h2 he hn))
 ·have h5:=oN hS h4 (by omega) hd.1
  rw [decide_eq_true h3] at h5
  exact Evt.aI (dY s hS p 46 (by omega) h1) (Evt.pos (by simp) (Evt.bind h5 (zl hS h2 he hn)))
theorem qi.head {s:ByteArray} {p e:Nat} (h:qi s p e) (hn:NumEnd (bt s e)):¬ Dg (bt s p):=by
 obtain ⟨c,h1,h2⟩:=h
 rcases h1 with rfl | ⟨h1,_⟩
 ·exact (h2.head hn).1
 ·unfold Dg;omega
theorem qi.le {s:ByteArray} {p e:Nat} (h:qi s p e):p≤e:=by
 obtain ⟨c,h1,h2⟩:=h
 have:=h2.le
 omega
theorem ye {s:ByteArray} (hS:s.size≤1099511627776) {i e:Nat} (h:wG s i e) (he:e≤s.size) (hn:NumEnd (bt s e)):Evt (fun k=>aC.f k s i) (true,s,(e:Int)):=by
 obtain ⟨a,b,h1,h2,h3⟩:=h
 have hle:=h3.le
 have hd:=h3.head hn
 have key:Evt (fun k=>(bP.f s a 48).bind fun t=>(if t.1=true then aC.j0 k false t.2.1 t.2.2 else ((bH.f k t.2.1 t.2.2).bind fun u=>aC.j0 k (!u.1) u.2.1 u.2.2))) (true,s,(e:Int)):=by
  rcases h2 with ⟨rfl,h2⟩ | ⟨h2,h4,h5⟩
  ·exact Evt.aI (dY s hS a 48 (by omega) h2) (Evt.pos (by simp) (wW hS h3 he hn))
  ·have h6:=oN hS h5 (by omega) hd
   rw [decide_eq_true h4] at h6
   exact Evt.aI (fK s a 48 (fun h=>h2 h.2)) (Evt.neg (by simp) (Evt.bind h6 (by simpa using wW hS h3 he hn)))
 unfold aC.f
 rcases h1 with rfl | ⟨rfl,h1⟩
 ·refine Evt.aI (fK s a 45 (fun h=>?_)) key
  rcases h2 with ⟨_,h2⟩ | ⟨_,h4,h5⟩
  ·omega
  ·have:=h5.all a (Nat.le_refl _) h4
   unfold Dg at this
   omega
 ·exact Evt.aI (dY s hS i 45 (by omega) h1) key
theorem yI {s:ByteArray} (hS:s.size≤1099511627776) {p q:Nat} (h:gp s p q):Evt (fun k=>aV.l0 k s p) (true,s,((q+1:Nat):Int)):=by
 induction h with
 | close p h0 h1 =>
   refine Evt.succ ?_
   simp only [aV.l0]
   refine Evt.pos (by omega) (Evt.pos (by omega) (Evt.pos h1 ?_))
   rw [bJ (p+1) (by omega) (by omega)]
   exact Evt.pure _
 | plain p q h0 h1 h2 h3 h4 ih =>
   refine Evt.succ ?_
   simp only [aV.l0]
   refine Evt.pos (by omega) (Evt.pos (by omega) (Evt.neg h2 (Evt.neg (by omega) (Evt.neg h3 ?_))))
   rw [bJ (p+1) (by omega) (by omega)]
   exact ih
 | short p q h0 h1 h2 h3 ih =>
   have hp1:(p:Int)+1=((p+1:Nat):Int):=by omega
   rw [hp1] at h2
   obtain ⟨b,j,g1,g2,g3,g4,g5⟩:=zS s hS (p+1) (by omega)
   cases b with
   | false=>exact absurd h2 (g5 rfl).1
   | true =>
     have hj:j=p+2:=by
      rcases (g4 rfl).way with ⟨e1,_⟩ | ⟨_,_,e2,_⟩
      ·exact e1
      ·rw [e2] at h2;exact absurd h2 (by decide)
     subst hj
     refine Evt.succ ?_
     simp only [aV.l0]
     refine Evt.pos (by omega) (Evt.pos (by omega) (Evt.neg (by omega) (Evt.neg (by omega) (Evt.pos h1 ?_))))
     rw [bJ (p+1) (by omega) (by omega)]
     exact Evt.bind g1 (Evt.pos (by simp) ih)
 | uni p q h0 h1 h2 h3 h4 ih =>
   have hp1:(p:Int)+1=((p+1:Nat):Int):=by omega
   rw [hp1] at h2
   rw [show (p:Int)+2=((p+1:Nat):Int)+1 by omega] at h3
   obtain ⟨b,j,g1,g2,g3,g4,g5⟩:=zS s hS (p+1) (by omega)
   cases b with
   | false=>exact absurd h3 ((g5 rfl).2 h2)
   | true =>
     have hj:j=p+6:=by
      rcases (g4 rfl).way with ⟨_,_,e2⟩ | ⟨e1,_⟩
      ·rw [h2] at e2;exact absurd e2 (by decide)
      ·exact e1
     subst hj
     refine Evt.succ ?_
     simp only [aV.l0]
     refine Evt.pos (by omega) (Evt.pos (by omega) (Evt.neg (by omega) (Evt.neg (by omega) (Evt.pos h1 ?_))))
     rw [bJ (p+1) (by omega) (by omega)]
     exact Evt.bind g1 (Evt.pos (by simp) ih)
theorem nS {s:ByteArray} (hS:s.size≤1099511627776) {p q:Nat} (hp:p < s.size) (h:gp s (p+1) q):Evt (fun k=>aV.f k s p) (true,s,((q+1:Nat):Int)):=by
 unfold aV.f
 rw [bJ (p+1) (by omega) (by omega)]
 exact yI hS h
theorem qp {s:ByteArray} {i:Nat} {w:ByteArray} (h0:0 < w.size) (hc:bt s i≠bt w (0:Nat)):¬ Word s i w:=fun h=>hc (by have:=h.at 0 h0;simpa using this)
theorem sS {s:ByteArray} (hS:s.size≤1099511627776) {i:Nat} {w:ByteArray} (hw:w.size≤10) (h:Word s i w):dU.f s i w=some (true,s,((i+w.size:Nat):Int)):=by
 have:=h.le
 rcases qm s hS i (by omega) w hw with ⟨_,g⟩ | ⟨g,_⟩
 ·exact g
 ·exact absurd h g
theorem qR {s:ByteArray} (hS:s.size≤1099511627776) {i:Nat} (hi:i≤s.size) {w:ByteArray} (hw:w.size≤10) (h:¬ Word s i w):dU.f s i w=some (false,s,(i:Int)):=by
 rcases qm s hS i hi w hw with ⟨g,_⟩ | ⟨_,g⟩
 ·exact absurd g h
 ·exact g
theorem lI {s:ByteArray} {i:Nat} {x:Bool} {r:Int × Int × Int × List S44 × List S32 × Bool × ByteArray × Int} (h1:bt s i≠123) (h2:bt s i≠91) (h3:bt s i≠34) (hx:x=decide (bt s i=45∨48≤bt s i∧bt s i≤57))
 (h:Evt (fun k=>aK.j0 k true x s i 0 i 0) r):Evt (fun k=>aK.f k s i) r:=by
 refine Evt.succ ?_
 simp only [aK.f]
 refine Evt.aI (eH s i) (Evt.neg h1 (Evt.neg h2 (Evt.neg h3 ?_)))
 by_cases h4:bt s i=45
 ·rw [decide_eq_true (.inl h4)] at hx
  subst hx
  exact Evt.pos h4 h
 by_cases h5:48≤bt s i
 ·rw [show decide (bt s i=45∨48≤bt s i∧bt s i≤57)=decide (bt s i≤57) from decide_eq_decide.2 (by omega)] at hx
  subst hx
  exact Evt.neg h4 (Evt.pos h5 h)
 ·rw [decide_eq_false (by omega)] at hx
  subst hx
  exact Evt.neg h4 (Evt.neg h5 h)
theorem Blanks.qc {s:ByteArray} {i j:Nat} (h:Blanks s i j) (hn:NumEnd (bt s j)):NumEnd (bt s i):=by
 rcases Nat.eq_or_lt_of_le h.le with rfl | hl
 ·exact hn
 ·have:=h.all i (Nat.le_refl _) hl
  unfold blank at this
  unfold NumEnd Dg
  omega
theorem jL {c d:Int} (h:c=d) (hd:¬ blank d):¬ blank c:=by rwa [h]
theorem J.first {s:ByteArray} {md:Md} {i e:Nat} {kd:Int} {ns:List S44} {ks:List S32} (h:J s md i e kd ns ks):¬ blank (bt s i)∧bt s i≠93∧bt s i≠125:=by
 induction h with
 | null i h=>have:=h.at 0 (by decide);rw [Nat.add_zero] at this;rw [this];decide
 | fals i h=>have:=h.at 0 (by decide);rw [Nat.add_zero] at this;rw [this];decide
 | tru i h=>have:=h.at 0 (by decide);rw [Nat.add_zero] at this;rw [this];decide
 | num i e h0 h1 h2 h3=>unfold blank;omega
 | str i q h0 h1 h2=>rw [h1];decide
 | arr0 i j h0 h1 h2 h3 h4=>rw [h1];decide
 | arr i j e ks h0 h1 h2 h3 ih=>rw [h1];decide
 | obj0 i j h0 h1 h2 h3 h4=>rw [h1];decide
 | obj i j e ns ks h0 h1 h2 h3 ih=>rw [h1];decide
 | el1 i m e kd ns ks h0 h1 h2 h3 ih=>exact ih
 | els i m c n e kd ns ks l h0 h1 h2 h3 h4 h5 ih ih2=>exact ih
 | mem1 i q c b m e kd ns ks h0 h1 h2 h3 h4 h5 h6 h7 h8 h9 h10 ih=>rw [h1];decide
 | mems i q c b m d n e kd ns nl ks l h0 h1 h2 h3 h4 h5 h6 h7 h8 h9 h10 h11 h12 ih ih2=>rw [h1];decide
def Reads (s:ByteArray):Md→Nat→Nat→Int→List S44→List S32→Prop
 | .val,i,e,kd,ns,ks=>NumEnd (bt s e)→Evt (fun k=>aK.f k s i) (kd,(i:Int),(e:Int),ns,ks,true,s,(e:Int))
 | .els,i,e,_,_,ks=>∀ acc:List S32,acc.length≤i→Evt (fun k=>bC.l0 k acc s i) (acc ++ ks,true,s,(e:Int))
 | .mems,i,e,_,ns,ks=>∀ (nacc:List S44) (acc:List S32),nacc.length≤i→acc.length≤i→Evt (fun k=>aG.l0 k nacc acc s i) (nacc ++ ns,acc ++ ks,true,s,(e:Int))
theorem J.reads {s:ByteArray} (hS:s.size≤1099511627776) {md:Md} {i e:Nat} {kd:Int} {ns:List S44} {ks:List S32} (h:J s md i e kd ns ks):Reads s md i e kd ns ks:=by
 induction h with
 | null i h =>
   intro _
   have hc:=h.at 0 (by decide)
   rw [Nat.add_zero] at hc
   have hc:bt s i=110:=hc
   refine lI (x:=false) (by omega) (by omega) (by omega) (decide_eq_false (by omega)).symm (Evt.succ ?_)
   simp only [aK.j0]
   exact Evt.neg (by simp) (Evt.aI (sS hS (by decide) h) (Evt.pos (by simp) (Evt.pure _)))
 | fals i h =>
   intro _
   have hc:=h.at 0 (by decide)
   rw [Nat.add_zero] at hc
   have hc:bt s i=102:=hc
   have hle:=h.le
   refine lI (x:=false) (by omega) (by omega) (by omega) (decide_eq_false (by omega)).symm (Evt.succ ?_)
   simp only [aK.j0]
   exact Evt.neg (by simp) (Evt.aI (qR hS (by omega) (by decide) (qp (w:=ni) (by decide) (by rw [hc];decide))) (Evt.neg (by simp) (Evt.aI (sS hS (by decide) h) (Evt.pos (by simp) (Evt.pure _)))))
 | tru i h =>
   intro _
   have hc:=h.at 0 (by decide)
   rw [Nat.add_zero] at hc
   have hc:bt s i=116:=hc
   have hle:=h.le
   refine lI (x:=false) (by omega) (by omega) (by omega) (decide_eq_false (by omega)).symm (Evt.succ ?_)
   simp only [aK.j0]
   exact Evt.neg (by simp) (Evt.aI (qR hS (by omega) (by decide) (qp (w:=ni) (by decide) (by rw [hc];decide))) (Evt.neg (by simp) (Evt.aI (qR hS (by omega) (by decide) (qp (w:=lY) (by decide) (by rw [hc];decide))) (Evt.neg (by simp) (Evt.aI (sS hS (by decide) h) (Evt.pos (by simp) (Evt.pure _)))))))
 | num i e h0 h1 h2 h3 h4 =>
   intro hn
   refine lI (x:=true) (by omega) (by omega) (by omega) (decide_eq_true (by omega)).symm (Evt.succ ?_)
   simp only [aK.j0]
   exact Evt.pos (by simp) (Evt.bind (ye hS h4 h2 hn) (Evt.pure _))
 | str i q h0 h1 h2 =>
   intro _
   refine Evt.succ ?_
   simp only [aK.f]
   exact Evt.aI (eH s i) (Evt.neg (by omega) (Evt.neg (by omega) (Evt.pos h1 (Evt.bind (nS hS h0 h2) (Evt.pure _)))))
 | arr0 i j h0 h1 h2 h3 h4 =>
   intro _
   refine Evt.succ ?_
   simp only [aK.f]
   refine Evt.aI (eH s i) (Evt.neg (by omega) (Evt.pos h1 (Evt.bind (x:=([],true,s,((j+1:Nat):Int))) (Evt.succ ?_) (Evt.pure _))))
   simp only [bC.f]
   rw [bJ (i+1) (by omega) (by omega)]
   exact Evt.bind (fQ hS h2 (by omega) (jL h4 (by decide))) (Evt.aI (dY s hS j 93 h3 h4) (Evt.pos (by simp) (Evt.pure _)))
 | arr i j e ks h0 h1 h2 h3 ih =>
   intro _
   have hf:=h3.first
   have hb:=h3.bound
   have hle:=h2.le
   refine Evt.succ ?_
   simp only [aK.f]
   refine Evt.aI (eH s i) (Evt.neg (by omega) (Evt.pos h1 (Evt.bind (x:=(ks,true,s,(e:Int))) (Evt.succ ?_) (Evt.pure _))))
   simp only [bC.f]
   rw [bJ (i+1) (by omega) (by omega)]
   exact Evt.bind (fQ hS h2 (by omega) hf.1) (Evt.aI (fK s j 93 (fun h=>hf.2.1 h.2)) (Evt.neg (by simp) (ih [] (by simp))))
 | obj0 i j h0 h1 h2 h3 h4 =>
   intro _
   refine Evt.succ ?_
   simp only [aK.f]
   refine Evt.aI (eH s i) (Evt.pos h1 (Evt.bind (x:=([],[],true,s,((j+1:Nat):Int))) (Evt.succ ?_) (Evt.pure _)))
   simp only [aG.f]
   rw [bJ (i+1) (by omega) (by omega)]
   exact Evt.bind (fQ hS h2 (by omega) (jL h4 (by decide))) (Evt.aI (dY s hS j 125 h3 h4) (Evt.pos (by simp) (Evt.pure _)))
 | obj i j e ns ks h0 h1 h2 h3 ih =>
   intro _
   have hf:=h3.first
   have hb:=h3.bound
   have hle:=h2.le
   refine Evt.succ ?_
   simp only [aK.f]
   refine Evt.aI (eH s i) (Evt.pos h1 (Evt.bind (x:=(ns,ks,true,s,(e:Int))) (Evt.succ ?_) (Evt.pure _)))
   simp only [aG.f]
   rw [bJ (i+1) (by omega) (by omega)]
   exact Evt.bind (fQ hS h2 (by omega) hf.1) (Evt.aI (fK s j 125 (fun h=>hf.2.2 h.2)) (Evt.neg (by simp) (ih [] [] (by simp) (by simp))))
 | el1 i m e kd ns ks h0 h1 h2 h3 ih =>
   intro acc ha
   have hb:=h0.bound
   have hle:=h1.le
   have hv:=ih (h1.qc (by rw [h3];decide))
   refine Evt.succ ?_
   simp only [bC.l0]
   exact Evt.bind hv (Evt.pos (by simp) (Evt.pos (by omega) (Evt.aI rfl (Evt.bind (fQ hS h1 (by omega) (jL h3 (by decide))) (Evt.aI (dY s hS e 93 h2 h3) (Evt.pos (by simp) (Evt.pure _)))))))
 | els i m c n e kd ns ks l h0 h1 h2 h3 h4 h5 ih ih2 =>
   intro acc ha
   have hb:=h0.bound
   have hle:=h1.le
   have hle2:=h4.le
   have hb2:=h5.bound
   have hv:=ih (h1.qc (by rw [h3];decide))
   have hg:=ih2 (acc ++ [⟨kd,(i:Nat),(m:Nat),ns,ks⟩]) (by simp;omega)
   rw [List.append_assoc] at hg
   refine Evt.succ ?_
   simp only [bC.l0]
   exact Evt.bind hv (Evt.pos (by simp) (Evt.pos (by omega) (Evt.aI rfl (Evt.bind (fQ hS h1 (by omega) (jL h3 (by decide))) (Evt.aI (fK s c 93 (fun h=>by omega)) (Evt.neg (by simp) (Evt.aI (dY s hS c 44 h2 h3) (Evt.pos (by simp) (Evt.bind (fQ hS h4 (by omega) h5.first.1) hg)))))))))
 | mem1 i q c b m e kd ns ks h0 h1 h2 h3 h4 h5 h6 h7 h8 h9 h10 ih =>
   intro nacc acc hn ha
   have hq:=h2.bound
   have hc:=h3.le
   have hv:=h6.le
   have hb:=h7.bound
   have hle:=h8.le
   have hr:=ih (h8.qc (by rw [h10];decide))
   refine Evt.succ ?_
   simp only [aG.l0]
   refine Evt.aI (eH s i) (Evt.pos h1 (Evt.bind (nS hS h0 h2) (Evt.succ ?_)))
   simp only [aG.j1]
   exact Evt.neg (by simp) (Evt.pos (by omega) (Evt.aI rfl (Evt.bind (fQ hS h3 (by omega) (jL h5 (by decide))) (Evt.aI (dY s hS c 58 h4 h5) (Evt.pos (by simp) (Evt.bind (fQ hS h6 (by omega) h7.first.1) (Evt.bind hr (Evt.pos (by simp) (Evt.pos (by omega) (Evt.aI rfl (Evt.bind (fQ hS h8 (by omega) (jL h10 (by decide))) (Evt.aI (dY s hS e 125 h9 h10) (Evt.pos (by simp) (Evt.pure _))))))))))))))
 | mems i q c b m d n e kd ns nl ks l h0 h1 h2 h3 h4 h5 h6 h7 h8 h9 h10 h11 h12 ih ih2 =>
   intro nacc acc hn ha
   have hq:=h2.bound
   have hc:=h3.le
   have hv:=h6.le
   have hb:=h7.bound
   have hle:=h8.le
   have hle2:=h11.le
   have hb2:=h12.bound
   have hr:=ih (h8.qc (by rw [h10];decide))
   have hg:=ih2 (nacc ++ [⟨(i:Nat),(q+1:Nat)⟩]) (acc ++ [⟨kd,(b:Nat),(m:Nat),ns,ks⟩]) (by simp;omega) (by simp;omega)
   rw [List.append_assoc,List.append_assoc] at hg
   refine Evt.succ ?_
   simp only [aG.l0]
   refine Evt.aI (eH s i) (Evt.pos h1 (Evt.bind (nS hS h0 h2) (Evt.succ ?_)))
   simp only [aG.j1]
   exact Evt.neg (by simp) (Evt.pos (by omega) (Evt.aI rfl (Evt.bind (fQ hS h3 (by omega) (jL h5 (by decide))) (Evt.aI (dY s hS c 58 h4 h5) (Evt.pos (by simp) (Evt.bind (fQ hS h6 (by omega) h7.first.1) (Evt.bind hr (Evt.pos (by simp) (Evt.pos (by omega) (Evt.aI rfl (Evt.bind (fQ hS h8 (by omega) (jL h10 (by decide))) (Evt.aI (fK s d 125 (fun h=>by omega)) (Evt.neg (by simp) (Evt.aI (dY s hS d 44 h9 h10) (Evt.pos (by simp) (Evt.bind (fQ hS h11 (by omega) h12.first.1) hg))))))))))))))))
theorem yg {s:ByteArray} (hS:s.size≤1099511627776) {i m:Nat} {kd:Int} {ns:List S44} {ks:List S32} (h0:Blanks s 0 i) (h:J s .val i m kd ns ks) (h1:Blanks s m s.size):Evt (fun k=>fZ.f k s) (kd,(i:Int),(m:Int),ns,ks,true):=by
 have hb:=h.bound
 have hz:bt s s.size=0:=lL s s.size (Nat.le_refl _)
 unfold fZ.f
 exact Evt.bind (fQ hS h0 (by omega) h.first.1) (Evt.bind (h.reads hS (h1.qc (by rw [hz];decide))) (Evt.pos (by simp) (Evt.bind (fQ hS h1 (Nat.le_refl _) (jL hz (by decide))) (Evt.pos rfl (Evt.pure _)))))
structure Part (s r:ByteArray) (c d n:Nat):Prop where
 hs:c+n≤s.size
 hr:d+n≤r.size
 at_:∀ m:Nat,m < n→bt r ((d+m:Nat):Int)=bt s ((c+m:Nat):Int)
theorem Dz {x y:ByteArray} (h:x.size=y.size) (hb:∀ m:Nat,m < x.size→bt x m=bt y m):x=y:=by
 refine ByteArray.ext_getElem h fun m h1 h2=>?_
 have e1:=dI x m (by simpa using h1)
 have e2:=dI y m (by simpa using h2)
 have:=hb m h1
 rw [← e1,← e2] at this
 simp only [Int.toNat_natCast] at this
 exact UInt8.toNat_inj.1 (by omega)
variable {s r:ByteArray} {c d n:Nat}
theorem Part.at (P:Part s r c d n) (p:Nat) (h1:c≤p) (h2:p < c+n):bt r ((p - c+d:Nat):Int)=bt s p:=by
 rw [show p - c+d=d+(p - c) by omega,P.at_ _ (by omega),show c+(p - c)=p by omega]
theorem Part.int (P:Part s r c d n) (z:Int) (h1:(c:Int)≤z) (h2:z < (c+n:Nat)):bt r (z - c+d)=bt s z:=by
 have:=P.at z.toNat (by omega) (by omega)
 rwa [show ((z.toNat - c+d:Nat):Int)=z - c+d by omega,show ((z.toNat:Nat):Int)=z by omega] at this
theorem Part.cut (P:Part s r c d n) (a b:Nat) (h1:c≤a) (h2:a≤b) (h3:b≤c+n):r.extract (a - c+d) (b - c+d)=s.extract a b:=by
 have:=P.hs
 have:=P.hr
 refine Dz (by rw [ByteArray.size_extract,ByteArray.size_extract];omega) fun m hm=>?_
 rw [ByteArray.size_extract] at hm
 rw [jg _ _ _ _ (by omega) (by omega),jg _ _ _ _ (by omega) (by omega),← P.at (a+m) (by omega) (by omega),show a - c+d+m=a+m - c+d by omega]
theorem Part.span (P:Part s r c d n) {Q:Int→Prop} {a b:Nat} (h:gY s Q a b) (h1:c≤a) (h2:b≤c+n):gY r Q (a - c+d) (b - c+d):=by
 have hle:=h.le
 refine ⟨by omega,fun m h3 h4=>?_⟩
 have:=h.all (m+c - d) (by omega) (by omega)
 rwa [← P.at (m+c - d) (by omega) (by omega),show m+c - d - c+d=m by omega] at this
theorem Part.blanks (P:Part s r c d n) {a b:Nat} (h:Blanks s a b) (h1:c≤a) (h2:b≤c+n):Blanks r (a - c+d) (b - c+d):=by
 have:=P.span (Q:=blank) ⟨h.le,h.all⟩ h1 h2
 exact ⟨this.le,this.all⟩
theorem Part.word (P:Part s r c d n) {a:Nat} {w:ByteArray} (h:Word s a w) (h1:c≤a) (h2:a+w.size≤c+n):Word r (a - c+d) w:=by
 have:=P.hr
 refine ⟨by omega,?_⟩
 rw [show a - c+d+w.size=a+w.size - c+d by omega,P.cut a (a+w.size) h1 (by omega) h2]
 exact h.eq
theorem Part.Eh (P:Part s r c d n) (p:Nat) (h1:c≤p) (h2:p+6≤c+n) (h:oK s ((p:Int)+2)):oK r (((p - c+d:Nat):Int)+2):=by
 unfold Dec.oK at h ⊢
 rw [← P.int _ (by omega) (by omega),← P.int ((p:Int)+2+1) (by omega) (by omega),← P.int ((p:Int)+2+2) (by omega) (by omega),← P.int ((p:Int)+2+3) (by omega) (by omega)] at h
 rw [show ((p - c+d:Nat):Int)+2=(p:Int)+2 - c+d by omega,show (p:Int)+2 - c+d+1=(p:Int)+2+1 - c+d by omega,show (p:Int)+2 - c+d+2=(p:Int)+2+2 - c+d by omega,show (p:Int)+2 - c+d+3=(p:Int)+2+3 - c+d by omega]
 exact h
theorem Part.one (P:Part s r c d n) (p:Nat) (h1:c≤p) (h2:p+1 < c+n):bt r (((p - c+d:Nat):Int)+1)=bt s ((p:Int)+1):=by
 rw [← P.int _ (by omega) (by omega),show ((p - c+d:Nat):Int)+1=(p:Int)+1 - c+d by omega]
theorem Part.CB (P:Part s r c d n) {p q:Nat} (h:gp s p q):c≤p→q < c+n→gp r (p - c+d) (q - c+d):=by
 have hr:=P.hr
 induction h with
 | close p h0 h1=>exact fun h2 h3 => .close _ (by omega) (by rw [P.at p h2 h3];exact h1)
 | plain p q h0 h1 h2 h3 h4 ih =>
   intro h5 h6
   have hb:=h4.bound
   have:=ih (by omega) h6
   rw [show p+1 - c+d=p - c+d+1 by omega] at this
   have e:=P.at p h5 (by omega)
   exact .plain _ _ (by omega) (by omega) (by omega) (by omega) this
 | short p q h0 h1 h2 h3 ih =>
   intro h5 h6
   have hb:=h3.bound
   have:=ih (by omega) h6
   rw [show p+2 - c+d=p - c+d+2 by omega] at this
   exact .short _ _ (by omega) (by rw [P.at p h5 (by omega)];exact h1) (by rw [P.one p h5 (by omega)];exact h2) this
 | uni p q h0 h1 h2 h3 h4 ih =>
   intro h5 h6
   have hb:=h4.bound
   have:=ih (by omega) h6
   rw [show p+6 - c+d=p - c+d+6 by omega] at this
   exact .uni _ _ (by omega) (by rw [P.at p h5 (by omega)];exact h1) (by rw [P.one p h5 (by omega)];exact h2) (P.Eh p h5 (by omega) h3) this
theorem Part.Es (P:Part s r c d n) {i e:Nat} (h:wG s i e) (h1:c≤i) (h2:e≤c+n):wG r (i - c+d) (e - c+d):=by
 obtain ⟨a,b,g1,g2,f,g3,g4⟩:=h
 have hle:=g4.le
 have k2:a < b:=by omega
 have k3:b≤f:=by omega
 have hE:uY r (f - c+d) (e - c+d):=by
  rcases g4 with rfl | ⟨g5,x,g6,g7,g8⟩
  ·exact .inl rfl
  ·refine .inr ⟨by rw [P.at f (by omega) (by omega)];exact g5,x - c+d,?_,by omega,P.span g8 (by omega) h2⟩
   rcases g6 with rfl | ⟨rfl,g6⟩
   ·exact .inl (by omega)
   ·refine .inr ⟨by omega,?_⟩
    have:=P.at (f+1) (by omega) (by omega)
    rw [show f+1 - c+d=f - c+d+1 by omega] at this
    rw [this]
    exact g6
 refine ⟨a - c+d,b - c+d,?_,?_,f - c+d,?_,hE⟩
 ·rcases g1 with rfl | ⟨rfl,g1⟩
  ·exact .inl rfl
  ·exact .inr ⟨by omega,by rw [P.at i (by omega) (by omega)];exact g1⟩
 ·rw [P.at a (by omega) (by omega)]
  rcases g2 with ⟨rfl,g2⟩ | ⟨g2,g5,g6⟩
  ·exact .inl ⟨by omega,g2⟩
  ·exact .inr ⟨g2,by omega,P.span g6 (by omega) (by omega)⟩
 ·rcases g3 with rfl | ⟨g3,g5,g6⟩
  ·exact .inl rfl
  ·have:=P.span g6 (by omega) (by omega)
   rw [show b+1 - c+d=b - c+d+1 by omega] at this
   exact .inr ⟨by rw [P.at b (by omega) (by omega)];exact g3,by omega,this⟩
def mvN (z:Int) (n:S44):S44:=⟨n.f0+z,n.f1+z⟩
mutual
def mv (z:Int):S32→S32
 | ⟨k,b,e,ns,ks⟩=>⟨k,b+z,e+z,ns.map (mvN z),mvs z ks⟩
def mvs (z:Int):List S32→List S32
 | []=>[]
 | p :: ps=>mv z p :: mvs z ps
end
theorem xe (z:Int) (k:Int) (b e b' e':Nat) (ns:List S44) (ks:List S32) (hb:(b:Int)+z=b') (he:(e:Int)+z=e'):mv z ⟨k,(b:Int),(e:Int),ns,ks⟩=⟨k,(b':Int),(e':Int),ns.map (mvN z),mvs z ks⟩:=by
 rw [mv,hb,he]
theorem zJ (z:Int) (b e b' e':Nat) (hb:(b:Int)+z=b') (he:(e:Int)+z=e'):mvN z ⟨(b:Int),(e:Int)⟩=⟨(b':Int),(e':Int)⟩:=by
 rw [mvN,← hb,← he]
theorem J.move (P:Part s r c d n) {md:Md} {a e:Nat} {kd:Int} {ns:List S44} {ks:List S32} (h:J s md a e kd ns ks):c≤a→e≤c+n→J r md (a - c+d) (e - c+d) kd (ns.map (mvN ((d:Int) - c))) (mvs ((d:Int) - c) ks):=by
 have hr:=P.hr
 induction h with
 | null a h=>exact fun h1 h2=>by rw [show a+4 - c+d=a - c+d+4 by omega];exact .null _ (P.word h h1 h2)
 | fals a h=>exact fun h1 h2=>by rw [show a+5 - c+d=a - c+d+5 by omega];exact .fals _ (P.word h h1 h2)
 | tru a h=>exact fun h1 h2=>by rw [show a+4 - c+d=a - c+d+4 by omega];exact .tru _ (P.word h h1 h2)
 | num a e h0 h1 h2 h3 h4=>exact fun h5 h6 => .num _ _ (by rw [P.at a h5 (by omega)];exact h0) (by omega) (by omega) (P.span h3 h5 h6) (P.Es h4 h5 h6)
 | str a q h0 h1 h2 =>
   intro h5 h6
   have hb:=h2.bound
   have h3:=P.CB h2 (by omega) (by omega)
   rw [show a+1 - c+d=a - c+d+1 by omega] at h3
   rw [show q+1 - c+d=q - c+d+1 by omega]
   exact .str _ _ (by omega) (by rw [P.at a h5 (by omega)];exact h1) h3
 | arr0 a j h0 h1 h2 h3 h4 =>
   intro h5 h6
   have hb:=h2.le
   have h7:=P.blanks h2 (by omega) (by omega)
   rw [show a+1 - c+d=a - c+d+1 by omega] at h7
   rw [show j+1 - c+d=j - c+d+1 by omega]
   exact .arr0 _ _ (by omega) (by rw [P.at a h5 (by omega)];exact h1) h7 (by omega) (by rw [P.at j (by omega) (by omega)];exact h4)
 | arr a j e ks h0 h1 h2 h3 ih =>
   intro h5 h6
   have hb:=h2.le
   have hc:=h3.bound
   have h7:=P.blanks h2 (by omega) (by omega)
   rw [show a+1 - c+d=a - c+d+1 by omega] at h7
   exact .arr _ _ _ _ (by omega) (by rw [P.at a h5 (by omega)];exact h1) h7 (ih (by omega) h6)
 | obj0 a j h0 h1 h2 h3 h4 =>
   intro h5 h6
   have hb:=h2.le
   have h7:=P.blanks h2 (by omega) (by omega)
   rw [show a+1 - c+d=a - c+d+1 by omega] at h7
   rw [show j+1 - c+d=j - c+d+1 by omega]
   exact .obj0 _ _ (by omega) (by rw [P.at a h5 (by omega)];exact h1) h7 (by omega) (by rw [P.at j (by omega) (by omega)];exact h4)
 | obj a j e ns ks h0 h1 h2 h3 ih =>
   intro h5 h6
   have hb:=h2.le
   have hc:=h3.bound
   have h7:=P.blanks h2 (by omega) (by omega)
   rw [show a+1 - c+d=a - c+d+1 by omega] at h7
   exact .obj _ _ _ _ _ (by omega) (by rw [P.at a h5 (by omega)];exact h1) h7 (ih (by omega) h6)
 | el1 a m e kd ns ks h0 h1 h2 h3 ih =>
   intro h5 h6
   have hb:=h0.bound
   have hc:=h1.le
   rw [mvs,mvs,xe _ kd a m (a - c+d) (m - c+d) ns ks (by omega) (by omega),show e+1 - c+d=e - c+d+1 by omega]
   exact .el1 _ _ _ _ _ _ (ih h5 (by omega)) (P.blanks h1 (by omega) (by omega)) (by omega) (by rw [P.at e (by omega) (by omega)];exact h3)
 | els a m f q e kd ns ks l h0 h1 h2 h3 h4 h5 ih ih2 =>
   intro h6 h7
   have hb:=h0.bound
   have hc:=h1.le
   have hd:=h4.le
   have he:=h5.bound
   have h8:=P.blanks h4 (by omega) (by omega)
   rw [show f+1 - c+d=f - c+d+1 by omega] at h8
   rw [mvs,xe _ kd a m (a - c+d) (m - c+d) ns ks (by omega) (by omega)]
   exact .els _ _ _ _ _ _ _ _ _ (ih h6 (by omega)) (P.blanks h1 (by omega) (by omega)) (by omega) (by rw [P.at f (by omega) (by omega)];exact h3) h8 (ih2 (by omega) h7)
 | mem1 a q f b m e kd ns ks h0 h1 h2 h3 h4 h5 h6 h7 h8 h9 h10 ih =>
   intro g1 g2
   have hq:=h2.bound
   have hc:=h3.le
   have hb:=h6.le
   have hv:=h7.bound
   have hd:=h8.le
   have h11:=P.CB h2 (by omega) (by omega)
   have h12:=P.blanks h3 (by omega) (by omega)
   have h13:=P.blanks h6 (by omega) (by omega)
   rw [show a+1 - c+d=a - c+d+1 by omega] at h11
   rw [show q+1 - c+d=q - c+d+1 by omega] at h12
   rw [show f+1 - c+d=f - c+d+1 by omega] at h13
   rw [List.map_cons,List.map_nil,mvs,mvs,xe _ kd b m (b - c+d) (m - c+d) ns ks (by omega) (by omega),zJ _ a (q+1) (a - c+d) (q - c+d+1) (by omega) (by omega),show e+1 - c+d=e - c+d+1 by omega]
   exact .mem1 _ _ _ _ _ _ _ _ _ (by omega) (by rw [P.at a g1 (by omega)];exact h1) h11 h12 (by omega) (by rw [P.at f (by omega) (by omega)];exact h5) h13 (ih (by omega) (by omega)) (P.blanks h8 (by omega) (by omega)) (by omega) (by rw [P.at e (by omega) (by omega)];exact h10)
 | mems a q f b m g x e kd ns nl ks l h0 h1 h2 h3 h4 h5 h6 h7 h8 h9 h10 h11 h12 ih ih2 =>
   intro g1 g2
   have hq:=h2.bound
   have hc:=h3.le
   have hb:=h6.le
   have hv:=h7.bound
   have hd:=h8.le
   have hn:=h11.le
   have he:=h12.bound
   have h13:=P.CB h2 (by omega) (by omega)
   have h14:=P.blanks h3 (by omega) (by omega)
   have h15:=P.blanks h6 (by omega) (by omega)
   have h16:=P.blanks h11 (by omega) (by omega)
   rw [show a+1 - c+d=a - c+d+1 by omega] at h13
   rw [show q+1 - c+d=q - c+d+1 by omega] at h14
   rw [show f+1 - c+d=f - c+d+1 by omega] at h15
   rw [show g+1 - c+d=g - c+d+1 by omega] at h16
   rw [List.map_cons,mvs,xe _ kd b m (b - c+d) (m - c+d) ns ks (by omega) (by omega),zJ _ a (q+1) (a - c+d) (q - c+d+1) (by omega) (by omega)]
   exact .mems _ _ _ _ _ _ _ _ _ _ _ _ _ (by omega) (by rw [P.at a g1 (by omega)];exact h1) h13 h14 (by omega) (by rw [P.at f (by omega) (by omega)];exact h5) h15 (ih (by omega) (by omega)) (P.blanks h8 (by omega) (by omega)) (by omega) (by rw [P.at g (by omega) (by omega)];exact h10) h16 (ih2 (by omega) g2)
theorem Part.says (P:Part s r c d n) {a q:Nat} {v:ByteArray} (h:Says s a q v) (h1:c≤a) (h2:a≤q) (h3:q≤c+n):Says r (a - c+d) (q - c+d) v:=by
 obtain ⟨l,g1,g2⟩:=h.unq
 exact ⟨l,by rw [P.cut a q h1 h2 h3];exact g1,g2⟩
theorem Part.name (P:Part s r c d n) {a q:Nat} {v:ByteArray} (h:Says s (a+1) q v) (h1:c≤a) (h2:a < q) (h3:q+1≤c+n):qo s ⟨(a:Nat),(q+1:Nat)⟩ v∧qo r (mvN ((d:Int) - c) ⟨(a:Nat),(q+1:Nat)⟩) v:=by
 have:=P.hs
 have:=P.hr
 have h4:=P.says h (by omega) (by omega) (by omega)
 rw [show a+1 - c+d=a - c+d+1 by omega] at h4
 refine ⟨⟨a,q,rfl,rfl,h2,by omega,h⟩,⟨a - c+d,q - c+d,?_,?_,by omega,by omega,h4⟩⟩
 ·show (a:Int)+_=_;omega
 ·show ((q+1:Nat):Int)+_=_;omega
theorem rF {s:ByteArray} (hS:s.size≤1099511627776) (i e kd:Int) (h3:kd≠3) (h4:kd≠4) {ns:List S44} {ks:List S32} (hn:ns.length≤1099511627776) (hk:ks.length≤1099511627776) {keys:List ByteArray} {ts:List S25} (h1:dZ s ns keys) (h2:fF s ks ts):Evt (fun k=>bI.f k s kd i e ns ks) (kd,⟨#[]⟩,keys,ts):=by
 refine Evt.succ ?_
 simp only [bI.f]
 exact Evt.neg h3 (Evt.neg h4 (mF s hS kd i e hn hk _ h1 h2))
theorem uV {s:ByteArray} (hS:s.size≤1099511627776) (i e:Nat) (h1:i≤e) (h2:e≤s.size):Evt (fun k=>bI.f k s 3 i e [] []) (3,s.extract i e,[],[]):=by
 refine Evt.succ ?_
 simp only [bI.f]
 rw [Int.toNat_natCast,Int.toNat_natCast]
 exact Evt.pos (by simp) (Evt.pos (by omega) (Evt.pos (by omega) (Evt.pos (by omega) (mF s hS 3 i e (ns:=[]) (ks:=[]) (by simp) (by simp) _ (keys:=[]) (ts:=[]) trivial trivial))))
theorem qC {s:ByteArray} (hS:s.size≤1099511627776) (i q:Nat) (h1:i < q) (h2:q < s.size) {v:ByteArray} (hv:Says s (i+1) q v):Evt (fun k=>bI.f k s 4 i (q+1:Nat) [] []) (4,v,[],[]):=by
 have hu:=hv.nY hS (show 1≤i+1 by omega) (by omega) (by omega)
 rw [Nat.add_sub_cancel] at hu
 refine Evt.succ ?_
 simp only [bI.f]
 rw [Int.toNat_natCast,Int.toNat_natCast]
 exact Evt.neg (by simp) (Evt.pos (by simp) (Evt.pos (by omega) (Evt.pos (by omega) (Evt.pos (by omega) (Evt.bind hu (mF s hS 4 i _ (ns:=[]) (ks:=[]) (by simp) (by simp) _ (keys:=[]) (ts:=[]) trivial trivial))))))
theorem qF (z:Int):∀ ks:List S32,(mvs z ks).length=ks.length
 | []=>by rw [mvs]
 | p :: ps=>by rw [mvs,List.length_cons,List.length_cons,qF z ps]
def Alike (s r:ByteArray) (c d:Nat) (md:Md) (a e:Nat) (kd:Int) (ns:List S44) (ks:List S32):Prop :=
 ∃ (keys:List ByteArray) (ts:List S25),dZ s ns keys∧dZ r (ns.map (mvN ((d:Int) - c))) keys∧fF s ks ts∧fF r (mvs ((d:Int) - c) ks) ts ∧
  (md = .val→∃ txt,Evt (fun k=>bI.f k s kd (a:Int) (e:Int) ns ks) (kd,txt,keys,ts)∧Evt (fun k=>bI.f k r kd ((a:Int)+((d:Int) - c)) ((e:Int)+((d:Int) - c)) (ns.map (mvN ((d:Int) - c))) (mvs ((d:Int) - c) ks)) (kd,txt,keys,ts))
theorem J.trees (P:Part s r c d n) (hS:s.size≤1099511627776) (hR:r.size≤1099511627776) {md:Md} {a e:Nat} {kd:Int} {ns:List S44} {ks:List S32} (h:J s md a e kd ns ks):Prd s a→c≤a→e≤c+n→Alike s r c d md a e kd ns ks:=by
 have hs:=P.hs
 have hr:=P.hr
 have flat:∀ (a e:Nat) (kd:Int) (ns:List S44) (ks:List S32) (keys:List ByteArray) (ts:List S25),kd≠3→kd≠4→ns.length≤1099511627776→ks.length≤1099511627776→dZ s ns keys→dZ r (ns.map (mvN ((d:Int) - c))) keys→fF s ks ts→fF r (mvs ((d:Int) - c) ks) ts→Alike s r c d .val a e kd ns ks :=
  fun a e kd ns ks keys ts h3 h4 hn hk g1 g2 g3 g4=>⟨keys,ts,g1,g2,g3,g4,fun _=>⟨_,rF hS _ _ _ h3 h4 hn hk g1 g3,rF hR _ _ _ h3 h4 (by rw [List.length_map];exact hn) (by rw [qF];exact hk) g2 g4⟩⟩
 have none:∀ (a e:Nat) (kd:Int),kd≠3→kd≠4→Alike s r c d .val a e kd [] []:=fun a e kd h3 h4=>flat a e kd [] [] [] [] h3 h4 (by simp) (by simp) trivial trivial trivial (by rw [mvs];trivial)
 induction h with
 | null a h=>exact fun _ _ _=>none _ _ _ (by decide) (by decide)
 | fals a h=>exact fun _ _ _=>none _ _ _ (by decide) (by decide)
 | tru a h=>exact fun _ _ _=>none _ _ _ (by decide) (by decide)
 | num a e h0 h1 h2 h3 =>
   intro _ g1 g2
   refine ⟨[],[],trivial,trivial,trivial,by rw [mvs];trivial,fun _=>⟨s.extract a e,uV hS a e (by omega) h2,?_⟩⟩
   have:=uV hR (a - c+d) (e - c+d) (by omega) (by omega)
   rw [P.cut a e g1 (by omega) g2] at this
   rw [List.map_nil,mvs,show (a:Int)+((d:Int) - c)=((a - c+d:Nat):Int) by omega,show (e:Int)+((d:Int) - c)=((e - c+d:Nat):Int) by omega]
   exact this
 | str a q h0 h1 h2 =>
   intro hp g1 g2
   obtain ⟨_,v,hv⟩:=jB hS h2 (gp.prd hS h0 h1 h2 hp).1
   have hb:=h2.bound
   refine ⟨[],[],trivial,trivial,trivial,by rw [mvs];trivial,fun _=>⟨v,qC hS a q (by omega) (by omega) hv,?_⟩⟩
   have h3:=P.says hv (by omega) (by omega) (by omega)
   rw [show a+1 - c+d=a - c+d+1 by omega] at h3
   have:=qC hR (a - c+d) (q - c+d) (by omega) (by omega) h3
   rw [List.map_nil,mvs,show (a:Int)+((d:Int) - c)=((a - c+d:Nat):Int) by omega,show ((q+1:Nat):Int)+((d:Int) - c)=((q - c+d+1:Nat):Int) by omega]
   exact this
 | arr0 a j h0 h1 h2 h3 h4=>exact fun _ _ _=>none _ _ _ (by decide) (by decide)
 | arr a j e ks h0 h1 h2 h3 ih =>
   intro hp g1 g2
   have hb:=h3.bound
   have hl:=h3.lens
   have hle:=h2.le
   obtain ⟨keys,ts,k1,k2,k3,k4,_⟩:=ih (h2.prd hS (by omega) (Prd.plain hS hp h0 (by omega))) (by omega) g2
   exact flat a e 5 [] ks keys ts (by decide) (by decide) (by simp) (by omega) k1 k2 k3 k4
 | obj0 a j h0 h1 h2 h3 h4=>exact fun _ _ _=>none _ _ _ (by decide) (by decide)
 | obj a j e ns ks h0 h1 h2 h3 ih =>
   intro hp g1 g2
   have hb:=h3.bound
   have hl:=h3.lens
   have hle:=h2.le
   obtain ⟨keys,ts,k1,k2,k3,k4,_⟩:=ih (h2.prd hS (by omega) (Prd.plain hS hp h0 (by omega))) (by omega) g2
   exact flat a e 6 ns ks keys ts (by decide) (by decide) (by omega) (by omega) k1 k2 k3 k4
 | el1 a m e kd ns ks h0 h1 h2 h3 ih =>
   intro hp g1 g2
   have hle:=h1.le
   obtain ⟨keys,ts,_,_,_,_,k5⟩:=ih hp g1 (by omega)
   obtain ⟨txt,k6,k7⟩:=k5 rfl
   refine ⟨[],[⟨kd,txt,keys,ts⟩],trivial,trivial,⟨k6,trivial⟩,?_,fun h=>by cases h⟩
   rw [mvs,mvs,mv]
   exact ⟨k7,trivial⟩
 | els a m f q e kd ns ks l h0 h1 h2 h3 h4 h5 ih ih2 =>
   intro hp g1 g2
   have hle:=h1.le
   have hle2:=h4.le
   have hb:=h5.bound
   have hb0:=h0.bound
   obtain ⟨keys,ts,_,_,_,_,k5⟩:=ih hp g1 (by omega)
   obtain ⟨txt,k6,k7⟩:=k5 rfl
   obtain ⟨keys2,ts2,_,_,m3,m4,_⟩:=ih2 (h4.prd hS (by omega) (Prd.plain hS (h1.prd hS (by omega) (h0.prd hS hp)) h2 (by omega))) (by omega) g2
   refine ⟨[],⟨kd,txt,keys,ts⟩ :: ts2,trivial,trivial,⟨k6,m3⟩,?_,fun h=>by cases h⟩
   rw [mvs,mv]
   exact ⟨k7,m4⟩
 | mem1 a q f b m e kd ns ks h0 h1 h2 h3 h4 h5 h6 h7 h8 h9 h10 ih =>
   intro hp g1 g2
   have hb:=h7.bound
   have hq:=h2.bound
   have e1:=h3.le
   have e2:=h6.le
   have e3:=h8.le
   have hpb:=h6.prd hS (by omega) (Prd.plain hS (h3.prd hS (by omega) (gp.prd hS h0 h1 h2 hp).2) h4 (by omega))
   obtain ⟨_,v,hv⟩:=jB hS h2 (gp.prd hS h0 h1 h2 hp).1
   obtain ⟨keys,ts,_,_,_,_,k5⟩:=ih hpb (by omega) (by omega)
   obtain ⟨txt,k6,k7⟩:=k5 rfl
   have hn:=P.name hv g1 (by omega) (by omega)
   refine ⟨[v],[⟨kd,txt,keys,ts⟩],⟨hn.1,trivial⟩,⟨hn.2,trivial⟩,⟨k6,trivial⟩,?_,fun h=>by cases h⟩
   rw [mvs,mvs,mv]
   exact ⟨k7,trivial⟩
 | mems a q f b m g x e kd ns nl ks l h0 h1 h2 h3 h4 h5 h6 h7 h8 h9 h10 h11 h12 ih ih2 =>
   intro hp g1 g2
   have hb:=h7.bound
   have hq:=h2.bound
   have hx:=h12.bound
   have e1:=h3.le
   have e2:=h6.le
   have e3:=h8.le
   have e4:=h11.le
   have hpb:=h6.prd hS (by omega) (Prd.plain hS (h3.prd hS (by omega) (gp.prd hS h0 h1 h2 hp).2) h4 (by omega))
   obtain ⟨_,v,hv⟩:=jB hS h2 (gp.prd hS h0 h1 h2 hp).1
   obtain ⟨keys,ts,_,_,_,_,k5⟩:=ih hpb (by omega) (by omega)
   obtain ⟨txt,k6,k7⟩:=k5 rfl
   obtain ⟨keys2,ts2,m1,m2,m3,m4,_⟩:=ih2 (h11.prd hS (by omega) (Prd.plain hS (h8.prd hS (by omega) (h7.prd hS hpb)) h9 (by omega))) (by omega) g2
   have hn:=P.name hv g1 (by omega) (by omega)
   refine ⟨v :: keys2,⟨kd,txt,keys,ts⟩ :: ts2,⟨hn.1,m1⟩,⟨hn.2,m2⟩,⟨k6,m3⟩,?_,fun h=>by cases h⟩
   rw [mvs,mv]
   exact ⟨k7,m4⟩
end Go.Proofs.YtpgfjbimodnkeaaGreatDoor.Scan
