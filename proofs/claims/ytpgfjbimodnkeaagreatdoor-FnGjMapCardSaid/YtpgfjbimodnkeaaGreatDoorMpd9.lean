/- FnGjMap: whatever text comes in, the law returns true and the text reads afterwards as before; with the thirteen package-level variables that its row lists as the program's own text lays them (the tied card) (part 9 of 19: lemmas for its last part) -/
import Derived.Test.YtpgfjbimodnkeaaGreatDoorMpd2
import Derived.Test.YtpgfjbimodnkeaaGreatDoorMpd6
import Derived.Test.YtpgfjbimodnkeaaGreatDoorMpd8
set_option maxHeartbeats 16000000
set_option maxRecDepth 100000
set_option linter.unusedVariables false
set_option linter.unusedSimpArgs false
namespace Go.Proofs.YtpgfjbimodnkeaaGreatDoor.Q
open Go.RowKit Go.Proofs.YtpgfjbimodnkeaaGreatDoorW.PrintWords Go.Proofs.YtpgfjbimodnkeaaGreatDoorW.PrintLast Go.Proofs.YtpgfjbimodnkeaaGreatDoorW.PrintMore
attribute [local go_sem] dm di dL dK cu bZ dD dC
mutual
def aG.l0:Nat→List (S44)→List (S32)→ByteArray→Int→Option ((List (S44)) × (List (S32)) × Bool × ByteArray × Int)
 | 0,_,_,_,_=>none
 | k+1,x5,x6,x1000,x1001=>(bV.f x1000 x1001).bind fun bt171=>(if bt171.1=34 then ((aV.f k bt171.2.1 bt171.2.2).bind fun bt174=>(aG.j1 k x5 x6 x1001 (!bt174.1) bt174.2.1 bt174.2.2)) else (aG.j1 k x5 x6 x1001 true bt171.2.1 bt171.2.2))
def aG.j1:Nat→List (S44)→List (S32)→Int→Bool→ByteArray→Int→Option ((List (S44)) × (List (S32)) × Bool × ByteArray × Int)
 | 0,_,_,_,_,_,_=>none
 | k+1,x5,x6,x7,x32,x1000,x1001=>if x32=true then (some (([]:List (S44)),([]:List (S32)),false,x1000,x1001)) else (if x5.length < 8796093022208 then ((some (x5 ++ [(⟨x7,x1001⟩:S44)]:List (S44))).bind fun y177=>((bg.f k x1000 x1001).bind fun bt180=>((bP.f bt180.1 bt180.2 58).bind fun bt182=>(if bt182.1=true then ((bg.f k bt182.2.1 bt182.2.2).bind fun bt185=>((aK.f k bt185.1 bt185.2).bind fun bt187=>(if bt187.2.2.2.2.2.1=true then (if x6.length < 1954687338268 then ((some (x6 ++ [(⟨bt187.1,bt187.2.1,bt187.2.2.1,bt187.2.2.2.1,bt187.2.2.2.2.1⟩:S32)]:List (S32))).bind fun y200=>((bg.f k bt187.2.2.2.2.2.2.1 bt187.2.2.2.2.2.2.2).bind fun bt203=>((bP.f bt203.1 bt203.2 125).bind fun bt205=>(if bt205.1=true then (some (y177,y200,true,bt205.2.1,bt205.2.2)) else ((bP.f bt205.2.1 bt205.2.2 44).bind fun bt208=>(if bt208.1=true then ((bg.f k bt208.2.1 bt208.2.2).bind fun bt211=>(aG.l0 k y177 y200 bt211.1 bt211.2)) else (some (([]:List (S44)),([]:List (S32)),false,bt208.2.1,bt208.2.2)))))))) else (none)) else (some (([]:List (S44)),([]:List (S32)),false,bt187.2.2.2.2.2.2.1,bt187.2.2.2.2.2.2.2))))) else (some (([]:List (S44)),([]:List (S32)),false,bt182.2.1,bt182.2.2)))))) else (none))
def aG.f:Nat→ByteArray→Int→Option ((List (S44)) × (List (S32)) × Bool × ByteArray × Int)
 | 0,_,_=>none
 | k+1,s0_0,s0_1=>(bg.f k s0_0 (wrap64 (s0_1+1))).bind fun bt166=>((bP.f bt166.1 bt166.2 125).bind fun bt168=>(if bt168.1=true then (some (([]:List (S44)),([]:List (S32)),true,bt168.2.1,bt168.2.2)) else (aG.l0 k ([]:List (S44)) ([]:List (S32)) bt168.2.1 bt168.2.2)))
def bC.l0:Nat→List (S32)→ByteArray→Int→Option ((List (S32)) × Bool × ByteArray × Int)
 | 0,_,_,_=>none
 | k+1,x4,x1000,x1001=>(aK.f k x1000 x1001).bind fun bt218=>(if bt218.2.2.2.2.2.1=true then (if x4.length < 1954687338268 then ((some (x4 ++ [(⟨bt218.1,bt218.2.1,bt218.2.2.1,bt218.2.2.2.1,bt218.2.2.2.2.1⟩:S32)]:List (S32))).bind fun y231=>((bg.f k bt218.2.2.2.2.2.2.1 bt218.2.2.2.2.2.2.2).bind fun bt234=>((bP.f bt234.1 bt234.2 93).bind fun bt236=>(if bt236.1=true then (some (y231,true,bt236.2.1,bt236.2.2)) else ((bP.f bt236.2.1 bt236.2.2 44).bind fun bt239=>(if bt239.1=true then ((bg.f k bt239.2.1 bt239.2.2).bind fun bt242=>(bC.l0 k y231 bt242.1 bt242.2)) else (some (([]:List (S32)),false,bt239.2.1,bt239.2.2)))))))) else (none)) else (some (([]:List (S32)),false,bt218.2.2.2.2.2.2.1,bt218.2.2.2.2.2.2.2)))
def bC.f:Nat→ByteArray→Int→Option ((List (S32)) × Bool × ByteArray × Int)
 | 0,_,_=>none
 | k+1,s0_0,s0_1=>(bg.f k s0_0 (wrap64 (s0_1+1))).bind fun bt213=>((bP.f bt213.1 bt213.2 93).bind fun bt215=>(if bt215.1=true then (some (([]:List (S32)),true,bt215.2.1,bt215.2.2)) else (bC.l0 k ([]:List (S32)) bt215.2.1 bt215.2.2)))
def aK.j0:Nat→Bool→Bool→ByteArray→Int→Int→Int→Int→Option (Int × Int × Int × (List (S44)) × (List (S32)) × Bool × ByteArray × Int)
 | 0,_,_,_,_,_,_,_=>none
 | k+1,x5,x42,x1000,x1001,x246000,x246001,x246002=>if x42=true then ((aC.f k x1000 x1001).bind fun bt267=>(some (3,x246001,bt267.2.2,([]:List (S44)),([]:List (S32)),bt267.1,bt267.2.1,bt267.2.2))) else ((dU.f x1000 x1001 (⟨#[110,117,108,108]⟩:ByteArray)).bind fun bt270=>(if bt270.1=true then (some (0,x246001,bt270.2.2,([]:List (S44)),([]:List (S32)),x5,bt270.2.1,bt270.2.2)) else ((dU.f bt270.2.1 bt270.2.2 (⟨#[102,97,108,115,101]⟩:ByteArray)).bind fun bt273=>(if bt273.1=true then (some (1,x246001,bt273.2.2,([]:List (S44)),([]:List (S32)),x5,bt273.2.1,bt273.2.2)) else ((dU.f bt273.2.1 bt273.2.2 (⟨#[116,114,117,101]⟩:ByteArray)).bind fun bt276=>(if bt276.1=true then (some (2,x246001,bt276.2.2,([]:List (S44)),([]:List (S32)),x5,bt276.2.1,bt276.2.2)) else (some (x246000,x246001,bt276.2.2,([]:List (S44)),([]:List (S32)),false,bt276.2.1,bt276.2.2))))))))
def aK.f:Nat→ByteArray→Int→Option (Int × Int × Int × (List (S44)) × (List (S32)) × Bool × ByteArray × Int)
 | 0,_,_=>none
 | k+1,s0_0,s0_1=>(bV.f s0_0 s0_1).bind fun bt246=>(if bt246.1=123 then ((aG.f k bt246.2.1 bt246.2.2).bind fun bt249=>(some (6,s0_1,bt249.2.2.2.2,bt249.1,bt249.2.1,bt249.2.2.1,bt249.2.2.2.1,bt249.2.2.2.2))) else (if bt246.1=91 then ((bC.f k bt246.2.1 bt246.2.2).bind fun bt258=>(some (5,s0_1,bt258.2.2.2,([]:List (S44)),bt258.1,bt258.2.1,bt258.2.2.1,bt258.2.2.2))) else (if bt246.1=34 then ((aV.f k bt246.2.1 bt246.2.2).bind fun bt264=>(some (4,s0_1,bt264.2.2,([]:List (S44)),([]:List (S32)),bt264.1,bt264.2.1,bt264.2.2))) else (if bt246.1=45 then (aK.j0 k true true bt246.2.1 bt246.2.2 0 s0_1 0) else (if 48≤bt246.1 then (aK.j0 k true (decide (bt246.1≤57)) bt246.2.1 bt246.2.2 0 s0_1 0) else (aK.j0 k true false bt246.2.1 bt246.2.2 0 s0_1 0))))))
end
structure Ms (w0 w:World) (g:Nat) (v5 v6:Value) (xs:List S44) (ys:List S32) (s:ByteArray) (i:Int) (W:World):Prop where
 r5:Kd.R k44 44 W w.heap.size (fun _=>True) v5 xs
 r6:Kd.R k32 32 W w.heap.size (fun k=>some k≠v5.ownBlock) v6 ys
 hI:au w0 W g s i
 hB:Below w0.heap.size w0 W
 hK:aQ w W g none
 lo:w0.heap.size≤w.heap.size
section
variable {w0 w W W':World} {g:Nat} {v5 v6:Value} {xs:List S44} {ys:List S32} {s s':ByteArray} {i i':Int}
theorem Ms.start (hI:au w0 w g s i) (hB:Below w0.heap.size w0 w):Ms w0 w g (.slice none 0 0) (.slice none 0 0) [] [] s i w:=⟨Kd.iZ _ _ _ _ _,Kd.iZ _ _ _ _ _,hI,hB,aQ.refl _ _ _,hB.size⟩
theorem Ms.went (h:Ms w0 w g v5 v6 xs ys s i W) (h1:au w0 W' g s' i') (h2:Below w0.heap.size w0 W') (h3:aQ W W' g none):Ms w0 w g v5 v6 xs ys s' i' W' :=
 ⟨Kd.dJ (Kd.oW (au.apart h.hI h.r5 (by decide)) h3 (fun _ h=>h.2)) (fun _ h=>h.1),Kd.dJ (Kd.oW (au.apart h.hI h.r6 (by decide)) h3 (fun _ h=>h.2)) (fun _ h=>h.1),h1,h2,aQ.trans h.hK h3 (.inl rfl),h.lo⟩
theorem Ms.size (h:Ms w0 w g v5 v6 xs ys s i W):w.heap.size≤W.heap.size:=xY (g:=g) (row:=none) h.hK
theorem Ms.below (h:Ms w0 w g v5 v6 xs ys s i W) (hb:Below W.heap.size W W'):Ms w0 w g v5 v6 xs ys s i W':=h.went (h.hI.below hb) (lS h.hB (Nat.le_trans h.lo h.size) hb) (aQ.of_below hb g none)
theorem Ms.alloc (h:Ms w0 w g v5 v6 xs ys s i W) (o:Obj):Ms w0 w g v5 v6 xs ys s i (W.alloc o):=h.below (ah (Below.refl _ _) o)
theorem Ms.set1 (h:Ms w0 w g v5 v6 xs ys s i W) (j:Int):Ms w0 w g v5 v6 xs ys s j (W.setCell ⟨g,1,none⟩ (.int .i64 j)):=h.went (h.hI.eu j) (aA h.hB h.hI.ge) ((aQ.refl W g none).gq 1 _)
theorem Ms.EF (h:Ms w0 w g v5 v6 xs ys s i W) {v:Value} {xs':List S44} (ho:Kd.R k44 44 W' w.heap.size (fun _=>True) v xs') (hb:Below w.heap.size W W') (hg:W.grownBy W' v5.ownBlock) (hat:v.ownBlock=v5.ownBlock∨∃ b,v.ownBlock=some b∧W.heap.size≤b):Ms w0 w g v v6 xs' ys s i W' :=
 ⟨ho,Kd.dJ (Kd.mG (ok:=fun _=>True) (Kd.dJ h.r6 (fun _ hk=>⟨trivial,hk⟩)) hg hat) (fun _ hk=>hk.2),h.hI.grown hg (h.hI.own_ne h.r5 (by decide)),lS h.hB h.lo hb,h.hK.trans (aQ.jO hg g) (Kd.xB h.r5),h.lo⟩
theorem Ms.D9 (h:Ms w0 w g v5 v6 xs ys s i W) {v:Value} {ys':List S32} (ho:Kd.R k32 32 W' w.heap.size (fun k=>some k≠v5.ownBlock) v ys') (hb:Below w.heap.size W W') (hg:W.grownBy W' v6.ownBlock):Ms w0 w g v5 v xs ys' s i W' :=
 ⟨Kd.xI h.r5 (Kd.wR h.r6) (by decide) hg,ho,h.hI.grown hg (h.hI.own_ne h.r6 (by decide)),lS h.hB h.lo hb,h.hK.trans (aQ.jO hg g) (Kd.xB h.r6),h.lo⟩
theorem Ms.blanks (h:Ms w0 w g v5 v6 xs ys s i W) {k:Nat} (A:bg.f k s i=some (s',i')):Calls Tryz.prog 29 #[.pointer (some ⟨g,0,none⟩)] W fun e w'=>e = .returned (.tuple #[])∧Ms w0 w g v5 v6 xs ys s' i' w' :=
 (bg.calls k g s i s' i' w0 W h.hI h.hB A).mono fun e w' ⟨h1,h2,h3,h4⟩=>⟨h1,h.went h2 h3 h4⟩
theorem Ms.take (h:Ms w0 w g v5 v6 xs ys s i W) {c:Int} {b:Bool} (A:bP.f s i c=some (b,s',i')):Calls Tryz.prog 77 #[.pointer (some ⟨g,0,none⟩),.int .u8 c] W fun e w'=>e = .returned (.bool b)∧Ms w0 w g v5 v6 xs ys s' i' w' :=
 (bP.calls g s i c b s' i' w0 W h.hI h.hB A).mono fun e w' ⟨h1,h2,h3,h4⟩=>⟨h1,h.went h2 h3 h4⟩
theorem Ms.here (h:Ms w0 w g v5 v6 xs ys s i W) {c:Int} (A:bV.f s i=some (c,s',i')):Calls Tryz.prog 53 #[.pointer (some ⟨g,0,none⟩)] W fun e w'=>e = .returned (.int .u8 c)∧Ms w0 w g v5 v6 xs ys s' i' w' :=
 (bV.calls g s i c s' i' w0 W h.hI h.hB A).mono fun e w' ⟨h1,h2,h3,h4⟩=>⟨h1,h.went h2 h3 h4⟩
theorem Ms.quoted (h:Ms w0 w g v5 v6 xs ys s i W) {k:Nat} {b:Bool} (A:aV.f k s i=some (b,s',i')):Calls Tryz.prog 56 #[.pointer (some ⟨g,0,none⟩)] W fun e w'=>e = .returned (.bool b)∧Ms w0 w g v5 v6 xs ys s' i' w' :=
 (aV.calls k g s i b s' i' w0 W h.hI h.hB A).mono fun e w' ⟨h1,h2,h3,h4⟩=>⟨h1,h.went h2 h3 h4⟩
end
def CM (k:Nat):Prop:=∀ (g:Nat) (s:ByteArray) (i:Int) (r1:List S44) (r2:List S32) (r3:Bool) (r4:ByteArray) (r5:Int) (w0 w:World) (hI:au w0 w g s i) (hB:Below w0.heap.size w0 w) (h:aG.f k s i=some (r1,r2,r3,r4,r5)),
 Calls Tryz.prog 54 #[.pointer (some ⟨g,0,none⟩)] w fun e w'=>∃ v0_ v1_:Value,e = .returned (.tuple #[v0_,v1_,.bool r3])∧Kd.R k44 44 w' w.heap.size (fun _=>True) v0_ r1∧Kd.R k32 32 w' w.heap.size (fun k_=>some k_≠(v0_:Value).ownBlock) v1_ r2∧au w0 w' g r4 r5∧Below w0.heap.size w0 w'∧aQ w w' g none
def CE (k:Nat):Prop:=∀ (g:Nat) (s:ByteArray) (i:Int) (r1:List S32) (r2:Bool) (r3:ByteArray) (r4:Int) (w0 w:World) (hI:au w0 w g s i) (hB:Below w0.heap.size w0 w) (h:bC.f k s i=some (r1,r2,r3,r4)),
 Calls Tryz.prog 55 #[.pointer (some ⟨g,0,none⟩)] w fun e w'=>∃ v0_:Value,e = .returned (.tuple #[v0_,.bool r2])∧Kd.R k32 32 w' w.heap.size (fun _=>True) v0_ r1∧au w0 w' g r3 r4∧Below w0.heap.size w0 w'∧aQ w w' g none
def CV (k:Nat):Prop:=∀ (g:Nat) (s:ByteArray) (i:Int) (r1:Int) (r2:Int) (r3:Int) (r4:List S44) (r5:List S32) (r6:Bool) (r7:ByteArray) (r8:Int) (w0 w:World) (hI:au w0 w g s i) (hB:Below w0.heap.size w0 w) (h:aK.f k s i=some (r1,r2,r3,r4,r5,r6,r7,r8)),
 Calls Tryz.prog 30 #[.pointer (some ⟨g,0,none⟩)] w fun e w'=>∃ v3_ v4_:Value,e = .returned (.tuple #[.agg #[.int .i64 r1,.int .i64 r2,.int .i64 r3,v3_,v4_],.bool r6])∧Kd.R k44 44 w' w.heap.size (fun _=>True) v3_ r4∧Kd.R k32 32 w' w.heap.size (fun k_=>some k_≠(v3_:Value).ownBlock) v4_ r5∧au w0 w' g r7 r8∧Below w0.heap.size w0 w'∧aQ w w' g none
structure Vs (w0 w:World) (g:Nat) (v5 v6:Value) (xs:List S44) (ys:List S32) (s:ByteArray) (i:Int) (v3 v4:Value) (ns:List S44) (ks:List S32) (W:World):Prop extends Ms w0 w g v5 v6 xs ys s i W where
 r3:Kd.R k44 44 W w.heap.size (fun k=>some k≠v5.ownBlock∧some k≠v6.ownBlock) v3 ns
 r4:Kd.R k32 32 W w.heap.size (fun k=>some k≠v5.ownBlock∧some k≠v6.ownBlock) v4 ks
theorem Vs.below {w0 w W W':World} {g:Nat} {v5 v6 v3 v4:Value} {xs ns:List S44} {ys ks:List S32} {s:ByteArray} {i:Int} (h:Vs w0 w g v5 v6 xs ys s i v3 v4 ns ks W) (hb:Below W.heap.size W W'):Vs w0 w g v5 v6 xs ys s i v3 v4 ns ks W' :=
 ⟨h.toMs.below hb,Kd.jv h.r3 hb,Kd.jv h.r4 hb⟩
theorem Ms.value {w0 w W:World} {g:Nat} {v5 v6:Value} {xs ns:List S44} {ys ks:List S32} {s s':ByteArray} {i i' kd b e:Int} {ok:Bool} {k:Nat} (h:Ms w0 w g v5 v6 xs ys s i W) (hV:CV k) (A:aK.f k s i=some (kd,b,e,ns,ks,ok,s',i')) :
 Calls Tryz.prog 30 #[.pointer (some ⟨g,0,none⟩)] W fun r w'=>∃ v3 v4:Value,r = .returned (.tuple #[.agg #[.int .i64 kd,.int .i64 b,.int .i64 e,v3,v4],.bool ok])∧Vs w0 w g v5 v6 xs ys s' i' v3 v4 ns ks w' :=
 (hV g s i kd b e ns ks ok s' i' w0 W h.hI h.hB A).mono fun r w' ⟨v3,v4,h1,h2,h3,h4,h5,h6⟩=>⟨v3,v4,h1,h.went h4 h5 h6,
   Kd.dJ (Kd.eP (Kd.ku (Kd.ku h2 (Kd.lF h.r5)) (Kd.lF h.r6)) h.size) (fun _ hk=>⟨hk.1.2,hk.2⟩),Kd.dJ (Kd.eP (Kd.ku (Kd.ku h3 (Kd.lF h.r5)) (Kd.lF h.r6)) h.size) (fun _ hk=>⟨hk.1.2,hk.2⟩)⟩
theorem lG (k:Nat) (ihV:∀ j,j < k→CV j):CM k:=by
 intro g s i r1 r2 r3 r4 r5 w0 w hI hB h
 cases k with
 | zero=>exact absurd h (by simp [aG.f])
 | succ k =>
 simp only [aG.f] at h
 obtain ⟨⟨s1,i1⟩,A1,h⟩:=Option.bind_eq_some_iff.mp h
 obtain ⟨⟨b2,s2,i2⟩,A2,h⟩:=Option.bind_eq_some_iff.mp h
 dsimp only at h
 have c0:=dQ hI.1
 have c1:=dF hI.1
 have f1:=ax hI.1 1
 have M0:=ae.mk (Ms.start hI hB)
 replace A1:=ae.mk A1
 replace A2:=ae.mk A2
 replace h:=ae.mk h
 clear hI hB
 go_enter Tryz.func54,Tryz.ntmps54
 go_wp2_with (fail)
 refine (Ms.blanks (M0.out.set1 _) A1.out).mono ?_
 rintro e w6 ⟨rfl,M1⟩
 replace M1:=ae.mk M1
 clear M0
 go_wp2_with (fail)
 refine (M1.out.take A2.out).mono ?_
 rintro e w6 ⟨rfl,M2⟩
 replace M2:=ae.mk M2
 clear M1
 cases b2 with
 | true =>
   have h2:=h.out
   rw [if_pos rfl] at h2
   simp only [Option.some.injEq,Prod.mk.injEq] at h2
   obtain ⟨rfl,rfl,rfl,rfl,rfl⟩:=h2
   go_wp2_with (fail)
   go_ret3
   exact ⟨_,_,rfl,Kd.iZ _ _ _ _ _,Kd.iZ _ _ _ _ _,M2.out.hI,M2.out.hB,M2.out.hK⟩
 | false =>
   have h2:=h.out
   rw [if_neg (by decide)] at h2
   replace h2:=ae.mk h2
   clear h
   go_wp2_with (fail)
   go_loopg [5,6] k (fun kq v5 v6 w'=>∃ (xs:List S44) (ys:List S32) (s3:ByteArray) (i3:Int),ae (aG.l0 kq xs ys s3 i3=some (r1,r2,r3,r4,r5))∧ae (kq≤k)∧ae (Ms w0 w g v5 v6 xs ys s3 i3 w'))
   case atStart=>exact ⟨[],[],s2,i2,h2,⟨Nat.le_refl _⟩,M2⟩
   case round =>
    clear h2 M2 c0 c1 f1 A1 A2
    obtain ⟨xs,ys,s3,i3,HA,HK1,M2⟩:=hrel
    cases gk with
    | zero=>exact absurd HA.out (by simp [aG.l0])
    | succ k1 =>
    have h0:=HA.out
    clear HA
    simp only [aG.l0] at h0
    obtain ⟨⟨c,s4,i4⟩,A3,h1⟩:=Option.bind_eq_some_iff.mp h0
    dsimp only at h1
    clear h0
    have c1:=dF M2.out.hI.1
    have nil3:∀ {W:World} {v5 v6:Value} {xs:List S44} {ys:List S32} {s9:ByteArray} {i9:Int},Ms w0 w g v5 v6 xs ys s9 i9 W→(([]:List S44),([]:List S32),false,s9,i9)=(r1,r2,r3,r4,r5)→∃ v0_ v1_:Value,Ending.returned (.tuple #[.slice none 0 0,.slice none 0 0,.bool false]) = .returned (.tuple #[v0_,v1_,.bool r3])∧Kd.R k44 44 W w.heap.size (fun _=>True) v0_ r1∧Kd.R k32 32 W w.heap.size (fun k_=>some k_≠(v0_:Value).ownBlock) v1_ r2∧au w0 W g r4 r5∧Below w0.heap.size w0 W∧aQ w W g none:=by
     intro W v5 v6 xs ys s9 i9 hM he
     simp only [Prod.mk.injEq] at he
     obtain ⟨rfl,rfl,rfl,rfl,rfl⟩:=he
     exact ⟨_,_,rfl,Kd.iZ _ _ _ _ _,Kd.iZ _ _ _ _ _,hM.hI,hM.hB,hM.hK⟩
    replace A3:=ae.mk A3
    by_cases hc:c=34
    ·rw [if_pos hc] at h1
     obtain ⟨⟨bq,s5,i5⟩,A4,h2⟩:=Option.bind_eq_some_iff.mp h1
     dsimp only at h2
     clear h1
     have e1:(c != 34)=false:=bne_eq_false_iff_eq.mpr hc
     replace A4:=ae.mk A4
     clear hc
     cases k1 with
     | zero=>exact absurd h2 (by simp [aG.j1])
     | succ k1 =>
     simp only [aG.j1] at h2
     replace h2:=ae.mk h2
     go_wp2_with (fail)
     refine (M2.out.here A3.out).mono ?_
     rintro e w6 ⟨rfl,M3⟩
     replace M3:=ae.mk M3
     go_wp2_with (fail)
     refine (M3.out.quoted A4.out).mono ?_
     rintro e w7 ⟨rfl,M4⟩
     replace M4:=ae.mk M4
     clear M2 M3 c1
     have c1:=dF M4.out.hI.1
     cases bq with
     | false =>
       go_wp2_with (fail)
       go_ret3
       exact nil3 M4.out (by simpa using h2.out)
     | true =>
       have h3:=h2.out
       rw [if_neg (by decide)] at h3
       by_cases hl:xs.length < 8796093022208
       case neg=>rw [if_neg hl] at h3;cases h3
       rw [if_pos hl,Option.bind_some] at h3
       obtain ⟨⟨s6,i6⟩,A5,h4⟩:=Option.bind_eq_some_iff.mp h3
       obtain ⟨⟨b7,s7,i7⟩,A6,h5⟩:=Option.bind_eq_some_iff.mp h4
       dsimp only at h5
       clear h2 h3 h4
       replace A5:=ae.mk A5
       replace A6:=ae.mk A6
       replace h5:=ae.mk h5
       replace hl:=ae.mk hl
       go_wp2_with (first | ((with_reducible refine dH (b:=.append) (xs:=#[.tmp 33,.tmp 40]) rfl ?_);at_builtin;refine Kd.lq k44 w.heap.size rfl (.tmp 33) (.tmp 40) 29 44 (.agg #[(.int .i64 0),(.int .i64 0)]) 16 rfl Tryz.underlying29 DY rfl (by decide) (by omega) u5 xs (⟨i3,i5⟩:S44) [.int .i64 i3,.int .i64 i5] (fun _=>True) (fun _=>False) rfl rfl (CP _ _ _ (⟨i3,i5⟩:S44)) (fun _ hk=>hk.elim) (fun _ _=>trivial) ?aO (Below.refl _ _) ?aS ?aL ?_;(case aO=>exact M4.out.r5);(case aS=>exact M4.out.size);(case aL=>have:=hl.out;omega);intro v1 w8 ho hb hg hat;have M5:=ae.mk (M4.out.EF ho hb hg hat);clear ho hb hg hat M4))
       refine (M5.out.blanks A5.out).mono ?_
       rintro e w9 ⟨rfl,M6⟩
       replace M6:=ae.mk M6
       clear M5 c1
       go_wp2_with (fail)
       refine (M6.out.take A6.out).mono ?_
       rintro e w10 ⟨rfl,M7⟩
       replace M7:=ae.mk M7
       clear M6
       cases b7 with
       | false =>
         go_wp2_with (fail)
         go_ret3
         exact nil3 M7.out (by simpa using h5.out)
       | true =>
         have h6:=h5.out
         rw [if_pos rfl] at h6
         obtain ⟨⟨s8,i8⟩,A7,h7⟩:=Option.bind_eq_some_iff.mp h6
         obtain ⟨⟨kd,b,en,ns,ks,ok,s9,i9⟩,A8,h8⟩:=Option.bind_eq_some_iff.mp h7
         dsimp only at h8
         clear h5 h6 h7
         replace A7:=ae.mk A7
         replace A8:=ae.mk A8
         replace h8:=ae.mk h8
         go_wp2_with (fail)
         refine (M7.out.blanks A7.out).mono ?_
         rintro e w11 ⟨rfl,M8⟩
         replace M8:=ae.mk M8
         clear M7
         go_wp2_with (fail)
         refine (M8.out.value (ihV k1 (by have:=HK1.out;omega)) A8.out).mono ?_
         rintro e w12 ⟨v3,v4,rfl,V⟩
         obtain ⟨a3,n3,c3,rfl⟩:=Kd.dX V.r3
         obtain ⟨a4,n4,c4,rfl⟩:=Kd.dX V.r4
         replace V:=ae.mk V
         clear M8
         cases ok with
         | false =>
           go_wp2_with (fail)
           go_ret3
           exact nil3 (V.out.toMs.alloc _) (by simpa using h8.out)
         | true =>
           have h9:=h8.out
           rw [if_pos rfl] at h9
           by_cases hl2:ys.length < 1954687338268
           case neg=>rw [if_neg hl2] at h9;cases h9
           rw [if_pos hl2,Option.bind_some] at h9
           obtain ⟨⟨s10,i10⟩,A9,h10⟩:=Option.bind_eq_some_iff.mp h9
           obtain ⟨⟨b11,s11,i11⟩,A10,h11⟩:=Option.bind_eq_some_iff.mp h10
           dsimp only at h11
           clear h8 h9 h10
           replace A9:=ae.mk A9
           replace A10:=ae.mk A10
           replace h11:=ae.mk h11
           replace hl2:=ae.mk hl2
           have V2:=ae.mk (V.out.below (ah (Below.refl _ _) (.cells #[.int .i64 kd,.int .i64 b,.int .i64 en,.slice a3 ns.length n3,.slice a4 ks.length n4] 32)))
           go_wp2_with (first | ((with_reducible refine dH (b:=.append) (xs:=#[.tmp 56,.tmp 58]) rfl ?_);at_builtin;refine Kd.lq k32 w.heap.size rfl (.tmp 56) (.tmp 58) 30 32 (.agg #[(.int .i64 0),(.int .i64 0),(.int .i64 0),(.slice none 0 0),(.slice none 0 0)]) 72 rfl Tryz.underlying30 AC rfl (by decide) (by omega) u6 ys (⟨kd,b,en,ns,ks⟩:S32) [.int .i64 kd,.int .i64 b,.int .i64 en,.slice a3 ns.length n3,.slice a4 ks.length n4] (fun k_=>some k_≠v1.ownBlock) (fun k_=>some k_≠v1.ownBlock∧some k_≠u6.ownBlock) rfl ?aX (xA _ _ _ (⟨kd,b,en,ns,ks⟩:S32) V2.out.r3 V2.out.r4) (fun _ hk=>hk) (Kd.fresh' (Kd.lF V2.out.r5)) V2.out.r6 (Below.refl _ _) V2.out.toMs.size ?aL ?_;(case aX=>simp [Act.eval]);(case aL=>have:=hl2.out;omega);intro v2 w13 ho hb hg hat;have M9:=ae.mk (V2.out.toMs.D9 ho hb hg);clear ho hb hg hat V V2))
           refine (M9.out.blanks A9.out).mono ?_
           rintro e w14 ⟨rfl,M10⟩
           replace M10:=ae.mk M10
           clear M9
           go_wp2_with (fail)
           refine (M10.out.take A10.out).mono ?_
           rintro e w15 ⟨rfl,M11⟩
           replace M11:=ae.mk M11
           clear M10
           cases b11 with
           | true =>
             have h12:=h11.out
             rw [if_pos rfl] at h12
             simp only [Option.some.injEq,Prod.mk.injEq] at h12
             obtain ⟨rfl,rfl,rfl,rfl,rfl⟩:=h12
             go_wp2_with (fail)
             go_ret3
             exact ⟨_,_,rfl,M11.out.r5,M11.out.r6,M11.out.hI,M11.out.hB,M11.out.hK⟩
           | false =>
             have h12:=h11.out
             rw [if_neg (by decide)] at h12
             obtain ⟨⟨b12,s12,i12⟩,A11,h13⟩:=Option.bind_eq_some_iff.mp h12
             dsimp only at h13
             clear h11 h12
             replace A11:=ae.mk A11
             replace h13:=ae.mk h13
             go_wp2_with (fail)
             refine (M11.out.take A11.out).mono ?_
             rintro e w16 ⟨rfl,M12⟩
             replace M12:=ae.mk M12
             clear M11
             cases b12 with
             | false =>
               go_wp2_with (fail)
               go_ret3
               exact nil3 M12.out (by simpa using h13.out)
             | true =>
               have h14:=h13.out
               rw [if_pos rfl] at h14
               obtain ⟨⟨s13,i13⟩,A12,h15⟩:=Option.bind_eq_some_iff.mp h14
               dsimp only at h15
               clear h13 h14
               replace A12:=ae.mk A12
               replace h15:=ae.mk h15
               go_wp2_with (fail)
               refine (M12.out.blanks A12.out).mono ?_
               rintro e w17 ⟨rfl,M13⟩
               replace M13:=ae.mk M13
               clear M12
               go_wp2_with (fail)
               go_roundg k1
               case measure=>have:=HK1.out;omega
               case rel=>exact ⟨_,_,_,_,h15,⟨by have:=HK1.out;omega⟩,M13⟩
    ·rw [if_neg hc] at h1
     have e1:(c != 34)=true:=bne_iff_ne.mpr hc
     clear hc
     cases k1 with
     | zero=>exact absurd h1 (by simp [aG.j1])
     | succ k1 =>
     simp only [aG.j1] at h1
     replace h1:=ae.mk h1
     go_wp2_with (fail)
     refine (M2.out.here A3.out).mono ?_
     rintro e w6 ⟨rfl,M3⟩
     replace M3:=ae.mk M3
     go_wp2_with (fail)
     go_ret3
     exact nil3 M3.out (by simpa using h1.out)
theorem kT (k:Nat) (ihV:∀ j,j < k→CV j):CE k:=by
 intro g s i r1 r2 r3 r4 w0 w hI hB h
 cases k with
 | zero=>exact absurd h (by simp [bC.f])
 | succ k =>
 simp only [bC.f] at h
 obtain ⟨⟨s1,i1⟩,A1,h0⟩:=Option.bind_eq_some_iff.mp h
 obtain ⟨⟨b2,s2,i2⟩,A2,h1⟩:=Option.bind_eq_some_iff.mp h0
 dsimp only at h1
 have c0:=dQ hI.1
 have c1:=dF hI.1
 have f1:=ax hI.1 1
 have M0:=ae.mk (Ms.start hI hB)
 have nil3:∀ {W:World} {v6:Value} {ys:List S32} {s9:ByteArray} {i9:Int} {b:Bool},Ms w0 w g (.slice none 0 0) v6 [] ys s9 i9 W→(([]:List S32),b,s9,i9)=(r1,r2,r3,r4)→∃ v0_:Value,Ending.returned (.tuple #[.slice none 0 0,.bool b]) = .returned (.tuple #[v0_,.bool r2])∧Kd.R k32 32 W w.heap.size (fun _=>True) v0_ r1∧au w0 W g r3 r4∧Below w0.heap.size w0 W∧aQ w W g none:=by
  intro W v6 ys s9 i9 b hM he
  simp only [Prod.mk.injEq] at he
  obtain ⟨rfl,rfl,rfl,rfl⟩:=he
  exact ⟨_,rfl,Kd.iZ _ _ _ _ _,hM.hI,hM.hB,hM.hK⟩
 replace A1:=ae.mk A1
 replace A2:=ae.mk A2
 replace h1:=ae.mk h1
 clear hI hB h h0
 go_enter Tryz.func55,Tryz.ntmps55
 go_wp2_with (fail)
 refine (Ms.blanks (M0.out.set1 _) A1.out).mono ?_
 rintro e w6 ⟨rfl,M1⟩
 replace M1:=ae.mk M1
 clear M0
 go_wp2_with (fail)
 refine (M1.out.take A2.out).mono ?_
 rintro e w6 ⟨rfl,M2⟩
 replace M2:=ae.mk M2
 clear M1
 cases b2 with
 | true =>
   go_wp2_with (fail)
   go_ret2
   exact nil3 M2.out (by simpa using h1.out)
 | false =>
   have h2:=h1.out
   rw [if_neg (by decide)] at h2
   replace h2:=ae.mk h2
   clear h1
   go_wp2_with (fail)
   go_loopg [4] k (fun kq v6 w'=>∃ (ys:List S32) (s3:ByteArray) (i3:Int),ae (bC.l0 kq ys s3 i3=some (r1,r2,r3,r4))∧ae (kq≤k)∧ae (Ms w0 w g (.slice none 0 0) v6 [] ys s3 i3 w'))
   case atStart=>exact ⟨[],s2,i2,h2,⟨Nat.le_refl _⟩,M2⟩
   case round =>
    clear h2 M2 c0 c1 f1 A1 A2
    obtain ⟨ys,s3,i3,HA,HK1,M2⟩:=hrel
    cases gk with
    | zero=>exact absurd HA.out (by simp [bC.l0])
    | succ k1 =>
    have h0:=HA.out
    clear HA
    simp only [bC.l0] at h0
    obtain ⟨⟨kd,b,en,ns,ks,ok,s9,i9⟩,A8,h8⟩:=Option.bind_eq_some_iff.mp h0
    dsimp only at h8
    clear h0
    replace A8:=ae.mk A8
    replace h8:=ae.mk h8
    go_wp2_with (fail)
    refine (M2.out.value (ihV k1 (by have:=HK1.out;omega)) A8.out).mono ?_
    rintro e w12 ⟨v3,v4,rfl,V⟩
    obtain ⟨a3,n3,rfl⟩:=Kd.dX V.r3
    obtain ⟨a4,n4,rfl⟩:=Kd.dX V.r4
    replace V:=ae.mk V
    clear M2
    cases ok with
    | false =>
      go_wp2_with (fail)
      go_ret2
      exact nil3 (V.out.toMs.alloc _) (by simpa using h8.out)
    | true =>
      have h9:=h8.out
      rw [if_pos rfl] at h9
      by_cases hl2:ys.length < 1954687338268
      case neg=>rw [if_neg hl2] at h9;cases h9
      rw [if_pos hl2,Option.bind_some] at h9
      obtain ⟨⟨s10,i10⟩,A9,h10⟩:=Option.bind_eq_some_iff.mp h9
      obtain ⟨⟨b11,s11,i11⟩,A10,h11⟩:=Option.bind_eq_some_iff.mp h10
      dsimp only at h11
      clear h8 h9 h10
      replace A9:=ae.mk A9
      replace A10:=ae.mk A10
      replace h11:=ae.mk h11
      replace hl2:=ae.mk hl2
      have V2:=ae.mk (V.out.below (ah (Below.refl _ _) (.cells #[.int .i64 kd,.int .i64 b,.int .i64 en,.slice a3 ns.length n3,.slice a4 ks.length n4] 32)))
      go_wp2_with (first | ((with_reducible refine dH (b:=.append) (xs:=#[.tmp 25,.tmp 27]) rfl ?_);at_builtin;refine Kd.lq k32 w.heap.size rfl (.tmp 25) (.tmp 27) 30 32 (.agg #[(.int .i64 0),(.int .i64 0),(.int .i64 0),(.slice none 0 0),(.slice none 0 0)]) 72 rfl Tryz.underlying30 AC rfl (by decide) (by omega) u4 ys (⟨kd,b,en,ns,ks⟩:S32) [.int .i64 kd,.int .i64 b,.int .i64 en,.slice a3 ns.length n3,.slice a4 ks.length n4] (fun k_=>some k_≠(Value.slice none 0 0).ownBlock) (fun k_=>some k_≠(Value.slice none 0 0).ownBlock∧some k_≠u4.ownBlock) rfl ?aX (xA _ _ _ (⟨kd,b,en,ns,ks⟩:S32) V2.out.r3 V2.out.r4) (fun _ hk=>hk) (Kd.fresh' (Kd.lF V2.out.r5)) V2.out.r6 (Below.refl _ _) V2.out.toMs.size ?aL ?_;(case aX=>simp [Act.eval]);(case aL=>have:=hl2.out;omega);intro v2 w13 ho hb hg hat;have M9:=ae.mk (V2.out.toMs.D9 ho hb hg);clear ho hb hg hat V V2))
      refine (M9.out.blanks A9.out).mono ?_
      rintro e w14 ⟨rfl,M10⟩
      replace M10:=ae.mk M10
      clear M9
      go_wp2_with (fail)
      refine (M10.out.take A10.out).mono ?_
      rintro e w15 ⟨rfl,M11⟩
      replace M11:=ae.mk M11
      clear M10
      cases b11 with
      | true =>
        have h12:=h11.out
        rw [if_pos rfl] at h12
        simp only [Option.some.injEq,Prod.mk.injEq] at h12
        obtain ⟨rfl,rfl,rfl,rfl⟩:=h12
        go_wp2_with (fail)
        go_ret2
        exact ⟨_,rfl,Kd.dJ M11.out.r6 (fun _ _=>trivial),M11.out.hI,M11.out.hB,M11.out.hK⟩
      | false =>
        have h12:=h11.out
        rw [if_neg (by decide)] at h12
        obtain ⟨⟨b12,s12,i12⟩,A11,h13⟩:=Option.bind_eq_some_iff.mp h12
        dsimp only at h13
        clear h11 h12
        replace A11:=ae.mk A11
        replace h13:=ae.mk h13
        go_wp2_with (fail)
        refine (M11.out.take A11.out).mono ?_
        rintro e w16 ⟨rfl,M12⟩
        replace M12:=ae.mk M12
        clear M11
        cases b12 with
        | false =>
          go_wp2_with (fail)
          go_ret2
          exact nil3 M12.out (by simpa using h13.out)
        | true =>
          have h14:=h13.out
          rw [if_pos rfl] at h14
          obtain ⟨⟨s13,i13⟩,A12,h15⟩:=Option.bind_eq_some_iff.mp h14
          dsimp only at h15
          clear h13 h14
          replace A12:=ae.mk A12
          replace h15:=ae.mk h15
          go_wp2_with (fail)
          refine (M12.out.blanks A12.out).mono ?_
          rintro e w17 ⟨rfl,M13⟩
          replace M13:=ae.mk M13
          clear M12
          go_wp2_with (fail)
          go_roundg k1
          case measure=>have:=HK1.out;omega
          case rel=>exact ⟨_,_,_,h15,⟨by have:=HK1.out;omega⟩,M13⟩
structure Ps (w0 w:World) (g:Nat) (s:ByteArray) (i kd b:Int) (v3 v4:Value) (ns:List S44) (ks:List S32) (W:World):Prop where
 b2:W.heap[w.heap.size]?=some (.cells #[.int .i64 0,.int .i64 0,.int .i64 0,.slice none 0 0,.slice none 0 0] 32 (0,0))
 b4:W.heap[w.heap.size+1]?=some (.cells #[.int .i64 kd,.int .i64 b,.int .i64 0,v3,v4] 32 (0,0))
 r3:Kd.R k44 44 W (w.heap.size+2) (fun _=>True) v3 ns
 r4:Kd.R k32 32 W (w.heap.size+2) (fun k=>some k≠v3.ownBlock) v4 ks
 hI:au w0 W g s i
 hB:Below w0.heap.size w0 W
 hK:aQ w W g none
 lo:w0.heap.size≤w.heap.size
section
variable {w0 w W W':World} {g:Nat} {v3 v4:Value} {ns:List S44} {ks:List S32} {s s':ByteArray} {i i' kd b:Int}
theorem Ps.start (hI:au w0 w g s i) (hB:Below w0.heap.size w0 w):Ps w0 w g s i 0 i (.slice none 0 0) (.slice none 0 0) [] [] ((w.alloc (.cells #[.int .i64 0,.int .i64 0,.int .i64 0,.slice none 0 0,.slice none 0 0] 32)).alloc (.cells #[.int .i64 0,.int .i64 i,.int .i64 0,.slice none 0 0,.slice none 0 0] 32)):=by
 refine ⟨aJ (fM w _) _,?_,Kd.iZ _ _ _ _ _,Kd.iZ _ _ _ _ _,(hI.alloc _).alloc _,ah (ah hB _) _,bG (bG (aQ.refl _ _ _) _) _,hB.size⟩
 have:=fM (w.alloc (.cells #[.int .i64 0,.int .i64 0,.int .i64 0,.slice none 0 0,.slice none 0 0] 32)) (.cells #[.int .i64 0,.int .i64 i,.int .i64 0,.slice none 0 0,.slice none 0 0] 32)
 simpa using this
theorem Ps.went (h:Ps w0 w g s i kd b v3 v4 ns ks W) (h1:au w0 W' g s' i') (h2:Below w0.heap.size w0 W') (h3:aQ W W' g none):Ps w0 w g s' i' kd b v3 v4 ns ks W' :=
 ⟨h3.blk h.b2 (h.hI.mf h.b2 (by decide)).symm (by simp),h3.blk h.b4 (h.hI.mf h.b4 (by decide)).symm (by simp),Kd.dJ (Kd.oW (au.apart h.hI h.r3 (by decide)) h3 (fun _ h=>h.2)) (fun _ h=>h.1),Kd.dJ (Kd.oW (au.apart h.hI h.r4 (by decide)) h3 (fun _ h=>h.2)) (fun _ h=>h.1),h1,h2,aQ.trans h.hK h3 (.inl rfl),h.lo⟩
theorem jQ {α:Type} {d:Kd α} {e base:Nat} {ok:Nat→Prop} {v:Value} {xs:List α} (h:d.R e W base ok v xs) {p:Addr} (hp:p.block < base) (u:Value):d.R e (W.setCell p u) base ok v xs:=Kd.dJ (Kd.fV (Kd.jw h) (fun k hk e=>by have:=hk.2.1;omega) u) (fun _ h=>h.1)
theorem Ps.kind (h:Ps w0 w g s i kd b v3 v4 ns ks W) (kd':Int):Ps w0 w g s i kd' b v3 v4 ns ks (W.setCell ⟨w.heap.size+1,0,none⟩ (.int .i64 kd')) :=
 ⟨dW h.b2 (by simp) _,bU h.b4 0 _ rfl,jQ h.r3 (by simp) _,jQ h.r4 (by simp) _,h.hI.far (h.hI.mf h.b4 (by decide)) _,aA h.hB (by have:=h.lo;show w0.heap.size≤w.heap.size+1;omega),jI h.hK (by simp) _,h.lo⟩
theorem Ps.Ef (h:Ps w0 w g s i kd b v3 (.slice none 0 0) ns [] W) (r4:Kd.R k32 32 W (w.heap.size+2) (fun k=>some k≠v3.ownBlock) v4 ks):Ps w0 w g s i kd b v3 v4 ns ks (W.setCell ⟨w.heap.size+1,4,none⟩ v4) :=
 ⟨dW h.b2 (by simp) _,bU h.b4 4 _ rfl,jQ h.r3 (by simp) _,jQ r4 (by simp) _,h.hI.far (h.hI.mf h.b4 (by decide)) _,aA h.hB (by have:=h.lo;show w0.heap.size≤w.heap.size+1;omega),jI h.hK (by simp) _,h.lo⟩
theorem Ps.EG (h:Ps w0 w g s i kd b (.slice none 0 0) (.slice none 0 0) [] [] W) (r3:Kd.R k44 44 W (w.heap.size+2) (fun _=>True) v3 ns):Ps w0 w g s i kd b v3 (.slice none 0 0) ns [] (W.setCell ⟨w.heap.size+1,3,none⟩ v3) :=
 ⟨dW h.b2 (by simp) _,bU h.b4 3 _ rfl,jQ r3 (by simp) _,Kd.iZ _ _ _ _ _,h.hI.far (h.hI.mf h.b4 (by decide)) _,aA h.hB (by have:=h.lo;show w0.heap.size≤w.heap.size+1;omega),jI h.hK (by simp) _,h.lo⟩
theorem Ps.here (h:Ps w0 w g s i kd b v3 v4 ns ks W) {c:Int} (A:bV.f s i=some (c,s',i')):Calls Tryz.prog 53 #[.pointer (some ⟨g,0,none⟩)] W fun e w'=>e = .returned (.int .u8 c)∧Ps w0 w g s' i' kd b v3 v4 ns ks w' :=
 (bV.calls g s i c s' i' w0 W h.hI h.hB A).mono fun e w' ⟨h1,h2,h3,h4⟩=>⟨h1,h.went h2 h3 h4⟩
theorem Ps.quoted (h:Ps w0 w g s i kd b v3 v4 ns ks W) {k:Nat} {o:Bool} (A:aV.f k s i=some (o,s',i')):Calls Tryz.prog 56 #[.pointer (some ⟨g,0,none⟩)] W fun e w'=>e = .returned (.bool o)∧Ps w0 w g s' i' kd b v3 v4 ns ks w' :=
 (aV.calls k g s i o s' i' w0 W h.hI h.hB A).mono fun e w' ⟨h1,h2,h3,h4⟩=>⟨h1,h.went h2 h3 h4⟩
theorem Ps.number (h:Ps w0 w g s i kd b v3 v4 ns ks W) {k:Nat} {o:Bool} (A:aC.f k s i=some (o,s',i')):Calls Tryz.prog 57 #[.pointer (some ⟨g,0,none⟩)] W fun e w'=>e = .returned (.bool o)∧Ps w0 w g s' i' kd b v3 v4 ns ks w' :=
 (aC.calls k g s i o s' i' w0 W h.hI h.hB A).mono fun e w' ⟨h1,h2,h3,h4⟩=>⟨h1,h.went h2 h3 h4⟩
theorem Ps.word (h:Ps w0 w g s i kd b v3 v4 ns ks W) {t:ByteArray} {o:Bool} (A:dU.f s i t=some (o,s',i')):Calls Tryz.prog 58 #[.pointer (some ⟨g,0,none⟩),.string t] W fun e w'=>e = .returned (.bool o)∧Ps w0 w g s' i' kd b v3 v4 ns ks w' :=
 (dU.calls g s i t o s' i' w0 W h.hI h.hB A).mono fun e w' ⟨h1,h2,h3,h4⟩=>⟨h1,h.went h2 h3 h4⟩
theorem Ps.members (h:Ps w0 w g s i kd b (.slice none 0 0) (.slice none 0 0) [] [] W) {k:Nat} {o:Bool} (hM:CM k) (A:aG.f k s i=some (ns,ks,o,s',i')):Calls Tryz.prog 54 #[.pointer (some ⟨g,0,none⟩)] W fun e w'=>∃ v3 v4:Value,e = .returned (.tuple #[v3,v4,.bool o])∧Ps w0 w g s' i' kd b v3 v4 ns ks ((w'.setCell ⟨w.heap.size+1,3,none⟩ v3).setCell ⟨w.heap.size+1,4,none⟩ v4)∧Ps w0 w g s' i' kd b (.slice none 0 0) (.slice none 0 0) [] [] w'∧(∃ a c,v3 = .slice a ns.length c)∧∃ a c,v4 = .slice a ks.length c :=
 (hM g s i ns ks o s' i' w0 W h.hI h.hB A).mono fun e w' ⟨v3,v4,h1,h2,h3,h4,h5,h6⟩=>by
   have hb:=jy h.b4
   have h7:=h.went h4 h5 h6
   refine ⟨v3,v4,h1,?_,h7,Kd.dX h2,Kd.dX h3⟩
   exact (h7.EG (Kd.eP h2 hb)).Ef (jQ (Kd.eP h3 hb) (by simp) _)
theorem Ps.elements (h:Ps w0 w g s i kd b (.slice none 0 0) (.slice none 0 0) [] [] W) {k:Nat} {o:Bool} (hM:CE k) (A:bC.f k s i=some (ks,o,s',i')):Calls Tryz.prog 55 #[.pointer (some ⟨g,0,none⟩)] W fun e w'=>∃ v4:Value,e = .returned (.tuple #[v4,.bool o])∧Ps w0 w g s' i' kd b (.slice none 0 0) v4 [] ks (w'.setCell ⟨w.heap.size+1,4,none⟩ v4)∧Ps w0 w g s' i' kd b (.slice none 0 0) (.slice none 0 0) [] [] w'∧∃ a c,v4 = .slice a ks.length c :=
 (hM g s i ks o s' i' w0 W h.hI h.hB A).mono fun e w' ⟨v4,h1,h3,h4,h5,h6⟩=>by
   have hb:=jy h.b4
   have h7:=h.went h4 h5 h6
   refine ⟨v4,h1,?_,h7,Kd.dX h3⟩
   exact h7.Ef (Kd.dJ (Kd.eP h3 hb) (fun _ _=>by simp [Value.ownBlock]))
end
structure Pe (w0 w:World) (g:Nat) (s:ByteArray) (i kd b e:Int) (v3 v4:Value) (ns:List S44) (ks:List S32) (W:World):Prop where
 b2:W.heap[w.heap.size]?=some (.cells #[.int .i64 kd,.int .i64 b,.int .i64 e,v3,v4] 32 (0,0))
 r3:Kd.R k44 44 W w.heap.size (fun _=>True) v3 ns
 r4:Kd.R k32 32 W w.heap.size (fun k=>some k≠v3.ownBlock) v4 ks
 hI:au w0 W g s i
 hB:Below w0.heap.size w0 W
 hK:aQ w W g none
section
variable {w0 w W:World} {g:Nat} {v3 v4:Value} {ns:List S44} {ks:List S32} {s:ByteArray} {i kd b:Int}
theorem Ps.last (h:Ps w0 w g s i kd b v3 v4 ns ks W) (e:Int):Pe w0 w g s i kd b e v3 v4 ns ks ((((((W.setCell ⟨w.heap.size+1,2,none⟩ (.int .i64 e)).setCell ⟨w.heap.size,0,none⟩ (.int .i64 kd)).setCell ⟨w.heap.size,1,none⟩ (.int .i64 b)).setCell ⟨w.heap.size,2,none⟩ (.int .i64 e)).setCell ⟨w.heap.size,3,none⟩ v3).setCell ⟨w.heap.size,4,none⟩ v4):=by
 have hg2:=h.hI.mf h.b2 (by decide)
 have hg4:=h.hI.mf h.b4 (by decide)
 have hlo:=h.lo
 refine ⟨?_,?_,?_,?_,?_,?_⟩
 ·exact bU (bU (bU (bU (bU (dW h.b2 (by simp) _) 0 _ rfl) 1 _ rfl) 2 _ rfl) 3 _ rfl) 4 _ rfl
 ·exact Kd.eP (jQ (jQ (jQ (jQ (jQ (jQ h.r3 (by simp) _) (by simp) _) (by simp) _) (by simp) _) (by simp) _) (by simp) _) (by omega)
 ·exact Kd.eP (jQ (jQ (jQ (jQ (jQ (jQ h.r4 (by simp) _) (by simp) _) (by simp) _) (by simp) _) (by simp) _) (by simp) _) (by omega)
 ·exact (((((h.hI.far hg4 _).far hg2 _).far hg2 _).far hg2 _).far hg2 _).far hg2 _
 ·have h4:w0.heap.size≤w.heap.size+1:=by omega
  exact aA (aA (aA (aA (aA (aA h.hB h4) hlo) hlo) hlo) hlo) hlo
 ·have hl:=Nat.le_refl w.heap.size
  exact jI (jI (jI (jI (jI (jI h.hK (by simp) _) hl _) hl _) hl _) hl _) hl _
theorem Ps.cells (h:Ps w0 w g s i kd b v3 v4 ns ks W):W.cell? ⟨g,1,none⟩=some (.int .i64 i)∧(W.cell? ⟨w.heap.size+1,0,none⟩=some (.int .i64 kd)∧W.cell? ⟨w.heap.size+1,1,none⟩=some (.int .i64 b)∧W.cell? ⟨w.heap.size+1,2,none⟩=some (.int .i64 0)∧W.cell? ⟨w.heap.size+1,3,none⟩=some v3∧W.cell? ⟨w.heap.size+1,4,none⟩=some v4) ∧
 (W.cell? ⟨w.heap.size,0,none⟩=some (.int .i64 0)∧W.cell? ⟨w.heap.size,1,none⟩=some (.int .i64 0)∧W.cell? ⟨w.heap.size,2,none⟩=some (.int .i64 0)∧W.cell? ⟨w.heap.size,3,none⟩=some (.slice none 0 0)∧W.cell? ⟨w.heap.size,4,none⟩=some (.slice none 0 0)) ∧
 (W.frozen? ⟨w.heap.size+1,0,none⟩=false∧W.frozen? ⟨w.heap.size+1,2,none⟩=false∧W.frozen? ⟨w.heap.size+1,3,none⟩=false∧W.frozen? ⟨w.heap.size+1,4,none⟩=false)∧W.frozen? ⟨w.heap.size,0,none⟩=false∧W.frozen? ⟨w.heap.size,1,none⟩=false∧W.frozen? ⟨w.heap.size,2,none⟩=false∧W.frozen? ⟨w.heap.size,3,none⟩=false∧W.frozen? ⟨w.heap.size,4,none⟩=false:=by
 refine ⟨dF h.hI.1,⟨(ak h.b4 0).trans rfl,(ak h.b4 1).trans rfl,(ak h.b4 2).trans rfl,(ak h.b4 3).trans rfl,(ak h.b4 4).trans rfl⟩,⟨(ak h.b2 0).trans rfl,(ak h.b2 1).trans rfl,(ak h.b2 2).trans rfl,(ak h.b2 3).trans rfl,(ak h.b2 4).trans rfl⟩,⟨ax h.b4 0,ax h.b4 2,ax h.b4 3,ax h.b4 4⟩,ax h.b2 0,ax h.b2 1,ax h.b2 2,ax h.b2 3,ax h.b2 4⟩
theorem Pe.post {e:Int} {o:Bool} {tmps:Array Value} (h:Pe w0 w g s i kd b e v3 v4 ns ks W) (hp:tmps.getD 2 undef = .pointer (some ⟨w.heap.size,0,none⟩)) (ho:tmps.getD 3 undef = .bool o) :
 bodyPost Tryz.prog Tryz.f30 (fun x w'=>∃ v3_ v4_:Value,x = .returned (.tuple #[.agg #[.int .i64 kd,.int .i64 b,.int .i64 e,v3_,v4_],.bool o])∧Kd.R k44 44 w' w.heap.size (fun _=>True) v3_ ns∧Kd.R k32 32 w' w.heap.size (fun k_=>some k_≠(v3_:Value).ownBlock) v4_ ks∧au w0 w' g s i∧Below w0.heap.size w0 w'∧aQ w w' g none) .ret { tmps:=tmps,defers:=[] } W:=by
 refine bodyPost_ret (jd rfl _ _ w.heap.size 32 #[.int .i64 kd,.int .i64 b,.int .i64 e,v3,v4] (0,0) _ hp h.b2 Tryz.underlying32 rfl (by kernel_rfl)) rfl ?_
 exact ⟨v3,v4,by rw [ho],h.r3,h.r4,h.hI,h.hB,h.hK⟩
end
theorem nK (k:Nat) (ihM:∀ j,j < k→CM j) (ihE:∀ j,j < k→CE j):CV k:=by
 intro g s i r1 r2 r3 r4 r5 r6 r7 r8 w0 w hI hB h
 cases k with
 | zero=>exact absurd h (by simp [aK.f])
 | succ k =>
 simp only [aK.f] at h
 obtain ⟨⟨c,s1,i1⟩,A1,h0⟩:=Option.bind_eq_some_iff.mp h
 dsimp only at h0
 have c1:=dF (hI.alloc (.cells #[.int .i64 0,.int .i64 0,.int .i64 0,.slice none 0 0,.slice none 0 0] 32)).1
 replace A1:=ae.mk A1
 replace h0:=ae.mk h0
 have P0:=ae.mk (Ps.start hI hB)
 clear h hI hB
 go_enter Tryz.func30,Tryz.ntmps30
 go_wp2_with (fail)
 refine (P0.out.here A1.out).mono ?_
 rintro e w6 ⟨rfl,P1⟩
 clear c1 P0
 have d0:=(ak P1.b4 0).trans rfl
 have e0:=ax P1.b4 0
 replace P1:=ae.mk P1
 have h1:=h0.out
 clear h0
 by_cases hc:c=123
 ·rw [if_pos hc] at h1
  obtain ⟨⟨ns,ks,o,s2,i2⟩,A2,h2⟩:=Option.bind_eq_some_iff.mp h1
  simp only [Option.some.injEq,Prod.mk.injEq] at h2
  obtain ⟨rfl,rfl,rfl,rfl,rfl,rfl,rfl,rfl⟩:=h2
  clear h1
  have b1:(c == 123)=true:=beq_iff_eq.mpr hc
  clear hc
  replace A2:=ae.mk A2
  go_wp2_with (fail)
  refine ((P1.out.kind 6).members (ihM k (by omega)) A2.out).mono ?_
  rintro e w7 ⟨v3,v4,rfl,P3,P2,⟨a3,n3,rfl⟩,⟨a4,n4,rfl⟩⟩
  clear d0 e0
  obtain ⟨c1,⟨d0,d1,d2,d3,d4⟩,⟨x0,x1,x2,x3,x4⟩,⟨e0,e2,e3,e4⟩,k0,k1,k2,k3,k4⟩:=P2.cells
  replace P3:=ae.mk P3
  clear P2
  go_wp2_with (fail)
  exact (P3.out.last _).post rfl rfl
 rw [if_neg hc] at h1
 have b1:(c == 123)=false:=beq_eq_false_iff_ne.mpr hc
 clear hc
 by_cases hc:c=91
 ·rw [if_pos hc] at h1
  obtain ⟨⟨ks,o,s2,i2⟩,A2,h2⟩:=Option.bind_eq_some_iff.mp h1
  simp only [Option.some.injEq,Prod.mk.injEq] at h2
  obtain ⟨rfl,rfl,rfl,rfl,rfl,rfl,rfl,rfl⟩:=h2
  clear h1
  have b2:(c == 91)=true:=beq_iff_eq.mpr hc
  clear hc
  replace A2:=ae.mk A2
  go_wp2_with (fail)
  refine ((P1.out.kind 5).elements (ihE k (by omega)) A2.out).mono ?_
  rintro e w7 ⟨v4,rfl,P3,P2,⟨a4,n4,rfl⟩⟩
  clear d0 e0
  obtain ⟨c1,⟨d0,d1,d2,d3,d4⟩,⟨x0,x1,x2,x3,x4⟩,⟨e0,e2,e3,e4⟩,k0,k1,k2,k3,k4⟩:=P2.cells
  replace P3:=ae.mk P3
  clear P2
  go_wp2_with (fail)
  exact (P3.out.last _).post rfl rfl
 rw [if_neg hc] at h1
 have b2:(c == 91)=false:=beq_eq_false_iff_ne.mpr hc
 clear hc
 by_cases hc:c=34
 ·rw [if_pos hc] at h1
  obtain ⟨⟨o,s2,i2⟩,A2,h2⟩:=Option.bind_eq_some_iff.mp h1
  simp only [Option.some.injEq,Prod.mk.injEq] at h2
  obtain ⟨rfl,rfl,rfl,rfl,rfl,rfl,rfl,rfl⟩:=h2
  clear h1
  have b3:(c == 34)=true:=beq_iff_eq.mpr hc
  clear hc
  replace A2:=ae.mk A2
  go_wp2_with (fail)
  refine ((P1.out.kind 4).quoted A2.out).mono ?_
  rintro e w7 ⟨rfl,P2⟩
  clear d0 e0
  obtain ⟨c1,⟨d0,d1,d2,d3,d4⟩,⟨x0,x1,x2,x3,x4⟩,⟨e0,e2,e3,e4⟩,k0,k1,k2,k3,k4⟩:=P2.cells
  replace P2:=ae.mk P2
  go_wp2_with (fail)
  exact (P2.out.last _).post rfl rfl
 rw [if_neg hc] at h1
 have b3:(c == 34)=false:=beq_eq_false_iff_ne.mpr hc
 clear hc
 have key:(((c == 45)=true∨(c == 45)=false∧decide (48≤c)=true∧decide (c≤57)=true)∧aK.j0 k true true s1 i1 0 i 0=some (r1,r2,r3,r4,r5,r6,r7,r8)) ∨
  (((c == 45)=false∧decide (48≤c)=true∧decide (c≤57)=false∨(c == 45)=false∧decide (48≤c)=false)∧aK.j0 k true false s1 i1 0 i 0=some (r1,r2,r3,r4,r5,r6,r7,r8)):=by
  by_cases h45:c=45
  ·rw [if_pos h45] at h1
   exact .inl ⟨.inl (beq_iff_eq.mpr h45),h1⟩
  rw [if_neg h45] at h1
  have b4:(c == 45)=false:=beq_eq_false_iff_ne.mpr h45
  by_cases h48:48≤c
  ·rw [if_pos h48] at h1
   by_cases h57:c≤57
   ·rw [decide_eq_true h57] at h1
    exact .inl ⟨.inr ⟨b4,decide_eq_true h48,decide_eq_true h57⟩,h1⟩
   ·rw [decide_eq_false h57] at h1
    exact .inr ⟨.inl ⟨b4,decide_eq_true h48,decide_eq_false h57⟩,h1⟩
  ·rw [if_neg h48] at h1
   exact .inr ⟨.inr ⟨b4,decide_eq_false h48⟩,h1⟩
 clear h1
 rcases key with ⟨K,h1⟩ | ⟨K,h1⟩
 ·cases k with
  | zero=>exact absurd h1 (by simp [aK.j0])
  | succ k =>
  simp only [aK.j0] at h1
  rw [if_pos trivial] at h1
  obtain ⟨⟨o,s2,i2⟩,A2,h2⟩:=Option.bind_eq_some_iff.mp h1
  simp only [Option.some.injEq,Prod.mk.injEq] at h2
  obtain ⟨rfl,rfl,rfl,rfl,rfl,rfl,rfl,rfl⟩:=h2
  clear h1
  replace A2:=ae.mk A2
  rcases K with b4 | ⟨b4,b5,b6⟩
  all_goals
   go_wp2_with (fail)
   refine ((P1.out.kind 3).number A2.out).mono ?_
   rintro e w7 ⟨rfl,P2⟩
   clear d0 e0
   obtain ⟨c1,⟨d0,d1,d2,d3,d4⟩,⟨x0,x1,x2,x3,x4⟩,⟨e0,e2,e3,e4⟩,k0,k1,k2,k3,k4⟩:=P2.cells
   replace P2:=ae.mk P2
   go_wp2_with (fail)
   exact (P2.out.last _).post rfl rfl
 ·cases k with
  | zero=>exact absurd h1 (by simp [aK.j0])
  | succ k =>
  simp only [aK.j0] at h1
  rw [if_neg (by decide)] at h1
  obtain ⟨⟨o,s2,i2⟩,A2,h2⟩:=Option.bind_eq_some_iff.mp h1
  dsimp only at h2
  clear h1 d0 e0
  replace A2:=ae.mk A2
  replace h2:=ae.mk h2
  rcases K with ⟨b4,b5,b6⟩ | ⟨b4,b5⟩
  all_goals
   go_wp2_with (fail)
   refine (P1.out.word A2.out).mono ?_
   rintro e w7 ⟨rfl,P2⟩
   obtain ⟨c1,⟨d0,d1,d2,d3,d4⟩,⟨x0,x1,x2,x3,x4⟩,⟨e0,e2,e3,e4⟩,k0,k1,k2,k3,k4⟩:=P2.cells
   replace P2:=ae.mk P2
   cases o with
   | true =>
     have h3:=h2.out
     rw [if_pos rfl] at h3
     simp only [Option.some.injEq,Prod.mk.injEq] at h3
     obtain ⟨rfl,rfl,rfl,rfl,rfl,rfl,rfl,rfl⟩:=h3
     go_wp2_with (fail)
     exact ((P2.out.kind 0).last _).post rfl rfl
   | false =>
   have h3:=h2.out
   rw [if_neg (by decide)] at h3
   obtain ⟨⟨o,s3,i3⟩,A3,h4⟩:=Option.bind_eq_some_iff.mp h3
   dsimp only at h4
   clear h2 h3
   replace A3:=ae.mk A3
   replace h4:=ae.mk h4
   go_wp2_with (fail)
   refine (P2.out.word A3.out).mono ?_
   rintro e w8 ⟨rfl,P3⟩
   clear c1 d0 d1 d2 d3 d4 x0 x1 x2 x3 x4 e0 e2 e3 e4 k0 k1 k2 k3 k4 P2
   obtain ⟨c1,⟨d0,d1,d2,d3,d4⟩,⟨x0,x1,x2,x3,x4⟩,⟨e0,e2,e3,e4⟩,k0,k1,k2,k3,k4⟩:=P3.cells
   replace P3:=ae.mk P3
   cases o with
   | true =>
     have h3:=h4.out
     rw [if_pos rfl] at h3
     simp only [Option.some.injEq,Prod.mk.injEq] at h3
     obtain ⟨rfl,rfl,rfl,rfl,rfl,rfl,rfl,rfl⟩:=h3
     go_wp2_with (fail)
     exact ((P3.out.kind 1).last _).post rfl rfl
   | false =>
   have h5:=h4.out
   rw [if_neg (by decide)] at h5
   obtain ⟨⟨o,s4,i4⟩,A4,h6⟩:=Option.bind_eq_some_iff.mp h5
   dsimp only at h6
   clear h4 h5
   replace A4:=ae.mk A4
   replace h6:=ae.mk h6
   go_wp2_with (fail)
   refine (P3.out.word A4.out).mono ?_
   rintro e w9 ⟨rfl,P4⟩
   clear c1 d0 d1 d2 d3 d4 x0 x1 x2 x3 x4 e0 e2 e3 e4 k0 k1 k2 k3 k4 P3
   obtain ⟨c1,⟨d0,d1,d2,d3,d4⟩,⟨x0,x1,x2,x3,x4⟩,⟨e0,e2,e3,e4⟩,k0,k1,k2,k3,k4⟩:=P4.cells
   replace P4:=ae.mk P4
   cases o with
   | true =>
     have h3:=h6.out
     rw [if_pos rfl] at h3
     simp only [Option.some.injEq,Prod.mk.injEq] at h3
     obtain ⟨rfl,rfl,rfl,rfl,rfl,rfl,rfl,rfl⟩:=h3
     go_wp2_with (fail)
     exact ((P4.out.kind 2).last _).post rfl rfl
   | false =>
     have h3:=h6.out
     rw [if_neg (by decide)] at h3
     simp only [Option.some.injEq,Prod.mk.injEq] at h3
     obtain ⟨rfl,rfl,rfl,rfl,rfl,rfl,rfl,rfl⟩:=h3
     go_wp2_with (fail)
     exact (P4.out.last _).post rfl rfl
theorem aG.ring (k:Nat):CM k∧CE k∧CV k:=by
 induction k using Nat.strongRecOn with
 | _ k ih =>
 exact ⟨lG k (fun j h=>(ih j h).2.2),kT k (fun j h=>(ih j h).2.2),nK k (fun j h=>(ih j h).1) (fun j h=>(ih j h).2.1)⟩
theorem aK.calls (k:Nat):CV k:=(aG.ring k).2.2
def fZ.f (k:Nat) (a0:ByteArray):Option (Int × Int × Int × (List (S44)) × (List (S32)) × Bool):=(bg.f k a0 0).bind fun bt281=>((aK.f k bt281.1 bt281.2).bind fun bt283=>(if bt283.2.2.2.2.2.1=true then ((bg.f k bt283.2.2.2.2.2.2.1 bt283.2.2.2.2.2.2.2).bind fun bt296=>(if bt296.2=(a0.size:Int) then (some (bt283.1,bt283.2.1,bt283.2.2.1,bt283.2.2.2.1,bt283.2.2.2.2.1,true)) else (some (0,0,0,([]:List (S44)),([]:List (S32)),false)))) else (some (0,0,0,([]:List (S44)),([]:List (S32)),false))))
structure Pl (w:World) (s:ByteArray) (i:Int) (W:World):Prop where
 b2:W.heap[w.heap.size]?=some (.cells #[.int .i64 0,.int .i64 0,.int .i64 0,.slice none 0 0,.slice none 0 0] 32 (0,0))
 hI:au w W (w.heap.size+1) s i
 hB:Below w.heap.size w W
section
variable {w W W':World} {s s':ByteArray} {i i':Int}
theorem Pl.start (w:World) (s:ByteArray):Pl w s 0 ((w.alloc (.cells #[.int .i64 0,.int .i64 0,.int .i64 0,.slice none 0 0,.slice none 0 0] 32)).alloc (.cells #[.string s,.int .i64 0] 62)):=by
 refine ⟨aJ (fM w _) _,⟨?_,by omega⟩,ah (ah (Below.refl _ _) _) _⟩
 have:=fM (w.alloc (.cells #[.int .i64 0,.int .i64 0,.int .i64 0,.slice none 0 0,.slice none 0 0] 32)) (.cells #[.string s,.int .i64 0] 62)
 simpa using this
theorem Pl.went (h:Pl w s i W) (h1:au w W' (w.heap.size+1) s' i') (h2:Below w.heap.size w W') (h3:aQ W W' (w.heap.size+1) none):Pl w s' i' W':=⟨h3.blk h.b2 (by omega) (by simp),h1,h2⟩
theorem Pl.alloc (h:Pl w s i W) (o:Obj):Pl w s i (W.alloc o):=⟨aJ h.b2 _,h.hI.alloc _,ah h.hB _⟩
theorem Pl.cells (h:Pl w s i W):(W.cell? ⟨w.heap.size,0,none⟩=some (.int .i64 0)∧W.cell? ⟨w.heap.size,1,none⟩=some (.int .i64 0)∧W.cell? ⟨w.heap.size,2,none⟩=some (.int .i64 0)∧W.cell? ⟨w.heap.size,3,none⟩=some (.slice none 0 0)∧W.cell? ⟨w.heap.size,4,none⟩=some (.slice none 0 0)) ∧
 (W.frozen? ⟨w.heap.size,0,none⟩=false∧W.frozen? ⟨w.heap.size,1,none⟩=false∧W.frozen? ⟨w.heap.size,2,none⟩=false∧W.frozen? ⟨w.heap.size,3,none⟩=false∧W.frozen? ⟨w.heap.size,4,none⟩=false)∧W.cell? ⟨w.heap.size+1,1,none⟩=some (.int .i64 i) :=
 ⟨⟨(ak h.b2 0).trans rfl,(ak h.b2 1).trans rfl,(ak h.b2 2).trans rfl,(ak h.b2 3).trans rfl,(ak h.b2 4).trans rfl⟩,⟨ax h.b2 0,ax h.b2 1,ax h.b2 2,ax h.b2 3,ax h.b2 4⟩,dF h.hI.1⟩
theorem Pl.post {kd b e:Int} {v3 v4:Value} {ns:List S44} {ks:List S32} {o:Bool} {tmps:Array Value} (h:Pl w s i W) (h3:Kd.R k44 44 W (w.heap.size+2) (fun _=>True) v3 ns) (h4:Kd.R k32 32 W (w.heap.size+2) (fun k=>some k≠v3.ownBlock) v4 ks) (hp:tmps.getD 2 undef = .pointer (some ⟨w.heap.size,0,none⟩)) (ho:tmps.getD 3 undef = .bool o) :
 bodyPost Tryz.prog Tryz.f10 (fun x w'=>∃ v3_ v4_:Value,x = .returned (.tuple #[.agg #[.int .i64 kd,.int .i64 b,.int .i64 e,v3_,v4_],.bool o])∧Kd.R k44 44 w' w.heap.size (fun _=>True) v3_ ns∧Kd.R k32 32 w' w.heap.size (fun k_=>some k_≠(v3_:Value).ownBlock) v4_ ks∧Below w.heap.size w w') .ret { tmps:=tmps,defers:=[] }
  (((((W.setCell ⟨w.heap.size,0,none⟩ (.int .i64 kd)).setCell ⟨w.heap.size,1,none⟩ (.int .i64 b)).setCell ⟨w.heap.size,2,none⟩ (.int .i64 e)).setCell ⟨w.heap.size,3,none⟩ v3).setCell ⟨w.heap.size,4,none⟩ v4):=by
 refine bodyPost_ret (jd rfl _ _ w.heap.size 32 #[.int .i64 kd,.int .i64 b,.int .i64 e,v3,v4] (0,0) _ hp (bU (bU (bU (bU (bU h.b2 0 _ rfl) 1 _ rfl) 2 _ rfl) 3 _ rfl) 4 _ rfl) Tryz.underlying32 rfl (by kernel_rfl)) rfl ?_
 have hl:=Nat.le_refl w.heap.size
 refine ⟨v3,v4,by rw [ho],?_,?_,aA (aA (aA (aA (aA h.hB hl) hl) hl) hl) hl⟩
 ·exact Kd.eP (jQ (jQ (jQ (jQ (jQ h3 (by simp) _) (by simp) _) (by simp) _) (by simp) _) (by simp) _) (by omega)
 ·exact Kd.eP (jQ (jQ (jQ (jQ (jQ h4 (by simp) _) (by simp) _) (by simp) _) (by simp) _) (by simp) _) (by omega)
end
theorem fZ.calls (k:Nat) (a0:ByteArray) (r1:Int) (r2:Int) (r3:Int) (r4:List (S44)) (r5:List (S32)) (r6:Bool) (w:World) (h:fZ.f k a0=some (r1,r2,r3,r4,r5,r6)) :
 Calls Tryz.prog 10 #[.string a0] w fun e w'=>∃ v3_ v4_:Value,e = .returned (.tuple #[.agg #[.int .i64 r1,.int .i64 r2,.int .i64 r3,v3_,v4_],.bool r6])∧Kd.R k44 44 w' w.heap.size (fun _=>True) v3_ r4∧Kd.R k32 32 w' w.heap.size (fun k_=>some k_≠(v3_:Value).ownBlock) v4_ r5∧Below w.heap.size w w':=by
 unfold fZ.f at h
 obtain ⟨⟨s1,i1⟩,A1,h1⟩:=Option.bind_eq_some_iff.mp h
 obtain ⟨⟨kd,b,en,ns,ks,ok,s2,i2⟩,A2,h2⟩:=Option.bind_eq_some_iff.mp h1
 dsimp only at h2
 clear h h1
 replace A1:=ae.mk A1
 replace A2:=ae.mk A2
 replace h2:=ae.mk h2
 have P0:=ae.mk (Pl.start w a0)
 go_enter Tryz.func10,Tryz.ntmps10
 go_wp2_with (fail)
 refine (bg.calls k _ _ _ s1 i1 w _ P0.out.hI P0.out.hB A1.out).mono ?_
 rintro e w1 ⟨rfl,g1,g2,g3⟩
 have P1:=ae.mk (P0.out.went g1 g2 g3)
 clear P0 g1 g2 g3
 go_wp2_with (fail)
 refine (aK.calls k _ _ _ kd b en ns ks ok s2 i2 w _ P1.out.hI P1.out.hB A2.out).mono ?_
 rintro e w2 ⟨v3,v4,rfl,u3,u4,g1,g2,g3⟩
 have hsz:w.heap.size+2≤w1.heap.size:=by have:=P1.out.hI.lt;omega
 replace u3:=Kd.eP u3 hsz
 replace u4:=Kd.eP u4 hsz
 obtain ⟨a3,n3,rfl⟩:=Kd.dX u3
 obtain ⟨a4,n4,rfl⟩:=Kd.dX u4
 have P2:=ae.mk ((P1.out.went g1 g2 g3).alloc (.cells #[.int .i64 kd,.int .i64 b,.int .i64 en,.slice a3 ns.length n3,.slice a4 ks.length n4] 32))
 have kb:=ae.mk (fM w2 (.cells #[.int .i64 kd,.int .i64 b,.int .i64 en,.slice a3 ns.length n3,.slice a4 ks.length n4] 32))
 replace u3:=ae.mk (Kd.cO u3 (.cells #[.int .i64 kd,.int .i64 b,.int .i64 en,.slice a3 ns.length n3,.slice a4 ks.length n4] 32))
 replace u4:=ae.mk (Kd.cO u4 (.cells #[.int .i64 kd,.int .i64 b,.int .i64 en,.slice a3 ns.length n3,.slice a4 ks.length n4] 32))
 clear P1 g1 g2 g3 hsz
 obtain ⟨⟨d0,d1,d2,d3,d4⟩,⟨e0,e1,e2,e3,e4⟩,c1⟩:=P2.out.cells
 cases ok with
 | false =>
   have h3:=h2.out
   rw [if_neg (by decide)] at h3
   simp only [Option.some.injEq,Prod.mk.injEq] at h3
   obtain ⟨rfl,rfl,rfl,rfl,rfl,rfl⟩:=h3
   go_wp2_with (fail)
   exact P2.out.post (Kd.iZ _ _ _ _ _) (Kd.iZ _ _ _ _ _) rfl rfl
 | true =>
   have h3:=h2.out
   rw [if_pos rfl] at h3
   obtain ⟨⟨s3,i3⟩,A3,h4⟩:=Option.bind_eq_some_iff.mp h3
   dsimp only at h4
   clear h2 h3
   replace A3:=ae.mk A3
   replace h4:=ae.mk h4
   go_wp2_with (fail)
   refine (bg.calls k _ _ _ s3 i3 w _ P2.out.hI P2.out.hB A3.out).mono ?_
   rintro e w3 ⟨rfl,g1,g2,g3⟩
   have P3:=P2.out.went g1 g2 g3
   have kc:=g3.blk kb.out (by have:=P2.out.hI.mf kb.out (by decide);omega) (by simp)
   have x3:=ae.mk (Kd.dJ (Kd.oW (au.apart P2.out.hI u3.out (by decide)) g3 (fun _ h=>h.2)) (fun _ h=>h.1))
   have x4:=ae.mk (Kd.dJ (Kd.oW (au.apart P2.out.hI u4.out (by decide)) g3 (fun _ h=>h.2)) (fun _ h=>h.1))
   clear d0 d1 d2 d3 d4 e0 e1 e2 e3 e4 c1
   obtain ⟨⟨d0,d1,d2,d3,d4⟩,⟨e0,e1,e2,e3,e4⟩,c1⟩:=P3.cells
   have y0:=(ak kc 0).trans rfl
   have y1:=(ak kc 1).trans rfl
   have y2:=(ak kc 2).trans rfl
   have y3:=(ak kc 3).trans rfl
   have y4:=(ak kc 4).trans rfl
   replace P3:=ae.mk P3
   clear g1 g2 g3 kc
   by_cases hc:i3=(a0.size:Int)
   ·have h5:=h4.out
    rw [if_pos hc] at h5
    simp only [Option.some.injEq,Prod.mk.injEq] at h5
    obtain ⟨rfl,rfl,rfl,rfl,rfl,rfl⟩:=h5
    have b1:(i3 != (a0.size:Int))=false:=bne_eq_false_iff_eq.mpr hc
    clear hc
    go_wp2_with (fail)
    exact P3.out.post x3.out x4.out rfl rfl
   ·have h5:=h4.out
    rw [if_neg hc] at h5
    simp only [Option.some.injEq,Prod.mk.injEq] at h5
    obtain ⟨rfl,rfl,rfl,rfl,rfl,rfl⟩:=h5
    have b1:(i3 != (a0.size:Int))=true:=bne_iff_ne.mpr hc
    clear hc
    go_wp2_with (fail)
    exact P3.out.post (Kd.iZ _ _ _ _ _) (Kd.iZ _ _ _ _ _) rfl rfl
end Go.Proofs.YtpgfjbimodnkeaaGreatDoor.Q
namespace Go.Proofs.YtpgfjbimodnkeaaGreatDoor.Scan
open Go Go.RowKit Go.Proofs.YtpgfjbimodnkeaaGreatDoorW.PrintWords Go.Proofs.YtpgfjbimodnkeaaGreatDoor.Q Go.Proofs.YtpgfjbimodnkeaaGreatDoor.Dec
theorem Evt.succ {α:Type} {g:Nat→Option α} {r:α} (hh:Evt (fun k=>g (k+1)) r):Evt g r:=Evt.step (fun _=>rfl) hh
def blank (c:Int):Prop:=c=32∨c=9∨c=10∨c=13
instance (c:Int):Decidable (blank c):=by unfold blank;infer_instance
theorem xw (c:Int):gJ.f c=some (decide (blank c)):=by
 unfold gJ.f
 by_cases h1:c=32
 ·rw [if_pos h1,decide_eq_true (show blank c from .inl h1)]
 by_cases h2:c=9
 ·rw [if_neg h1,if_pos h2,decide_eq_true (show blank c from .inr (.inl h2))]
 by_cases h3:c=10
 ·rw [if_neg h1,if_neg h2,if_pos h3,decide_eq_true (show blank c from .inr (.inr (.inl h3)))]
 rw [if_neg h1,if_neg h2,if_neg h3]
 by_cases h4:c=13
 ·rw [decide_eq_true (show blank c from .inr (.inr (.inr h4))),beq_iff_eq.mpr h4]
 ·rw [decide_eq_false (show ¬ blank c from fun h=>by rcases h with h | h | h | h <;> contradiction),beq_eq_false_iff_ne.mpr h4]
structure Blanks (s:ByteArray) (i j:Nat):Prop where
 le:i≤j
 all:∀ m:Nat,i≤m→m < j→blank (bt s m)
theorem Blanks.refl (s:ByteArray) (i:Nat):Blanks s i i:=⟨Nat.le_refl _,fun m h1 h2=>by omega⟩
theorem bJ {i:Int} (n:Nat) (h:i=n) (hn:n≤9000000000000):wrap64 i=(n:Int):=by
 subst h
 exact gy (by omega) (by omega)
theorem yP (s:ByteArray) (hS:s.size≤1099511627776) (n:Nat):∀ i:Nat,s.size - i=n→i≤s.size →
 ∃ j:Nat,Blanks s i j∧j≤s.size∧(j < s.size→¬ blank (bt s j))∧Evt (fun k=>bg.l0 k s i) (s,(j:Int)):=by
 induction n with
 | zero =>
   intro i h0 h1
   refine ⟨i,Blanks.refl s i,h1,fun h=>by omega,Evt.succ ?_⟩
   simp only [bg.l0]
   exact Evt.neg (by omega) (Evt.pure _)
 | succ n ih =>
   intro i h0 h1
   by_cases hb:blank (bt s i)
   ·obtain ⟨j,h2,h3,h4,h5⟩:=ih (i+1) (by omega) (by omega)
    refine ⟨j,⟨by have:=h2.le;omega,fun m h6 h7=>?_⟩,h3,h4,Evt.succ ?_⟩
    ·by_cases hm:m=i
     ·subst hm;exact hb
     ·exact h2.all m (by omega) h7
    ·simp only [bg.l0]
     refine Evt.pos (by omega) (Evt.pos (by omega) (Evt.aI (xw _) (Evt.pos (decide_eq_true hb) ?_)))
     rw [bJ (i+1) (by omega) (by omega)]
     exact h5
   ·refine ⟨i,Blanks.refl s i,h1,fun _=>hb,Evt.succ ?_⟩
    simp only [bg.l0]
    exact Evt.pos (by omega) (Evt.pos (by omega) (Evt.aI (xw _) (Evt.neg (by rw [decide_eq_false hb];decide) (Evt.pure _))))
theorem jh (s:ByteArray) (hS:s.size≤1099511627776) (i:Nat) (h1:i≤s.size) :
 ∃ j:Nat,Blanks s i j∧j≤s.size∧(j < s.size→¬ blank (bt s j))∧Evt (fun k=>bg.f k s i) (s,(j:Int)) :=
 yP s hS _ i rfl h1
theorem eH (s:ByteArray) (i:Nat):bV.f s i=some (bt s i,s,(i:Int)):=by
 unfold bV.f
 by_cases h:i < s.size
 ·rw [if_pos (by omega),if_pos (by omega)]
 ·rw [if_neg (by omega),lL s i (by omega)]
theorem dY (s:ByteArray) (hS:s.size≤1099511627776) (i:Nat) (c:Int) (h:i < s.size) (hc:bt s i=c):bP.f s i c=some (true,s,((i+1:Nat):Int)):=by
 unfold bP.f
 rw [if_pos (by omega),if_pos (by omega),if_pos hc,bJ (i+1) (by omega) (by omega)]
theorem fK (s:ByteArray) (i:Nat) (c:Int) (h:¬ (i < s.size∧bt s i=c)):bP.f s i c=some (false,s,(i:Int)):=by
 unfold bP.f
 by_cases h1:i < s.size
 ·rw [if_pos (by omega),if_pos (by omega),if_neg (fun hc=>h ⟨h1,hc⟩)]
 ·rw [if_neg (by omega)]
structure Word (s:ByteArray) (i:Nat) (w:ByteArray):Prop where
 le:i+w.size≤s.size
 eq:s.extract i (i+w.size)=w
theorem Word.at {s:ByteArray} {i:Nat} {w:ByteArray} (h:Word s i w) (m:Nat) (hm:m < w.size):bt s ((i+m:Nat):Int)=bt w m:=by
 rw [← jg s i (i+w.size) m (by omega) h.le,h.eq]
theorem qm (s:ByteArray) (hS:s.size≤1099511627776) (i:Nat) (hi:i≤s.size) (w:ByteArray) (hw:w.size≤10) :
 (Word s i w∧dU.f s i w=some (true,s,((i+w.size:Nat):Int)))∨(¬ Word s i w∧dU.f s i w=some (false,s,(i:Int))):=by
 unfold dU.f
 rw [bJ (s.size - i) (by omega) (by omega),bJ (i+w.size) (by omega) (by omega)]
 by_cases h:i+w.size≤s.size
 ·rw [if_neg (by omega),if_pos (by omega),if_pos (by omega),if_pos (by omega)]
  simp only [Int.toNat_natCast]
  by_cases he:(s.extract i (i+w.size)).toList=w.toList
  ·rw [if_pos he]
   exact .inl ⟨⟨h,toList_inj he⟩,rfl⟩
  ·rw [if_neg he]
   exact .inr ⟨fun hW=>he (by rw [hW.eq]),rfl⟩
 ·rw [if_pos (by omega)]
  exact .inr ⟨fun hW=>h hW.le,rfl⟩
instance (c:Int):Decidable (iC c):=by unfold iC;infer_instance
instance (c:Int):Decidable (fC c):=by unfold fC;infer_instance
theorem qg (c:Int) (h0:0≤c∧c≤255):∃ v,Evt (fun k=>bM.f k c) (v,decide (iC c))∧(iC c→v=jo c):=by
 have hj1:∀ b,(b=decide (97≤c∧c≤102))→¬ (48≤c∧c≤57)→∃ v,Evt (fun k=>bM.j1 k c b) (v,decide (iC c))∧(iC c→v=jo c):=by
  intro b hb hd
  by_cases h1:97≤c∧c≤102
  ·refine ⟨c - 97+10,Evt.succ ?_,fun _=>?_⟩
   ·simp only [bM.j1]
    refine Evt.pos (by rw [hb];exact decide_eq_true h1) (Evt.of ?_)
    rw [decide_eq_true (show iC c from .inr (.inl h1))]
    congr 2;omega
   ·unfold jo;rw [if_neg hd,if_pos h1];omega
  ·by_cases h2:65≤c∧c≤70
   ·refine ⟨c - 65+10,Evt.succ ?_,fun _=>?_⟩
    ·simp only [bM.j1]
     refine Evt.neg (by rw [hb,decide_eq_false h1];decide) (Evt.pos h2.1 (Evt.pos h2.2 (Evt.of ?_)))
     rw [decide_eq_true (show iC c from .inr (.inr h2))]
     congr 2;omega
    ·unfold jo;rw [if_neg hd,if_neg h1];omega
   ·have hno:¬ iC c:=fun h=>by rcases h with h | h | h <;> contradiction
    refine ⟨0,Evt.succ ?_,fun h=>absurd h hno⟩
    simp only [bM.j1]
    refine Evt.neg (by rw [hb,decide_eq_false h1];decide) ?_
    rw [decide_eq_false hno]
    by_cases h3:65≤c
    ·exact Evt.pos h3 (Evt.neg (fun h=>h2 ⟨h3,h⟩) (Evt.pure _))
    ·exact Evt.neg h3 (Evt.pure _)
 have hj0:∀ b,(b=decide (48≤c∧c≤57))→∃ v,Evt (fun k=>bM.j0 k c b) (v,decide (iC c))∧(iC c→v=jo c):=by
  intro b hb
  by_cases h1:48≤c∧c≤57
  ·refine ⟨c - 48,Evt.succ ?_,fun _=>?_⟩
   ·simp only [bM.j0]
    refine Evt.pos (by rw [hb];exact decide_eq_true h1) (Evt.of ?_)
    rw [decide_eq_true (show iC c from .inl h1)]
    congr 2;omega
   ·unfold jo;rw [if_pos h1]
  ·have hb':¬ (b=true):=by rw [hb,decide_eq_false h1];decide
   by_cases h2:97≤c
   ·obtain ⟨v,h3,h4⟩:=hj1 (decide (c≤102)) (by simp [h2]) h1
    refine ⟨v,Evt.succ ?_,h4⟩
    simp only [bM.j0]
    exact Evt.neg hb' (Evt.pos h2 h3)
   ·obtain ⟨v,h3,h4⟩:=hj1 false (by simp [h2]) h1
    refine ⟨v,Evt.succ ?_,h4⟩
    simp only [bM.j0]
    exact Evt.neg hb' (Evt.neg h2 h3)
 unfold bM.f
 by_cases h1:48≤c
 ·obtain ⟨v,h3,h4⟩:=hj0 (decide (c≤57)) (by simp [h1])
  exact ⟨v,Evt.pos h1 h3,h4⟩
 ·obtain ⟨v,h3,h4⟩:=hj0 false (by simp [h1])
  exact ⟨v,Evt.neg h1 h3,h4⟩
inductive gp (s:ByteArray):Nat→Nat→Prop
 | close (p:Nat):p < s.size→bt s p=34→gp s p p
 | plain (p q:Nat):p < s.size→32≤bt s p→bt s p≠34→bt s p≠92→gp s (p+1) q→gp s p q
 | short (p q:Nat):p+1 < s.size→bt s p=92→fC (bt s ((p:Int)+1))→gp s (p+2) q→gp s p q
 | uni (p q:Nat):p+6≤s.size→bt s p=92→bt s ((p:Int)+1)=117→oK s ((p:Int)+2)→gp s (p+6) q→gp s p q
theorem lX {c:Int} (h:iC c):c≠34∧c≠92∧c≠0∧32≤c:=by unfold iC at h;omega
theorem gp.str {s:ByteArray} {p q:Nat} (h:gp s p q):Str s p q:=by
 induction h with
 | close p h0 h1=>exact .close p h0 h1
 | plain p q h0 h1 h2 h3 h4 ih=>exact .plain p q h0 h2 h3 ih
 | short p q h0 h1 h2 h3 ih=>exact .esc p q h0 h1 ih
 | uni p q h0 h1 h2 h3 h4 ih =>
   obtain ⟨d0,d1,d2,d3⟩:=h3
   have e0:=lX d0
   have e1:=lX d1
   have e2:=lX d2
   have e3:=lX d3
   rw [show ((p:Int)+2)=((p+2:Nat):Int) by omega] at e0
   rw [show ((p:Int)+2+1)=((p+2+1:Nat):Int) by omega] at e1
   rw [show ((p:Int)+2+2)=((p+2+1+1:Nat):Int) by omega] at e2
   rw [show ((p:Int)+2+3)=((p+2+1+1+1:Nat):Int) by omega] at e3
   exact .esc p q (by omega) h1 (.plain _ q (by omega) e0.1 e0.2.1 (.plain _ q (by omega) e1.1 e1.2.1 (.plain _ q (by omega) e2.1 e2.2.1 (.plain _ q (by omega) e3.1 e3.2.1 ih))))
theorem gp.bound {s:ByteArray} {p q:Nat} (h:gp s p q):p≤q∧q < s.size∧bt s q=34:=by
 induction h with
 | close p h0 h1=>exact ⟨Nat.le_refl _,h0,h1⟩
 | plain p q h0 h1 h2 h3 h4 ih=>exact ⟨by omega,ih.2.1,ih.2.2⟩
 | short p q h0 h1 h2 h3 ih=>exact ⟨by omega,ih.2.1,ih.2.2⟩
 | uni p q h0 h1 h2 h3 h4 ih=>exact ⟨by omega,ih.2.1,ih.2.2⟩
theorem DN (s:ByteArray) (hS:s.size≤1099511627776) (n:Nat):∀ m p:Nat,m+n=4→p≤s.size →
 ∃ (b:Bool) (j:Nat),Evt (fun k=>ay.l0 k m s p) (b,s,(j:Int))∧j≤s.size∧p≤j∧(b=true→j=p+n∧∀ t:Nat,t < n→iC (bt s ((p+t:Nat):Int)))∧(b=false→∃ t:Nat,t < n∧¬ iC (bt s ((p+t:Nat):Int))):=by
 induction n with
 | zero =>
   intro m p hm hp
   refine ⟨true,p,Evt.succ ?_,hp,Nat.le_refl _,(fun _=>⟨rfl,fun t h=>by omega⟩),fun h=>by cases h⟩
   simp only [ay.l0]
   exact Evt.neg (by omega) (Evt.pure _)
 | succ n ih =>
   intro m p hm hp
   obtain ⟨v,hv,_⟩:=qg (bt s p) (fP s p)
   by_cases hx:iC (bt s p)
   ·have hlt:p < s.size:=by
     rcases Nat.lt_or_ge p s.size with h | h
     ·exact h
     ·exact absurd (lL s p h) (lX hx).2.2.1
    obtain ⟨b,j,h1,h2,h3,h4,h5⟩:=ih (m+1) (p+1) (by omega) (by omega)
    refine ⟨b,j,Evt.succ ?_,h2,by omega,fun hb=>⟨by have:=(h4 hb).1;omega,fun t ht=>?_⟩,fun hb=>?_⟩
    ·simp only [ay.l0]
     refine Evt.pos (by omega) (Evt.aI (eH s p) (Evt.bind hv (Evt.pos (decide_eq_true hx) ?_)))
     rw [bJ (m+1) (by omega) (by omega)]
     simp only [bJ (i:=(p:Int)+1) (p+1) (by omega) (by omega)]
     exact h1
    ·by_cases ht0:t=0
     ·subst ht0;exact hx
     ·have:=(h4 hb).2 (t - 1) (by omega)
      rwa [show p+1+(t - 1)=p+t by omega] at this
    ·obtain ⟨t,ht,hx⟩:=h5 hb
     exact ⟨t+1,by omega,by rwa [show p+1+t=p+(t+1) by omega] at hx⟩
   ·refine ⟨false,p,Evt.succ ?_,hp,Nat.le_refl _,(fun h=>by cases h),fun _=>⟨0,by omega,hx⟩⟩
    simp only [ay.l0]
    exact Evt.pos (by omega) (Evt.aI (eH s p) (Evt.bind hv (Evt.neg (by simp [hx]) (Evt.pure _))))
structure CZ (s:ByteArray) (a j:Nat):Prop where
 way:(j=a+1∧a < s.size∧fC (bt s a))∨(j=a+5∧a+5≤s.size∧bt s a=117∧oK s ((a:Int)+1))
theorem zS (s:ByteArray) (hS:s.size≤1099511627776) (a:Nat) (ha:a≤s.size) :
 ∃ (b:Bool) (j:Nat),Evt (fun k=>ay.f k s a) (b,s,(j:Int))∧j≤s.size∧a≤j∧(b=true→CZ s a j)∧(b=false→¬ fC (bt s a)∧(bt s a=117→¬ oK s ((a:Int)+1))):=by
 have hin:∀ c:Int,c≠0→bt s a=c→a < s.size:=fun c h0 hc=>by
  rcases Nat.lt_or_ge a s.size with h | h
  ·exact h
  ·exact absurd ((lL s a h).symm.trans hc) h0.symm
 have yes:fC (bt s a)→∀ g:Nat→Option (Bool × ByteArray × Int),(∀ k,g (k+1)=ay.j0 (k+1) (bt s a) true s a)→∃ (b:Bool) (j:Nat),Evt g (b,s,(j:Int))∧j≤s.size∧a≤j∧(b=true→CZ s a j)∧(b=false→¬ fC (bt s a)∧(bt s a=117→¬ oK s ((a:Int)+1))):=by
  intro hs g hg
  have hlt:a < s.size:=by
   rcases Nat.lt_or_ge a s.size with h | h
   ·exact h
   ·have h1:=lL s a h
    unfold fC at hs
    omega
  refine ⟨true,a+1,Evt.succ (Evt.congr hg ?_),hlt,by omega,(fun _=>⟨.inl ⟨rfl,hlt,hs⟩⟩),fun h=>by cases h⟩
  simp only [ay.j0]
  refine Evt.pos (by simp) ?_
  rw [bJ (a+1) (by omega) (by omega)]
  exact Evt.pure _
 unfold ay.f
 by_cases c0:bt s a=34
 ·refine yes (by unfold fC;omega) _ (fun k=>?_)
  rw [eH];simp only [Option.bind_some]
  rw [if_pos c0,beq_iff_eq.mpr c0]
 by_cases c1:bt s a=92
 ·refine yes (by unfold fC;omega) _ (fun k=>?_)
  rw [eH];simp only [Option.bind_some]
  rw [if_neg c0,if_pos c1,beq_iff_eq.mpr c1]
 by_cases c2:bt s a=47
 ·refine yes (by unfold fC;omega) _ (fun k=>?_)
  rw [eH];simp only [Option.bind_some]
  rw [if_neg c0,if_neg c1,if_pos c2,beq_iff_eq.mpr c2]
 by_cases c3:bt s a=98
 ·refine yes (by unfold fC;omega) _ (fun k=>?_)
  rw [eH];simp only [Option.bind_some]
  rw [if_neg c0,if_neg c1,if_neg c2,if_pos c3,beq_iff_eq.mpr c3]
 by_cases c4:bt s a=102
 ·refine yes (by unfold fC;omega) _ (fun k=>?_)
  rw [eH];simp only [Option.bind_some]
  rw [if_neg c0,if_neg c1,if_neg c2,if_neg c3,if_pos c4,beq_iff_eq.mpr c4]
 by_cases c5:bt s a=110
 ·refine yes (by unfold fC;omega) _ (fun k=>?_)
  rw [eH];simp only [Option.bind_some]
  rw [if_neg c0,if_neg c1,if_neg c2,if_neg c3,if_neg c4,if_pos c5,beq_iff_eq.mpr c5]
 by_cases c6:bt s a=114
 ·refine yes (by unfold fC;omega) _ (fun k=>?_)
  rw [eH];simp only [Option.bind_some]
  rw [if_neg c0,if_neg c1,if_neg c2,if_neg c3,if_neg c4,if_neg c5,if_pos c6,beq_iff_eq.mpr c6]
 by_cases c7:bt s a=116
 ·refine yes (by unfold fC;omega) _ (fun k=>?_)
  rw [eH];simp only [Option.bind_some]
  rw [if_neg c0,if_neg c1,if_neg c2,if_neg c3,if_neg c4,if_neg c5,if_neg c6,beq_iff_eq.mpr c7]
 have e7:(bt s a == 116)=false:=beq_eq_false_iff_ne.mpr c7
 have hg:∀ k,((bV.f s a).bind fun bt116=>(if bt116.1=34 then (ay.j0 k bt116.1 (bt116.1 == 34) bt116.2.1 bt116.2.2) else (if bt116.1=92 then (ay.j0 k bt116.1 (bt116.1 == 92) bt116.2.1 bt116.2.2) else (if bt116.1=47 then (ay.j0 k bt116.1 (bt116.1 == 47) bt116.2.1 bt116.2.2) else (if bt116.1=98 then (ay.j0 k bt116.1 (bt116.1 == 98) bt116.2.1 bt116.2.2) else (if bt116.1=102 then (ay.j0 k bt116.1 (bt116.1 == 102) bt116.2.1 bt116.2.2) else (if bt116.1=110 then (ay.j0 k bt116.1 (bt116.1 == 110) bt116.2.1 bt116.2.2) else (if bt116.1=114 then (ay.j0 k bt116.1 (bt116.1 == 114) bt116.2.1 bt116.2.2) else (ay.j0 k bt116.1 (bt116.1 == 116) bt116.2.1 bt116.2.2)))))))))
  = ay.j0 k (bt s a) false s a:=fun k=>by
  rw [eH];simp only [Option.bind_some]
  rw [if_neg c0,if_neg c1,if_neg c2,if_neg c3,if_neg c4,if_neg c5,if_neg c6,e7]
 by_cases c8:bt s a=117
 ·have hlt:=hin 117 (by decide) c8
  obtain ⟨b,j,h1,h2,h3,h4,h5⟩:=DN s hS 4 0 (a+1) (by omega) (by omega)
  refine ⟨b,j,Evt.congr hg (Evt.succ ?_),h2,by omega,fun hb=>⟨.inr ⟨by have:=(h4 hb).1;omega,by have:=(h4 hb).1;omega,c8,?_⟩⟩,fun hb=>⟨by unfold fC;omega,fun _ hh=>?_⟩⟩
  ·simp only [ay.j0]
   refine Evt.neg (by simp) (Evt.pos c8 ?_)
   rw [bJ (a+1) (by omega) (by omega)]
   exact h1
  ·have hh:=(h4 hb).2
   have k0:=hh 0 (by omega)
   have k1:=hh 1 (by omega)
   have k2:=hh 2 (by omega)
   have k3:=hh 3 (by omega)
   refine ⟨?_,?_,?_,?_⟩
   ·rwa [show (a:Int)+1=((a+1+0:Nat):Int) by omega]
   ·rwa [show (a:Int)+1+1=((a+1+1:Nat):Int) by omega]
   ·rwa [show (a:Int)+1+2=((a+1+2:Nat):Int) by omega]
   ·rwa [show (a:Int)+1+3=((a+1+3:Nat):Int) by omega]
  ·obtain ⟨t,ht,hx⟩:=h5 hb
   obtain ⟨d0,d1,d2,d3⟩:=hh
   have:t=0∨t=1∨t=2∨t=3:=by omega
   rcases this with rfl | rfl | rfl | rfl
   ·rw [show (((a+1+0:Nat)):Int)=(a:Int)+1 by omega] at hx;exact hx d0
   ·rw [show (((a+1+1:Nat)):Int)=(a:Int)+1+1 by omega] at hx;exact hx d1
   ·rw [show (((a+1+2:Nat)):Int)=(a:Int)+1+2 by omega] at hx;exact hx d2
   ·rw [show (((a+1+3:Nat)):Int)=(a:Int)+1+3 by omega] at hx;exact hx d3
 ·refine ⟨false,a,Evt.congr hg (Evt.succ ?_),ha,Nat.le_refl _,(fun h=>by cases h),fun _=>⟨by unfold fC;omega,fun h=>absurd h c8⟩⟩
  simp only [ay.j0]
  exact Evt.neg (by simp) (Evt.neg c8 (Evt.pure _))
theorem yl (s:ByteArray) (hS:s.size≤1099511627776) (n:Nat):∀ p:Nat,s.size - p≤n→p≤s.size →
 ∃ (b:Bool) (j:Nat),Evt (fun k=>aV.l0 k s p) (b,s,(j:Int))∧j≤s.size∧p≤j∧(b=true→∃ q,j=q+1∧gp s p q):=by
 induction n with
 | zero =>
   intro p h0 h1
   refine ⟨false,p,Evt.succ ?_,h1,Nat.le_refl _,fun h=>by cases h⟩
   simp only [aV.l0]
   exact Evt.neg (by omega) (Evt.pure _)
 | succ n ih =>
   intro p h0 h1
   by_cases hlt:p < s.size
   ·by_cases c0:bt s p=34
    ·refine ⟨true,p+1,Evt.succ ?_,hlt,by omega,fun _=>⟨p,rfl,.close p hlt c0⟩⟩
     simp only [aV.l0]
     refine Evt.pos (by omega) (Evt.pos (by omega) (Evt.pos c0 ?_))
     rw [bJ (p+1) (by omega) (by omega)]
     exact Evt.pure _
    by_cases c1:bt s p < 32
    ·refine ⟨false,p+1,Evt.succ ?_,hlt,by omega,fun h=>by cases h⟩
     simp only [aV.l0]
     refine Evt.pos (by omega) (Evt.pos (by omega) (Evt.neg c0 (Evt.pos c1 ?_)))
     rw [bJ (p+1) (by omega) (by omega)]
     exact Evt.pure _
    by_cases c2:bt s p=92
    ·obtain ⟨b,j,h2,h3,h4,h5,_⟩:=zS s hS (p+1) (by omega)
     cases b with
     | true =>
       have hE:=(h5 rfl).way
       obtain ⟨b',j',h6,h7,h8,h9⟩:=ih j (by omega) h3
       refine ⟨b',j',Evt.succ ?_,h7,by omega,fun hb=>?_⟩
       ·simp only [aV.l0]
        refine Evt.pos (by omega) (Evt.pos (by omega) (Evt.neg c0 (Evt.neg c1 (Evt.pos c2 ?_))))
        rw [bJ (p+1) (by omega) (by omega)]
        exact Evt.bind h2 (Evt.pos (by simp) h6)
       ·obtain ⟨q,hq,hs⟩:=h9 hb
        refine ⟨q,hq,?_⟩
        rcases hE with ⟨e1,e2,e3⟩ | ⟨e1,e2,e3,e4⟩
        ·subst e1
         exact .short p q (by omega) c2 (by rwa [show (p:Int)+1=((p+1:Nat):Int) by omega]) hs
        ·subst e1
         exact .uni p q (by omega) c2 (by rwa [show (p:Int)+1=((p+1:Nat):Int) by omega]) (by rwa [show (p:Int)+2=((p+1:Nat):Int)+1 by omega]) hs
     | false =>
       refine ⟨false,j,Evt.succ ?_,h3,by omega,fun h=>by cases h⟩
       simp only [aV.l0]
       refine Evt.pos (by omega) (Evt.pos (by omega) (Evt.neg c0 (Evt.neg c1 (Evt.pos c2 ?_))))
       rw [bJ (p+1) (by omega) (by omega)]
       exact Evt.bind h2 (Evt.neg (by simp) (Evt.pure _))
    ·obtain ⟨b',j',h6,h7,h8,h9⟩:=ih (p+1) (by omega) (by omega)
     refine ⟨b',j',Evt.succ ?_,h7,by omega,fun hb=>?_⟩
     ·simp only [aV.l0]
      refine Evt.pos (by omega) (Evt.pos (by omega) (Evt.neg c0 (Evt.neg c1 (Evt.neg c2 ?_))))
      rw [bJ (p+1) (by omega) (by omega)]
      exact h6
     ·obtain ⟨q,hq,hs⟩:=h9 hb
      exact ⟨q,hq,.plain p q hlt (by omega) c0 c2 hs⟩
   ·refine ⟨false,p,Evt.succ ?_,h1,Nat.le_refl _,fun h=>by cases h⟩
    simp only [aV.l0]
    exact Evt.neg (by omega) (Evt.pure _)
theorem ve (s:ByteArray) (hS:s.size≤1099511627776) (p:Nat) (hp:p < s.size) :
 ∃ (b:Bool) (j:Nat),Evt (fun k=>aV.f k s p) (b,s,(j:Int))∧j≤s.size∧p < j∧(b=true→∃ q,j=q+1∧gp s (p+1) q):=by
 obtain ⟨b,j,h1,h2,h3,h4⟩:=yl s hS s.size (p+1) (by omega) (by omega)
 refine ⟨b,j,?_,h2,by omega,h4⟩
 unfold aV.f
 rw [bJ (p+1) (by omega) (by omega)]
 exact h1
def kz (c:Int):Prop:=(48≤c∧c≤57)∨c=45∨c=43∨c=46∨c=101∨c=69
structure gY (s:ByteArray) (P:Int→Prop) (i j:Nat):Prop where
 le:i≤j
 all:∀ m:Nat,i≤m→m < j→P (bt s m)
theorem gY.refl (s:ByteArray) (P:Int→Prop) (i:Nat):gY s P i i:=⟨Nat.le_refl _,fun m h1 h2=>by omega⟩
theorem gY.trans {s:ByteArray} {P:Int→Prop} {i j k:Nat} (h:gY s P i j) (h':gY s P j k):gY s P i k :=
 ⟨Nat.le_trans h.le h'.le,fun m h1 h2=>if hm:m < j then h.all m h1 hm else h'.all m (by omega) h2⟩
theorem gY.mono {s:ByteArray} {P P':Int→Prop} {i j:Nat} (h:gY s P i j) (hP:∀ c,P c→P' c):gY s P' i j:=⟨h.le,fun m h1 h2=>hP _ (h.all m h1 h2)⟩
theorem take_any (s:ByteArray) (hS:s.size≤1099511627776) (i:Nat) (hi:i≤s.size) (c:Int) :
 ∃ (b:Bool) (j:Nat),bP.f s i c=some (b,s,(j:Int))∧j≤s.size∧gY s (·=c) i j∧(b=true→j=i+1∧bt s i=c)∧(b=false→j=i):=by
 by_cases h:i < s.size∧bt s i=c
 ·refine ⟨true,i+1,dY s hS i c h.1 h.2,h.1,⟨by omega,fun m h1 h2=>?_⟩,(fun _=>⟨rfl,h.2⟩),fun h=>by cases h⟩
  have:m=i:=by omega
  subst this;exact h.2
 ·exact ⟨false,i,fK s i c h,hi,gY.refl s _ i,(fun h=>by cases h),fun _=>rfl⟩
def Dg (c:Int):Prop:=48≤c∧c≤57
theorem Dg.num (c:Int) (h:Dg c):kz c:=.inl h
theorem xZ (s:ByteArray) (hS:s.size≤1099511627776) (i n:Nat):∀ p:Nat,s.size - p=n→p≤s.size→i≤p →
 ∃ (b:Bool) (j:Nat),Evt (fun k=>bH.l0 k i (bt s p) s p) (b,s,(j:Int))∧j≤s.size∧gY s Dg p j∧(b=true↔i < j)∧¬ Dg (bt s j):=by
 induction n with
 | zero =>
   intro p h0 h1 h2
   have hb:=lL s p (by omega)
   refine ⟨decide ((p:Int) > i),p,Evt.succ ?_,h1,gY.refl s _ p,by rw [decide_eq_true_eq];omega,by unfold Dg;omega⟩
   simp only [bH.l0]
   rw [hb]
   exact Evt.neg (by omega) (Evt.pure _)
 | succ n ih =>
   intro p h0 h1 h2
   by_cases hd:48≤bt s p∧bt s p≤57
   ·obtain ⟨b,j,h3,h4,h5,h6⟩:=ih (p+1) (by omega) (by omega) (by omega)
    refine ⟨b,j,Evt.succ ?_,h4,⟨by have:=h5.le;omega,fun m h7 h8=>?_⟩,h6⟩
    ·simp only [bH.l0]
     refine Evt.pos hd.1 (Evt.pos hd.2 ?_)
     rw [bJ (p+1) (by omega) (by omega)]
     exact Evt.aI (eH s (p+1)) h3
    ·by_cases hm:m=p
     ·subst hm;exact hd
     ·exact h5.all m (by omega) h8
   ·refine ⟨decide ((p:Int) > i),p,Evt.succ ?_,h1,gY.refl s _ p,by rw [decide_eq_true_eq];omega,hd⟩
    simp only [bH.l0]
    by_cases h3:48≤bt s p
    ·exact Evt.pos h3 (Evt.neg (fun h=>hd ⟨h3,h⟩) (Evt.pure _))
    ·exact Evt.neg h3 (Evt.pure _)
theorem mi (s:ByteArray) (hS:s.size≤1099511627776) (p:Nat) (hp:p≤s.size) :
 ∃ (b:Bool) (j:Nat),Evt (fun k=>bH.f k s p) (b,s,(j:Int))∧j≤s.size∧gY s Dg p j∧(b=true↔p < j)∧¬ Dg (bt s j):=by
 obtain ⟨b,j,h3,h4⟩:=xZ s hS p _ p rfl hp (Nat.le_refl _)
 refine ⟨b,j,?_,h4⟩
 unfold bH.f
 exact Evt.aI (eH s p) h3
def zx (s:ByteArray) (p e:Nat):Prop:=∃ d,(d=p∨d=p+1∧(bt s p=43∨bt s p=45))∧d < e∧gY s Dg d e
def uY (s:ByteArray) (p e:Nat):Prop:=e=p∨(bt s p=101∨bt s p=69)∧zx s (p+1) e
def qi (s:ByteArray) (p e:Nat):Prop:=∃ c,(c=p∨bt s p=46∧p+1 < c∧gY s Dg (p+1) c)∧uY s c e
def wG (s:ByteArray) (i e:Nat):Prop:=∃ a b,(a=i∨a=i+1∧bt s i=45)∧(b=a+1∧bt s a=48∨bt s a≠48∧a < b∧gY s Dg a b)∧qi s b e
theorem rP (s:ByteArray) (hS:s.size≤1099511627776) (x:Bool) (p:Nat) (hp:p≤s.size) :
 ∃ (b:Bool) (j:Nat),Evt (fun k=>aC.j2 k x s p) (b,s,(j:Int))∧j≤s.size∧gY s kz p j∧(b=true→if x then zx s p j else j=p):=by
 cases x with
 | false =>
   refine ⟨true,p,Evt.succ ?_,hp,gY.refl s _ p,fun _=>by simp⟩
   simp only [aC.j2]
   exact Evt.neg (by simp) (Evt.pure _)
 | true =>
   obtain ⟨b,j,h1,h2,h3,h4,h5⟩:=take_any s hS p hp 43
   have h3':=h3.mono (P':=kz) (fun c hc=>by subst hc;exact .inr (.inr (.inl rfl)))
   cases b with
   | true =>
     obtain ⟨b',j',f5,f6,f7,f8,_⟩:=mi s hS j h2
     refine ⟨b',j',Evt.succ ?_,f6,h3'.trans (f7.mono Dg.num),fun hb=>?_⟩
     ·simp only [aC.j2]
      exact Evt.pos (by simp) (Evt.aI h1 (Evt.pos (by simp) (Evt.bind f5 (Evt.pure _))))
     ·simp only [if_true]
      exact ⟨j,.inr ⟨(h4 rfl).1,.inl (h4 rfl).2⟩,f8.1 hb,f7⟩
   | false =>
     obtain ⟨b1,j1,g1,g2,g3,g4,g5⟩:=take_any s hS j h2 45
     obtain ⟨b',j',f5,f6,f7,f8,_⟩:=mi s hS j1 g2
     refine ⟨b',j',Evt.succ ?_,f6,(h3'.trans (g3.mono (fun c hc=>by subst hc;exact .inr (.inl rfl)))).trans (f7.mono Dg.num),fun hb=>?_⟩
     ·simp only [aC.j2]
      exact Evt.pos (by simp) (Evt.aI h1 (Evt.neg (by simp) (Evt.aI g1 (Evt.bind f5 (Evt.pure _)))))
     ·simp only [if_true]
      obtain rfl:=h5 rfl
      cases b1 with
      | true=>exact ⟨j1,.inr ⟨(g4 rfl).1,.inr (g4 rfl).2⟩,f8.1 hb,f7⟩
      | false=>obtain rfl:=g5 rfl;exact ⟨j1,.inl rfl,f8.1 hb,f7⟩
theorem sK (s:ByteArray) (hS:s.size≤1099511627776) (x:Bool) (p:Nat) (hp:p≤s.size) :
 ∃ (b:Bool) (j:Nat),Evt (fun k=>aC.j1 k x s p) (b,s,(j:Int))∧j≤s.size∧gY s kz p j∧(b=true→x=false∧uY s p j):=by
 cases x with
 | true =>
   refine ⟨false,p,Evt.succ ?_,hp,gY.refl s _ p,fun h=>by cases h⟩
   simp only [aC.j1]
   exact Evt.pos (by simp) (Evt.pure _)
 | false =>
   obtain ⟨b,j,h1,h2,h3,h4,h5⟩:=take_any s hS p hp 101
   have h3':=h3.mono (P':=kz) (fun c hc=>by subst hc;exact .inr (.inr (.inr (.inr (.inl rfl)))))
   cases b with
   | true =>
     obtain ⟨b',j',f5,f6,f7,f8⟩:=rP s hS true j h2
     refine ⟨b',j',Evt.succ ?_,f6,h3'.trans f7,fun hb=>⟨rfl,.inr ⟨.inl (h4 rfl).2,?_⟩⟩⟩
     ·simp only [aC.j1]
      exact Evt.neg (by simp) (Evt.aI h1 (Evt.pos (by simp) f5))
     ·have:=f8 hb
      rw [(h4 rfl).1] at this
      simpa using this
   | false =>
     obtain rfl:=h5 rfl
     obtain ⟨b1,j1,g1,g2,g3,g4,g5⟩:=take_any s hS j h2 69
     obtain ⟨b',j',f5,f6,f7,f8⟩:=rP s hS b1 j1 g2
     refine ⟨b',j',Evt.succ ?_,f6,(h3'.trans (g3.mono (fun c hc=>by subst hc;exact .inr (.inr (.inr (.inr (.inr rfl))))))).trans f7,fun hb=>⟨rfl,?_⟩⟩
     ·simp only [aC.j1]
      exact Evt.neg (by simp) (Evt.aI h1 (Evt.neg (by simp) (Evt.aI g1 f5)))
     ·have h9:=f8 hb
      cases b1 with
      | true=>rw [(g4 rfl).1] at h9;exact .inr ⟨.inr (g4 rfl).2,by simpa using h9⟩
      | false=>obtain rfl:=g5 rfl;exact .inl (by simpa using h9)
theorem sH (s:ByteArray) (hS:s.size≤1099511627776) (x:Bool) (p:Nat) (hp:p≤s.size) :
 ∃ (b:Bool) (j:Nat),Evt (fun k=>aC.j0 k x s p) (b,s,(j:Int))∧j≤s.size∧gY s kz p j∧(b=true→x=false∧qi s p j):=by
 cases x with
 | true =>
   refine ⟨false,p,Evt.succ ?_,hp,gY.refl s _ p,fun h=>by cases h⟩
   simp only [aC.j0]
   exact Evt.pos (by simp) (Evt.pure _)
 | false =>
   obtain ⟨b,j,h1,h2,h3,h4,h5⟩:=take_any s hS p hp 46
   have h3':=h3.mono (P':=kz) (fun c hc=>by subst hc;exact .inr (.inr (.inr (.inl rfl))))
   cases b with
   | true =>
     obtain ⟨b1,j1,g1,g2,g3,g4,_⟩:=mi s hS j h2
     obtain ⟨b',j',f5,f6,f7,f8⟩:=sK s hS (!b1) j1 g2
     refine ⟨b',j',Evt.succ ?_,f6,(h3'.trans (g3.mono Dg.num)).trans f7,fun hb=>⟨rfl,j1,.inr ⟨(h4 rfl).2,?_,?_⟩,(f8 hb).2⟩⟩
     ·simp only [aC.j0]
      exact Evt.neg (by simp) (Evt.aI h1 (Evt.pos (by simp) (Evt.bind g1 f5)))
     ·have:=g4.1 (by have:=(f8 hb).1;simpa using this)
      have:=(h4 rfl).1
      omega
     ·rw [← (h4 rfl).1];exact g3
   | false =>
     obtain rfl:=h5 rfl
     obtain ⟨b',j',f5,f6,f7,f8⟩:=sK s hS false j h2
     refine ⟨b',j',Evt.succ ?_,f6,h3'.trans f7,fun hb=>⟨rfl,j,.inl rfl,(f8 hb).2⟩⟩
     simp only [aC.j0]
     exact Evt.neg (by simp) (Evt.aI h1 (Evt.neg (by simp) f5))
theorem uY.le {s:ByteArray} {p e:Nat} (h:uY s p e):p≤e:=by
 rcases h with h | ⟨_,d,h,h2,_⟩ <;> omega
theorem wG.lt {s:ByteArray} {i e:Nat} (h:wG s i e):i < e:=by
 obtain ⟨a,b,h1,h2,c,h3,h4⟩:=h
 have:=h4.le
 omega
theorem Ba (s:ByteArray) (hS:s.size≤1099511627776) (p:Nat) (hp:p≤s.size) :
 ∃ (b:Bool) (j:Nat),Evt (fun k=>aC.f k s p) (b,s,(j:Int))∧j≤s.size∧gY s kz p j∧(b=true→wG s p j):=by
 obtain ⟨b,j,h1,h2,h3,h4,h5⟩:=take_any s hS p hp 45
 have h3':=h3.mono (P':=kz) (fun c hc=>by subst hc;exact .inr (.inl rfl))
 have hj:j=p∨j=p+1∧bt s p=45:=by
  cases b with
  | true=>exact .inr (h4 rfl)
  | false=>exact .inl (h5 rfl)
 obtain ⟨b1,j1,g1,g2,g3,g4,g5⟩:=take_any s hS j h2 48
 have g3':=g3.mono (P':=kz) (fun c hc=>by subst hc;exact .inl ⟨by omega,by omega⟩)
 unfold aC.f
 cases b1 with
 | true =>
   obtain ⟨b',j',f5,f6,f7,f8⟩:=sH s hS false j1 g2
   exact ⟨b',j',Evt.aI h1 (Evt.aI g1 (Evt.pos (by simp) f5)),f6,(h3'.trans g3').trans f7,fun hb=>⟨j,j1,hj,.inl (g4 rfl),(f8 hb).2⟩⟩
 | false =>
   obtain rfl:=g5 rfl
   obtain ⟨b2,j2,f1,f2,f3,f4,_⟩:=mi s hS j1 g2
   obtain ⟨b',j',e5,e6,e7,e8⟩:=sH s hS (!b2) j2 f2
   refine ⟨b',j',Evt.aI h1 (Evt.aI g1 (Evt.neg (by simp) (Evt.bind f1 e5))),e6,((h3'.trans g3').trans (f3.mono Dg.num)).trans e7,fun hb=>?_⟩
   have hlt:=f4.1 (by have:=(e8 hb).1;simpa using this)
   refine ⟨j1,j2,hj,.inr ⟨fun h48=>?_,hlt,f3⟩,(e8 hb).2⟩
   have:=dY s hS j1 48 (by omega) h48
   rw [this] at g1
   simp at g1
def ni:ByteArray:=⟨#[110,117,108,108]⟩
def lY:ByteArray:=⟨#[102,97,108,115,101]⟩
def qU:ByteArray:=⟨#[116,114,117,101]⟩
inductive Md | val | els | mems
inductive J (s:ByteArray):Md→Nat→Nat→Int→List S44→List S32→Prop
 | null (i:Nat):Word s i ni→J s .val i (i+4) 0 [] []
 | fals (i:Nat):Word s i lY→J s .val i (i+5) 1 [] []
 | tru (i:Nat):Word s i qU→J s .val i (i+4) 2 [] []
 | num (i e:Nat):(bt s i=45∨(48≤bt s i∧bt s i≤57))→i < e→e≤s.size→gY s kz i e→wG s i e→J s .val i e 3 [] []
 | str (i q:Nat):i < s.size→bt s i=34→gp s (i+1) q→J s .val i (q+1) 4 [] []
 | arr0 (i j:Nat):i < s.size→bt s i=91→Blanks s (i+1) j→j < s.size→bt s j=93→J s .val i (j+1) 5 [] []
 | arr (i j e:Nat) (ks:List S32):i < s.size→bt s i=91→Blanks s (i+1) j→J s .els j e 0 [] ks→J s .val i e 5 [] ks
 | obj0 (i j:Nat):i < s.size→bt s i=123→Blanks s (i+1) j→j < s.size→bt s j=125→J s .val i (j+1) 6 [] []
 | obj (i j e:Nat) (ns:List S44) (ks:List S32):i < s.size→bt s i=123→Blanks s (i+1) j→J s .mems j e 0 ns ks→J s .val i e 6 ns ks
 | el1 (i m e:Nat) (kd:Int) (ns:List S44) (ks:List S32):J s .val i m kd ns ks→Blanks s m e→e < s.size→bt s e=93→J s .els i (e+1) 0 [] [⟨kd,(i:Nat),(m:Nat),ns,ks⟩]
 | els (i m c n e:Nat) (kd:Int) (ns:List S44) (ks l:List S32):J s .val i m kd ns ks→Blanks s m c→c < s.size→bt s c=44→Blanks s (c+1) n→J s .els n e 0 [] l→J s .els i e 0 [] (⟨kd,(i:Nat),(m:Nat),ns,ks⟩ :: l)
 | mem1 (i q c b m e:Nat) (kd:Int) (ns:List S44) (ks:List S32):i < s.size→bt s i=34→gp s (i+1) q→Blanks s (q+1) c→c < s.size→bt s c=58→Blanks s (c+1) b→J s .val b m kd ns ks→Blanks s m e→e < s.size→bt s e=125 →
    J s .mems i (e+1) 0 [⟨(i:Nat),(q+1:Nat)⟩] [⟨kd,(b:Nat),(m:Nat),ns,ks⟩]
 | mems (i q c b m d n e:Nat) (kd:Int) (ns nl:List S44) (ks l:List S32):i < s.size→bt s i=34→gp s (i+1) q→Blanks s (q+1) c→c < s.size→bt s c=58→Blanks s (c+1) b→J s .val b m kd ns ks→Blanks s m d→d < s.size→bt s d=44→Blanks s (d+1) n →
    J s .mems n e 0 nl l→J s .mems i e 0 (⟨(i:Nat),(q+1:Nat)⟩ :: nl) (⟨kd,(b:Nat),(m:Nat),ns,ks⟩ :: l)
theorem J.bound {s:ByteArray} {md:Md} {i e:Nat} {kd:Int} {ns:List S44} {ks:List S32} (h:J s md i e kd ns ks):i < e∧e≤s.size:=by
 induction h with
 | null i h=>have:=h.le;have:ni.size=4:=rfl;omega
 | fals i h=>have:=h.le;have:lY.size=5:=rfl;omega
 | tru i h=>have:=h.le;have:qU.size=4:=rfl;omega
 | num i e h0 h1 h2 h3=>omega
 | str i q h0 h1 h2=>have:=h2.bound;omega
 | arr0 i j h0 h1 h2 h3 h4=>have:=h2.le;omega
 | arr i j e ks h0 h1 h2 h3 ih=>have:=h2.le;omega
 | obj0 i j h0 h1 h2 h3 h4=>have:=h2.le;omega
 | obj i j e ns ks h0 h1 h2 h3 ih=>have:=h2.le;omega
 | el1 i m e kd ns ks h0 h1 h2 h3 ih=>have:=h1.le;omega
 | els i m c n e kd ns ks l h0 h1 h2 h3 h4 h5 ih ih2=>have:=h1.le;have:=h4.le;omega
 | mem1 i q c b m e kd ns ks h0 h1 h2 h3 h4 h5 h6 h7 h8 h9 h10 ih=>have:=h2.bound;have:=h3.le;have:=h6.le;have:=h8.le;omega
 | mems i q c b m d n e kd ns nl ks l h0 h1 h2 h3 h4 h5 h6 h7 h8 h9 h10 h11 h12 ih ih2=>have:=h2.bound;have:=h3.le;have:=h6.le;have:=h8.le;have:=h11.le;omega
def VL (s:ByteArray) (i:Nat):Prop:=∃ (kd:Int) (e:Nat) (ns:List S44) (ks:List S32) (ok:Bool),Evt (fun k=>aK.f k s i) (kd,(i:Int),(e:Int),ns,ks,ok,s,(e:Int))∧e≤s.size∧(ok=true→J s .val i e kd ns ks)
def EL (s:ByteArray) (i:Nat) (acc:List S32):Prop:=∃ (r:List S32) (ok:Bool) (e:Nat),Evt (fun k=>bC.l0 k acc s i) (r,ok,s,(e:Int))∧e≤s.size∧(ok=true→∃ l,r=acc ++ l∧J s .els i e 0 [] l)
def ML (s:ByteArray) (i:Nat) (nacc:List S44) (acc:List S32):Prop:=∃ (rn:List S44) (r:List S32) (ok:Bool) (e:Nat),Evt (fun k=>aG.l0 k nacc acc s i) (rn,r,ok,s,(e:Int))∧e≤s.size ∧
 (ok=true→∃ nl l,rn=nacc ++ nl∧r=acc ++ l∧J s .mems i e 0 nl l)
theorem qM (s:ByteArray) (hS:s.size≤1099511627776) (i:Nat) (hi:i≤s.size) (x:Bool) (hx:x=true→bt s i=45∨(48≤bt s i∧bt s i≤57)) :
 ∃ (kd:Int) (e:Nat) (ns:List S44) (ks:List S32) (ok:Bool),Evt (fun k=>aK.j0 k true x s i 0 i 0) (kd,(i:Int),(e:Int),ns,ks,ok,s,(e:Int))∧e≤s.size∧(ok=true→J s .val i e kd ns ks):=by
 cases x with
 | true =>
   obtain ⟨b,j,h1,h2,h3,h4⟩:=Ba s hS i hi
   refine ⟨3,j,[],[],b,Evt.succ ?_,h2,fun hb => .num i j (hx rfl) (h4 hb).lt h2 h3 (h4 hb)⟩
   simp only [aK.j0]
   exact Evt.pos (by simp) (Evt.bind h1 (Evt.pure _))
 | false =>
   rcases qm s hS i hi ni (by decide) with ⟨h1,h2⟩ | ⟨h1,h2⟩
   ·refine ⟨0,i+4,[],[],true,Evt.succ ?_,h1.le,fun _ => .null i h1⟩
    simp only [aK.j0]
    exact Evt.neg (by simp) (Evt.aI h2 (Evt.pos (by simp) (Evt.pure _)))
   rcases qm s hS i hi lY (by decide) with ⟨h3,h4⟩ | ⟨h3,h4⟩
   ·refine ⟨1,i+5,[],[],true,Evt.succ ?_,h3.le,fun _ => .fals i h3⟩
    simp only [aK.j0]
    exact Evt.neg (by simp) (Evt.aI h2 (Evt.neg (by simp) (Evt.aI h4 (Evt.pos (by simp) (Evt.pure _)))))
   rcases qm s hS i hi qU (by decide) with ⟨h5,h6⟩ | ⟨h5,h6⟩
   ·refine ⟨2,i+4,[],[],true,Evt.succ ?_,h5.le,fun _ => .tru i h5⟩
    simp only [aK.j0]
    exact Evt.neg (by simp) (Evt.aI h2 (Evt.neg (by simp) (Evt.aI h4 (Evt.neg (by simp) (Evt.aI h6 (Evt.pos (by simp) (Evt.pure _)))))))
   ·refine ⟨0,i,[],[],false,Evt.succ ?_,hi,fun h=>by cases h⟩
    simp only [aK.j0]
    exact Evt.neg (by simp) (Evt.aI h2 (Evt.neg (by simp) (Evt.aI h4 (Evt.neg (by simp) (Evt.aI h6 (Evt.neg (by simp) (Evt.pure _)))))))
theorem nK (s:ByteArray) (hS:s.size≤1099511627776) (i:Nat) (hi:i≤s.size) (hE:∀ j:Nat,i < j→j≤s.size→EL s j []) (hM:∀ j:Nat,i < j→j≤s.size→ML s j [] []):VL s i:=by
 have hin:∀ c:Int,c≠0→bt s i=c→i < s.size:=fun c h0 hc=>by
  rcases Nat.lt_or_ge i s.size with h | h
  ·exact h
  ·exact absurd ((lL s i h).symm.trans hc) h0.symm
 by_cases c0:bt s i=123
 ·have hlt:=hin 123 (by decide) c0
  obtain ⟨j,h1,h2,h3,h4⟩:=jh s hS (i+1) (by omega)
  by_cases c:j < s.size∧bt s j=125
  ·refine ⟨6,j+1,[],[],true,Evt.succ ?_,c.1,fun _ => .obj0 i j hlt c0 h1 c.1 c.2⟩
   simp only [aK.f]
   refine Evt.aI (eH s i) (Evt.pos c0 (Evt.bind (x:=([],[],true,s,((j+1:Nat):Int))) (Evt.succ ?_) (Evt.pure _)))
   simp only [aG.f]
   rw [bJ (i+1) (by omega) (by omega)]
   exact Evt.bind h4 (Evt.aI (dY s hS j 125 c.1 c.2) (Evt.pos (by simp) (Evt.pure _)))
  ·obtain ⟨rn,r,ok,e,g1,g2,g3⟩:=hM j (by have:=h1.le;omega) h2
   refine ⟨6,e,rn,r,ok,Evt.succ ?_,g2,fun hok=>?_⟩
   ·simp only [aK.f]
    refine Evt.aI (eH s i) (Evt.pos c0 (Evt.bind (x:=(rn,r,ok,s,(e:Int))) (Evt.succ ?_) (Evt.pure _)))
    simp only [aG.f]
    rw [bJ (i+1) (by omega) (by omega)]
    exact Evt.bind h4 (Evt.aI (fK s j 125 c) (Evt.neg (by simp) g1))
   ·obtain ⟨nl,l,rfl,rfl,hj⟩:=g3 hok
    exact .obj i j e _ _ hlt c0 h1 hj
 by_cases c1:bt s i=91
 ·have hlt:=hin 91 (by decide) c1
  obtain ⟨j,h1,h2,h3,h4⟩:=jh s hS (i+1) (by omega)
  by_cases c:j < s.size∧bt s j=93
  ·refine ⟨5,j+1,[],[],true,Evt.succ ?_,c.1,fun _ => .arr0 i j hlt c1 h1 c.1 c.2⟩
   simp only [aK.f]
   refine Evt.aI (eH s i) (Evt.neg c0 (Evt.pos c1 (Evt.bind (x:=([],true,s,((j+1:Nat):Int))) (Evt.succ ?_) (Evt.pure _))))
   simp only [bC.f]
   rw [bJ (i+1) (by omega) (by omega)]
   exact Evt.bind h4 (Evt.aI (dY s hS j 93 c.1 c.2) (Evt.pos (by simp) (Evt.pure _)))
  ·obtain ⟨r,ok,e,g1,g2,g3⟩:=hE j (by have:=h1.le;omega) h2
   refine ⟨5,e,[],r,ok,Evt.succ ?_,g2,fun hok=>?_⟩
   ·simp only [aK.f]
    refine Evt.aI (eH s i) (Evt.neg c0 (Evt.pos c1 (Evt.bind (x:=(r,ok,s,(e:Int))) (Evt.succ ?_) (Evt.pure _))))
    simp only [bC.f]
    rw [bJ (i+1) (by omega) (by omega)]
    exact Evt.bind h4 (Evt.aI (fK s j 93 c) (Evt.neg (by simp) g1))
   ·obtain ⟨l,rfl,hj⟩:=g3 hok
    exact .arr i j e _ hlt c1 h1 hj
 by_cases c2:bt s i=34
 ·have hlt:=hin 34 (by decide) c2
  obtain ⟨b,j,h1,h2,h3,h4⟩:=ve s hS i hlt
  refine ⟨4,j,[],[],b,Evt.succ ?_,h2,fun hb=>?_⟩
  ·simp only [aK.f]
   exact Evt.aI (eH s i) (Evt.neg c0 (Evt.neg c1 (Evt.pos c2 (Evt.bind h1 (Evt.pure _)))))
  ·obtain ⟨q,rfl,hq⟩:=h4 hb
   exact .str i q hlt c2 hq
 by_cases c3:bt s i=45
 ·obtain ⟨kd,e,ns,ks,ok,h1,h2,h3⟩:=qM s hS i hi true (fun _ => .inl c3)
  refine ⟨kd,e,ns,ks,ok,Evt.succ ?_,h2,h3⟩
  simp only [aK.f]
  exact Evt.aI (eH s i) (Evt.neg c0 (Evt.neg c1 (Evt.neg c2 (Evt.pos c3 h1))))
 by_cases c4:48≤bt s i
 ·obtain ⟨kd,e,ns,ks,ok,h1,h2,h3⟩:=qM s hS i hi (decide (bt s i≤57)) (fun h => .inr ⟨c4,of_decide_eq_true h⟩)
  refine ⟨kd,e,ns,ks,ok,Evt.succ ?_,h2,h3⟩
  simp only [aK.f]
  exact Evt.aI (eH s i) (Evt.neg c0 (Evt.neg c1 (Evt.neg c2 (Evt.neg c3 (Evt.pos c4 h1)))))
 ·obtain ⟨kd,e,ns,ks,ok,h1,h2,h3⟩:=qM s hS i hi false (fun h=>by cases h)
  refine ⟨kd,e,ns,ks,ok,Evt.succ ?_,h2,h3⟩
  simp only [aK.f]
  exact Evt.aI (eH s i) (Evt.neg c0 (Evt.neg c1 (Evt.neg c2 (Evt.neg c3 (Evt.neg c4 h1)))))
theorem kT (s:ByteArray) (hS:s.size≤1099511627776) (i:Nat) (hi:i≤s.size) (acc:List S32) (ha:acc.length≤i) (hV:VL s i) (hE:∀ (j:Nat) (acc:List S32),i < j→j≤s.size→acc.length≤j→EL s j acc):EL s i acc:=by
 obtain ⟨kd,m,ns,ks,ok,h1,h2,h3⟩:=hV
 cases ok with
 | false =>
   refine ⟨[],false,m,Evt.succ ?_,h2,fun h=>by cases h⟩
   simp only [bC.l0]
   exact Evt.bind h1 (Evt.neg (by simp) (Evt.pure _))
 | true =>
   have hJ:=h3 rfl
   have hb:=hJ.bound
   obtain ⟨c,b1,b2,b3,b4⟩:=jh s hS m h2
   have hle:=b1.le
   by_cases c0:c < s.size∧bt s c=93
   ·refine ⟨acc ++ [⟨kd,(i:Nat),(m:Nat),ns,ks⟩],true,c+1,Evt.succ ?_,c0.1,fun _=>⟨_,rfl,.el1 i m c kd ns ks hJ b1 c0.1 c0.2⟩⟩
    simp only [bC.l0]
    exact Evt.bind h1 (Evt.pos (by simp) (Evt.pos (by omega) (Evt.aI rfl (Evt.bind b4 (Evt.aI (dY s hS c 93 c0.1 c0.2) (Evt.pos (by simp) (Evt.pure _)))))))
   by_cases c1:c < s.size∧bt s c=44
   ·obtain ⟨n,d1,d2,d3,d4⟩:=jh s hS (c+1) (by omega)
    have hle2:=d1.le
    obtain ⟨r,ok,e,g1,g2,g3⟩:=hE n (acc ++ [⟨kd,(i:Nat),(m:Nat),ns,ks⟩]) (by omega) d2 (by simp;omega)
    refine ⟨r,ok,e,Evt.succ ?_,g2,fun hok=>?_⟩
    ·simp only [bC.l0]
     exact Evt.bind h1 (Evt.pos (by simp) (Evt.pos (by omega) (Evt.aI rfl (Evt.bind b4 (Evt.aI (fK s c 93 c0) (Evt.neg (by simp) (Evt.aI (dY s hS c 44 c1.1 c1.2) (Evt.pos (by simp) (Evt.bind d4 g1)))))))))
    ·obtain ⟨l,rfl,hl⟩:=g3 hok
     exact ⟨⟨kd,(i:Nat),(m:Nat),ns,ks⟩ :: l,by simp,.els i m c n e kd ns ks l hJ b1 c1.1 c1.2 d1 hl⟩
   ·refine ⟨[],false,c,Evt.succ ?_,b2,fun h=>by cases h⟩
    simp only [bC.l0]
    exact Evt.bind h1 (Evt.pos (by simp) (Evt.pos (by omega) (Evt.aI rfl (Evt.bind b4 (Evt.aI (fK s c 93 c0) (Evt.neg (by simp) (Evt.aI (fK s c 44 c1) (Evt.neg (by simp) (Evt.pure _)))))))))
theorem lG (s:ByteArray) (hS:s.size≤1099511627776) (i:Nat) (hi:i≤s.size) (nacc:List S44) (acc:List S32) (hn:nacc.length≤i) (ha:acc.length≤i) (hV:∀ j:Nat,i < j→j≤s.size→VL s j)
 (hM:∀ (j:Nat) (nacc:List S44) (acc:List S32),i < j→j≤s.size→nacc.length≤j→acc.length≤j→ML s j nacc acc):ML s i nacc acc:=by
 have bad:∀ (j:Nat) (g:Nat→Option ((List S44) × (List S32) × Bool × ByteArray × Int)),j≤s.size→Evt g ([],[],false,s,(j:Int))→(∀ k,aG.l0 (k+1) nacc acc s i=g k)→ML s i nacc acc:=fun j g hj hg he =>
  ⟨[],[],false,j,Evt.succ (Evt.congr he hg),hj,fun h=>by cases h⟩
 by_cases c0:bt s i=34
 ·have hlt:i < s.size:=by
   rcases Nat.lt_or_ge i s.size with h | h
   ·exact h
   ·have:=lL s i h;omega
  obtain ⟨b,q',h1,h2,h3,h4⟩:=ve s hS i hlt
  cases b with
  | false =>
    refine ⟨[],[],false,q',Evt.succ ?_,h2,fun h=>by cases h⟩
    simp only [aG.l0]
    refine Evt.aI (eH s i) (Evt.pos c0 (Evt.bind h1 (Evt.succ ?_)))
    simp only [aG.j1]
    exact Evt.pos (by simp) (Evt.pure _)
  | true =>
    obtain ⟨q,rfl,hq⟩:=h4 rfl
    obtain ⟨c,b1,b2,b3,b4⟩:=jh s hS (q+1) h2
    have hle:=b1.le
    by_cases c1:c < s.size∧bt s c=58
    ·obtain ⟨v,d1,d2,d3,d4⟩:=jh s hS (c+1) (by omega)
     have hle2:=d1.le
     obtain ⟨kd,m,ns,ks,ok,e1,e2,e3⟩:=hV v (by omega) d2
     cases ok with
     | false =>
       refine ⟨[],[],false,m,Evt.succ ?_,e2,fun h=>by cases h⟩
       simp only [aG.l0]
       refine Evt.aI (eH s i) (Evt.pos c0 (Evt.bind h1 (Evt.succ ?_)))
       simp only [aG.j1]
       exact Evt.neg (by simp) (Evt.pos (by omega) (Evt.aI rfl (Evt.bind b4 (Evt.aI (dY s hS c 58 c1.1 c1.2) (Evt.pos (by simp) (Evt.bind d4 (Evt.bind e1 (Evt.neg (by simp) (Evt.pure _)))))))))
     | true =>
       have hJ:=e3 rfl
       have hb:=hJ.bound
       obtain ⟨d,f1,f2,f3,f4⟩:=jh s hS m e2
       have hle3:=f1.le
       by_cases c2:d < s.size∧bt s d=125
       ·refine ⟨nacc ++ [⟨(i:Nat),(q+1:Nat)⟩],acc ++ [⟨kd,(v:Nat),(m:Nat),ns,ks⟩],true,d+1,Evt.succ ?_,c2.1,fun _=>⟨_,_,rfl,rfl,.mem1 i q c v m d kd ns ks hlt c0 hq b1 c1.1 c1.2 d1 hJ f1 c2.1 c2.2⟩⟩
        simp only [aG.l0]
        refine Evt.aI (eH s i) (Evt.pos c0 (Evt.bind h1 (Evt.succ ?_)))
        simp only [aG.j1]
        exact Evt.neg (by simp) (Evt.pos (by omega) (Evt.aI rfl (Evt.bind b4 (Evt.aI (dY s hS c 58 c1.1 c1.2) (Evt.pos (by simp) (Evt.bind d4 (Evt.bind e1 (Evt.pos (by simp) (Evt.pos (by omega) (Evt.aI rfl (Evt.bind f4 (Evt.aI (dY s hS d 125 c2.1 c2.2) (Evt.pos (by simp) (Evt.pure _))))))))))))))
       by_cases c3:d < s.size∧bt s d=44
       ·obtain ⟨n,p1,p2,p3,p4⟩:=jh s hS (d+1) (by omega)
        have hle4:=p1.le
        obtain ⟨rn,r,ok,e,g1,g2,g3⟩:=hM n (nacc ++ [⟨(i:Nat),(q+1:Nat)⟩]) (acc ++ [⟨kd,(v:Nat),(m:Nat),ns,ks⟩]) (by omega) p2 (by simp;omega) (by simp;omega)
        refine ⟨rn,r,ok,e,Evt.succ ?_,g2,fun hok=>?_⟩
        ·simp only [aG.l0]
         refine Evt.aI (eH s i) (Evt.pos c0 (Evt.bind h1 (Evt.succ ?_)))
         simp only [aG.j1]
         exact Evt.neg (by simp) (Evt.pos (by omega) (Evt.aI rfl (Evt.bind b4 (Evt.aI (dY s hS c 58 c1.1 c1.2) (Evt.pos (by simp) (Evt.bind d4 (Evt.bind e1 (Evt.pos (by simp) (Evt.pos (by omega) (Evt.aI rfl (Evt.bind f4 (Evt.aI (fK s d 125 c2) (Evt.neg (by simp) (Evt.aI (dY s hS d 44 c3.1 c3.2) (Evt.pos (by simp) (Evt.bind p4 g1))))))))))))))))
        ·obtain ⟨nl,l,rfl,rfl,hl⟩:=g3 hok
         exact ⟨⟨(i:Nat),(q+1:Nat)⟩ :: nl,⟨kd,(v:Nat),(m:Nat),ns,ks⟩ :: l,by simp,by simp,.mems i q c v m d n e kd ns nl ks l hlt c0 hq b1 c1.1 c1.2 d1 hJ f1 c3.1 c3.2 p1 hl⟩
       ·refine ⟨[],[],false,d,Evt.succ ?_,f2,fun h=>by cases h⟩
        simp only [aG.l0]
        refine Evt.aI (eH s i) (Evt.pos c0 (Evt.bind h1 (Evt.succ ?_)))
        simp only [aG.j1]
        exact Evt.neg (by simp) (Evt.pos (by omega) (Evt.aI rfl (Evt.bind b4 (Evt.aI (dY s hS c 58 c1.1 c1.2) (Evt.pos (by simp) (Evt.bind d4 (Evt.bind e1 (Evt.pos (by simp) (Evt.pos (by omega) (Evt.aI rfl (Evt.bind f4 (Evt.aI (fK s d 125 c2) (Evt.neg (by simp) (Evt.aI (fK s d 44 c3) (Evt.neg (by simp) (Evt.pure _))))))))))))))))
    ·refine ⟨[],[],false,c,Evt.succ ?_,b2,fun h=>by cases h⟩
     simp only [aG.l0]
     refine Evt.aI (eH s i) (Evt.pos c0 (Evt.bind h1 (Evt.succ ?_)))
     simp only [aG.j1]
     exact Evt.neg (by simp) (Evt.pos (by omega) (Evt.aI rfl (Evt.bind b4 (Evt.aI (fK s c 58 c1) (Evt.neg (by simp) (Evt.pure _))))))
 ·refine ⟨[],[],false,i,Evt.succ ?_,hi,fun h=>by cases h⟩
  simp only [aG.l0]
  refine Evt.aI (eH s i) (Evt.neg c0 (Evt.succ ?_))
  simp only [aG.j1]
  exact Evt.pos (by simp) (Evt.pure _)
theorem yf (s:ByteArray) (hS:s.size≤1099511627776) (n:Nat):∀ i:Nat,s.size - i=n→i≤s.size →
 VL s i∧(∀ acc:List S32,acc.length≤i→EL s i acc)∧(∀ (nacc:List S44) (acc:List S32),nacc.length≤i→acc.length≤i→ML s i nacc acc):=by
 induction n using Nat.strongRecOn with
 | _ n ih =>
   intro i hn hi
   have lower:∀ j:Nat,i < j→j≤s.size→VL s j∧(∀ acc:List S32,acc.length≤j→EL s j acc)∧(∀ (nacc:List S44) (acc:List S32),nacc.length≤j→acc.length≤j→ML s j nacc acc):=fun j h1 h2=>ih (s.size - j) (by omega) j rfl h2
   have hV:=nK s hS i hi (fun j h1 h2=>(lower j h1 h2).2.1 [] (by simp)) (fun j h1 h2=>(lower j h1 h2).2.2 [] [] (by simp) (by simp))
   exact ⟨hV,fun acc ha=>kT s hS i hi acc ha hV (fun j acc h1 h2 h3=>(lower j h1 h2).2.1 acc h3),fun nacc acc h1 h2=>lG s hS i hi nacc acc h1 h2 (fun j h3 h4=>(lower j h3 h4).1) (fun j nacc acc h3 h4 h5 h6=>(lower j h3 h4).2.2 nacc acc h5 h6)⟩
theorem zD (s:ByteArray) (hS:s.size≤1099511627776):∃ (kd b e:Int) (ns:List S44) (ks:List S32) (ok:Bool),Evt (fun k=>fZ.f k s) (kd,b,e,ns,ks,ok) ∧
 (ok=true→∃ i m:Nat,b=i∧e=m∧Blanks s 0 i∧J s .val i m kd ns ks∧Blanks s m s.size):=by
 unfold fZ.f
 obtain ⟨i,b1,b2,b3,b4⟩:=jh s hS 0 (by omega)
 obtain ⟨⟨kd,m,ns,ks,ok,h1,h2,h3⟩,_⟩:=yf s hS _ i rfl b2
 cases ok with
 | false=>exact ⟨0,0,0,[],[],false,Evt.bind b4 (Evt.bind h1 (Evt.neg (by simp) (Evt.pure _))),fun h=>by cases h⟩
 | true =>
   obtain ⟨c,d1,d2,d3,d4⟩:=jh s hS m h2
   by_cases hc:c=s.size
   ·subst hc
    exact ⟨kd,i,m,ns,ks,true,Evt.bind b4 (Evt.bind h1 (Evt.pos (by simp) (Evt.bind d4 (Evt.pos rfl (Evt.pure _))))),fun _=>⟨i,m,rfl,rfl,b1,h3 rfl,d1⟩⟩
   ·exact ⟨0,0,0,[],[],false,Evt.bind b4 (Evt.bind h1 (Evt.pos (by simp) (Evt.bind d4 (Evt.neg (by simp;omega) (Evt.pure _))))),fun h=>by cases h⟩
end Go.Proofs.YtpgfjbimodnkeaaGreatDoor.Scan
