/- FnGjGroupText: whatever text comes in, the law returns true and the text reads afterwards as before; with the fourteen package-level variables that its row lists as the text of the program lays them (the tied card) (part 27 of 33: lemmas for its last part) -/
import Derived.Deep.QuietTactic
import Derived.BigQuiet
import Derived.Test.YtpgfjbimodnkeaaGreatDoorGrp12
import Derived.Test.YtpgfjbimodnkeaaGreatDoorGrp25
import Derived.Test.YtpgfjbimodnkeaaGreatDoorGrp26
set_option maxHeartbeats 16000000
set_option maxRecDepth 100000
set_option linter.unusedVariables false
set_option linter.unusedSimpArgs false
namespace Go.Proofs.YtpgfjbimodnkeaaGreatDoor.Q
open Go.RowKit Go.Proofs.YtpgfjbimodnkeaaGreatDoorW.PrintWords Go.Proofs.YtpgfjbimodnkeaaGreatDoorW.PrintLast Go.Proofs.YtpgfjbimodnkeaaGreatDoorW.PrintMore
structure Ba (w:World) (gn:Nat) (u:Array Value) (W:World):Prop where
 kz:W.heap[w.heap.size]?=some (.cells #[.int .i64 0,.string ⟨#[]⟩,.slice none 0 0,.slice none 0 0] 25 (0,0))
 kn:W.heap[gn]?=some (.cells u 25 (0,0))
 bel:Below w.heap.size w W
theorem Ba.below {w W W':World} {gn:Nat} {u:Array Value} (h:Ba w gn u W) (hb:Below W.heap.size W W'):Ba w gn u W':=⟨bU h.kz hb,bU h.kn hb,dX h.bel h.bel.size hb⟩
theorem Ba.drew {w W:World} {gn:Nat} {u:Array Value} (h:Ba w gn u W):Ba w gn u W.drew:=h.below (dm (Below.refl _ _))
structure BaC (w:World) (gn:Nat) (u:Array Value) (W:World):Prop where
 z0:W.cell? ⟨w.heap.size,0,none⟩=some (.int .i64 0)
 z1:W.cell? ⟨w.heap.size,1,none⟩=some (.string ⟨#[]⟩)
 z2:W.cell? ⟨w.heap.size,2,none⟩=some (.slice none 0 0)
 z3:W.cell? ⟨w.heap.size,3,none⟩=some (.slice none 0 0)
 f0:W.frozen? ⟨w.heap.size,0,none⟩=false
 f1:W.frozen? ⟨w.heap.size,1,none⟩=false
 f2:W.frozen? ⟨w.heap.size,2,none⟩=false
 f3:W.frozen? ⟨w.heap.size,3,none⟩=false
 n0:W.cell? ⟨gn,0,none⟩=u[0]?
 n1:W.cell? ⟨gn,1,none⟩=u[1]?
 n2:W.cell? ⟨gn,2,none⟩=u[2]?
 n3:W.cell? ⟨gn,3,none⟩=u[3]?
theorem Ba.cells {w W:World} {gn:Nat} {u:Array Value} (h:Ba w gn u W):BaC w gn u W :=
 ⟨(ah h.kz 0).trans rfl,(ah h.kz 1).trans rfl,(ah h.kz 2).trans rfl,(ah h.kz 3).trans rfl,ak h.kz 0,ak h.kz 1,ak h.kz 2,ak h.kz 3,ah h.kn 0,ah h.kn 1,ah h.kn 2,ah h.kn 3⟩
def tt (k:Nat):Array Bool:=((List.range 23).map fun x=>decide (x < k)).toArray
theorem nM {w w':World} (h:aj w w'):Below w.heap.size w w':=by
 obtain ⟨nd,rfl⟩:=h
 exact ag (Below.refl _ _) nd
def Gx:Bool × List (List Nat × List Nat):=(true,[([],[]),([],[]),([1],[1]),([2],[2]),([3,2,2],[2,3]),([2,4],[2,4]),([5,4],[5]),([6],[6]),([7,6],[6,7]),([8,6,6],[6,8]),([9,6],[6,9]),([6,10],[6,10]),([11,9],[11]),([12],[12]),([12],[12]),([14,12],[12,14]),([15,12],[12,15]),([13,16,12],[12,13,16]),([17,12,12],[12,17]),([18,12],[12,18]),([12,19],[12,19]),([0,18,0],[0]),([20,21,0,1,2,3,4,5,6,7,8,9,10,11,12,13,14,15,16,17,18,19,20,21],[20])])
def IK:List Nat:=[0,0,2,6,14,30,62,126,254,510,1022,2046,4094,8190,8190,24574,57342,131070,262142,524286,1048574,524287,4194303]
theorem uk:kT .any (opsOf Tryz.f13 2)=Gx:=by kernel_rfl
theorem qC:kK Gx.2 IK=true:=by kernel_rfl
theorem Ba.post {w W:World} {gn:Nat} {u:Array Value} {kd:Int} {txt:ByteArray} {v2 v3:Value} {keys:List ByteArray} {ts:List S25} {o:Bool} {tmps:Array Value} (h:Ba w gn u W) (h3:Kd.string.R 9 W (w.heap.size+1) (fun _=>True) v2 keys) (h4:k25.R 25 W (w.heap.size+1) (fun k=>some k≠v2.ownBlock) v3 ts) (hp:tmps.getD 2 undef = .pointer (some ⟨w.heap.size,0,none⟩)) (ho:tmps.getD 3 undef = .bool o) :
 bodyPost Tryz.prog Tryz.f13 (fun e w'=>∃ A c A3 c3,e = .returned (.tuple #[.agg #[.int .i64 kd,.string txt,.slice A keys.length c,.slice A3 ts.length c3],.bool o])∧Kd.string.C w' A keys.length keys∧k25.C w' A3 ts.length ts∧Below w.heap.size w w') .ret { tmps:=tmps,defers:=[] }
  ((((W.setCell ⟨w.heap.size,0,none⟩ (.int .i64 kd)).setCell ⟨w.heap.size,1,none⟩ (.string txt)).setCell ⟨w.heap.size,2,none⟩ v2).setCell ⟨w.heap.size,3,none⟩ v3):=by
 refine bodyPost_ret (jk rfl _ _ w.heap.size 25 #[.int .i64 kd,.string txt,v2,v3] (0,0) _ hp (cu (cu (cu (cu h.kz 0 _ rfl) 1 _ rfl) 2 _ rfl) 3 _ rfl) Tryz.underlying25 rfl (by kernel_rfl)) rfl ?_
 have hl:=Nat.le_refl w.heap.size
 have r3:=jD (jD (jD (jD h3 (p:=⟨w.heap.size,0,none⟩) (by simp) (.int .i64 kd)) (p:=⟨w.heap.size,1,none⟩) (by simp) (.string txt)) (p:=⟨w.heap.size,2,none⟩) (by simp) v2) (p:=⟨w.heap.size,3,none⟩) (by simp) v3
 have r4:=jD (jD (jD (jD h4 (p:=⟨w.heap.size,0,none⟩) (by simp) (.int .i64 kd)) (p:=⟨w.heap.size,1,none⟩) (by simp) (.string txt)) (p:=⟨w.heap.size,2,none⟩) (by simp) v2) (p:=⟨w.heap.size,3,none⟩) (by simp) v3
 obtain ⟨A2,c2,rfl,-,hC2⟩:=Kd.lq r3
 obtain ⟨A3,c3,rfl,-,hC3⟩:=Kd.lq r4
 exact ⟨A2,c2,A3,c3,by rw [ho],hC2,hC3,aA (aA (aA (aA h.bel hl) hl) hl) hl⟩
theorem yE (w:World) (s:ByteArray) (kd:Int) (txt:ByteArray) (keys:List ByteArray) (ts:List S25) (ok:Bool) (k:Nat) (h:iE.f k s=some (kd,txt,keys,ts,ok)) (hs:ok=true→0 < s.size) (hsz:s.size≤2147483647) (u b0 b1:Bool) (hu:u=uq (SizeOf.sizeOf (⟨kd,txt,keys,ts⟩:S25)+1) ⟨kd,txt,keys,ts⟩) (h0:fJ.f (bt s 0)=some b0) (h1:fJ.f (bt s ((s.size:Int) - 1))=some b1) :
 Calls Tryz.prog 13 #[.string s] w fun e w'=>∃ A c A3 c3,e = .returned (.tuple #[.agg #[.int .i64 kd,.string txt,.slice A keys.length c,.slice A3 ts.length c3],.bool (ok && u && !b0 && !b1)])∧Kd.string.C w' A keys.length keys∧k25.C w' A3 ts.length ts∧Below w.heap.size w w':=by
 have hgt:=fun W=>iE.calls k s kd txt keys ts ok W h
 have hbl0:=fun W=>fJ.calls (bt s 0) b0 W h0
 obtain ⟨j,hj⟩:∃ j,j=(s.size:Int) - 1:=⟨_,rfl⟩
 rw [← hj] at h1
 have hbl1:=fun W=>fJ.calls (bt s j) b1 W h1
 replace hj:=ae.mk hj
 have hun:=fun A2 c2 A3 c3 W=>wU _ (⟨kd,txt,keys,ts⟩:S25) (Nat.lt_succ_self _) A2 c2 A3 c3 W
 rw [← Nat.succ_eq_add_one] at hu
 rw [← hu] at hun
 clear h0 h1 h hu
 go_enter Tryz.func13,Tryz.ntmps13
 go_wp2_with (fail)
 refine (hgt _).mono ?_
 rintro e w1 ⟨v2,v3,rfl,r2,r3,hB1⟩
 have hz:(w.alloc (.cells #[.int .i64 0,.string ⟨#[]⟩,.slice none 0 0,.slice none 0 0] 25)).heap.size=w.heap.size+1:=by simp
 rw [hz] at r2 r3
 clear hz
 obtain ⟨A2,c2,rfl,-,hC2⟩:=Kd.lq r2
 obtain ⟨A3,c3,rfl,-,hC3⟩:=Kd.lq r3
 replace r2:=Kd.dw r2 (.cells #[.int .i64 kd,.string txt,.slice A2 keys.length c2,.slice A3 ts.length c3] 25)
 replace r3:=Kd.dw r3 (.cells #[.int .i64 kd,.string txt,.slice A2 keys.length c2,.slice A3 ts.length c3] 25)
 replace hC2:=Kd.fF hC2 (ai (Below.refl w1.heap.size w1) (.cells #[.int .i64 kd,.string txt,.slice A2 keys.length c2,.slice A3 ts.length c3] 25))
 replace hC3:=Kd.fF hC3 (ai (Below.refl w1.heap.size w1) (.cells #[.int .i64 kd,.string txt,.slice A2 keys.length c2,.slice A3 ts.length c3] 25))
 have S1:Ba w w1.heap.size #[.int .i64 kd,.string txt,.slice A2 keys.length c2,.slice A3 ts.length c3] (w1.alloc (.cells #[.int .i64 kd,.string txt,.slice A2 keys.length c2,.slice A3 ts.length c3] 25)) :=
  ⟨aN (bU (dP w _) hB1) _,dP w1 _,ai (dX (ai (Below.refl _ _) _) (by simp) hB1) _⟩
 clear hgt
 have hgn:w1.heap.size≠w.heap.size:=by have:=jO (bU (dP w (.cells #[.int .i64 0,.string ⟨#[]⟩,.slice none 0 0,.slice none 0 0] 25)) hB1);omega
 go_wp2_with (fail)
 generalize w1.alloc (.cells #[.int .i64 kd,.string txt,.slice A2 keys.length c2,.slice A3 ts.length c3] 25)=W1 at S1 hC2 hC3 r2 r3 ⊢
 generalize w1.heap.size=gn at S1 hC2 hC3 r2 r3 hgn ⊢
 replace hun:=fun W (hW:Below W1.heap.size W1 W)=>hun A2 c2 A3 c3 W (Kd.fF hC2 hW) (Kd.fF hC3 hW)
 have SA0:Ba w gn #[.int .i64 kd,.string txt,.slice A2 keys.length c2,.slice A3 ts.length c3] W1.drew∧Below W1.heap.size W1 W1.drew:=⟨S1.drew,dm (Below.refl _ _)⟩
 have SAnext:∀ {W W':World},(Ba w gn #[.int .i64 kd,.string txt,.slice A2 keys.length c2,.slice A3 ts.length c3] W∧Below W1.heap.size W1 W)→Below W.heap.size W W'→(Ba w gn #[.int .i64 kd,.string txt,.slice A2 keys.length c2,.slice A3 ts.length c3] W'∧Below W1.heap.size W1 W'):=fun h hb=>⟨h.1.below hb,dX h.2 h.2.size hb⟩
 have SA:=ae.mk SA0
 obtain ⟨z0,z1,z2,z3,f0,f1,f2,f3,n0,n1,n2,n3⟩:=S1.cells
 have SA1:=ae.mk S1
 have hne:=ae.mk hgn
 replace r2:=ae.mk r2
 replace r3:=ae.mk r3
 clear S1 SA0 hC2 hC3 hB1 hgn
 have hor:ok=false∨ok=true∧0 < s.size:=by
  cases ok
  ·exact .inl rfl
  ·exact .inr ⟨rfl,hs rfl⟩
 clear hs
 rcases hor with rfl | ⟨rfl,hpos⟩
 ·go_region
  all_goals go_wp2
  all_goals exact SA1.out.drew.post (Kd.dS r2.out) (Kd.dS r3.out) rfl rfl
 clear z0 z1 z2 z3 f0 f1 f2 f3 n0 n1 n2 n3 SA1
 have i0:((0:Int) < (s.size:Int))=True:=eq_true (by omega)
 have i1:(0 < s.size)=True:=eq_true hpos
 have t0:((s[0]'hpos).toNat:Int)=bt s 0:=by simpa using cZ s 0 (by simpa using hpos)
 have hj0:0≤j:=by rw [hj.out];omega
 have hj1:j < (s.size:Int):=by rw [hj.out];omega
 have i2:=eq_true hj0
 have i3:=eq_true hj1
 have hjw:wrap64 ((s.size:Int) - 1)=j:=by rw [hj.out];unfold wrap64;omega
 have t1:=fun h=>cZ s j h
 clear hj0 hj1
 cases u
 ·
   refine nT (n:=23) (S:=fun w'=>w'.heap[gn]?=some (.cells #[.int .i64 kd,.string txt,.slice A2 keys.length c2,.slice A3 ts.length c3] 25 (0,0))) (ds:=[]) (tt 0) (by kernel_rfl) rfl (by kernel_rfl) SA.out.1.kn (fun hHeld=>?_);refine jS uk qC (fun HT_ HW_=>?_)
   refine dA (i:=1) (N:=some 12) (v:=?_) (a':=?_) #[false,true,false,false,false,false,false,false,false,false,false,false,false,false,false,false,false,false,false,false,false,false,false] rfl rfl (bV HT_.out (by kernel_rfl)) (fun _ _ _ h=>h) (Or.inl ⟨by rfl,?_⟩) ?_ ?_;rotate_left;(intro w';go_simp;with_reducible rfl);rotate_left;(simp only [Act.put,List.setIfInBounds_toArray,List.set_cons_zero,List.set_cons_succ,bf,bD];rfl)
   refine dA (i:=2) (N:=some 13) (v:=?_) (a':=?_) #[false,true,true,false,false,false,false,false,false,false,false,false,false,false,false,false,false,false,false,false,false,false,false] rfl rfl (bV HT_.out (by kernel_rfl)) (fun _ _ _ h=>h) (Or.inl ⟨by rfl,?_⟩) ?_ ?_;rotate_left;(intro w';go_simp;with_reducible rfl);rotate_left;(simp only [Act.put,List.setIfInBounds_toArray,List.set_cons_zero,List.set_cons_succ,bf,bD];rfl)
   refine iL (i:=0) (N:=some 11) (v:=?_) (a':=?_) (tt 3) rfl rfl (eH HT_.out HW_.out (by kernel_rfl)) (fun _ _ _ h=>h) (Or.inl ⟨by rfl,?_⟩) hHeld ?_ ?_;rotate_left;(intro w' hk;have n0:=(ah hk 0).trans rfl;have n1:=(ah hk 1).trans rfl;have n2:=(ah hk 2).trans rfl;have n3:=(ah hk 3).trans rfl;go_simp;with_reducible rfl);rotate_left;(simp only [Act.put,List.setIfInBounds_toArray,List.set_cons_zero,List.set_cons_succ,bf,bD];rfl)
   refine iL (i:=3) (N:=some 14) (v:=?_) (a':=?_) (tt 4) rfl rfl (eH HT_.out HW_.out (by kernel_rfl)) (fun _ _ _ h=>h) (Or.inl ⟨by rfl,?_⟩) hHeld ?_ ?_;rotate_left;(intro w' hk;have n0:=(ah hk 0).trans rfl;have n1:=(ah hk 1).trans rfl;have n2:=(ah hk 2).trans rfl;have n3:=(ah hk 3).trans rfl;go_simp;with_reducible rfl);rotate_left;(simp only [Act.put,List.setIfInBounds_toArray,List.set_cons_zero,List.set_cons_succ,bf,bD];rfl)
   refine nI (i:=4) (N:=some 15) (tt 5) rfl rfl (iM HT_.out (by kernel_rfl)) (by decide) (fun K hK=>?_);refine qZ Tryz.func19 (by kernel_rfl) rfl #[.agg #[.int .i64 kd,.string txt,.slice A2 keys.length c2,.slice A3 ts.length c3]] (by rfl) rfl rfl (by (try simp only [List.map_toArray,List.map_cons,List.map_nil]);first | done | rfl) ?_;(with_reducible refine (hun _ SA.out.2).mono ?_);rintro e wc ⟨rfl,hb⟩;refine ⟨_,rfl,?_⟩;replace SA:=ae.mk (SAnext SA.out hb);clear hb;refine hK.out _ _ SA.out.1.kn (fun hHeld=>?_);clear hK K;refine lD (a':=?_) ?_ ?_;rotate_left;(show Act.put _ (some 15) _=_;simp only [Act.put,List.setIfInBounds_toArray,List.set_cons_zero,List.set_cons_succ,bf,bD];rfl)
   refine dA (i:=5) (N:=some 16) (v:=?_) (a':=?_) (tt 6) rfl rfl (bV HT_.out (by kernel_rfl)) (fun _ _ _ h=>h) (Or.inl ⟨by rfl,?_⟩) ?_ ?_;rotate_left;(intro w';go_simp;with_reducible rfl);rotate_left;(simp only [Act.put,List.setIfInBounds_toArray,List.set_cons_zero,List.set_cons_succ,bf,bD];rfl)
   refine dA (i:=6) (N:=some 17) (v:=?_) (a':=?_) (tt 7) rfl rfl (bV HT_.out (by kernel_rfl)) (fun _ _ _ h=>h) (Or.inl ⟨by rfl,?_⟩) ?_ ?_;rotate_left;(intro w';go_simp;with_reducible rfl);rotate_left;(simp only [Act.put,List.setIfInBounds_toArray,List.set_cons_zero,List.set_cons_succ,bf,bD];rfl)
   refine dA (i:=7) (N:=some 18) (v:=undef) (a':=?_) (tt 8) rfl rfl (bV HT_.out (by kernel_rfl)) (fun _ _ _ h=>h) (Or.inr ⟨by rfl,rfl⟩) ?_ ?_;rotate_left;(simp only [Act.put,List.setIfInBounds_toArray,List.set_cons_zero,List.set_cons_succ,bf,bD];rfl)
   refine dA (i:=8) (N:=some 19) (v:=undef) (a':=?_) (tt 9) rfl rfl (bV HT_.out (by kernel_rfl)) (fun _ _ _ h=>h) (Or.inr ⟨by rfl,rfl⟩) ?_ ?_;rotate_left;(simp only [Act.put,List.setIfInBounds_toArray,List.set_cons_zero,List.set_cons_succ,bf,bD];rfl)
   refine dA (i:=9) (N:=some 20) (v:=undef) (a':=?_) (tt 10) rfl rfl (bV HT_.out (by kernel_rfl)) (fun _ _ _ h=>h) (Or.inr ⟨by rfl,rfl⟩) ?_ ?_;rotate_left;(simp only [Act.put,List.setIfInBounds_toArray,List.set_cons_zero,List.set_cons_succ,bf,bD];rfl)
   refine dA (i:=10) (N:=some 21) (v:=undef) (a':=?_) (tt 11) rfl rfl (bV HT_.out (by kernel_rfl)) (fun _ _ _ h=>h) (Or.inr ⟨by rfl,rfl⟩) ?_ ?_;rotate_left;(simp only [Act.put,List.setIfInBounds_toArray,List.set_cons_zero,List.set_cons_succ,bf,bD];rfl)
   refine dA (i:=11) (N:=some 22) (v:=?_) (a':=?_) (tt 12) rfl rfl (bV HT_.out (by kernel_rfl)) (fun _ _ _ h=>h) (Or.inl ⟨by rfl,?_⟩) ?_ ?_;rotate_left;(intro w';go_simp;with_reducible rfl);rotate_left;(simp only [Act.put,List.setIfInBounds_toArray,List.set_cons_zero,List.set_cons_succ,bf,bD];rfl)
   refine dA (i:=12) (N:=some 23) (v:=?_) (a':=?_) (tt 13) rfl rfl (bV HT_.out (by kernel_rfl)) (fun _ _ _ h=>h) (Or.inl ⟨by rfl,?_⟩) ?_ ?_;rotate_left;(intro w';go_simp;with_reducible rfl);rotate_left;(simp only [Act.put,List.setIfInBounds_toArray,List.set_cons_zero,List.set_cons_succ,bf,bD];rfl)
   refine dA (i:=13) (N:=some 24) (v:=undef) (a':=?_) (tt 14) rfl rfl (bV HT_.out (by kernel_rfl)) (fun _ _ _ h=>h) (Or.inr ⟨by rfl,rfl⟩) ?_ ?_;rotate_left;(simp only [Act.put,List.setIfInBounds_toArray,List.set_cons_zero,List.set_cons_succ,bf,bD];rfl)
   refine dA (i:=14) (N:=some 25) (v:=undef) (a':=?_) (tt 15) rfl rfl (bV HT_.out (by kernel_rfl)) (fun _ _ _ h=>h) (Or.inr ⟨by rfl,rfl⟩) ?_ ?_;rotate_left;(simp only [Act.put,List.setIfInBounds_toArray,List.set_cons_zero,List.set_cons_succ,bf,bD];rfl)
   refine dA (i:=15) (N:=some 26) (v:=undef) (a':=?_) (tt 16) rfl rfl (bV HT_.out (by kernel_rfl)) (fun _ _ _ h=>h) (Or.inr ⟨by rfl,rfl⟩) ?_ ?_;rotate_left;(simp only [Act.put,List.setIfInBounds_toArray,List.set_cons_zero,List.set_cons_succ,bf,bD];rfl)
   refine dA (i:=16) (N:=some 27) (v:=undef) (a':=?_) (tt 17) rfl rfl (bV HT_.out (by kernel_rfl)) (fun _ _ _ h=>h) (Or.inr ⟨by rfl,rfl⟩) ?_ ?_;rotate_left;(simp only [Act.put,List.setIfInBounds_toArray,List.set_cons_zero,List.set_cons_succ,bf,bD];rfl)
   refine dA (i:=17) (N:=some 28) (v:=undef) (a':=?_) (tt 18) rfl rfl (bV HT_.out (by kernel_rfl)) (fun _ _ _ h=>h) (Or.inr ⟨by rfl,rfl⟩) ?_ ?_;rotate_left;(simp only [Act.put,List.setIfInBounds_toArray,List.set_cons_zero,List.set_cons_succ,bf,bD];rfl)
   refine dA (i:=18) (N:=some 29) (v:=undef) (a':=?_) (tt 19) rfl rfl (bV HT_.out (by kernel_rfl)) (fun _ _ _ h=>h) (Or.inr ⟨by rfl,rfl⟩) ?_ ?_;rotate_left;(simp only [Act.put,List.setIfInBounds_toArray,List.set_cons_zero,List.set_cons_succ,bf,bD];rfl)
   refine dA (i:=19) (N:=some 30) (v:=undef) (a':=?_) (tt 20) rfl rfl (bV HT_.out (by kernel_rfl)) (fun _ _ _ h=>h) (Or.inr ⟨by rfl,rfl⟩) ?_ ?_;rotate_left;(simp only [Act.put,List.setIfInBounds_toArray,List.set_cons_zero,List.set_cons_succ,bf,bD];rfl)
   refine dA (i:=20) (N:=some 31) (v:=?_) (a':=?_) (tt 21) rfl rfl (bV HT_.out (by kernel_rfl)) (fun _ _ _ h=>h) (Or.inl ⟨by rfl,?_⟩) ?_ ?_;rotate_left;(intro w';go_simp;with_reducible rfl);rotate_left;(simp only [Act.put,List.setIfInBounds_toArray,List.set_cons_zero,List.set_cons_succ,bf,bD];rfl)
   refine nI (i:=21) (N:=none) (tt 22) rfl rfl (iM HT_.out (by kernel_rfl)) (by decide) (fun K hK=>?_)
   obtain ⟨z0,z1,z2,z3,f0,f1,f2,f3,n0,n1,n2,n3⟩:=SA.out.1.cells
   refine tZ (w1:=?_) (by rfl) rfl ?_ ?_
   rotate_left
   ·go_simp
    rfl
   refine hK.out _ _ (bW (bW (bW (bW hHeld hne.out _) hne.out _) hne.out _) hne.out _) (fun hHeld=>?_)
   clear hK K z0 z1 z2 z3 f0 f1 f2 f3 n0 n1 n2 n3
   refine dA (i:=22) (N:=some 3) (v:=?_) (a':=?_) (tt 23) rfl rfl (bV HT_.out (by kernel_rfl)) (fun _ _ _ h=>h) (Or.inl ⟨by rfl,?_⟩) ?_ ?_;rotate_left;(intro w';go_simp;with_reducible rfl);rotate_left;(simp only [Act.put,List.setIfInBounds_toArray,List.set_cons_zero,List.set_cons_succ,bf,bD];rfl)
   refine rq (lQ HT_.out (by kernel_rfl)) ?_
   try go_wp2
   exact SA.out.1.post (Kd.ig r2.out SA.out.2) (Kd.ig r3.out SA.out.2) rfl rfl
 cases b0
 ·
   refine nT (n:=23) (S:=fun w'=>w'.heap[gn]?=some (.cells #[.int .i64 kd,.string txt,.slice A2 keys.length c2,.slice A3 ts.length c3] 25 (0,0))) (ds:=[]) (tt 0) (by kernel_rfl) rfl (by kernel_rfl) SA.out.1.kn (fun hHeld=>?_);refine jS uk qC (fun HT_ HW_=>?_)
   refine dA (i:=1) (N:=some 12) (v:=?_) (a':=?_) #[false,true,false,false,false,false,false,false,false,false,false,false,false,false,false,false,false,false,false,false,false,false,false] rfl rfl (bV HT_.out (by kernel_rfl)) (fun _ _ _ h=>h) (Or.inl ⟨by rfl,?_⟩) ?_ ?_;rotate_left;(intro w';go_simp;with_reducible rfl);rotate_left;(simp only [Act.put,List.setIfInBounds_toArray,List.set_cons_zero,List.set_cons_succ,bf,bD];rfl)
   refine dA (i:=2) (N:=some 13) (v:=?_) (a':=?_) #[false,true,true,false,false,false,false,false,false,false,false,false,false,false,false,false,false,false,false,false,false,false,false] rfl rfl (bV HT_.out (by kernel_rfl)) (fun _ _ _ h=>h) (Or.inl ⟨by rfl,?_⟩) ?_ ?_;rotate_left;(intro w';go_simp;with_reducible rfl);rotate_left;(simp only [Act.put,List.setIfInBounds_toArray,List.set_cons_zero,List.set_cons_succ,bf,bD];rfl)
   refine iL (i:=0) (N:=some 11) (v:=?_) (a':=?_) (tt 3) rfl rfl (eH HT_.out HW_.out (by kernel_rfl)) (fun _ _ _ h=>h) (Or.inl ⟨by rfl,?_⟩) hHeld ?_ ?_;rotate_left;(intro w' hk;have n0:=(ah hk 0).trans rfl;have n1:=(ah hk 1).trans rfl;have n2:=(ah hk 2).trans rfl;have n3:=(ah hk 3).trans rfl;go_simp;with_reducible rfl);rotate_left;(simp only [Act.put,List.setIfInBounds_toArray,List.set_cons_zero,List.set_cons_succ,bf,bD];rfl)
   refine iL (i:=3) (N:=some 14) (v:=?_) (a':=?_) (tt 4) rfl rfl (eH HT_.out HW_.out (by kernel_rfl)) (fun _ _ _ h=>h) (Or.inl ⟨by rfl,?_⟩) hHeld ?_ ?_;rotate_left;(intro w' hk;have n0:=(ah hk 0).trans rfl;have n1:=(ah hk 1).trans rfl;have n2:=(ah hk 2).trans rfl;have n3:=(ah hk 3).trans rfl;go_simp;with_reducible rfl);rotate_left;(simp only [Act.put,List.setIfInBounds_toArray,List.set_cons_zero,List.set_cons_succ,bf,bD];rfl)
   refine nI (i:=4) (N:=some 15) (tt 5) rfl rfl (iM HT_.out (by kernel_rfl)) (by decide) (fun K hK=>?_);refine qZ Tryz.func19 (by kernel_rfl) rfl #[.agg #[.int .i64 kd,.string txt,.slice A2 keys.length c2,.slice A3 ts.length c3]] (by rfl) rfl rfl (by (try simp only [List.map_toArray,List.map_cons,List.map_nil]);first | done | rfl) ?_;(with_reducible refine (hun _ SA.out.2).mono ?_);rintro e wc ⟨rfl,hb⟩;refine ⟨_,rfl,?_⟩;replace SA:=ae.mk (SAnext SA.out hb);clear hb;refine hK.out _ _ SA.out.1.kn (fun hHeld=>?_);clear hK K;refine lD (a':=?_) ?_ ?_;rotate_left;(show Act.put _ (some 15) _=_;simp only [Act.put,List.setIfInBounds_toArray,List.set_cons_zero,List.set_cons_succ,bf,bD];rfl)
   refine dA (i:=5) (N:=some 16) (v:=?_) (a':=?_) (tt 6) rfl rfl (bV HT_.out (by kernel_rfl)) (fun _ _ _ h=>h) (Or.inl ⟨by rfl,?_⟩) ?_ ?_;rotate_left;(intro w';go_simp;with_reducible rfl);rotate_left;(simp only [Act.put,List.setIfInBounds_toArray,List.set_cons_zero,List.set_cons_succ,bf,bD];rfl)
   refine dA (i:=6) (N:=some 17) (v:=?_) (a':=?_) (tt 7) rfl rfl (bV HT_.out (by kernel_rfl)) (fun _ _ _ h=>h) (Or.inl ⟨by rfl,?_⟩) ?_ ?_;rotate_left;(intro w';go_simp;with_reducible rfl);rotate_left;(simp only [Act.put,List.setIfInBounds_toArray,List.set_cons_zero,List.set_cons_succ,bf,bD];rfl)
   refine dA (i:=7) (N:=some 18) (v:=?_) (a':=?_) (tt 8) rfl rfl (bV HT_.out (by kernel_rfl)) (fun _ _ _ h=>h) (Or.inl ⟨by rfl,?_⟩) ?_ ?_;rotate_left;(intro w';go_simp;with_reducible rfl);rotate_left;(simp only [Act.put,List.setIfInBounds_toArray,List.set_cons_zero,List.set_cons_succ,bf,bD];rfl)
   refine iL (i:=8) (N:=some 19) (v:=?_) (a':=?_) (tt 9) rfl rfl (eH HT_.out HW_.out (by kernel_rfl)) (fun _ _ _ h=>h) (Or.inl ⟨by rfl,?_⟩) hHeld ?_ ?_;rotate_left;(intro w' hk;have n0:=(ah hk 0).trans rfl;have n1:=(ah hk 1).trans rfl;have n2:=(ah hk 2).trans rfl;have n3:=(ah hk 3).trans rfl;go_simp;with_reducible rfl);rotate_left;(simp only [Act.put,List.setIfInBounds_toArray,List.set_cons_zero,List.set_cons_succ,bf,bD];rfl)
   refine nI (i:=9) (N:=some 20) (tt 10) rfl rfl (iM HT_.out (by kernel_rfl)) (by decide) (fun K hK=>?_);refine qZ Tryz.func9 (by kernel_rfl) rfl #[.int .u8 (bt s 0)] (by rfl) rfl rfl (by (try simp only [List.map_toArray,List.map_cons,List.map_nil]);first | done | rfl) ?_;(with_reducible refine (hbl0 _).mono ?_);rintro e wc ⟨rfl,hd⟩;refine ⟨_,rfl,?_⟩;replace SA:=ae.mk (SAnext SA.out (nM hd));clear hd;refine hK.out _ _ SA.out.1.kn (fun hHeld=>?_);clear hK K;refine lD (a':=?_) ?_ ?_;rotate_left;(show Act.put _ (some 20) _=_;simp only [Act.put,List.setIfInBounds_toArray,List.set_cons_zero,List.set_cons_succ,bf,bD];rfl)
   refine dA (i:=10) (N:=some 21) (v:=?_) (a':=?_) (tt 11) rfl rfl (bV HT_.out (by kernel_rfl)) (fun _ _ _ h=>h) (Or.inl ⟨by rfl,?_⟩) ?_ ?_;rotate_left;(intro w';go_simp;with_reducible rfl);rotate_left;(simp only [Act.put,List.setIfInBounds_toArray,List.set_cons_zero,List.set_cons_succ,bf,bD];rfl)
   refine dA (i:=11) (N:=some 22) (v:=?_) (a':=?_) (tt 12) rfl rfl (bV HT_.out (by kernel_rfl)) (fun _ _ _ h=>h) (Or.inl ⟨by rfl,?_⟩) ?_ ?_;rotate_left;(intro w';go_simp;with_reducible rfl);rotate_left;(simp only [Act.put,List.setIfInBounds_toArray,List.set_cons_zero,List.set_cons_succ,bf,bD];rfl)
   refine dA (i:=12) (N:=some 23) (v:=?_) (a':=?_) (tt 13) rfl rfl (bV HT_.out (by kernel_rfl)) (fun _ _ _ h=>h) (Or.inl ⟨by rfl,?_⟩) ?_ ?_;rotate_left;(intro w';go_simp;with_reducible rfl);rotate_left;(simp only [Act.put,List.setIfInBounds_toArray,List.set_cons_zero,List.set_cons_succ,bf,bD];rfl)
   refine dA (i:=13) (N:=some 24) (v:=?_) (a':=?_) (tt 14) rfl rfl (bV HT_.out (by kernel_rfl)) (fun _ _ _ h=>h) (Or.inl ⟨by rfl,?_⟩) ?_ ?_;rotate_left;(intro w';go_simp;with_reducible rfl);rotate_left;(simp only [Act.put,List.setIfInBounds_toArray,List.set_cons_zero,List.set_cons_succ,bf,bD];rfl)
   refine dA (i:=14) (N:=some 25) (v:=?_) (a':=?_) (tt 15) rfl rfl (bV HT_.out (by kernel_rfl)) (fun _ _ _ h=>h) (Or.inl ⟨by rfl,?_⟩) ?_ ?_;rotate_left;(intro w';go_simp;with_reducible rfl);rotate_left;(simp only [Act.put,List.setIfInBounds_toArray,List.set_cons_zero,List.set_cons_succ,bf,bD];rfl)
   refine dA (i:=15) (N:=some 26) (v:=?_) (a':=?_) (tt 16) rfl rfl (bV HT_.out (by kernel_rfl)) (fun _ _ _ h=>h) (Or.inl ⟨by rfl,?_⟩) ?_ ?_;rotate_left;(intro w';go_simp;with_reducible rfl);rotate_left;(simp only [Act.put,List.setIfInBounds_toArray,List.set_cons_zero,List.set_cons_succ,bf,bD];rfl)
   refine dA (i:=16) (N:=some 27) (v:=?_) (a':=?_) (tt 17) rfl rfl (bV HT_.out (by kernel_rfl)) (fun _ _ _ h=>h) (Or.inl ⟨by rfl,?_⟩) ?_ ?_;rotate_left;(intro w';go_simp;with_reducible rfl);rotate_left;(simp only [Act.put,List.setIfInBounds_toArray,List.set_cons_zero,List.set_cons_succ,bf,bD];rfl)
   refine iL (i:=17) (N:=some 28) (v:=?_) (a':=?_) (tt 18) rfl rfl (eH HT_.out HW_.out (by kernel_rfl)) (fun _ _ _ h=>h) (Or.inl ⟨by rfl,?_⟩) hHeld ?_ ?_;rotate_left;(intro w' hk;have n0:=(ah hk 0).trans rfl;have n1:=(ah hk 1).trans rfl;have n2:=(ah hk 2).trans rfl;have n3:=(ah hk 3).trans rfl;go_simp;with_reducible rfl);rotate_left;(simp only [Act.put,List.setIfInBounds_toArray,List.set_cons_zero,List.set_cons_succ,bf,bD];rfl)
   refine nI (i:=18) (N:=some 29) (tt 19) rfl rfl (iM HT_.out (by kernel_rfl)) (by decide) (fun K hK=>?_);refine qZ Tryz.func9 (by kernel_rfl) rfl #[.int .u8 (bt s j)] (by rfl) rfl rfl (by (try simp only [List.map_toArray,List.map_cons,List.map_nil]);first | done | rfl) ?_;(with_reducible refine (hbl1 _).mono ?_);rintro e wc ⟨rfl,hd⟩;refine ⟨_,rfl,?_⟩;replace SA:=ae.mk (SAnext SA.out (nM hd));clear hd;refine hK.out _ _ SA.out.1.kn (fun hHeld=>?_);clear hK K;refine lD (a':=?_) ?_ ?_;rotate_left;(show Act.put _ (some 29) _=_;simp only [Act.put,List.setIfInBounds_toArray,List.set_cons_zero,List.set_cons_succ,bf,bD];rfl)
   refine dA (i:=19) (N:=some 30) (v:=?_) (a':=?_) (tt 20) rfl rfl (bV HT_.out (by kernel_rfl)) (fun _ _ _ h=>h) (Or.inl ⟨by rfl,?_⟩) ?_ ?_;rotate_left;(intro w';go_simp;with_reducible rfl);rotate_left;(simp only [Act.put,List.setIfInBounds_toArray,List.set_cons_zero,List.set_cons_succ,bf,bD];rfl)
   refine dA (i:=20) (N:=some 31) (v:=?_) (a':=?_) (tt 21) rfl rfl (bV HT_.out (by kernel_rfl)) (fun _ _ _ h=>h) (Or.inl ⟨by rfl,?_⟩) ?_ ?_;rotate_left;(intro w';go_simp;with_reducible rfl);rotate_left;(simp only [Act.put,List.setIfInBounds_toArray,List.set_cons_zero,List.set_cons_succ,bf,bD];rfl)
   refine nI (i:=21) (N:=none) (tt 22) rfl rfl (iM HT_.out (by kernel_rfl)) (by decide) (fun K hK=>?_)
   obtain ⟨z0,z1,z2,z3,f0,f1,f2,f3,n0,n1,n2,n3⟩:=SA.out.1.cells
   refine tZ (w1:=?_) (by rfl) rfl ?_ ?_
   rotate_left
   ·go_simp
    rfl
   refine hK.out _ _ (bW (bW (bW (bW hHeld hne.out _) hne.out _) hne.out _) hne.out _) (fun hHeld=>?_)
   clear hK K z0 z1 z2 z3 f0 f1 f2 f3 n0 n1 n2 n3
   refine dA (i:=22) (N:=some 3) (v:=?_) (a':=?_) (tt 23) rfl rfl (bV HT_.out (by kernel_rfl)) (fun _ _ _ h=>h) (Or.inl ⟨by rfl,?_⟩) ?_ ?_;rotate_left;(intro w';go_simp;with_reducible rfl);rotate_left;(simp only [Act.put,List.setIfInBounds_toArray,List.set_cons_zero,List.set_cons_succ,bf,bD];rfl)
   refine rq (lQ HT_.out (by kernel_rfl)) ?_
   try go_wp2
   exact SA.out.1.post (Kd.ig r2.out SA.out.2) (Kd.ig r3.out SA.out.2) rfl rfl
 ·
   refine nT (n:=23) (S:=fun w'=>w'.heap[gn]?=some (.cells #[.int .i64 kd,.string txt,.slice A2 keys.length c2,.slice A3 ts.length c3] 25 (0,0))) (ds:=[]) (tt 0) (by kernel_rfl) rfl (by kernel_rfl) SA.out.1.kn (fun hHeld=>?_);refine jS uk qC (fun HT_ HW_=>?_)
   refine dA (i:=1) (N:=some 12) (v:=?_) (a':=?_) #[false,true,false,false,false,false,false,false,false,false,false,false,false,false,false,false,false,false,false,false,false,false,false] rfl rfl (bV HT_.out (by kernel_rfl)) (fun _ _ _ h=>h) (Or.inl ⟨by rfl,?_⟩) ?_ ?_;rotate_left;(intro w';go_simp;with_reducible rfl);rotate_left;(simp only [Act.put,List.setIfInBounds_toArray,List.set_cons_zero,List.set_cons_succ,bf,bD];rfl)
   refine dA (i:=2) (N:=some 13) (v:=?_) (a':=?_) #[false,true,true,false,false,false,false,false,false,false,false,false,false,false,false,false,false,false,false,false,false,false,false] rfl rfl (bV HT_.out (by kernel_rfl)) (fun _ _ _ h=>h) (Or.inl ⟨by rfl,?_⟩) ?_ ?_;rotate_left;(intro w';go_simp;with_reducible rfl);rotate_left;(simp only [Act.put,List.setIfInBounds_toArray,List.set_cons_zero,List.set_cons_succ,bf,bD];rfl)
   refine iL (i:=0) (N:=some 11) (v:=?_) (a':=?_) (tt 3) rfl rfl (eH HT_.out HW_.out (by kernel_rfl)) (fun _ _ _ h=>h) (Or.inl ⟨by rfl,?_⟩) hHeld ?_ ?_;rotate_left;(intro w' hk;have n0:=(ah hk 0).trans rfl;have n1:=(ah hk 1).trans rfl;have n2:=(ah hk 2).trans rfl;have n3:=(ah hk 3).trans rfl;go_simp;with_reducible rfl);rotate_left;(simp only [Act.put,List.setIfInBounds_toArray,List.set_cons_zero,List.set_cons_succ,bf,bD];rfl)
   refine iL (i:=3) (N:=some 14) (v:=?_) (a':=?_) (tt 4) rfl rfl (eH HT_.out HW_.out (by kernel_rfl)) (fun _ _ _ h=>h) (Or.inl ⟨by rfl,?_⟩) hHeld ?_ ?_;rotate_left;(intro w' hk;have n0:=(ah hk 0).trans rfl;have n1:=(ah hk 1).trans rfl;have n2:=(ah hk 2).trans rfl;have n3:=(ah hk 3).trans rfl;go_simp;with_reducible rfl);rotate_left;(simp only [Act.put,List.setIfInBounds_toArray,List.set_cons_zero,List.set_cons_succ,bf,bD];rfl)
   refine nI (i:=4) (N:=some 15) (tt 5) rfl rfl (iM HT_.out (by kernel_rfl)) (by decide) (fun K hK=>?_);refine qZ Tryz.func19 (by kernel_rfl) rfl #[.agg #[.int .i64 kd,.string txt,.slice A2 keys.length c2,.slice A3 ts.length c3]] (by rfl) rfl rfl (by (try simp only [List.map_toArray,List.map_cons,List.map_nil]);first | done | rfl) ?_;(with_reducible refine (hun _ SA.out.2).mono ?_);rintro e wc ⟨rfl,hb⟩;refine ⟨_,rfl,?_⟩;replace SA:=ae.mk (SAnext SA.out hb);clear hb;refine hK.out _ _ SA.out.1.kn (fun hHeld=>?_);clear hK K;refine lD (a':=?_) ?_ ?_;rotate_left;(show Act.put _ (some 15) _=_;simp only [Act.put,List.setIfInBounds_toArray,List.set_cons_zero,List.set_cons_succ,bf,bD];rfl)
   refine dA (i:=5) (N:=some 16) (v:=?_) (a':=?_) (tt 6) rfl rfl (bV HT_.out (by kernel_rfl)) (fun _ _ _ h=>h) (Or.inl ⟨by rfl,?_⟩) ?_ ?_;rotate_left;(intro w';go_simp;with_reducible rfl);rotate_left;(simp only [Act.put,List.setIfInBounds_toArray,List.set_cons_zero,List.set_cons_succ,bf,bD];rfl)
   refine dA (i:=6) (N:=some 17) (v:=?_) (a':=?_) (tt 7) rfl rfl (bV HT_.out (by kernel_rfl)) (fun _ _ _ h=>h) (Or.inl ⟨by rfl,?_⟩) ?_ ?_;rotate_left;(intro w';go_simp;with_reducible rfl);rotate_left;(simp only [Act.put,List.setIfInBounds_toArray,List.set_cons_zero,List.set_cons_succ,bf,bD];rfl)
   refine dA (i:=7) (N:=some 18) (v:=?_) (a':=?_) (tt 8) rfl rfl (bV HT_.out (by kernel_rfl)) (fun _ _ _ h=>h) (Or.inl ⟨by rfl,?_⟩) ?_ ?_;rotate_left;(intro w';go_simp;with_reducible rfl);rotate_left;(simp only [Act.put,List.setIfInBounds_toArray,List.set_cons_zero,List.set_cons_succ,bf,bD];rfl)
   refine iL (i:=8) (N:=some 19) (v:=?_) (a':=?_) (tt 9) rfl rfl (eH HT_.out HW_.out (by kernel_rfl)) (fun _ _ _ h=>h) (Or.inl ⟨by rfl,?_⟩) hHeld ?_ ?_;rotate_left;(intro w' hk;have n0:=(ah hk 0).trans rfl;have n1:=(ah hk 1).trans rfl;have n2:=(ah hk 2).trans rfl;have n3:=(ah hk 3).trans rfl;go_simp;with_reducible rfl);rotate_left;(simp only [Act.put,List.setIfInBounds_toArray,List.set_cons_zero,List.set_cons_succ,bf,bD];rfl)
   refine nI (i:=9) (N:=some 20) (tt 10) rfl rfl (iM HT_.out (by kernel_rfl)) (by decide) (fun K hK=>?_);refine qZ Tryz.func9 (by kernel_rfl) rfl #[.int .u8 (bt s 0)] (by rfl) rfl rfl (by (try simp only [List.map_toArray,List.map_cons,List.map_nil]);first | done | rfl) ?_;(with_reducible refine (hbl0 _).mono ?_);rintro e wc ⟨rfl,hd⟩;refine ⟨_,rfl,?_⟩;replace SA:=ae.mk (SAnext SA.out (nM hd));clear hd;refine hK.out _ _ SA.out.1.kn (fun hHeld=>?_);clear hK K;refine lD (a':=?_) ?_ ?_;rotate_left;(show Act.put _ (some 20) _=_;simp only [Act.put,List.setIfInBounds_toArray,List.set_cons_zero,List.set_cons_succ,bf,bD];rfl)
   refine dA (i:=10) (N:=some 21) (v:=?_) (a':=?_) (tt 11) rfl rfl (bV HT_.out (by kernel_rfl)) (fun _ _ _ h=>h) (Or.inl ⟨by rfl,?_⟩) ?_ ?_;rotate_left;(intro w';go_simp;with_reducible rfl);rotate_left;(simp only [Act.put,List.setIfInBounds_toArray,List.set_cons_zero,List.set_cons_succ,bf,bD];rfl)
   refine dA (i:=11) (N:=some 22) (v:=?_) (a':=?_) (tt 12) rfl rfl (bV HT_.out (by kernel_rfl)) (fun _ _ _ h=>h) (Or.inl ⟨by rfl,?_⟩) ?_ ?_;rotate_left;(intro w';go_simp;with_reducible rfl);rotate_left;(simp only [Act.put,List.setIfInBounds_toArray,List.set_cons_zero,List.set_cons_succ,bf,bD];rfl)
   refine dA (i:=12) (N:=some 23) (v:=?_) (a':=?_) (tt 13) rfl rfl (bV HT_.out (by kernel_rfl)) (fun _ _ _ h=>h) (Or.inl ⟨by rfl,?_⟩) ?_ ?_;rotate_left;(intro w';go_simp;with_reducible rfl);rotate_left;(simp only [Act.put,List.setIfInBounds_toArray,List.set_cons_zero,List.set_cons_succ,bf,bD];rfl)
   refine dA (i:=13) (N:=some 24) (v:=undef) (a':=?_) (tt 14) rfl rfl (bV HT_.out (by kernel_rfl)) (fun _ _ _ h=>h) (Or.inr ⟨by rfl,rfl⟩) ?_ ?_;rotate_left;(simp only [Act.put,List.setIfInBounds_toArray,List.set_cons_zero,List.set_cons_succ,bf,bD];rfl)
   refine dA (i:=14) (N:=some 25) (v:=undef) (a':=?_) (tt 15) rfl rfl (bV HT_.out (by kernel_rfl)) (fun _ _ _ h=>h) (Or.inr ⟨by rfl,rfl⟩) ?_ ?_;rotate_left;(simp only [Act.put,List.setIfInBounds_toArray,List.set_cons_zero,List.set_cons_succ,bf,bD];rfl)
   refine dA (i:=15) (N:=some 26) (v:=undef) (a':=?_) (tt 16) rfl rfl (bV HT_.out (by kernel_rfl)) (fun _ _ _ h=>h) (Or.inr ⟨by rfl,rfl⟩) ?_ ?_;rotate_left;(simp only [Act.put,List.setIfInBounds_toArray,List.set_cons_zero,List.set_cons_succ,bf,bD];rfl)
   refine dA (i:=16) (N:=some 27) (v:=undef) (a':=?_) (tt 17) rfl rfl (bV HT_.out (by kernel_rfl)) (fun _ _ _ h=>h) (Or.inr ⟨by rfl,rfl⟩) ?_ ?_;rotate_left;(simp only [Act.put,List.setIfInBounds_toArray,List.set_cons_zero,List.set_cons_succ,bf,bD];rfl)
   refine dA (i:=17) (N:=some 28) (v:=undef) (a':=?_) (tt 18) rfl rfl (bV HT_.out (by kernel_rfl)) (fun _ _ _ h=>h) (Or.inr ⟨by rfl,rfl⟩) ?_ ?_;rotate_left;(simp only [Act.put,List.setIfInBounds_toArray,List.set_cons_zero,List.set_cons_succ,bf,bD];rfl)
   refine dA (i:=18) (N:=some 29) (v:=undef) (a':=?_) (tt 19) rfl rfl (bV HT_.out (by kernel_rfl)) (fun _ _ _ h=>h) (Or.inr ⟨by rfl,rfl⟩) ?_ ?_;rotate_left;(simp only [Act.put,List.setIfInBounds_toArray,List.set_cons_zero,List.set_cons_succ,bf,bD];rfl)
   refine dA (i:=19) (N:=some 30) (v:=undef) (a':=?_) (tt 20) rfl rfl (bV HT_.out (by kernel_rfl)) (fun _ _ _ h=>h) (Or.inr ⟨by rfl,rfl⟩) ?_ ?_;rotate_left;(simp only [Act.put,List.setIfInBounds_toArray,List.set_cons_zero,List.set_cons_succ,bf,bD];rfl)
   refine dA (i:=20) (N:=some 31) (v:=?_) (a':=?_) (tt 21) rfl rfl (bV HT_.out (by kernel_rfl)) (fun _ _ _ h=>h) (Or.inl ⟨by rfl,?_⟩) ?_ ?_;rotate_left;(intro w';go_simp;with_reducible rfl);rotate_left;(simp only [Act.put,List.setIfInBounds_toArray,List.set_cons_zero,List.set_cons_succ,bf,bD];rfl)
   refine nI (i:=21) (N:=none) (tt 22) rfl rfl (iM HT_.out (by kernel_rfl)) (by decide) (fun K hK=>?_)
   obtain ⟨z0,z1,z2,z3,f0,f1,f2,f3,n0,n1,n2,n3⟩:=SA.out.1.cells
   refine tZ (w1:=?_) (by rfl) rfl ?_ ?_
   rotate_left
   ·go_simp
    rfl
   refine hK.out _ _ (bW (bW (bW (bW hHeld hne.out _) hne.out _) hne.out _) hne.out _) (fun hHeld=>?_)
   clear hK K z0 z1 z2 z3 f0 f1 f2 f3 n0 n1 n2 n3
   refine dA (i:=22) (N:=some 3) (v:=?_) (a':=?_) (tt 23) rfl rfl (bV HT_.out (by kernel_rfl)) (fun _ _ _ h=>h) (Or.inl ⟨by rfl,?_⟩) ?_ ?_;rotate_left;(intro w';go_simp;with_reducible rfl);rotate_left;(simp only [Act.put,List.setIfInBounds_toArray,List.set_cons_zero,List.set_cons_succ,bf,bD];rfl)
   refine rq (lQ HT_.out (by kernel_rfl)) ?_
   try go_wp2
   exact SA.out.1.post (Kd.ig r2.out SA.out.2) (Kd.ig r3.out SA.out.2) rfl rfl
structure Sm (w:World) (g1 g2:Nat) (u v:Array Value) (W:World):Prop where
 k1:W.heap[g1]?=some (.cells u 25 (0,0))
 k2:W.heap[g2]?=some (.cells v 25 (0,0))
 bel:Below w.heap.size w W
theorem Sm.below {w W W':World} {g1 g2:Nat} {u v:Array Value} (h:Sm w g1 g2 u v W) (hb:Below W.heap.size W W'):Sm w g1 g2 u v W':=⟨bU h.k1 hb,bU h.k2 hb,dX h.bel h.bel.size hb⟩
theorem Sm.drewN {w W:World} {g1 g2:Nat} {u v:Array Value} (h:Sm w g1 g2 u v W) (n:Nat):Sm w g1 g2 u v (W.drewN n):=h.below (ag (Below.refl _ _) n)
theorem Sm.drew {w W:World} {g1 g2:Nat} {u v:Array Value} (h:Sm w g1 g2 u v W):Sm w g1 g2 u v W.drew:=h.below (dm (Below.refl _ _))
theorem yZ (n:Nat):∀ (t:S25),SizeOf.sizeOf t < n→∀ (A2:Option Addr) (c2:Nat) (A3:Option Addr) (c3:Nat) (B2:Option Addr) (d2:Nat) (B3:Option Addr) (d3:Nat) (w:World) (h2:Kd.string.C w A2 t.f2.length t.f2) (h3:k25.C w A3 t.f3.length t.f3) (h4:Kd.string.C w B2 t.f2.length t.f2) (h5:k25.C w B3 t.f3.length t.f3),
 Calls Tryz.prog 38 #[.agg #[.int .i64 t.f0,.string t.f1,.slice A2 t.f2.length c2,.slice A3 t.f3.length c3],.agg #[.int .i64 t.f0,.string t.f1,.slice B2 t.f2.length d2,.slice B3 t.f3.length d3]] w fun e w'=>e = .returned (.bool true)∧Below w.heap.size w w':=by
 induction n with
 | zero=>exact fun t h=>absurd h (by omega)
 | succ n ih =>
 intro t ht A2 c2 A3 c3 B2 d2 B3 d3 w h2 h3 h4 h5
 have hm:=Kd.xm h2
 have hm3:=Kd.xm h3
 have hsub:∀ x ∈ t.f3,SizeOf.sizeOf x < n:=fun x hx=>by have:=zM t x hx;omega
 generalize t.f0=kd at *
 generalize t.f1=txt at *
 generalize t.f2=ks at *
 generalize t.f3=ts at *
 replace h2:=ae.mk h2
 replace h3:=ae.mk h3
 replace h4:=ae.mk h4
 replace h5:=ae.mk h5
 replace hsub:=ae.mk hsub
 replace ih:=ae.mk ih
 clear ht
 have x1:(kd != kd)=false:=bne_self_eq_false _
 have x2:(txt.toList != txt.toList)=false:=bne_self_eq_false _
 have x3:((ks.length:Int) != (ks.length:Int))=false:=bne_self_eq_false _
 have x4:((ts.length:Int) != (ts.length:Int))=false:=bne_self_eq_false _
 obtain ⟨W0,hW0⟩:∃ W0,(w.alloc (.cells #[.int .i64 kd,.string txt,.slice A2 ks.length c2,.slice A3 ts.length c3] 25)).alloc (.cells #[.int .i64 kd,.string txt,.slice B2 ks.length d2,.slice B3 ts.length d3] 25)=W0:=⟨_,rfl⟩
 have S0:Sm w w.heap.size (w.heap.size+1) #[.int .i64 kd,.string txt,.slice A2 ks.length c2,.slice A3 ts.length c3] #[.int .i64 kd,.string txt,.slice B2 ks.length d2,.slice B3 ts.length d3] W0:=by
  rw [← hW0]
  refine ⟨aN (dP w _) _,?_,ai (ai (Below.refl _ _) _) _⟩
  have:=dP (w.alloc (.cells #[.int .i64 kd,.string txt,.slice A2 ks.length c2,.slice A3 ts.length c3] 25)) (.cells #[.int .i64 kd,.string txt,.slice B2 ks.length d2,.slice B3 ts.length d3] 25)
  simpa using this
 replace hW0:=ae.mk hW0
 replace S0:=ae.mk S0
 go_enter Tryz.func38,Tryz.ntmps38
 go_wp2_with (fail)
 go_loopg [5] ks.length (fun kq v5 w'=>∃ i:Nat,v5 = .int .i64 i∧ae (i+kq=ks.length)∧ae (Sm w w.heap.size (w.heap.size+1) #[.int .i64 kd,.string txt,.slice A2 ks.length c2,.slice A3 ts.length c3] #[.int .i64 kd,.string txt,.slice B2 ks.length d2,.slice B3 ts.length d3] w'))
 case atStart=>exact ⟨0,rfl,⟨by omega⟩,⟨by have:=S0.out;rw [← hW0.out] at this;exact this⟩⟩
 case round =>
  clear S0 hW0
  obtain ⟨i,rfl,hi,hS⟩:=hrel
  have a0:=(ah hS.out.k1 0).trans rfl
  have a1:=(ah hS.out.k1 1).trans rfl
  have a2:=(ah hS.out.k1 2).trans rfl
  have a3:=(ah hS.out.k1 3).trans rfl
  have b0:=(ah hS.out.k2 0).trans rfl
  have b1:=(ah hS.out.k2 1).trans rfl
  have b2:=(ah hS.out.k2 2).trans rfl
  have b3:=(ah hS.out.k2 3).trans rfl
  cases gk with
  | zero =>
    have hi':=hi.out
    have e0:decide (i < ks.length)=false:=decide_eq_false (by omega)
    replace hm:=ae.mk hm
    clear hi'
    go_wp2_with (fail)
    go_loopg [6] ts.length (fun kq v6 w'=>∃ i:Nat,v6 = .int .i64 i∧ae (i+kq=ts.length)∧ae (Sm w w.heap.size (w.heap.size+1) #[.int .i64 kd,.string txt,.slice A2 ks.length c2,.slice A3 ts.length c3] #[.int .i64 kd,.string txt,.slice B2 ks.length d2,.slice B3 ts.length d3] w'))
    case atStart=>exact ⟨0,rfl,⟨by omega⟩,hS⟩
    case round =>
     clear a0 a1 a2 a3 b0 b1 b2 b3 hS hi e0
     obtain ⟨i,rfl,hi,hS⟩:=hrel
     have a0:=(ah hS.out.k1 0).trans rfl
     have a1:=(ah hS.out.k1 1).trans rfl
     have a2:=(ah hS.out.k1 2).trans rfl
     have a3:=(ah hS.out.k1 3).trans rfl
     have b0:=(ah hS.out.k2 0).trans rfl
     have b1:=(ah hS.out.k2 1).trans rfl
     have b2:=(ah hS.out.k2 2).trans rfl
     have b3:=(ah hS.out.k2 3).trans rfl
     cases gk with
     | zero =>
       have hi':=hi.out
       have e0:decide (i < ts.length)=false:=decide_eq_false (by omega)
       clear hi'
       go_wp2
       go_ret
       exact ⟨rfl,hS.out.bel⟩
     | succ gk =>
       have hi':=hi.out
       have e0:decide (i < ts.length)=true:=decide_eq_true (by omega)
       obtain ⟨ad,X2,x2,X3,x3,rfl,q0,q1,q2,q3,l2,g2,l3,g3⟩:=qG (Kd.fF h3.out hS.out.bel) (i:Int) (by omega) (by omega)
       obtain ⟨bd,Y2,y2,Y3,y3,rfl,r0,r1,r2,r3,l4,g4,l5,g5⟩:=qG (Kd.fF h5.out hS.out.bel) (i:Int) (by omega) (by omega)
       have p1:(0≤(i:Int))=True:=eq_true (by omega)
       have p2:((i:Int) < (ts.length:Int))=True:=eq_true (by omega)
       have hcall:=fun W (hW:Below wr.heap.size wr W)=>ih.out (gV ts i) (hsub.out _ (yA ts i (by omega) (by omega))) X2 x2 X3 x3 Y2 y2 Y3 y3 W (Kd.fF g2 hW) (Kd.fF g3 hW) (Kd.fF g4 hW) (Kd.fF g5 hW)
       replace g2:=ae.mk g2
       replace g3:=ae.mk g3
       replace g4:=ae.mk g4
       replace g5:=ae.mk g5
       rw [Int.toNat_natCast] at q0 q1 q2 q3 r0 r1 r2 r3
       generalize gV ts (i:Int)=x at *
       clear hi'
       go_wp2_with (fail)
       go_region_with (first | (go_at_call 38;refine (hcall _ ?_).mono ?_;(repeat (with_reducible first | exact Below.refl _ _ | apply ai | apply ag | apply dm));rintro e w5 ⟨rfl,hb5⟩;replace hb5:=ae.mk hb5))
       all_goals
        have hS5:=ae.mk (hS.out.drew.below hb5.out)
        go_wp2
        go_roundg gk
        case measure=>omega
        case rel=>exact ⟨i+1,by have:=hi.out;congr 1;unfold wrap64;omega,⟨by have:=hi.out;omega⟩,hS5⟩
  | succ gk =>
    have hi':=hi.out
    have e0:decide (i < ks.length)=true:=decide_eq_true (by omega)
    obtain ⟨ad,rfl,hx⟩:=Kd.mG (Kd.fF h2.out hS.out.bel) (i:Int) (by omega) (by omega)
    obtain ⟨bd,rfl,hy⟩:=Kd.mG (Kd.fF h4.out hS.out.bel) (i:Int) (by omega) (by omega)
    have p1:(0≤(i:Int))=True:=eq_true (by omega)
    have p2:((i:Int) < (ks.length:Int))=True:=eq_true (by omega)
    rw [Int.toNat_natCast] at hx hy
    generalize uu ByteArray.empty ks i=y at *
    have x5:(y.toList != y.toList)=false:=bne_self_eq_false _
    clear hi'
    go_wp2_with (fail)
    go_quiet (fail)
    have hS5:=ae.mk (hS.out.drewN nq)
    go_wp2
    go_roundg gk
    case measure=>omega
    case rel=>exact ⟨i+1,by have:=hi.out;congr 1;unfold wrap64;omega,⟨by have:=hi.out;omega⟩,hS5⟩
end Go.Proofs.YtpgfjbimodnkeaaGreatDoor.Q
