/- FnGjMap: whatever text comes in, the law returns true and the text reads afterwards as before; with the thirteen package-level variables that its row lists as the program's own text lays them (the tied card) (part 13 of 19: lemmas for its last part) -/
import Derived.Deep.RegionLaw
import Derived.Test.YtpgfjbimodnkeaaGreatDoorMpd2
import Derived.Test.YtpgfjbimodnkeaaGreatDoorMpd10
set_option maxHeartbeats 16000000
set_option maxRecDepth 100000
set_option linter.unusedVariables false
set_option linter.unusedSimpArgs false
namespace Go.Proofs.YtpgfjbimodnkeaaGreatDoor.Q
open Go.RowKit Go.Proofs.YtpgfjbimodnkeaaGreatDoorW.PrintWords Go.Proofs.YtpgfjbimodnkeaaGreatDoorW.PrintLast Go.Proofs.YtpgfjbimodnkeaaGreatDoorW.PrintMore
mutual
def bI.j0:Nat→ByteArray→Int→Int→Int→List (S44)→List (S32)→Int→ByteArray→Option (Int × ByteArray × List ByteArray × (List (S25)))
 | 0,_,_,_,_,_,_,_,_=>none
 | k+1,x0,x353000,x353001,x353002,x353003,x353004,x355000,x355001=>bI.l0 k x0 0 x353000 x353001 x353002 x353003 x353004 x355000 x355001 ([]:List ByteArray)
def bI.l0:Nat→ByteArray→Int→Int→Int→Int→List (S44)→List (S32)→Int→ByteArray→List ByteArray→Option (Int × ByteArray × List ByteArray × (List (S25)))
 | 0,_,_,_,_,_,_,_,_,_,_=>none
 | k+1,x0,x6,x353000,x353001,x353002,x353003,x353004,x355000,x355001,x355002=>if x6 < (x353003.length:Int) then (if 0≤x6 then (if 0≤((kC x353003 x6).f0) then (if ((kC x353003 x6).f0)≤((kC x353003 x6).f1) then (if ((kC x353003 x6).f1)≤(x0.size:Int) then ((aU.f k (x0.extract (((kC x353003 x6).f0):Int).toNat (((kC x353003 x6).f1):Int).toNat)).bind fun t358=>(if x355002.length < 8796093022208 then (bI.l0 k x0 (wrap64 (x6+1)) x353000 x353001 x353002 x353003 x353004 x355000 x355001 (x355002 ++ [t358])) else (none))) else (none)) else (none)) else (none)) else (none)) else (bI.l1 k x0 0 x353000 x353001 x353002 x353003 x353004 x355000 x355001 x355002 ([]:List (S25)))
def bI.l1:Nat→ByteArray→Int→Int→Int→Int→List (S44)→List (S32)→Int→ByteArray→List ByteArray→List (S25)→Option (Int × ByteArray × List ByteArray × (List (S25)))
 | 0,_,_,_,_,_,_,_,_,_,_,_=>none
 | k+1,x0,x7,x353000,x353001,x353002,x353003,x353004,x355000,x355001,x355002,x355003=>if x7 < (x353004.length:Int) then (if 0≤x7 then ((bI.f k x0 ((iG x353004 x7).f0) ((iG x353004 x7).f1) ((iG x353004 x7).f2) ((iG x353004 x7).f3) ((iG x353004 x7).f4)).bind fun bt363=>(if x355003.length < 1954687338268 then (bI.l1 k x0 (wrap64 (x7+1)) x353000 x353001 x353002 x353003 x353004 x355000 x355001 x355002 (x355003 ++ [(⟨bt363.1,bt363.2.1,bt363.2.2.1,bt363.2.2.2⟩:S25)])) else (none))) else (none)) else (some (x355000,x355001,x355002,x355003))
def bI.f:Nat→ByteArray→Int→Int→Int→List (S44)→List (S32)→Option (Int × ByteArray × List ByteArray × (List (S25)))
 | 0,_,_,_,_,_,_=>none
 | k+1,a0,a1_0,a1_1,a1_2,l1_3,l1_4=>if a1_0=3 then (if 0≤a1_1 then (if a1_1≤a1_2 then (if a1_2≤(a0.size:Int) then (bI.j0 k a0 a1_0 a1_1 a1_2 l1_3 l1_4 a1_0 (a0.extract (a1_1:Int).toNat (a1_2:Int).toNat)) else (none)) else (none)) else (none)) else (if a1_0=4 then (if 0≤a1_1 then (if a1_1≤a1_2 then (if a1_2≤(a0.size:Int) then ((aU.f k (a0.extract (a1_1:Int).toNat (a1_2:Int).toNat)).bind fun t355=>(bI.j0 k a0 a1_0 a1_1 a1_2 l1_3 l1_4 a1_0 t355)) else (none)) else (none)) else (none)) else (bI.j0 k a0 a1_0 a1_1 a1_2 l1_3 l1_4 a1_0 (⟨#[]⟩:ByteArray)))
end
theorem kP {W:World} {α:Type} {d:Kd α} {e base:Nat} {ok:Nat→Prop} {v:Value} {xs:List α} (h:d.R e W base ok v xs) {p:Addr} (hp:p.block < base) (u:Value):d.R e (W.setCell p u) base ok v xs:=Kd.dJ (Kd.fV (Kd.jw h) (fun k hk e=>by have:=hk.2.1;omega) u) (fun _ h=>h.1)
theorem o6 {B B':Nat} {w w1:World} (h:Below B w w1) (hB:B'≤B):Below B' w w1:=⟨h.os,h.tape,h.output,h.size,fun k hk=>h.block k (Nat.lt_of_lt_of_le hk hB)⟩
theorem uJ {W:World} {α:Type} {d:Kd α} {e base g:Nat} {ok:Nat→Prop} {v:Value} {xs:List α} (h:d.R e W base ok v xs) (hg:g < base):some g≠v.ownBlock:=fun e=>by have:=Kd.qB h g e.symm;omega
structure Ts (w:World) (kd pb pe:Int) (A3:Option Addr) (n3 c3:Nat) (A4:Option Addr) (n4 c4:Nat) (txt:ByteArray) (v2 v3:Value) (keys:List ByteArray) (ts:List S25) (W:World):Prop where
 b3:W.heap[w.heap.size]?=some (.cells #[.int .i64 kd,.int .i64 pb,.int .i64 pe,.slice A3 n3 c3,.slice A4 n4 c4] 32 (0,0))
 b4:W.heap[w.heap.size+1]?=some (.cells #[.int .i64 0,.string ⟨#[]⟩,.slice none 0 0,.slice none 0 0] 25 (0,0))
 b5:W.heap[w.heap.size+1+1]?=some (.cells #[.int .i64 kd,.string txt,v2,v3] 25 (0,0))
 r2:Kd.R Kd.string 9 W (w.heap.size+3) (fun _=>True) v2 keys
 r3:Kd.R k25 25 W (w.heap.size+3) (fun k=>some k≠v2.ownBlock) v3 ts
 bel:Below w.heap.size w W
section
variable {w W W':World} {kd pb pe:Int} {A3 A4:Option Addr} {n3 c3 n4 c4:Nat} {txt:ByteArray} {v2 v3:Value} {keys:List ByteArray} {ts:List S25}
theorem Ts.below (h:Ts w kd pb pe A3 n3 c3 A4 n4 c4 txt v2 v3 keys ts W) (hb:Below W.heap.size W W'):Ts w kd pb pe A3 n3 c3 A4 n4 c4 txt v2 v3 keys ts W' :=
 ⟨df h.b3 hb,df h.b4 hb,df h.b5 hb,Kd.jv h.r2 hb,Kd.jv h.r3 hb,dR h.bel h.bel.size hb⟩
theorem Ts.drew (h:Ts w kd pb pe A3 n3 c3 A4 n4 c4 txt v2 v3 keys ts W):Ts w kd pb pe A3 n3 c3 A4 n4 c4 txt v2 v3 keys ts W.drew:=h.below (eU (Below.refl _ _))
theorem Ts.alloc (h:Ts w kd pb pe A3 n3 c3 A4 n4 c4 txt v2 v3 keys ts W) (o:Obj):Ts w kd pb pe A3 n3 c3 A4 n4 c4 txt v2 v3 keys ts (W.alloc o):=h.below (ah (Below.refl _ _) o)
theorem Ts.start (w:World) (kd pb pe:Int) (A3:Option Addr) (n3 c3:Nat) (A4:Option Addr) (n4 c4:Nat) (t:ByteArray) :
 Ts w kd pb pe A3 n3 c3 A4 n4 c4 t (.slice none 0 0) (.slice none 0 0) [] [] (((w.alloc (.cells #[.int .i64 kd,.int .i64 pb,.int .i64 pe,.slice A3 n3 c3,.slice A4 n4 c4] 32)).alloc (.cells #[.int .i64 0,.string ⟨#[]⟩,.slice none 0 0,.slice none 0 0] 25)).alloc (.cells #[.int .i64 kd,.string t,.slice none 0 0,.slice none 0 0] 25)):=by
 refine ⟨aJ (aJ (fM w _) _) _,?_,?_,Kd.iZ _ _ _ _ _,Kd.iZ _ _ _ _ _,ah (ah (ah (Below.refl _ _) _) _) _⟩
 ·have:=aJ (fM (w.alloc (.cells #[.int .i64 kd,.int .i64 pb,.int .i64 pe,.slice A3 n3 c3,.slice A4 n4 c4] 32)) (.cells #[.int .i64 0,.string ⟨#[]⟩,.slice none 0 0,.slice none 0 0] 25)) (.cells #[.int .i64 kd,.string t,.slice none 0 0,.slice none 0 0] 25)
  simpa using this
 ·have:=fM ((w.alloc (.cells #[.int .i64 kd,.int .i64 pb,.int .i64 pe,.slice A3 n3 c3,.slice A4 n4 c4] 32)).alloc (.cells #[.int .i64 0,.string ⟨#[]⟩,.slice none 0 0,.slice none 0 0] 25)) (.cells #[.int .i64 kd,.string t,.slice none 0 0,.slice none 0 0] 25)
  simpa using this
theorem Ts.text (h:Ts w kd pb pe A3 n3 c3 A4 n4 c4 txt v2 v3 keys ts W) (t:ByteArray):Ts w kd pb pe A3 n3 c3 A4 n4 c4 t v2 v3 keys ts (W.setCell ⟨w.heap.size+1+1,1,none⟩ (.string t)) :=
 ⟨dW h.b3 (by simp;omega) _,dW h.b4 (by simp) _,bU h.b5 1 _ rfl,kP h.r2 (by simp) _,kP h.r3 (by simp) _,aA h.bel (by show w.heap.size≤w.heap.size+1+1;omega)⟩
theorem Ts.Eu (h:Ts w kd pb pe A3 n3 c3 A4 n4 c4 txt v2 v3 keys ts W) {v:Value} {keys':List ByteArray} (ho:Kd.R Kd.string 9 W' (w.heap.size+3) (fun _=>True) v keys') (hb:Below (w.heap.size+3) W W') (hg:W.grownBy W' v2.ownBlock) (hat:v.ownBlock=v2.ownBlock∨∃ b,v.ownBlock=some b∧W.heap.size≤b) :
 W'.heap[w.heap.size+1+1]?=some (.cells #[.int .i64 kd,.string txt,v2,v3] 25 (0,0))∧Ts w kd pb pe A3 n3 c3 A4 n4 c4 txt v v3 keys' ts (W'.setCell ⟨w.heap.size+1+1,2,none⟩ v):=by
 have k5:=iI h.b5 hg (uJ h.r2 (by omega))
 refine ⟨k5,dW (iI h.b3 hg (uJ h.r2 (by omega))) (by simp;omega) _,dW (iI h.b4 hg (uJ h.r2 (by omega))) (by simp) _,bU k5 2 _ rfl,kP ho (by simp) _,?_,aA (h.bel.trans (o6 hb (by omega))) (by show w.heap.size≤w.heap.size+1+1;omega)⟩
 exact kP (Kd.dJ (Kd.mG (ok:=fun _=>True) (Kd.dJ h.r3 (fun _ hk=>⟨trivial,hk⟩)) hg hat) (fun _ hk=>hk.2)) (by simp) _
theorem Ts.Ey (h:Ts w kd pb pe A3 n3 c3 A4 n4 c4 txt v2 v3 keys ts W) {v:Value} {ts':List S25} (ho:Kd.R k25 25 W' (w.heap.size+3) (fun k=>some k≠v2.ownBlock) v ts') (hb:Below (w.heap.size+3) W W') (hg:W.grownBy W' v3.ownBlock) :
 W'.heap[w.heap.size+1+1]?=some (.cells #[.int .i64 kd,.string txt,v2,v3] 25 (0,0))∧Ts w kd pb pe A3 n3 c3 A4 n4 c4 txt v2 v keys ts' (W'.setCell ⟨w.heap.size+1+1,3,none⟩ v):=by
 have k5:=iI h.b5 hg (uJ h.r3 (by omega))
 exact ⟨k5,dW (iI h.b3 hg (uJ h.r3 (by omega))) (by simp;omega) _,dW (iI h.b4 hg (uJ h.r3 (by omega))) (by simp) _,bU k5 3 _ rfl,kP (Kd.xI h.r2 (Kd.wR h.r3) (by decide) hg) (by simp) _,kP ho (by simp) _,aA (h.bel.trans (o6 hb (by omega))) (by show w.heap.size≤w.heap.size+1+1;omega)⟩
theorem Ts.cells4 (h:Ts w kd pb pe A3 n3 c3 A4 n4 c4 txt v2 v3 keys ts W):(W.cell? ⟨w.heap.size+1,0,none⟩=some (.int .i64 0)∧W.cell? ⟨w.heap.size+1,1,none⟩=some (.string ⟨#[]⟩)∧W.cell? ⟨w.heap.size+1,2,none⟩=some (.slice none 0 0)∧W.cell? ⟨w.heap.size+1,3,none⟩=some (.slice none 0 0)) ∧
 W.frozen? ⟨w.heap.size+1,0,none⟩=false∧W.frozen? ⟨w.heap.size+1,1,none⟩=false∧W.frozen? ⟨w.heap.size+1,2,none⟩=false∧W.frozen? ⟨w.heap.size+1,3,none⟩=false :=
 ⟨⟨(ak h.b4 0).trans rfl,(ak h.b4 1).trans rfl,(ak h.b4 2).trans rfl,(ak h.b4 3).trans rfl⟩,ax h.b4 0,ax h.b4 1,ax h.b4 2,ax h.b4 3⟩
theorem Ts.post {tmps:Array Value} (h:Ts w kd pb pe A3 n3 c3 A4 n4 c4 txt v2 v3 keys ts W) (hp:tmps.getD 4 undef = .pointer (some ⟨w.heap.size+1,0,none⟩)) :
 bodyPost Tryz.prog Tryz.f52 (fun e w'=>∃ v2_ v3_:Value,e = .returned (.agg #[.int .i64 kd,.string txt,v2_,v3_])∧Kd.R Kd.string 9 w' w.heap.size (fun _=>True) v2_ keys∧Kd.R k25 25 w' w.heap.size (fun k_=>some k_≠(v2_:Value).ownBlock) v3_ ts∧Below w.heap.size w w') .ret { tmps:=tmps,defers:=[] } ((((W.setCell ⟨w.heap.size+1,0,none⟩ (.int .i64 kd)).setCell ⟨w.heap.size+1,1,none⟩ (.string txt)).setCell ⟨w.heap.size+1,2,none⟩ v2).setCell ⟨w.heap.size+1,3,none⟩ v3):=by
 refine bodyPost_ret (results_cell_row rfl _ _ (w.heap.size+1) 25 #[.int .i64 kd,.string txt,v2,v3] (0,0) _ hp (bU (bU (bU (bU h.b4 0 _ rfl) 1 _ rfl) 2 _ rfl) 3 _ rfl) Tryz.underlying25 rfl (by kernel_rfl)) rfl ?_
 have hl:w.heap.size≤w.heap.size+1:=by omega
 exact ⟨v2,v3,rfl,Kd.eP (kP (kP (kP (kP h.r2 (by simp) _) (by simp) _) (by simp) _) (by simp) _) (by omega),Kd.eP (kP (kP (kP (kP h.r3 (by simp) _) (by simp) _) (by simp) _) (by simp) _) (by omega),aA (aA (aA (aA h.bel hl) hl) hl) hl⟩
theorem Ts.size (h:Ts w kd pb pe A3 n3 c3 A4 n4 c4 txt v2 v3 keys ts W):w.heap.size+3≤W.heap.size:=by have:=jy h.b5;omega
theorem Ts.cells (h:Ts w kd pb pe A3 n3 c3 A4 n4 c4 txt v2 v3 keys ts W):(W.cell? ⟨w.heap.size,1,none⟩=some (.int .i64 pb)∧W.cell? ⟨w.heap.size,2,none⟩=some (.int .i64 pe)∧W.cell? ⟨w.heap.size,3,none⟩=some (.slice A3 n3 c3)∧W.cell? ⟨w.heap.size,4,none⟩=some (.slice A4 n4 c4)) ∧
 (W.cell? ⟨w.heap.size+1+1,0,none⟩=some (.int .i64 kd)∧W.cell? ⟨w.heap.size+1+1,1,none⟩=some (.string txt)∧W.cell? ⟨w.heap.size+1+1,2,none⟩=some v2∧W.cell? ⟨w.heap.size+1+1,3,none⟩=some v3) ∧
 W.frozen? ⟨w.heap.size+1+1,1,none⟩=false∧W.frozen? ⟨w.heap.size+1+1,2,none⟩=false∧W.frozen? ⟨w.heap.size+1+1,3,none⟩=false :=
 ⟨⟨(ak h.b3 1).trans rfl,(ak h.b3 2).trans rfl,(ak h.b3 3).trans rfl,(ak h.b3 4).trans rfl⟩,⟨(ak h.b5 0).trans rfl,(ak h.b5 1).trans rfl,(ak h.b5 2).trans rfl,(ak h.b5 3).trans rfl⟩,ax h.b5 1,ax h.b5 2,ax h.b5 3⟩
end
theorem bI.calls (k:Nat):∀ (a0:ByteArray) (a1_0:Int) (a1_1:Int) (a1_2:Int) (A1_3:Option Addr) (c1_3:Nat) (l1_3:List (S44)) (A1_4:Option Addr) (c1_4:Nat) (l1_4:List (S32)) (r1:Int) (r2:ByteArray) (r3:List ByteArray) (r4:List (S25)) (w:World) (hr1_3:Kd.C k44 w A1_3 l1_3.length l1_3) (hc1_3:l1_3.length≤c1_3) (hr1_4:Kd.C k32 w A1_4 l1_4.length l1_4) (hc1_4:l1_4.length≤c1_4) (h:bI.f k a0 a1_0 a1_1 a1_2 l1_3 l1_4=some (r1,r2,r3,r4)),
 Calls Tryz.prog 52 #[.string a0,.agg #[.int .i64 a1_0,.int .i64 a1_1,.int .i64 a1_2,.slice A1_3 l1_3.length c1_3,.slice A1_4 l1_4.length c1_4]] w fun e w'=>∃ v2_ v3_:Value,e = .returned (.agg #[.int .i64 r1,.string r2,v2_,v3_])∧Kd.R Kd.string 9 w' w.heap.size (fun _=>True) v2_ r3∧Kd.R k25 25 w' w.heap.size (fun k_=>some k_≠(v2_:Value).ownBlock) v3_ r4∧Below w.heap.size w w':=by
 induction k using Nat.strongRecOn with
 | _ k ih =>
 intro s kd pb pe A3 c3 ns A4 c4 ks r1 r2 r3 r4 w h3 hc3 h4 hc4 h
 cases k with
 | zero=>exact absurd h (by simp [bI.f])
 | succ k =>
 simp only [bI.f] at h
 replace h:=ae.mk h
 replace h3:=ae.mk h3
 replace h4:=ae.mk h4
 go_enter Tryz.func52,Tryz.ntmps52
 go_upto_block 0 with (fail)
 go_cut [] (fun wc=>∃ (kq:Nat) (txt:ByteArray),ae (bI.j0 kq s kd pb pe ns ks kd txt=some (r1,r2,r3,r4))∧ae (kq≤k)∧ae (Ts w kd pb pe A3 ns.length c3 A4 ks.length c4 txt (.slice none 0 0) (.slice none 0 0) [] [] wc))
 case first =>
  have h0:=h.out
  clear h
  by_cases k3:kd=3
  ·rw [if_pos k3] at h0
   split at h0
   case isFalse=>cases h0
   rename_i e0
   split at h0
   case isFalse=>cases h0
   rename_i e1
   split at h0
   case isFalse=>cases h0
   rename_i e2
   have x0:(0≤pb)=True:=eq_true e0
   have x1:(pb≤pe)=True:=eq_true e1
   have x2:(pe≤(s.size:Int))=True:=eq_true e2
   have b3:(kd == 3)=true:=beq_iff_eq.mpr k3
   clear k3 e0 e1 e2
   replace h0:=ae.mk h0
   go_wp2_with (fail)
   go_meet
   case rel=>exact ⟨_,_,h0,⟨Nat.le_refl _⟩,⟨Ts.start _ _ _ _ _ _ _ _ _ _ _⟩⟩
  rw [if_neg k3] at h0
  have b3:(kd == 3)=false:=beq_eq_false_iff_ne.mpr k3
  clear k3
  by_cases k4:kd=4
  ·rw [if_pos k4] at h0
   split at h0
   case isFalse=>cases h0
   rename_i e0
   split at h0
   case isFalse=>cases h0
   rename_i e1
   split at h0
   case isFalse=>cases h0
   rename_i e2
   have x0:(0≤pb)=True:=eq_true e0
   have x1:(pb≤pe)=True:=eq_true e1
   have x2:(pe≤(s.size:Int))=True:=eq_true e2
   have b4:(kd == 4)=true:=beq_iff_eq.mpr k4
   obtain ⟨t,A1,h1⟩:=Option.bind_eq_some_iff.mp h0
   clear k4 e0 e1 e2 h0
   replace h1:=ae.mk h1
   have hU:=fun W=>aU.calls k (s.extract pb.toNat pe.toNat) t W A1
   replace A1:=ae.mk A1
   go_wp2_with (fail)
   refine (hU _).mono ?_
   rintro e w5 ⟨rfl,hb⟩
   have T:=(Ts.start w kd pb pe A3 ns.length c3 A4 ks.length c4 ⟨#[]⟩).below hb
   obtain ⟨⟨d1,d2,d3,d4⟩,⟨x0,x1,x2,x3⟩,f1,f2,f3⟩:=T.cells
   replace T:=ae.mk T
   clear hb
   go_wp2_with (fail)
   go_meet
   case rel=>exact ⟨_,_,h1,⟨Nat.le_refl _⟩,⟨T.out.text _⟩⟩
  ·rw [if_neg k4] at h0
   have b4:(kd == 4)=false:=beq_eq_false_iff_ne.mpr k4
   clear k4
   replace h0:=ae.mk h0
   go_wp2_with (fail)
   go_meet
   case rel=>exact ⟨_,_,h0,⟨Nat.le_refl _⟩,⟨Ts.start _ _ _ _ _ _ _ _ _ _ _⟩⟩
 case rest =>
  clear h
  obtain ⟨kq,txt,HA,HK,T⟩:=hcut
  cases kq with
  | zero=>exact absurd HA.out (by simp [bI.j0])
  | succ kj =>
  have h0:=HA.out
  simp only [bI.j0] at h0
  replace h0:=ae.mk h0
  clear HA
  go_wp2_with (fail)
  go_loopg [6] kj (fun kq v6 w'=>∃ (x:Int) (keys:List ByteArray) (v2:Value),v6 = .int .i64 x∧ae (bI.l0 kq s x kd pb pe ns ks kd txt keys=some (r1,r2,r3,r4))∧ae (kq≤kj)∧ae (Ts w kd pb pe A3 ns.length c3 A4 ks.length c4 txt v2 (.slice none 0 0) keys [] w'))
  case atStart=>exact ⟨0,[],_,rfl,h0,⟨Nat.le_refl _⟩,T⟩
  case round =>
   clear h0 T
   obtain ⟨x,keys,v2,rfl,HA,HK1,T⟩:=hrel
   cases gk with
   | zero=>exact absurd HA.out (by simp [bI.l0])
   | succ k1 =>
   have h0:=HA.out
   clear HA
   simp only [bI.l0] at h0
   obtain ⟨⟨d1,d2,d3,d4⟩,⟨x0,x1,x2,x3⟩,f1,f2,f3⟩:=T.out.cells
   by_cases hx:x < (ns.length:Int)
   ·rw [if_pos hx] at h0
    split at h0
    case isFalse=>cases h0
    rename_i e0
    split at h0
    case isFalse=>cases h0
    rename_i e1
    split at h0
    case isFalse=>cases h0
    rename_i e2
    split at h0
    case isFalse=>cases h0
    rename_i e3
    obtain ⟨t,A1,h1⟩:=Option.bind_eq_some_iff.mp h0
    split at h1
    case isFalse=>cases h1
    rename_i hl
    obtain ⟨i,rfl⟩:∃ i:Nat,x=i:=⟨x.toNat,by omega⟩
    clear h0
    have hC:=Kd.dG h3.out T.out.bel
    obtain ⟨ad,rfl,q0,q1⟩:=DW hC (i:Int) e0 hx
    rw [Int.toNat_natCast] at q0 q1
    generalize hr:kC ns (i:Int)=sp at *
    obtain ⟨sb,se⟩:=sp
    have y0:(0≤sb)=True:=eq_true e1
    have y1:(sb≤se)=True:=eq_true e2
    have y2:(se≤(s.size:Int))=True:=eq_true e3
    have j0:((0:Int)≤(i:Int))=True:=eq_true e0
    have j1:((i:Int) < (ns.length:Int))=True:=eq_true hx
    have j2:(i < ns.length)=True:=eq_true (by omega)
    have j3:decide ((i:Int) < (ns.length:Int))=true:=decide_eq_true hx
    have j4:decide (i < ns.length)=true:=decide_eq_true (by omega)
    have hU:=fun W=>aU.calls k1 (s.extract sb.toNat se.toNat) t W A1
    replace A1:=ae.mk A1
    replace h1:=ae.mk h1
    replace hl:=ae.mk hl
    replace hr:=ae.mk hr
    replace hC:=ae.mk hC
    clear e0 e1 e2 e3 hx
    go_upto_region 10 with (fail)
    have hL:keys.length < 8796093022208:=hl.out
    obtain ⟨a2,n2,rfl⟩:=Kd.dX T.out.r2
    go_region_law (first | (refine Kd.nz Kd.string (w.heap.size+3) (by rfl) (.tmp 40) (.tmp 56) 22 9 (.string ⟨#[]⟩) 16 rfl Tryz.underlying22 info9 rfl (by decide) (by omega) (.slice a2 keys.length n2) keys t [.string t] (fun _=>True) (fun _=>False) ?aX ?aY rfl (fun _ hk=>hk.elim) (fun _ _=>trivial) ?aO (Below.refl _ _) ?aS ?aL ?_;(case aX=>simp [Act.eval,Act.put]);(case aY=>simp [Act.eval,Act.put]);(case aO=>exact Ts.r2 (by repeat (with_reducible first | exact T5.out | apply Ts.drewN | apply Ts.drew | apply Ts.alloc)));(case aS=>exact Ts.size (by repeat (with_reducible first | exact T5.out | apply Ts.drewN | apply Ts.drew | apply Ts.alloc)));(case aL=>omega);intro v1 w6 ho hb hg hat;obtain ⟨a6,n6,e6⟩:=Kd.dX ho;rw [List.length_append,List.length_singleton] at e6;subst e6;have T6:=ae.mk (Ts.Eu (by repeat (with_reducible first | exact T5.out | apply Ts.drewN | apply Ts.drew | apply Ts.alloc)) ho hb hg hat);have g2:=(ak T6.out.1 2).trans rfl;have g3:=ax T6.out.1 2;clear ho hb hg hat) | (go_simp;go_at_call 36;(with_reducible refine (hU _).mono ?_);rintro e w5 ⟨rfl,hb5⟩;have T5:=ae.mk (Ts.below (by repeat (with_reducible first | exact T.out | apply Ts.drewN | apply Ts.drew | apply Ts.alloc)) hb5);clear hb5;obtain ⟨⟨z1,z2,z3,z4⟩,⟨o0,o1,o2,o3⟩,p1,p2,p3⟩:=T5.out.cells;obtain ⟨_,⟨_,_,oo2,_⟩,_,pp2,_⟩:=(T5.out.alloc (.cells #[.string t] 9)).cells))
    all_goals go_wp2
    all_goals go_roundg k1
    all_goals first
     | (have:=HK1.out;omega)
     | exact ⟨_,keys ++ [t],_,rfl,h1,⟨by have:=HK1.out;omega⟩,⟨T6.out.2⟩⟩
   ·rw [if_neg hx] at h0
    have j3:decide (x < (ns.length:Int))=false:=decide_eq_false hx
    have j1:(x < (ns.length:Int))=False:=eq_false hx
    replace h0:=ae.mk h0
    clear hx
    go_wp2_with (fail)
    go_loopg [7] k1 (fun kq v7 w'=>∃ (x:Int) (ts:List S25) (v3:Value),v7 = .int .i64 x∧ae (bI.l1 kq s x kd pb pe ns ks kd txt keys ts=some (r1,r2,r3,r4))∧ae (kq≤k1)∧ae (Ts w kd pb pe A3 ns.length c3 A4 ks.length c4 txt v2 v3 keys ts w'))
    case atStart=>exact ⟨0,[],_,rfl,h0,⟨Nat.le_refl _⟩,T⟩
    case round =>
     clear h0 T d1 d2 d3 d4 x0 x1 x2 x3 f1 f2 f3 j1 j3
     obtain ⟨x,ts,v3,rfl,HA,HK2,T⟩:=hrel
     cases gk with
     | zero=>exact absurd HA.out (by simp [bI.l1])
     | succ k2 =>
     have h0:=HA.out
     clear HA
     simp only [bI.l1] at h0
     obtain ⟨⟨d1,d2,d3,d4⟩,⟨x0,x1,x2,x3⟩,f1,f2,f3⟩:=T.out.cells
     by_cases hx:x < (ks.length:Int)
     ·rw [if_pos hx] at h0
      split at h0
      case isFalse=>cases h0
      rename_i e0
      obtain ⟨⟨q1,t1,keys1,ts1⟩,A1,h1⟩:=Option.bind_eq_some_iff.mp h0
      dsimp only at h1
      split at h1
      case isFalse=>cases h1
      rename_i hl
      obtain ⟨i,rfl⟩:∃ i:Nat,x=i:=⟨x.toNat,by omega⟩
      clear h0
      have hC:=Kd.dG h4.out T.out.bel
      obtain ⟨ad,A6,c6,A7,c7,rfl,g0,g1,g2,g3,g4,g5,g6,g7,g8⟩:=D7 hC (i:Int) e0 hx
      rw [Int.toNat_natCast] at g0 g1 g2 g3 g4
      generalize hr:iG ks (i:Int)=sp at *
      obtain ⟨sk,sb,se,sn,ss⟩:=sp
      dsimp only at g0 g1 g2 g3 g4 g5 g6 g7 g8 A1
      have j0:((0:Int)≤(i:Int))=True:=eq_true e0
      have j1:((i:Int) < (ks.length:Int))=True:=eq_true hx
      have j2:(i < ks.length)=True:=eq_true (by omega)
      have j3:decide ((i:Int) < (ks.length:Int))=true:=decide_eq_true hx
      have j4:decide (i < ks.length)=true:=decide_eq_true (by omega)
      have hU:=fun W (z1:Kd.C k44 W A6 sn.length sn) (z2:Kd.C k32 W A7 ss.length ss)=>ih k2 (by have:=HK2.out;have:=HK1.out;have:=HK.out;omega) s sk sb se A6 c6 sn A7 c7 ss q1 t1 keys1 ts1 W z1 g5 z2 g7 A1
      replace A1:=ae.mk A1
      replace h1:=ae.mk h1
      replace hl:=ae.mk hl
      replace hr:=ae.mk hr
      replace hC:=ae.mk hC
      replace g5:=ae.mk g5
      replace g6:=ae.mk g6
      replace g7:=ae.mk g7
      replace g8:=ae.mk g8
      have hL:ts.length < 1954687338268:=hl.out
      obtain ⟨a3,n3,rfl⟩:=Kd.dX T.out.r3
      clear e0 hx
      go_upto_region 14 with (fail)
      go_region_law (first | (refine Kd.nz k25 (w.heap.size+3) (by rfl) (.tmp 67) (.tmp 75) 23 25 (.agg #[(.int .i64 0),(.string ⟨#[]⟩),(.slice none 0 0),(.slice none 0 0)]) 72 rfl Tryz.underlying23 info25 rfl (by decide) (by omega) (.slice a3 ts.length n3) ts (⟨q1,t1,keys1,ts1⟩:S25) [.int .i64 q1,.string t1,.slice a8 keys1.length n8,.slice a9 ts1.length n9] (fun k_=>some k_≠v2.ownBlock) (fun k_=>some k_≠v2.ownBlock∧some k_≠(Value.slice a3 ts.length n3).ownBlock) ?aX ?aY ?aP (fun _ hk=>hk) ?aF ?aO (Below.refl _ _) ?aS ?aL ?_;(case aX=>simp [Act.eval,Act.put]);(case aY=>simp [Act.eval,Act.put]);(case aP=>exact BV _ _ _ (⟨q1,t1,keys1,ts1⟩:S25) (by (with_reducible repeat (first | apply Kd.cO | apply Kd.dh | apply Kd.R_drew));exact y8.out) (by (with_reducible repeat (first | apply Kd.cO | apply Kd.dh | apply Kd.R_drew));exact y9.out));(case aF=>exact Kd.fresh' (Kd.lF (Ts.r2 (by repeat (with_reducible first | exact T5.out | apply Ts.drewN | apply Ts.drew | apply Ts.alloc)))));(case aO=>exact Ts.r3 (by repeat (with_reducible first | exact T5.out | apply Ts.drewN | apply Ts.drew | apply Ts.alloc)));(case aS=>exact Ts.size (by repeat (with_reducible first | exact T5.out | apply Ts.drewN | apply Ts.drew | apply Ts.alloc)));(case aL=>omega);intro v1 w6 ho hb hg hat;obtain ⟨a6,n6,e6⟩:=Kd.dX ho;rw [List.length_append,List.length_singleton] at e6;subst e6;have T6:=ae.mk (Ts.Ey (by repeat (with_reducible first | exact T5.out | apply Ts.drewN | apply Ts.drew | apply Ts.alloc)) ho hb hg);have s2:=(ak T6.out.1 3).trans rfl;have s3:=ax T6.out.1 3;clear ho hb hg hat) | (go_simp;go_at_call 52;(with_reducible refine (hU _ ?s1 ?s2).mono ?_);(case s1=>exact Kd.dG g6.out (by repeat (with_reducible first | exact Below.refl _ _ | apply ag | apply eU)));(case s2=>exact Kd.dG g8.out (by repeat (with_reducible first | exact Below.refl _ _ | apply ag | apply eU)));rintro e w5 ⟨v8,v9,rfl,u8,u9,hb5⟩;obtain ⟨a8,n8,rfl⟩:=Kd.dX u8;obtain ⟨a9,n9,rfl⟩:=Kd.dX u9;have T4:=T.out.drew;have y8:=ae.mk (Kd.dJ (Kd.eP (Kd.ku (Kd.ku u8 (Kd.lF T4.r2)) (Kd.lF T4.r3)) T4.size) (fun _ hk=>(⟨hk.1.2,hk.2⟩:_∧_)));have y9:=ae.mk (Kd.dJ (Kd.eP (Kd.ku (Kd.ku u9 (Kd.lF T4.r2)) (Kd.lF T4.r3)) T4.size) (fun _ hk=>(⟨hk.1.2,hk.2⟩:_∧_)));have T5:=ae.mk (T4.below hb5);clear hb5 T4 u8 u9;obtain ⟨⟨z1,z2,z3,z4⟩,⟨o0,o1,o2,o3⟩,p1,p2,p3⟩:=T5.out.cells;obtain ⟨_,⟨_,_,_,oo3⟩,_,_,pp3⟩:=(T5.out.alloc (.cells #[.int .i64 q1,.string t1,.slice a8 keys1.length n8,.slice a9 ts1.length n9] 25)).cells))
      all_goals go_wp2
      all_goals go_roundg k2
      all_goals first
       | (have:=HK2.out;omega)
       | exact ⟨_,ts ++ [⟨q1,t1,keys1,ts1⟩],_,rfl,h1,⟨by have:=HK2.out;omega⟩,⟨T6.out.2⟩⟩
     ·rw [if_neg hx] at h0
      simp only [Option.some.injEq,Prod.mk.injEq] at h0
      obtain ⟨rfl,rfl,rfl,rfl⟩:=h0
      have j3:decide (x < (ks.length:Int))=false:=decide_eq_false hx
      have j1:(x < (ks.length:Int))=False:=eq_false hx
      clear hx
      obtain ⟨a2,n2,rfl⟩:=Kd.dX T.out.r2
      obtain ⟨a3,n3,rfl⟩:=Kd.dX T.out.r3
      obtain ⟨⟨r0,r1,r2,r3⟩,s0,s1,s2,s3⟩:=T.out.cells4
      go_wp2_with (fail)
      exact T.out.post rfl
end Go.Proofs.YtpgfjbimodnkeaaGreatDoor.Q
