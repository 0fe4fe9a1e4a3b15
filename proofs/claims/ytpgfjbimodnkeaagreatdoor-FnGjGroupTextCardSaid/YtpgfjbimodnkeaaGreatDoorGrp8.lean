/- FnGjGroupText: whatever text comes in, the law returns true and the text reads afterwards as before; with the fourteen package-level variables that its row lists as the text of the program lays them (the tied card) (part 8 of 33: lemmas for its last part) -/
import Derived.WalkMore
import Derived.Laws.Cover2
import Derived.Laws.FloatArith
import Derived.Shelf.LaysM
import Derived.Shelf.Strconv.Clone
import Derived.Shelf.Strconv.SyntaxError
import Derived.Shelf.Strconv.RangeError
import Derived.Test.YtpgfjbimodnkeaaGreatDoorProg
import Derived.Test.YtpgfjbimodnkeaaGreatDoorGrp2
import Derived.Test.YtpgfjbimodnkeaaGreatDoorGrp3
import Derived.Test.YtpgfjbimodnkeaaGreatDoorGrp4
import Derived.Test.YtpgfjbimodnkeaaGreatDoorGrp6
import Derived.Test.YtpgfjbimodnkeaaGreatDoorGrp7
set_option maxHeartbeats 16000000
set_option maxRecDepth 100000
set_option linter.unusedVariables false
set_option linter.unusedSimpArgs false
namespace Go.Proofs.YtpgfjbimodnkeaaGreatDoor.Dec
open Go Go.RowKit Go.Proofs.YtpgfjbimodnkeaaGreatDoorW.PrintWords Go.Proofs.YtpgfjbimodnkeaaGreatDoorW.PrintLast Go.Proofs.YtpgfjbimodnkeaaGreatDoorW.PrintMore
def fl2 (op:BinOp) (x y:Nat) (W:World):Nat:=match floatBits op .f64 x y with
 | some r=>r
 | none=>if (Question.nanBits .f64 x y).forced then 0 else (Question.nanBits .f64 x y).cut (W.tape W.drawn (Question.nanBits .f64 x y))
def fln (op:BinOp) (x y:Nat):Nat:=match floatBits op .f64 x y with
 | some _=>0
 | none=>if (Question.nanBits .f64 x y).forced then 0 else 1
theorem FV (t:TypeId) (x y:Nat) (W:World):(binOp .mul t (.float .f64 x) (.float .f64 y)).run Tryz.prog W = .ok (.float .f64 (fl2 .mul x y W)) (W.drewN (fln .mul x y)):=by
 cases h:floatBits .mul .f64 x y with
 | some r =>
   rw [run_float_arith W .mul t .f64 x y r h]
   simp only [fl2,fln,h]
   rfl
 | none =>
   have h':FloatKind.f64.format.mul x y=none:=h
   simp only [fl2,fln,h]
   by_cases hf:(Question.nanBits .f64 x y).forced
   ·simp [binOp,Op.floatArith,h',hf];rfl
   ·simp [binOp,Op.floatArith,h',hf];rfl
theorem F5 (t:TypeId) (x y:Nat) (W:World):(binOp .quo t (.float .f64 x) (.float .f64 y)).run Tryz.prog W = .ok (.float .f64 (fl2 .quo x y W)) (W.drewN (fln .quo x y)):=by
 cases h:floatBits .quo .f64 x y with
 | some r =>
   rw [run_float_arith W .quo t .f64 x y r h]
   simp only [fl2,fln,h]
   rfl
 | none =>
   have h':FloatKind.f64.format.div x y=none:=h
   simp only [fl2,fln,h]
   by_cases hf:(Question.nanBits .f64 x y).forced
   ·simp [binOp,Op.floatArith,h',hf];rfl
   ·simp [binOp,Op.floatArith,h',hf];rfl
theorem FD (x:Nat) (W:World):(Op.unary .neg (.float .f64 x)).run Tryz.prog W = .ok (.float .f64 (Op.negFloat .f64 x)) W:=by
 simp [Op.unary]
attribute [local go_sem] FV F5 FD
structure IC (e:Ending):Prop where mk :: (out:∃ (b:Nat) (o:Bool),e = .returned (.tuple #[.float .f64 b,.bool o]))
theorem xx (w:World) (B:Nat) (d p:Int) (ng:Bool) (hd0:0≤d) (hd1:d < 18446744073709551616) (hp:-1000000≤p∧p≤1000000) (hT:Tabs B w) :
 Calls Tryz.prog 156 #[.int .u64 d,.int .i64 p,.bool ng] w fun e w'=>IC e∧aj w w':=by
 have t1:=hT.nV
 obtain ⟨b,cc,hb,t2,t3⟩:=hT.ten
 by_cases k0:p=0
 ·have k0b:(p == 0)=true:=beq_iff_eq.mpr k0
  clear k0
  go_enter Tryz.func156,Tryz.ntmps156
  go_wp2
  all_goals go_ret2
  all_goals exact ⟨⟨_,_,rfl⟩,by repeat (first | exact aj.refl _ | apply aj.step)⟩
 have k0b:(p == 0)=false:=beq_eq_false_iff_ne.mpr k0
 by_cases k1:0 < p
 ·have k1b:decide (0 < p)=true:=decide_eq_true k1
  by_cases k2:p≤37
  ·have k2b:decide (p≤37)=true:=decide_eq_true k2
   by_cases k3:22 < p
   ·have k3b:decide (22 < p)=true:=decide_eq_true k3
    obtain ⟨i,hi⟩:∃ i:Nat,p - 22=i:=⟨(p - 22).toNat,by omega⟩
    obtain ⟨x1,f1⟩:=t3 i (by omega)
    obtain ⟨x2,f2⟩:=t3 22 (by omega)
    have f3:w.cell? ⟨b.block,b.off+22,none⟩=some (.float .f64 x2):=f2
    have p1:((0:Int)≤(i:Int))=True:=eq_true (by omega)
    have q1:((i:Int) < 23)=True:=eq_true (by omega)
    go_enter Tryz.func156,Tryz.ntmps156
    go_wp2
    all_goals go_ret2
    all_goals exact ⟨⟨_,_,rfl⟩,by repeat (first | exact aj.refl _ | apply aj.step)⟩
   ·have k3b:decide (22 < p)=false:=decide_eq_false k3
    obtain ⟨i,rfl⟩:∃ i:Nat,p=i:=⟨p.toNat,by omega⟩
    obtain ⟨x1,f1⟩:=t3 i (by omega)
    have p1:((0:Int)≤(i:Int))=True:=eq_true (by omega)
    have q1:((i:Int) < 23)=True:=eq_true (by omega)
    go_enter Tryz.func156,Tryz.ntmps156
    go_wp2
    all_goals go_ret2
    all_goals exact ⟨⟨_,_,rfl⟩,by repeat (first | exact aj.refl _ | apply aj.step)⟩
  ·have k2b:decide (p≤37)=false:=decide_eq_false k2
   have k4b:decide (p < 0)=false:=decide_eq_false (by omega)
   go_enter Tryz.func156,Tryz.ntmps156
   go_wp2
   all_goals go_ret2
   all_goals exact ⟨⟨_,_,rfl⟩,by repeat (first | exact aj.refl _ | apply aj.step)⟩
 ·have k1b:decide (0 < p)=false:=decide_eq_false k1
  have k4b:decide (p < 0)=true:=decide_eq_true (by omega)
  by_cases k5:-22≤p
  ·have k5b:decide (-22≤p)=true:=decide_eq_true k5
   obtain ⟨i,rfl⟩:∃ i:Nat,p=-(i:Int):=⟨(-p).toNat,by omega⟩
   obtain ⟨x1,f1⟩:=t3 i (by omega)
   have p1:((0:Int)≤(i:Int))=True:=eq_true (by omega)
   have q1:((i:Int) < 23)=True:=eq_true (by omega)
   go_enter Tryz.func156,Tryz.ntmps156
   go_wp2
   all_goals go_ret2
   all_goals exact ⟨⟨_,_,rfl⟩,by repeat (first | exact aj.refl _ | apply aj.step)⟩
  ·have k5b:decide (-22≤p)=false:=decide_eq_false k5
   go_enter Tryz.func156,Tryz.ntmps156
   go_wp2
   all_goals go_ret2
   all_goals exact ⟨⟨_,_,rfl⟩,by repeat (first | exact aj.refl _ | apply aj.step)⟩
end Go.Proofs.YtpgfjbimodnkeaaGreatDoor.Dec
namespace Go.Proofs.YtpgfjbimodnkeaaGreatDoor.Q
open Go.RowKit Go.Proofs.YtpgfjbimodnkeaaGreatDoorW.PrintWords Go.Proofs.YtpgfjbimodnkeaaGreatDoorW.PrintLast Go.Proofs.YtpgfjbimodnkeaaGreatDoorW.PrintMore
attribute [local go_sem] dK dJ dZ ed dC dD dN dM
def jA.f (a0:Int):Option (Int):=some ((wrap64 (a0*108853)) / 32768)
theorem jA.calls (a0:Int) (r:Int) (w:World) (h:jA.f a0=some r) :
 Calls Tryz.prog 162 #[.int .i64 a0] w fun e w'=>e = .returned (.int .i64 r)∧aj w w':=by
 have H:(some ((wrap64 (a0*108853)) / 32768))=some r:=h
 clear h
 obtain rfl:=Option.some.inj H
 go_enter Tryz.func162,Tryz.ntmps162
 go_wp2
 go_ret
 exact ⟨by first | rfl | (simp;done) | (simp [*];done),by repeat (first | exact aj.refl _ | apply aj.step)⟩
attribute [local go_sem] dK dJ dZ ed dC dD dN dM
def jB.f (a0:Bool):Option (Int):=if a0=true then (some 1) else (some 0)
theorem jB.calls (a0:Bool) (r:Int) (w:World) (h:jB.f a0=some r) :
 Calls Tryz.prog 165 #[.bool a0] w fun e w'=>e = .returned (.int .i64 r)∧aj w w':=by
 have H:(if a0=true then (some 1) else (some 0))=some r:=h
 clear h
 by_cases c2:a0=true
 ·subst c2
  have H1:(some 1)=some r:=by rw [if_pos rfl] at H;exact H
  clear H
  have H:=H1
  clear H1
  obtain rfl:=Option.some.inj H
  go_enter Tryz.func165,Tryz.ntmps165
  go_wp2
  go_ret
  exact ⟨by first | rfl | (simp;done) | (simp [*];done),by repeat (first | exact aj.refl _ | apply aj.step)⟩
 ·replace c2:=Bool.eq_false_iff.mpr c2
  subst c2
  have H1:(some 0)=some r:=by rw [if_neg (show ¬ (false=true) by decide)] at H;exact H
  clear H
  have H:=H1
  clear H1
  obtain rfl:=Option.some.inj H
  go_enter Tryz.func165,Tryz.ntmps165
  go_wp2
  go_ret
  exact ⟨by first | rfl | (simp;done) | (simp [*];done),by repeat (first | exact aj.refl _ | apply aj.step)⟩
attribute [local go_sem] dK dJ dZ ed dC dD dN dM
def lS.f (a0:Int):Option (Int):=some (IntKind.u64.wrap ((IntKind.u64.wrap (a0*4)) - 2))
theorem lS.calls (a0:Int) (r:Int) (w:World) (h:lS.f a0=some r) :
 Calls Tryz.prog 166 #[.int .u64 a0] w fun e w'=>e = .returned (.int .u64 r)∧aj w w':=by
 have H:(some (IntKind.u64.wrap ((IntKind.u64.wrap (a0*4)) - 2)))=some r:=h
 clear h
 obtain rfl:=Option.some.inj H
 go_enter Tryz.func166,Tryz.ntmps166
 go_wp2
 go_ret
 exact ⟨by first | rfl | (simp;done) | (simp [*];done),by repeat (first | exact aj.refl _ | apply aj.step)⟩
attribute [local go_sem] dK dJ dZ ed dC dD dN dM
def iW.f (a0:Int):Option (Int):=some ((IntKind.u64.wrap ((IntKind.u64.wrap (a0+1))+(Go.bits .and .u64 (a0 / 4) 1))) / 4)
theorem iW.calls (a0:Int) (r:Int) (w:World) (h:iW.f a0=some r) :
 Calls Tryz.prog 168 #[.int .u64 a0] w fun e w'=>e = .returned (.int .u64 r)∧aj w w':=by
 have H:(some ((IntKind.u64.wrap ((IntKind.u64.wrap (a0+1))+(Go.bits .and .u64 (a0 / 4) 1))) / 4))=some r:=h
 clear h
 obtain rfl:=Option.some.inj H
 go_enter Tryz.func168,Tryz.ntmps168
 go_wp2
 go_ret
 exact ⟨by first | rfl | (simp;done) | (simp [*];done),by repeat (first | exact aj.refl _ | apply aj.step)⟩
end Go.Proofs.YtpgfjbimodnkeaaGreatDoor.Q
namespace Go.Proofs.YtpgfjbimodnkeaaGreatDoor.Dec
open Go Go.RowKit Go.Proofs.YtpgfjbimodnkeaaGreatDoorW.PrintWords Go.Proofs.YtpgfjbimodnkeaaGreatDoorW.PrintLast Go.Proofs.YtpgfjbimodnkeaaGreatDoorW.PrintMore
structure Ie (e:Ending):Prop where mk :: (out:∃ n:Int,e = .returned (.int .i64 n)∧0≤n∧n≤64)
theorem yg {b:ByteArray} (hb:b.data.all (fun c=>decide (c.toNat≤8))=true) {i:Nat} {h:i < b.size}:0≤wrap64 (wrap64 ((b[i]'h).toNat:Int))∧wrap64 (wrap64 ((b[i]'h).toNat:Int))≤8:=by
 have h1:(b[i]'h).toNat≤8:=by
  rw [Array.all_eq_true] at hb
  have:=hb i h
  rw [ByteArray.getElem_eq_getElem_data]
  simpa using this
 unfold wrap64
 omega
theorem zO {b:ByteArray} (hb:b.data.all (fun c=>decide (c.toNat≤8))=true) {n:Int} (hn:0≤n∧n≤56) {i:Nat} {h:i < b.size}:0≤wrap64 (n+wrap64 ((b[i]'h).toNat:Int))∧wrap64 (n+wrap64 ((b[i]'h).toNat:Int))≤64:=by
 have h1:(b[i]'h).toNat≤8:=by
  rw [Array.all_eq_true] at hb
  have:=hb i h
  rw [ByteArray.getElem_eq_getElem_data]
  simpa using this
 unfold wrap64
 omega
theorem BR (w:World) (x:Int) (h0:0≤x) (h1:x < 18446744073709551616) :
 Calls Tryz.prog 114 #[.int .u64 x] w fun e w'=>Ie e∧aj w w':=by
 go_enter Tryz.func114,Tryz.ntmps114
 go_wp2
 all_goals go_ret
 all_goals refine ⟨⟨_,rfl,?_,?_⟩,aj.refl _⟩
 all_goals first | exact (yg (by kernel_rfl)).1 | exact Int.le_trans (yg (by kernel_rfl)).2 (by decide) | exact (zO (by kernel_rfl) (by decide)).1 | exact (zO (by kernel_rfl) (by decide)).2
end Go.Proofs.YtpgfjbimodnkeaaGreatDoor.Dec
namespace Go.Proofs.YtpgfjbimodnkeaaGreatDoor.Q
open Go.RowKit Go.Proofs.YtpgfjbimodnkeaaGreatDoorW.PrintWords Go.Proofs.YtpgfjbimodnkeaaGreatDoorW.PrintLast Go.Proofs.YtpgfjbimodnkeaaGreatDoorW.PrintMore
attribute [local go_sem] dK dJ dZ ed dC dD dN dM
def iR.f (a0:Bool):Option (Int):=if a0=true then (some 1) else (some 0)
theorem iR.calls (a0:Bool) (r:Int) (w:World) (h:iR.f a0=some r) :
 Calls Tryz.prog 154 #[.bool a0] w fun e w'=>e = .returned (.int .u64 r)∧aj w w':=by
 have H:(if a0=true then (some 1) else (some 0))=some r:=h
 clear h
 by_cases c2:a0=true
 ·subst c2
  have H1:(some 1)=some r:=by rw [if_pos rfl] at H;exact H
  clear H
  have H:=H1
  clear H1
  obtain rfl:=Option.some.inj H
  go_enter Tryz.func154,Tryz.ntmps154
  go_wp2
  go_ret
  exact ⟨by first | rfl | (simp;done) | (simp [*];done),by repeat (first | exact aj.refl _ | apply aj.step)⟩
 ·replace c2:=Bool.eq_false_iff.mpr c2
  subst c2
  have H1:(some 0)=some r:=by rw [if_neg (show ¬ (false=true) by decide)] at H;exact H
  clear H
  have H:=H1
  clear H1
  obtain rfl:=Option.some.inj H
  go_enter Tryz.func154,Tryz.ntmps154
  go_wp2
  go_ret
  exact ⟨by first | rfl | (simp;done) | (simp [*];done),by repeat (first | exact aj.refl _ | apply aj.step)⟩
attribute [local go_sem] dK dJ dZ ed dC dD dN dM
def bits_Mul64.f (a0:Int) (a1:Int):Option (Int × Int):=some (IntKind.u64.wrap ((IntKind.u64.wrap ((IntKind.u64.wrap ((a0 / 4294967296)*(a1 / 4294967296)))+((IntKind.u64.wrap ((IntKind.u64.wrap ((a0 / 4294967296)*(Go.bits .and .u64 a1 4294967295)))+((IntKind.u64.wrap ((Go.bits .and .u64 a0 4294967295)*(Go.bits .and .u64 a1 4294967295))) / 4294967296))) / 4294967296)))+((IntKind.u64.wrap ((Go.bits .and .u64 (IntKind.u64.wrap ((IntKind.u64.wrap ((a0 / 4294967296)*(Go.bits .and .u64 a1 4294967295)))+((IntKind.u64.wrap ((Go.bits .and .u64 a0 4294967295)*(Go.bits .and .u64 a1 4294967295))) / 4294967296))) 4294967295)+(IntKind.u64.wrap ((Go.bits .and .u64 a0 4294967295)*(a1 / 4294967296))))) / 4294967296)),IntKind.u64.wrap (a0*a1))
theorem bits_Mul64.calls (a0:Int) (a1:Int) (r1:Int) (r2:Int) (w:World) (h:bits_Mul64.f a0 a1=some (r1,r2)) :
 Calls Tryz.prog 173 #[.int .u64 a0,.int .u64 a1] w fun e w'=>e = .returned (.tuple #[.int .u64 r1,.int .u64 r2])∧aj w w':=by
 have H:(some (IntKind.u64.wrap ((IntKind.u64.wrap ((IntKind.u64.wrap ((a0 / 4294967296)*(a1 / 4294967296)))+((IntKind.u64.wrap ((IntKind.u64.wrap ((a0 / 4294967296)*(Go.bits .and .u64 a1 4294967295)))+((IntKind.u64.wrap ((Go.bits .and .u64 a0 4294967295)*(Go.bits .and .u64 a1 4294967295))) / 4294967296))) / 4294967296)))+((IntKind.u64.wrap ((Go.bits .and .u64 (IntKind.u64.wrap ((IntKind.u64.wrap ((a0 / 4294967296)*(Go.bits .and .u64 a1 4294967295)))+((IntKind.u64.wrap ((Go.bits .and .u64 a0 4294967295)*(Go.bits .and .u64 a1 4294967295))) / 4294967296))) 4294967295)+(IntKind.u64.wrap ((Go.bits .and .u64 a0 4294967295)*(a1 / 4294967296))))) / 4294967296)),IntKind.u64.wrap (a0*a1)))=some (r1,r2):=h
 clear h
 simp only [Option.some.injEq,Prod.mk.injEq] at H
 obtain ⟨rfl,rfl⟩:=H
 go_enter Tryz.func173,Tryz.ntmps173
 go_wp2
 go_ret2
 exact ⟨by first | rfl | (simp;done) | (simp [*];done),by repeat (first | exact aj.refl _ | apply aj.step)⟩
end Go.Proofs.YtpgfjbimodnkeaaGreatDoor.Q
namespace Go.Proofs.YtpgfjbimodnkeaaGreatDoor.Dec
open Go Go.RowKit Go.Proofs.YtpgfjbimodnkeaaGreatDoorW.PrintWords Go.Proofs.YtpgfjbimodnkeaaGreatDoorW.PrintLast Go.Proofs.YtpgfjbimodnkeaaGreatDoorW.PrintMore
structure FB (e:Ending):Prop where mk :: (out:∃ n:Int,e = .returned (.int .u64 n))
def bi (b:Bool):Int:=cond b 1 0
def lT (W:World) (g:Nat) (x y z:Int):Prop:=∃ T,W.heap[g]?=some (.cells #[.int .u64 x,.int .u64 y,.int .i64 z] T (0,0))
theorem IU (g m:Nat):(⟨g,0,none⟩:Addr).add m=⟨g,m,none⟩:=by
 unfold Addr.add
 split
 ·subst_vars;rfl
 ·simp
attribute [local go_sem] IU
theorem lT.set0 {W:World} {g:Nat} {x y z:Int} (h:lT W g x y z) (u:Int):lT (W.setCell ⟨g,0,none⟩ (.int .u64 u)) g u y z:=by
 obtain ⟨T,h⟩:=h
 exact ⟨T,dW h 0 _⟩
theorem lT.set1 {W:World} {g:Nat} {x y z:Int} (h:lT W g x y z) (u:Int):lT (W.setCell ⟨g,1,none⟩ (.int .u64 u)) g x u z:=by
 obtain ⟨T,h⟩:=h
 exact ⟨T,dW h 1 _⟩
theorem lT.set2 {W:World} {g:Nat} {x y z:Int} (h:lT W g x y z) (u:Int):lT (W.setCell ⟨g,2,none⟩ (.int .i64 u)) g x y u:=by
 obtain ⟨T,h⟩:=h
 exact ⟨T,dW h 2 _⟩
theorem lT.at0 {W:World} {g:Nat} {x y z:Int} (h:lT W g x y z):W.cell? ⟨g,0,none⟩=some (.int .u64 x):=by
 obtain ⟨T,h⟩:=h
 exact (ah h 0).trans rfl
theorem lT.at1 {W:World} {g:Nat} {x y z:Int} (h:lT W g x y z):W.cell? ⟨g,1,none⟩=some (.int .u64 y):=by
 obtain ⟨T,h⟩:=h
 exact (ah h 1).trans rfl
theorem lT.at2 {W:World} {g:Nat} {x y z:Int} (h:lT W g x y z):W.cell? ⟨g,2,none⟩=some (.int .i64 z):=by
 obtain ⟨T,h⟩:=h
 exact (ah h 2).trans rfl
theorem lT.frozen {W:World} {g:Nat} {x y z:Int} (h:lT W g x y z) (i:Nat):W.frozen? ⟨g,i,none⟩=false:=by
 obtain ⟨T,h⟩:=h
 exact ak h i
theorem sS (w:World) (g:Nat) (e p lp x y z:Int) (hI:lT w g x y z) (hT:Tabs g w) (hp0:-348≤p) (hp1:p < 348) :
 Calls Tryz.prog 163 #[.pointer (some ⟨g,0,none⟩),.int .i64 e,.int .i64 p,.int .i64 lp] w fun r w'=>r = .returned (.tuple #[])∧(∃ x y z,lT w' g x y z)∧Below g w w':=by
 have HB:=Below.refl g w
 obtain ⟨i,hi⟩:∃ i:Nat,p=(i:Int) - 348:=⟨(p+348).toNat,by omega⟩
 obtain ⟨u0,_,_,t0⟩:=hT.tab (i*2) (by omega)
 obtain ⟨u1,_,_,t1⟩:=hT.tab (i*2+1) (by omega)
 have hw:IntKind.i64.wrap ((i:Int) - 348 - -348)=(i:Int):=by rw [bf];unfold wrap64;omega
 have e0:=hI.at0
 have e1:=hI.at1
 have e2:=hI.at2
 have e3:=hI.frozen
 have hl:=hT.low
 have hg9:(9:Nat)≠g:=by omega
 have p1:(0:Int)≤(i:Int):=by omega
 have q1:(i:Int) < 696:=by omega
 replace p1:=eq_true p1
 replace q1:=eq_true q1
 subst hi
 go_enter Tryz.func163,Tryz.ntmps163
 go_wp2
 first | go_end0 | ((try simp only [Exit.inBlock,Exit.then]);refine bodyPost_ret (results_none rfl _ _ _) rfl ?_)
 exact ⟨by first | rfl | simp,⟨_,_,_,((hI.set0 _).set1 _).set2 _⟩,((HB.setCell (Nat.le_refl _) _).setCell (Nat.le_refl _) _).setCell (Nat.le_refl _) _⟩
theorem Cc (n:Int):bits .and .i64 n 63=n % 64:=by
 have h63:(BitVec.ofInt 64 63).toNat=2 ^ 6 - 1:=by decide
 have key:(BitVec.ofInt 64 n &&& BitVec.ofInt 64 63).toNat=(n % ((2 ^ 64:Nat):Int)).toNat % 2 ^ 6:=by
  rw [BitVec.toNat_and,BitVec.toNat_ofInt,h63,Nat.and_two_pow_sub_one_eq_mod]
 show IntKind.i64.wrap ((BitVec.ofInt 64 n &&& BitVec.ofInt 64 63).toNat:Nat)=n % 64
 rw [key,IntKind.wrap_i64]
 omega
theorem wP (w:World) (g:Nat) (d x y z:Int) (hI:lT w g x y z) :
 Calls Tryz.prog 164 #[.int .u64 d,.pointer (some ⟨g,0,none⟩)] w fun r w'=>FB r∧aj w w':=by
 have e0:=hI.at0
 have e1:=hI.at1
 have e2:=hI.at2
 have e3:=hI.frozen
 have hm:=Cc z
 obtain ⟨s,hs⟩:∃ s:Nat,z % 64=s:=⟨(z % 64).toNat,by omega⟩
 rw [hs] at hm
 have hs64:s < 64:=by omega
 clear hs
 have hmul:∀ a b:Int,∃ r1 r2:Int,∀ W,Calls Tryz.prog 173 #[.int .u64 a,.int .u64 b] W fun e w'=>e = .returned (.tuple #[.int .u64 r1,.int .u64 r2])∧aj W w':=fun a b=>by
  obtain ⟨⟨r1,r2⟩,hr⟩:∃ r,Go.Proofs.YtpgfjbimodnkeaaGreatDoor.Q.bits_Mul64.f a b=some r:=by
   unfold Go.Proofs.YtpgfjbimodnkeaaGreatDoor.Q.bits_Mul64.f
   exact ⟨_,rfl⟩
  exact ⟨r1,r2,fun W=>Go.Proofs.YtpgfjbimodnkeaaGreatDoor.Q.bits_Mul64.calls a b r1 r2 W hr⟩
 obtain ⟨h1,h2,hm1⟩:=hmul d x
 obtain ⟨h3,h4,hm2⟩:=hmul d y
 have hb2:∀ (b:Bool) (W:World),Calls Tryz.prog 154 #[.bool b] W fun e w'=>e = .returned (.int .u64 (bi b))∧aj W w':=fun b W=>Go.Proofs.YtpgfjbimodnkeaaGreatDoor.Q.iR.calls b _ W (by cases b <;> rfl)
 have p5:((0:Int)≤(s:Int))=True:=eq_true (by omega)
 have q5:((s:Int) < 64)=True:=eq_true (by omega)
 have q6:((s:Int)≤64)=True:=eq_true (by omega)
 clear hmul
 go_enter Tryz.func164,Tryz.ntmps164
 go_wp2_with (first | (go_at_call 173;first | (with_reducible refine (hm1 _).mono ?_;rintro e w4 ⟨rfl,⟨m4,rfl⟩⟩) | (with_reducible refine (hm2 _).mono ?_;rintro e w4 ⟨rfl,⟨m4,rfl⟩⟩)) | (go_at_call 154;refine (hb2 _ _).mono ?_;rintro e w4 ⟨rfl,⟨m4,rfl⟩⟩))
 all_goals try (go_quiet (first | (go_at_call 154;refine (hb2 _ _).mono ?_;rintro e w' ⟨rfl,⟨nd,rfl⟩⟩;first | exact ⟨rfl,_,rfl⟩ | exact ⟨rfl,_,World.drewN_drewN _ _ _⟩ | (refine ⟨rfl,?_⟩;simp only [World.drewN_drewN,Nat.add_assoc];exact ⟨_,rfl⟩)));try go_wp2)
 all_goals go_ret
 all_goals exact ⟨⟨_,rfl⟩,by repeat (first | exact aj.refl _ | apply aj.step)⟩
theorem nY (n:Int) (w:World):(callFunc 155 #[.int .u64 n]).run Tryz.prog w = .ok (.value (.float .f64 n.toNat)) w:=by
 rw [run_callFunc_extern Tryz.func155 (by kernel_rfl) (by kernel_rfl) (by kernel_rfl) (e:=Extern.MathFloatBits.float64frombits) (by kernel_rfl)]
 rfl
attribute [local go_sem] nY
structure DK (e:Ending):Prop where mk :: (out:∃ (b:Nat) (v:Value),e = .returned (.tuple #[.float .f64 b,v])∧(v = .nilIface∨v = .iface 152 (.int .i64 1)))
theorem yM (w:World) (m x:Int) (hx:-1000000≤x∧x≤1000000) :
 Calls Tryz.prog 171 #[.int .u64 m,.int .i64 x] w fun e w'=>DK e∧aj w w':=by
 go_enter Tryz.func171,Tryz.ntmps171
 go_wp2
 all_goals go_ret2
 all_goals first | exact ⟨⟨_,_,rfl,.inl rfl⟩,aj.refl _⟩ | exact ⟨⟨_,_,rfl,.inr rfl⟩,aj.refl _⟩
open Go.Proofs.YtpgfjbimodnkeaaGreatDoor.Q
attribute [local go_sem] dK dJ dZ ed nY
theorem Tabs.mono {B B':Nat} {w:World} (h:Tabs B w) (h1:B≤B') (h2:B'≤w.heap.size):Tabs B' w:=by
 obtain ⟨b1,c1,g1,g2,g3⟩:=h.pow
 obtain ⟨b2,c2,k1,k2,k3⟩:=h.ten
 obtain ⟨b3,c3,l1,l2,l3⟩:=h.left
 exact ⟨Nat.le_trans h.low h1,h2,h.vch,h.Ia,h.Hl,h.opt,h.nV,h.oP,h.bias,⟨b1,c1,Nat.lt_of_lt_of_le g1 h1,g2,g3⟩,⟨b2,c2,Nat.lt_of_lt_of_le k1 h1,k2,k3⟩,h.tab,⟨b3,c3,Nat.lt_of_lt_of_le l1 h1,l2,l3⟩⟩
theorem wR (w:World) (B:Nat) (d p sg:Int) (hd0:0≤d) (hd1:d < 18446744073709551616) (hp0:-345≤p) (hp1:p≤310) (hT:Tabs B w) :
 Calls Tryz.prog 157 #[.int .u64 d,.int .i64 p,.int .u64 sg] w fun e w'=>DK e∧Below w.heap.size w w':=by
 have hlen:=fun W=>BR W d hd0 hd1
 obtain ⟨lp,hlp⟩:∃ lp:Int,(wrap64 (p*108853)) / 32768=lp:=⟨_,rfl⟩
 have hlog:=fun W=>jA.calls p lp W (by rw [jA.f,hlp])
 have hlp0:-1200≤lp∧lp≤1100:=by
  have h1:wrap64 (p*108853)=p*108853:=by unfold wrap64;omega
  rw [h1] at hlp
  omega
 clear hlp
 have hb2:∀ (b:Bool) (W:World),Calls Tryz.prog 165 #[.bool b] W fun e w'=>(∃ k:Int,e = .returned (.int .i64 k)∧0≤k∧k≤1)∧aj W w':=fun b W=>by
  cases b with
  | true=>exact (jB.calls true 1 W rfl).mono (fun e w' h=>⟨⟨1,h.1,by omega,by omega⟩,h.2⟩)
  | false=>exact (jB.calls false 0 W rfl).mono (fun e w' h=>⟨⟨0,h.1,by omega,by omega⟩,h.2⟩)
 have hum:∀ (W:World),Calls Tryz.prog 166 #[.int .u64 9007199254740992] W fun e w'=>(∃ k:Int,e = .returned (.int .u64 k))∧aj W w':=fun W=>(lS.calls 9007199254740992 _ W rfl).mono (fun e w' h=>⟨⟨_,h.1⟩,h.2⟩)
 have hrd:∀ (u:Int) (W:World),Calls Tryz.prog 168 #[.int .u64 u] W fun e w'=>(∃ k:Int,e = .returned (.int .u64 k))∧aj W w':=fun u W=>(iW.calls u _ W rfl).mono (fun e w' h=>⟨⟨_,h.1⟩,h.2⟩)
 have hTg:=hT.mono hT.size (Nat.le_refl _)
 have hpre:∀ (k:Nat) (e:Int),Calls Tryz.prog 163 #[.pointer (some ⟨w.heap.size,0,none⟩),.int .i64 e,.int .i64 p,.int .i64 lp] ((w.drewN k).alloc (Obj.cells #[Value.int IntKind.u64 0,Value.int IntKind.u64 0,Value.int IntKind.i64 0] 207))
  fun r w'=>r = .returned (.tuple #[])∧(∃ x y z,lT w' w.heap.size x y z)∧Below w.heap.size w w':=by
  intro k e
  have h1:Below w.heap.size w ((w.drewN k).alloc (Obj.cells #[Value.int IntKind.u64 0,Value.int IntKind.u64 0,Value.int IntKind.i64 0] 207)):=ai (ag (Below.refl _ _) k) _
  refine (sS _ w.heap.size e p lp 0 0 0 ⟨207,by simpa using heap_alloc_new (w.drewN k) (Obj.cells #[Value.int IntKind.u64 0,Value.int IntKind.u64 0,Value.int IntKind.i64 0] 207)⟩ (hTg.below h1) (by omega) (by omega)).mono ?_
  rintro r w' ⟨h2,h3,h4⟩
  exact ⟨h2,h3,h1.trans h4⟩
 go_enter Tryz.func157,Tryz.ntmps157
 go_wp2_with (first | (go_at_call 114;(with_reducible refine (hlen _).mono ?_);rintro e w4 ⟨⟨b,rfl,hb0,hb1⟩,⟨m4,rfl⟩⟩) | (go_at_call 162;(with_reducible refine (hlog _).mono ?_);rintro e w4 ⟨rfl,⟨m4,rfl⟩⟩) | (go_at_call 163;(with_reducible refine (hpre _ _).mono ?_);rintro e wp ⟨rfl,⟨x,y,z,hI⟩,hBp⟩;have s2:=hI.at2) |
  (go_at_call 164;(with_reducible refine (wP _ _ _ x y z hI).mono ?_);rintro e w4 ⟨⟨u,rfl⟩,⟨m5,rfl⟩⟩) | (go_at_call 166;(with_reducible refine (hum _).mono ?_);rintro e w4 ⟨⟨q,rfl⟩,⟨m6,rfl⟩⟩) | (go_at_call 165;(with_reducible refine (hb2 _ _).mono ?_);rintro e w4 ⟨⟨k,rfl,hk0,hk1⟩,⟨m7,rfl⟩⟩) |
  (go_at_call 168;(with_reducible refine (hrd _ _).mono ?_);rintro e w4 ⟨⟨q2,rfl⟩,⟨m8,rfl⟩⟩) | (go_at_call 171;refine (yM _ _ _ (by first | omega | (split <;> omega))).mono ?_;rintro e w4 ⟨⟨bb,v,rfl,hv⟩,⟨m9,rfl⟩⟩))
 all_goals go_ret2
 all_goals first | exact ⟨⟨_,_,rfl,.inl rfl⟩,by repeat (first | exact hBp | apply ag)⟩ | exact ⟨⟨_,_,rfl,hv⟩,by repeat (first | exact hBp | apply ag)⟩
attribute [local go_sem] nY
structure Gn (s:ByteArray) (e:Ending):Prop where mk :: (out:∃ (b i:Nat) (v:Value),e = .returned (.tuple #[.float .f64 b,.int .i64 (i:Int),v])∧(v = .nilIface∨v = .iface 152 (.int .i64 1)∨v = .iface 152 (.int .i64 2)))
structure oq (s:ByteArray):Prop where
 ch:Gs s
 zq:∀ i:Nat,i < s.size→bt s (i:Int)≠73∧bt s (i:Int)≠105∧bt s (i:Int)≠78∧bt s (i:Int)≠110
theorem EJ:Tryz.zeroCells190=(List.replicate 800 (Value.int .u8 0) ++ [Value.int .i64 0,Value.int .i64 0,Value.bool false,Value.bool false]).toArray:=by kernel_rfl
theorem row_of {v a b c d:Value} (n:Nat) (cs:Array Value) (h:cs=(List.replicate n v ++ [a,b,c,d]).toArray) :
 cs.size=n+4∧(∀ i,i < n→cs[i]?=some v)∧cs[n]?=some a∧cs[n+1]?=some b∧cs[n+2]?=some c∧cs[n+3]?=some d:=by
 subst h
 refine ⟨by simp,fun i hi=>?_,?_,?_,?_,?_⟩
 ·rw [List.getElem?_toArray,List.getElem?_append_left (by simpa using hi),List.getElem?_replicate,if_pos hi]
 all_goals
  rw [List.getElem?_toArray,List.getElem?_append_right (by simp)]
  simp
theorem FI (W:World):dI (W.alloc (Obj.cells Tryz.zeroCells190 190)) W.heap.size (fun _=>0) 0 0 false false:=by
 obtain ⟨h1,h2,h3,h4,h5,h6⟩:=row_of 800 _ EJ
 exact ⟨Tryz.zeroCells190,190,by simpa using heap_alloc_new W (Obj.cells Tryz.zeroCells190 190),h1,h2,h3,h4,h5,h6⟩
structure Gu (w:World) (g:Nat) (W:World):Prop where mk :: (out:Below w.heap.size w W∧Tabs g W∧∃ a nd dp neg tr,dI W g a nd dp neg tr∧Good a nd∧-1000000000≤dp∧dp≤1000000000∧w.heap.size≤g)
theorem yN (w:World) (B:Nat) (s:ByteArray) (hs:s.size≤1000000) (hN:oq s) (hT:Tabs B w) :
 Calls Tryz.prog 140 #[.string s] w fun e w'=>Gn s e∧Below w.heap.size w w':=by
 have hsp:=fun W=>uC W s hs (fun h=>hN.zq 0 h) (fun h=>⟨(hN.zq 1 h).1,(hN.zq 1 h).2.1⟩)
 have hrf:=fun W=>Dw W s hs hN.ch
 have hb2:∀ (b:Bool) (W:World),Calls Tryz.prog 154 #[.bool b] W fun e w'=>e = .returned (.int .u64 (bi b))∧aj W w':=fun b W=>Go.Proofs.YtpgfjbimodnkeaaGreatDoor.Q.iR.calls b _ W (by cases b <;> rfl)
 have t4:=hT.opt
 have hu:=@mJ
 have hpf:∀ (W:World) (d p sg:Int) (hp0:-345≤p) (hp1:p≤310) (hd:0≤d∧d < 18446744073709551616) (hW:Below w.heap.size w W),Calls Tryz.prog 157 #[.int .u64 d,.int .i64 p,.int .u64 sg] W fun e w'=>DK e∧Below w.heap.size w w':=by
  intro W d p sg hp0 hp1 hd hW
  have hTW:Tabs B W:=hT.below (eX hW hT.size)
  refine (wR W B d p sg hd.1 hd.2 hp0 hp1 hTW).mono ?_
  rintro e w' ⟨h1,h2⟩
  exact ⟨h1,hW.trans (eX h2 hW.size)⟩
 have hset:∀ (W:World) (i:Nat),Below w.heap.size w W→Calls Tryz.prog 152 #[.pointer (some ⟨W.heap.size,0,none⟩),.string (s.extract 0 i)] (W.alloc (Obj.cells Tryz.zeroCells190 190)) fun e w'=>wY e∧Gu w W.heap.size w':=by
  intro W i hW
  have h0:Below W.heap.size W (W.alloc (Obj.cells Tryz.zeroCells190 190)):=ai (Below.refl _ _) _
  refine (Cf _ W.heap.size (s.extract 0 i) _ false false (FI W) (by simp [ByteArray.size_extract];omega)).mono ?_
  rintro e w' ⟨h1,a,nd,dp,ng,tr,h2,h3,h4,h5,h6⟩
  have h7:=h0.trans h6
  have hTW:Tabs B W:=hT.below (eX hW hT.size)
  exact ⟨h1,⟨hW.trans (eX h7 hW.size),(hTW.mono hTW.size (Nat.le_refl _)).below h7,a,nd,dp,ng,tr,h2,h3,h4,h5,hW.size⟩⟩
 have hfb:∀ (g:Nat) (W:World),Gu w g W→Calls Tryz.prog 153 #[.pointer (some ⟨g,0,none⟩),.pointer (some ⟨5,0,none⟩)] W fun e w'=>Gv e∧Below w.heap.size w w':=by
  rintro g W ⟨h1,h2,a,nd,dp,ng,tr,h3,h4,h5,h6,h7⟩
  refine (rH W g a nd dp ng tr h3 h4 ⟨h5,h6⟩ h2).mono ?_
  rintro e w' ⟨h8,h9⟩
  exact ⟨h8,h1.trans (eX h9 h7)⟩
 go_enter Tryz.func140,Tryz.ntmps140
 go_wp2_with (first | (go_at_call 145;(with_reducible refine (hsp _).mono ?_);rintro e w4 ⟨rfl,⟨m4,rfl⟩⟩) | (go_at_call 146;(with_reducible refine (hrf _).mono ?_);rintro e w4 ⟨⟨m,x,ng,tr,i,ok,rfl,hi,hm0,hm1,hx0,hx1⟩,⟨m5,rfl⟩⟩) | (go_at_call 154;(with_reducible refine (hb2 _ _).mono ?_);rintro e w4 ⟨rfl,⟨m6,rfl⟩⟩) | (go_at_call 156;(with_reducible refine (xx _ B _ _ _ (by omega) (by omega) (by omega) (hT.below (by repeat (first | exact Below.refl _ _ | apply ag)))).mono ?_);rintro e w4 ⟨⟨b1,o1,rfl⟩,⟨m7,rfl⟩⟩) | (go_at_call 157;(with_reducible refine (hpf _ _ _ _ (by omega) (by omega) (by first | exact ⟨by omega,by omega⟩ | exact mJ _) (by repeat (first | assumption | exact Below.refl _ _ | apply ag))).mono ?_);rintro e w4 ⟨⟨b2,v2,rfl,hv2⟩,hB4⟩;have hv3:v2=Value.nilIface∨v2=Value.iface 152 (Value.int .i64 1)∨v2=Value.iface 152 (Value.int .i64 2):=hv2.elim .inl (fun h => .inr (.inl h))) | (go_at_call 152;(with_reducible refine (hset _ _ (by assumption)).mono ?_);rintro e w6 ⟨⟨b3,rfl⟩,hP⟩;have hB6:=hP.out.1) | (go_at_call 153;(with_reducible refine (hfb _ _ (by assumption)).mono ?_);rintro e w7 ⟨⟨n7,o7,rfl⟩,hB7⟩))
 all_goals refine bodyPost_ret (eF (rs:=[.tmp 2,.tmp 3,.tmp 4]) rfl (by simp) (.tmp (.tmp (.tmp .nil)))) rfl ?_
 all_goals first | exact ⟨⟨_,i,_,rfl,.inl rfl⟩,by repeat (first | assumption | exact Below.refl _ _ | apply ag)⟩ | exact ⟨⟨_,i,_,rfl,.inr (.inl rfl)⟩,by repeat (first | assumption | exact Below.refl _ _ | apply ag)⟩ | exact ⟨⟨_,i,_,rfl,.inr (.inr rfl)⟩,by repeat (first | assumption | exact Below.refl _ _ | apply ag)⟩ | exact ⟨⟨_,i,_,rfl,by assumption⟩,by repeat (first | assumption | exact Below.refl _ _ | apply ag)⟩
structure Ik (e:Ending):Prop where mk :: (out:∃ (b:Nat) (v:Value),e = .returned (.tuple #[.float .f64 b,v])∧(v = .nilIface∨v = .iface 152 (.int .i64 1)∨v = .iface 152 (.int .i64 2)))
theorem Bh (w:World) (B:Nat) (s:ByteArray) (hs:s.size≤1000000) (hN:oq s) (hT:Tabs B w) :
 Calls Tryz.prog 123 #[.string s,.int .i64 64] w fun e w'=>Gn s e∧Below w.heap.size w w':=by
 have ha:=yN w B s hs hN hT
 go_enter Tryz.func123,Tryz.ntmps123
 go_wp2_with (first | (go_at_call 140;(with_reducible refine ha.mono ?_);rintro e w4 ⟨⟨b,i,v,rfl,hv⟩,hB⟩))
 all_goals refine bodyPost_ret (eF (rs:=[.tmp 4,.tmp 5,.tmp 6]) rfl (by simp) (.tmp (.tmp (.tmp .nil)))) rfl ?_
 all_goals exact ⟨⟨_,i,_,rfl,hv⟩,hB⟩
theorem xI (w:World) (B:Nat) (s:ByteArray) (hs:s.size≤1000000) (hN:oq s) (hT:Tabs B w) :
 Calls Tryz.prog 102 #[.string s,.int .i64 64] w fun e w'=>Ik e∧Below w.heap.size w w':=by
 have ha:=Bh w B s hs hN hT
 go_enter Tryz.func102,Tryz.ntmps102
 go_wp2_with (first | (go_at_call 123;(with_reducible refine ha.mono ?_);rintro e w4 ⟨⟨b,i,v,rfl,hv⟩,hB⟩))
 all_goals go_ret2
 all_goals first | exact ⟨⟨_,_,rfl,hv⟩,hB⟩ | exact ⟨⟨_,_,rfl,.inr (.inr rfl)⟩,hB⟩
end Go.Proofs.YtpgfjbimodnkeaaGreatDoor.Dec
namespace Go.Proofs
open Go.Shelf
def Tryz.wX:Go.Shelf.Ren:=⟨fun | 279=>124 | 316=>141 | n=>n,fun | 9=>9 | 168=>153 | 75=>123 | 210=>168 | 3=>3 | 4=>4 | 37=>99 | 0=>0 | 127=>198 | 80=>240 | 5=>5 | n=>n,fun | 15=>1 | n=>n⟩
theorem Tryz.laysM279:Go.Proofs.LaysM.n279 Tryz.prog Tryz.wX:={
 mixed:=by kernel_rfl
 f279:=Tryz.func124.trans (congrArg some (by kernel_rfl))
 f316:=Tryz.func141.trans (congrArg some (by kernel_rfl))
 t0:=Tryz.underlying0
 a0:=Tryz.isAgg0
 z0:=Tryz.sizeOf0
 v0:=Tryz.zeroValue0
 t3:=Tryz.underlying3
 a3:=Tryz.isAgg3
 z3:=Tryz.sizeOf3
 v3:=Tryz.zeroValue3
 t4:=Tryz.underlying4
 a4:=Tryz.isAgg4
 z4:=Tryz.sizeOf4
 v4:=Tryz.zeroValue4
 t9:=Tryz.underlying9
 a9:=Tryz.isAgg9
 z9:=Tryz.sizeOf9
 v9:=Tryz.zeroValue9
 t37:=Tryz.underlying99
 a37:=Tryz.isAgg99
 z37:=Tryz.sizeOf99
 v37:=Tryz.zeroValue99
 t75:=Tryz.underlying123
 a75:=Tryz.isAgg123
 z75:=Tryz.sizeOf123
 v75:=Tryz.zeroValue123
 t127:=Tryz.underlying198
 a127:=Tryz.isAgg198
 z127:=Tryz.sizeOf198
 v127:=Tryz.zeroValue198
 t168:=Tryz.underlying153
 a168:=Tryz.isAgg153
 z168:=Tryz.sizeOf153
 v168:=Tryz.zeroValue153
 t210:=Tryz.underlying168
 a210:=Tryz.isAgg168
 z210:=Tryz.sizeOf168
 v210:=Tryz.zeroValue168
 g15:=by kernel_rfl
 t5:=Tryz.underlying5
 a5:=Tryz.isAgg5
 z5:=Tryz.sizeOf5
 v5:=Tryz.zeroValue5
 t80:=Tryz.underlying240
 a80:=Tryz.isAgg240
 z80:=Tryz.sizeOf240
 v80:=Tryz.zeroValue240
 i0:=by kernel_rfl
 i3:=by kernel_rfl
 i4:=by kernel_rfl
 i5:=by kernel_rfl
 i9:=by kernel_rfl
 i37:=by kernel_rfl
 i75:=by kernel_rfl
 i80:=by kernel_rfl
 i127:=by kernel_rfl
 i168:=by kernel_rfl
 i210:=by kernel_rfl
 m15:=by kernel_rfl }
open Go.RowKit in
theorem Tryz.strconv_syntaxError (fn s:ByteArray) (ev:Value) (w:World) (hlim:s.size≤281474976710656) (hv:w.cell? ⟨1,0,none⟩=some ev) (hev:ev = .nilIface∨∃ te pe,ev = .iface te pe) :
 Calls Tryz.prog 124 #[.string fn,.string s] w fun e w'=>∃ N,e = .returned (.pointer (some ⟨N,0,none⟩))∧w.heap.size≤N∧w'.heap[N]?=some (.cells #[.string fn,.string s,ev] 168 (0,0))∧Below w.heap.size w w':=Any.strconv_syntaxError Tryz.laysM279 fn s ev w hlim hv hev
def Tryz.wS:Go.Shelf.Ren:=⟨fun | 280=>125 | 316=>141 | n=>n,fun | 9=>9 | 168=>153 | 75=>123 | 210=>168 | 3=>3 | 4=>4 | 37=>99 | 0=>0 | 127=>198 | 80=>240 | 5=>5 | n=>n,fun | 16=>2 | n=>n⟩
theorem Tryz.laysM280:Go.Proofs.LaysM.n280 Tryz.prog Tryz.wS:={
 mixed:=by kernel_rfl
 f280:=Tryz.func125.trans (congrArg some (by kernel_rfl))
 f316:=Tryz.func141.trans (congrArg some (by kernel_rfl))
 t0:=Tryz.underlying0
 a0:=Tryz.isAgg0
 z0:=Tryz.sizeOf0
 v0:=Tryz.zeroValue0
 t3:=Tryz.underlying3
 a3:=Tryz.isAgg3
 z3:=Tryz.sizeOf3
 v3:=Tryz.zeroValue3
 t4:=Tryz.underlying4
 a4:=Tryz.isAgg4
 z4:=Tryz.sizeOf4
 v4:=Tryz.zeroValue4
 t9:=Tryz.underlying9
 a9:=Tryz.isAgg9
 z9:=Tryz.sizeOf9
 v9:=Tryz.zeroValue9
 t37:=Tryz.underlying99
 a37:=Tryz.isAgg99
 z37:=Tryz.sizeOf99
 v37:=Tryz.zeroValue99
 t75:=Tryz.underlying123
 a75:=Tryz.isAgg123
 z75:=Tryz.sizeOf123
 v75:=Tryz.zeroValue123
 t127:=Tryz.underlying198
 a127:=Tryz.isAgg198
 z127:=Tryz.sizeOf198
 v127:=Tryz.zeroValue198
 t168:=Tryz.underlying153
 a168:=Tryz.isAgg153
 z168:=Tryz.sizeOf153
 v168:=Tryz.zeroValue153
 t210:=Tryz.underlying168
 a210:=Tryz.isAgg168
 z210:=Tryz.sizeOf168
 v210:=Tryz.zeroValue168
 g16:=by kernel_rfl
 t5:=Tryz.underlying5
 a5:=Tryz.isAgg5
 z5:=Tryz.sizeOf5
 v5:=Tryz.zeroValue5
 t80:=Tryz.underlying240
 a80:=Tryz.isAgg240
 z80:=Tryz.sizeOf240
 v80:=Tryz.zeroValue240
 i0:=by kernel_rfl
 i3:=by kernel_rfl
 i4:=by kernel_rfl
 i5:=by kernel_rfl
 i9:=by kernel_rfl
 i37:=by kernel_rfl
 i75:=by kernel_rfl
 i80:=by kernel_rfl
 i127:=by kernel_rfl
 i168:=by kernel_rfl
 i210:=by kernel_rfl
 m16:=by kernel_rfl }
open Go.RowKit in
theorem Tryz.strconv_rangeError (fn s:ByteArray) (ev:Value) (w:World) (hlim:s.size≤281474976710656) (hv:w.cell? ⟨2,0,none⟩=some ev) (hev:ev = .nilIface∨∃ te pe,ev = .iface te pe) :
 Calls Tryz.prog 125 #[.string fn,.string s] w fun e w'=>∃ N,e = .returned (.pointer (some ⟨N,0,none⟩))∧w.heap.size≤N∧w'.heap[N]?=some (.cells #[.string fn,.string s,ev] 168 (0,0))∧Below w.heap.size w w':=Any.strconv_rangeError Tryz.laysM280 fn s ev w hlim hv hev
end Go.Proofs
