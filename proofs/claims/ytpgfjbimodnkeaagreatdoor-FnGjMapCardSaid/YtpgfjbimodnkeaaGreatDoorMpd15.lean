/- FnGjMap: whatever text comes in, the law returns true and the text reads afterwards as before; with the thirteen package-level variables that its row lists as the program's own text lays them (the tied card) (part 15 of 19: lemmas for its last part) -/
import Derived.StillTailTactics
import Derived.WalkSpells
import Derived.IntWalk
import Derived.Deep.Cut
import Derived.Deep.RegionWith
import Derived.Maps.RangeWalk
import Derived.Sort.KeysCollected
import Derived.Sort.OwnSorted
import Derived.Test.YtpgfjbimodnkeaaGreatDoorMpd2
import Derived.Test.YtpgfjbimodnkeaaGreatDoorMpd6
import Derived.Test.YtpgfjbimodnkeaaGreatDoorMpd11
import Derived.Test.YtpgfjbimodnkeaaGreatDoorMpd12
import Derived.Test.YtpgfjbimodnkeaaGreatDoorMpd14
set_option maxHeartbeats 16000000
set_option maxRecDepth 100000
set_option linter.unusedVariables false
set_option linter.unusedSimpArgs false
namespace Go.Proofs.YtpgfjbimodnkeaaGreatDoor.Scan
open Go Go.RowKit Go.Proofs.YtpgfjbimodnkeaaGreatDoorW.PrintWords Go.Proofs.YtpgfjbimodnkeaaGreatDoor.Q Go.Proofs.YtpgfjbimodnkeaaGreatDoor.Dec
theorem BB {r:ByteArray} {p:Nat} (h:r.size≤p):Prd r p:=by
 refine Evt.succ ?_
 simp only [bu.l0]
 exact Evt.neg (by omega) (Evt.pure _)
theorem pY {r:ByteArray} (hR:r.size≤1099511627776) {p:Nat} (hp:p < r.size) (hb:bt r p≠92) (h:Prd r (p+1)):Prd r p:=by
 refine Evt.succ ?_
 simp only [bu.l0]
 rw [bJ (i:=(p:Int)+1) (p+1) (by omega) (by omega)]
 exact Evt.pos (by omega) (Evt.pos (by omega) (Evt.neg hb h))
theorem vO {r:ByteArray} (hR:r.size≤1099511627776) {p:Nat} (hp:p < r.size) (hb:bt r p=92) (hU:¬ iV r p) (h:Prd r (p+2)):Prd r p:=by
 obtain ⟨v,b,g1,g2,g3⟩:=jM r hR p (by omega)
 have hbf:¬ (b=true):=fun hb=>hU (g2.1 hb)
 refine Evt.succ ?_
 simp only [bu.l0]
 rw [bJ (i:=(p:Int)+2) (p+2) (by omega) (by omega)]
 exact Evt.pos (by omega) (Evt.pos (by omega) (Evt.pos hb (Evt.bind g1 (Evt.neg hbf h))))
theorem zG {r:ByteArray} (hR:r.size≤1099511627776) {p:Nat} (hU:iV r p) (hn:¬ (55296≤dN r ((p:Int)+2)∧dN r ((p:Int)+2)≤57343)) (h:Prd r (p+6)):Prd r p:=by
 have hle:=hU.le
 obtain ⟨v,b,g1,g2,g3⟩:=jM r hR p (by omega)
 have hbt:=g2.2 hU
 have hv:=g3 hbt
 have hh:¬ (55296≤v∧v≤56319):=by rw [hv];omega
 have hl:¬ (56320≤v∧v≤57343):=by rw [hv];omega
 refine Evt.succ ?_
 simp only [bu.l0]
 rw [bJ (i:=(p:Int)+6) (p+6) (by omega) (by omega)]
 exact Evt.pos (by omega) (Evt.pos (by omega) (Evt.pos hU.b0 (Evt.bind g1 (Evt.pos hbt (Evt.aI (jK _) (Evt.neg (by simp only [decide_eq_true_eq];exact hh) (Evt.aI (lW _) (Evt.neg (by simp only [decide_eq_true_eq];exact hl) h))))))))
theorem yV {r:ByteArray} (hR:r.size≤1099511627776) {p:Nat} (hU:iV r p) (h1:55296≤dN r ((p:Int)+2)∧dN r ((p:Int)+2)≤56319) (hU2:iV r (p+6)) (h3:56320≤dN r ((p:Int)+8)∧dN r ((p:Int)+8)≤57343) (h:Prd r (p+12)):Prd r p:=by
 have hle:=hU2.le
 obtain ⟨v,b,g1,g2,g3⟩:=jM r hR p (by omega)
 have hbt:=g2.2 hU
 have hv:=g3 hbt
 obtain ⟨v2,b2,f1,f2,f3⟩:=jM r hR (p+6) (by omega)
 have hb2:=f2.2 hU2
 have hv2:=f3 hb2
 rw [show ((p+6:Nat):Int)+2=(p:Int)+8 by omega] at hv2
 have hh:55296≤v∧v≤56319:=by rw [hv];exact h1
 have hl:56320≤v2∧v2≤57343:=by rw [hv2];exact h3
 refine Evt.succ ?_
 simp only [bu.l0]
 rw [bJ (i:=(p:Int)+6) (p+6) (by omega) (by omega),bJ (i:=(p:Int)+12) (p+12) (by omega) (by omega)]
 exact Evt.pos (by omega) (Evt.pos (by omega) (Evt.pos hU.b0 (Evt.bind g1 (Evt.pos hbt (Evt.aI (jK _) (Evt.pos (decide_eq_true hh) (Evt.bind f1 (Evt.pos hb2 (Evt.aI (lW _) (Evt.pos (decide_eq_true hl) h))))))))))
section
variable {s r:ByteArray} {c d n:Nat}
theorem Part.dN (P:Part s r c d n) (z:Int) (h1:(c:Int)≤z) (h2:z+3 < (c+n:Nat)):Dec.dN r (z - c+d)=Dec.dN s z:=by
 unfold Dec.dN
 rw [← P.int z (by omega) (by omega),← P.int (z+1) (by omega) (by omega),← P.int (z+2) (by omega) (by omega),← P.int (z+3) (by omega) (by omega),show z - c+d+1=z+1 - c+d by omega,show z - c+d+2=z+2 - c+d by omega,show z - c+d+3=z+3 - c+d by omega]
theorem Part.unit (P:Part s r c d n) {p:Nat} (h1:c≤p) (h2:p+6≤c+n) (h:iV s p):iV r (p - c+d):=by
 have:=P.hr
 exact ⟨by omega,by rw [P.at p h1 (by omega)];exact h.b0,by rw [P.one p h1 (by omega)];exact h.b1,P.Eh p h1 h2 h.hex⟩
theorem kZ (P:Part s r c d n) (hR:r.size≤1099511627776) {Q:Int→Prop} (hQ:∀ c,Q c→c≠92) {i j:Nat} (h:gY s Q i j) (h1:c≤i) (h2:j≤c+n) (hp:Prd r (j - c+d)):Prd r (i - c+d):=by
 have hz:=P.hr
 have hle:=h.le
 have key:∀ n m:Nat,j - m=n→i≤m→m≤j→Prd r (m - c+d):=by
  intro n
  induction n with
  | zero =>
    intro m g1 g2 g3
    have e:m=j:=by omega
    rw [e];exact hp
  | succ n ih =>
    intro m g1 g2 g3
    have g4:=ih (m+1) (by omega) (by omega) (by omega)
    rw [show m+1 - c+d=m - c+d+1 by omega] at g4
    exact pY hR (by omega) (by rw [P.at m (by omega) (by omega)];exact hQ _ (h.all m (by omega) (by omega))) g4
 exact key _ i rfl (Nat.le_refl _) h.le
theorem gK (P:Part s r c d n) (hR:r.size≤1099511627776) {i:Nat} (h1:c≤i) (h2:i < c+n) (hb:bt s i≠92) (hp:Prd r (i+1 - c+d)):Prd r (i - c+d):=by
 have hz:=P.hr
 rw [show i+1 - c+d=i - c+d+1 by omega] at hp
 exact pY hR (by omega) (by rw [P.at i h1 h2];exact hb) hp
theorem eY (P:Part s r c d n) (hR:r.size≤1099511627776) {i j:Nat} (h:Blanks s i j) (h1:c≤i) (h2:j≤c+n) (hp:Prd r (j - c+d)):Prd r (i - c+d) :=
 kZ P hR (Q:=blank) (fun c hc=>by unfold blank at hc;omega) ⟨h.le,h.all⟩ h1 h2 hp
theorem xP (P:Part s r c d n) (hS:s.size≤1099511627776) (hR:r.size≤1099511627776) {q:Nat} (hq:q < c+n) (hpq:Prd r (q - c+d)) (m:Nat):∀ p:Nat,q - p=m→c≤p→gp s p q→Prd s p→Prd r (p - c+d):=by
 have hz:=P.hr
 induction m using Nat.strongRecOn with
 | _ m ih =>
   intro p hm h1 h hp
   have hb:=h.bound
   cases h with
   | close _ g0 g1=>exact hpq
   | plain _ _ g0 g1 g2 g3 g4 =>
     have:=g4.bound
     exact gK P hR h1 (by omega) g3 (ih _ (by omega) (p+1) rfl (by omega) g4 (Prd.plain hS hp g0 g3))
   | short _ _ g0 g1 g2 g3 =>
     have:=g3.bound
     have hU:¬ iV s p:=fun h=>by have:=h.b1;unfold fC at g2;omega
     have hU2:¬ iV r (p - c+d):=fun h=>by have:=h.b1;rw [P.one p h1 (by omega)] at this;unfold fC at g2;omega
     have g4:=ih _ (by omega) (p+2) rfl (by omega) g3 (Prd.short hS hp (by omega) g1 hU)
     rw [show p+2 - c+d=p - c+d+2 by omega] at g4
     exact vO hR (by omega) (by rw [P.at p h1 (by omega)];exact g1) hU2 g4
   | uni _ _ g0 g1 g2 g3 g4 =>
     have:=g4.bound
     have hU:iV s p:=⟨g0,g1,g2,g3⟩
     have hU2:=P.unit h1 (by omega) hU
     have hx:=P.dN ((p:Int)+2) (by omega) (by omega)
     rw [show (p:Int)+2 - c+d=((p - c+d:Nat):Int)+2 by omega] at hx
     rcases Prd.uni hS hp hU with ⟨k1,k2⟩ | ⟨k1,k2,k3,k4⟩
     ·rw [← hx] at k1
      have g5:=ih _ (by omega) (p+6) rfl (by omega) g4 k2
      rw [show p+6 - c+d=p - c+d+6 by omega] at g5
      exact zG hR hU2 k1 g5
     ·cases g4 with
      | close _ f0 f1=>exact absurd (k2.b0.symm.trans f1) (by decide)
      | plain _ _ f0 f1 f2 f3 f4=>exact absurd k2.b0 f3
      | short _ _ f0 f1 f2 f3=>exact absurd k2.b1 (by unfold fC at f2;omega)
      | uni _ _ f0 f1 f2 f3 f4 =>
        have:=f4.bound
        have hx2:=P.dN ((p:Int)+8) (by omega) (by omega)
        rw [show (p:Int)+8 - c+d=((p - c+d:Nat):Int)+8 by omega] at hx2
        rw [← hx] at k1
        rw [← hx2] at k3
        have hU3:=P.unit (p:=p+6) (by omega) (by omega) k2
        rw [show p+6 - c+d=p - c+d+6 by omega] at hU3
        have g5:=ih _ (by omega) (p+12) rfl (by omega) f4 k4
        rw [show p+12 - c+d=p - c+d+12 by omega] at g5
        exact yV hR hU2 k1 hU3 k3 g5
theorem oL (P:Part s r c d n) (hS:s.size≤1099511627776) (hR:r.size≤1099511627776) {i q:Nat} (h0:i < s.size) (h1:bt s i=34) (h:gp s (i+1) q) (hp:Prd s i) (h2:c≤i) (h3:q < c+n) (hpq:Prd r (q+1 - c+d)):Prd r (i - c+d):=by
 have hb:=h.bound
 exact gK P hR h2 (by omega) (by omega) (xP P hS hR h3 (gK P hR (by omega) h3 (by omega) hpq) _ (i+1) rfl (by omega) h (Prd.plain hS hp h0 (by omega)))
theorem J.back (P:Part s r c d n) (hS:s.size≤1099511627776) (hR:r.size≤1099511627776) {md:Md} {a e:Nat} {kd:Int} {ns:List S44} {ks:List S32} (h:J s md a e kd ns ks):c≤a→e≤c+n→Prd s a→Prd r (e - c+d)→Prd r (a - c+d):=by
 have let92:∀ c:Int,97≤c∧c≤122→c≠92:=fun c hc=>by omega
 induction h with
 | null i h=>exact fun h1 h2 _=>kZ P hR let92 (h.span lK) h1 h2
 | fals i h=>exact fun h1 h2 _=>kZ P hR let92 (h.span kM) h1 h2
 | tru i h=>exact fun h1 h2 _=>kZ P hR let92 (h.span lV) h1 h2
 | num i e h0 h1 h2 h3=>exact fun g1 g2 _=>kZ P hR (fun c hc=>by unfold kz at hc;omega) h3 g1 g2
 | str i q h0 h1 h2=>exact fun g1 g2 hp he=>oL P hS hR h0 h1 h2 hp g1 (by omega) he
 | arr0 i j h0 h1 h2 h3 h4 =>
   intro g1 g2 hp he
   have:=h2.le
   exact gK P hR g1 (by omega) (by omega) (eY P hR h2 (by omega) (by omega) (gK P hR (by omega) (by omega) (by omega) he))
 | arr i j e ks h0 h1 h2 h3 ih =>
   intro g1 g2 hp he
   have:=h2.le
   have:=h3.bound
   exact gK P hR g1 (by omega) (by omega) (eY P hR h2 (by omega) (by omega) (ih (by omega) g2 (h2.prd hS (by omega) (Prd.plain hS hp h0 (by omega))) he))
 | obj0 i j h0 h1 h2 h3 h4 =>
   intro g1 g2 hp he
   have:=h2.le
   exact gK P hR g1 (by omega) (by omega) (eY P hR h2 (by omega) (by omega) (gK P hR (by omega) (by omega) (by omega) he))
 | obj i j e ns ks h0 h1 h2 h3 ih =>
   intro g1 g2 hp he
   have:=h2.le
   have:=h3.bound
   exact gK P hR g1 (by omega) (by omega) (eY P hR h2 (by omega) (by omega) (ih (by omega) g2 (h2.prd hS (by omega) (Prd.plain hS hp h0 (by omega))) he))
 | el1 i m e kd ns ks h0 h1 h2 h3 ih =>
   intro g1 g2 hp he
   have:=h1.le
   have:=h0.bound
   exact ih g1 (by omega) hp (eY P hR h1 (by omega) (by omega) (gK P hR (by omega) (by omega) (by omega) he))
 | els i m x y e kd ns ks l h0 h1 h2 h3 h4 h5 ih ih2 =>
   intro g1 g2 hp he
   have:=h1.le
   have:=h4.le
   have:=h0.bound
   have:=h5.bound
   exact ih g1 (by omega) hp (eY P hR h1 (by omega) (by omega) (gK P hR (by omega) (by omega) (by omega) (eY P hR h4 (by omega) (by omega) (ih2 (by omega) g2 (h4.prd hS (by omega) (Prd.plain hS (h1.prd hS (by omega) (h0.prd hS hp)) h2 (by omega))) he))))
 | mem1 i q x b m e kd ns ks h0 h1 h2 h3 h4 h5 h6 h7 h8 h9 h10 ih =>
   intro g1 g2 hp he
   have:=h2.bound
   have:=h3.le
   have:=h6.le
   have:=h7.bound
   have:=h8.le
   have k1:=(gp.prd hS h0 h1 h2 hp).2
   have k2:=h6.prd hS (by omega) (Prd.plain hS (h3.prd hS (by omega) k1) h4 (by omega))
   exact oL P hS hR h0 h1 h2 hp g1 (by omega) (eY P hR h3 (by omega) (by omega) (gK P hR (by omega) (by omega) (by omega) (eY P hR h6 (by omega) (by omega) (ih (by omega) (by omega) k2 (eY P hR h8 (by omega) (by omega) (gK P hR (by omega) (by omega) (by omega) he))))))
 | mems i q x b m y z e kd ns nl ks l h0 h1 h2 h3 h4 h5 h6 h7 h8 h9 h10 h11 h12 ih ih2 =>
   intro g1 g2 hp he
   have:=h2.bound
   have:=h3.le
   have:=h6.le
   have:=h7.bound
   have:=h8.le
   have:=h11.le
   have:=h12.bound
   have k1:=(gp.prd hS h0 h1 h2 hp).2
   have k2:=h6.prd hS (by omega) (Prd.plain hS (h3.prd hS (by omega) k1) h4 (by omega))
   have k3:=h11.prd hS (by omega) (Prd.plain hS (h8.prd hS (by omega) (h7.prd hS k2)) h9 (by omega))
   exact oL P hS hR h0 h1 h2 hp g1 (by omega) (eY P hR h3 (by omega) (by omega) (gK P hR (by omega) (by omega) (by omega) (eY P hR h6 (by omega) (by omega) (ih (by omega) (by omega) k2 (eY P hR h8 (by omega) (by omega) (gK P hR (by omega) (by omega) (by omega) (eY P hR h11 (by omega) (by omega) (ih2 (by omega) g2 k3 he))))))))
end
theorem nV {s:ByteArray} {b m:Nat} (h1:b≤m) (h:m≤s.size):Part s (s.extract b m) b 0 (m - b):=by
 refine ⟨by omega,by rw [ByteArray.size_extract];omega,fun j hj=>?_⟩
 rw [Nat.zero_add,jg s b m j (by omega) h]
theorem Bv {s:ByteArray} (hS:s.size≤1099511627776) {md:Md} {a e:Nat} {kd:Int} {ns:List S44} {ks:List S32} (h:J s md a e kd ns ks):Prd s a→∀ p ∈ ks,∃ b m:Nat,p.f1=b∧p.f2=m∧a≤b∧m≤e∧J s .val b m p.f0 p.f3 p.f4∧Prd s b:=by
 induction h with
 | null | fals | tru | num | str | arr0 | obj0=>intro _ p hp;cases hp
 | arr a j e ks h0 h1 h2 h3 ih =>
   intro hp
   have:=h3.bound
   have:=h2.le
   intro p hm
   obtain ⟨b,m,g1,g2,g3,g4,g5⟩:=ih (h2.prd hS (by omega) (Prd.plain hS hp h0 (by omega))) p hm
   exact ⟨b,m,g1,g2,by omega,g4,g5⟩
 | obj a j e ns ks h0 h1 h2 h3 ih =>
   intro hp
   have:=h3.bound
   have:=h2.le
   intro p hm
   obtain ⟨b,m,g1,g2,g3,g4,g5⟩:=ih (h2.prd hS (by omega) (Prd.plain hS hp h0 (by omega))) p hm
   exact ⟨b,m,g1,g2,by omega,g4,g5⟩
 | el1 a m e kd ns ks h0 h1 h2 h3 ih =>
   intro hp p hm
   obtain rfl:=List.mem_singleton.1 hm
   have:=h1.le
   exact ⟨a,m,rfl,rfl,Nat.le_refl _,by omega,h0,hp⟩
 | els a m f q e kd ns ks l h0 h1 h2 h3 h4 h5 ih ih2 =>
   intro hp p hm
   have:=h5.bound
   have:=h1.le
   have:=h4.le
   have:=h0.bound
   rcases List.mem_cons.1 hm with rfl | hm
   ·exact ⟨a,m,rfl,rfl,Nat.le_refl _,by omega,h0,hp⟩
   ·obtain ⟨b,x,g1,g2,g3,g4,g5⟩:=ih2 (h4.prd hS (by omega) (Prd.plain hS (h1.prd hS (by omega) (h0.prd hS hp)) h2 (by omega))) p hm
    exact ⟨b,x,g1,g2,by omega,g4,g5⟩
 | mem1 a q f b m e kd ns ks h0 h1 h2 h3 h4 h5 h6 h7 h8 h9 h10 ih =>
   intro hp p hm
   have:=h7.bound
   obtain rfl:=List.mem_singleton.1 hm
   have:=h2.bound
   have:=h3.le
   have:=h6.le
   have:=h8.le
   exact ⟨b,m,rfl,rfl,by omega,by omega,h7,h6.prd hS (by omega) (Prd.plain hS (h3.prd hS (by omega) (gp.prd hS h0 h1 h2 hp).2) h4 (by omega))⟩
 | mems a q f b m g x e kd ns nl ks l h0 h1 h2 h3 h4 h5 h6 h7 h8 h9 h10 h11 h12 ih ih2 =>
   intro hp p hm
   have:=h7.bound
   have:=h12.bound
   have hpb:=h6.prd hS (by omega) (Prd.plain hS (h3.prd hS (by omega) (gp.prd hS h0 h1 h2 hp).2) h4 (by omega))
   have:=h2.bound
   have:=h3.le
   have:=h6.le
   have:=h8.le
   have:=h11.le
   rcases List.mem_cons.1 hm with rfl | hm
   ·exact ⟨b,m,rfl,rfl,by omega,by omega,h7,hpb⟩
   ·obtain ⟨b',m',g1,g2,g3,g4,g5⟩:=ih2 (h11.prd hS (by omega) (Prd.plain hS (h8.prd hS (by omega) (h7.prd hS hpb)) h9 (by omega))) p hm
    exact ⟨b',m',g1,g2,by omega,g4,g5⟩
end Go.Proofs.YtpgfjbimodnkeaaGreatDoor.Scan
namespace Go.Proofs.YtpgfjbimodnkeaaGreatDoor.Q
open Go.RowKit Go.Proofs.YtpgfjbimodnkeaaGreatDoorW.PrintWords Go.Proofs.YtpgfjbimodnkeaaGreatDoorW.PrintLast Go.Proofs.YtpgfjbimodnkeaaGreatDoorW.PrintMore
def kX (ks:List ByteArray) (nm:ByteArray):Nat→Int
 | 0=>-1
 | k+1=>if ((lg ByteArray.empty ks (k:Int)).toList == nm.toList)=true then (k:Int) else kX ks nm k
def kV (ks:List ByteArray):Nat→Bool
 | 0=>true
 | r+1=>if (kX ks (lg ByteArray.empty ks ((ks.length - (r+1):Nat):Int)) ks.length != ((ks.length - (r+1):Nat):Int))=true then false else kV ks r
def oP (f:S25→Bool) (ts:List S25):Nat→Bool
 | 0=>true
 | r+1=>if f (iR ts ((ts.length - (r+1):Nat):Int))=true then oP f ts r else false
def uq:Nat→S25→Bool
 | 0,_=>true
 | n+1,t=>if kV t.f2 t.f2.length=true then oP (uq n) t.f3 t.f3.length else false
theorem Aw (kd:Int) (txt:ByteArray) (A2:Option Addr) (c2:Nat) (ks:List ByteArray) (A3:Option Addr) (n3 c3:Nat) (nm:ByteArray) (w:World) (h2:Kd.string.C w A2 ks.length ks) :
 Calls Tryz.prog 41 #[.agg #[.int .i64 kd,.string txt,.slice A2 ks.length c2,.slice A3 n3 c3],.string nm] w fun e w'=>e = .returned (.int .i64 (kX ks nm ks.length))∧Below w.heap.size w w':=by
 have hm:=Kd.uM h2
 replace h2:=ae.mk h2
 go_enter Tryz.func41,Tryz.ntmps41
 go_wp2_with (fail)
 go_loopg [5] ks.length (fun kq v5 w'=>∃ i:Int,v5 = .int .i64 i∧ae (i=(kq:Int) - 1∧kq≤ks.length∧kX ks nm ks.length=kX ks nm kq)∧w'=w.alloc (.cells #[.int .i64 kd,.string txt,.slice A2 ks.length c2,.slice A3 n3 c3] 25))
 case atStart=>exact ⟨(ks.length:Int) - 1,by congr 1,⟨rfl,Nat.le_refl _,rfl⟩,rfl⟩
 case round =>
  obtain ⟨i,rfl,hi,rfl⟩:=hrel
  obtain ⟨he,hle,hla⟩:=hi.out
  replace hla:=ae.mk hla
  cases gk with
  | zero =>
    have e0:decide (0≤i)=false:=decide_eq_false (by omega)
    clear he hle
    go_wp2
    go_ret
    exact ⟨by rw [hla.out];rfl,ah (Below.refl _ _) _⟩
  | succ gk =>
    have e0:decide (0≤i)=true:=decide_eq_true (by omega)
    obtain ⟨ad,rfl,hx⟩:=Kd.kG h2.out i (by omega) (by omega)
    have p1:(0≤i)=True:=eq_true (by omega)
    have p2:(i < (ks.length:Int))=True:=eq_true (by omega)
    have hx2:(w.alloc (.cells #[.int .i64 kd,.string txt,.slice (some ad) ks.length c2,.slice A3 n3 c3] 25)).cell? (ad.add i.toNat)=_:=((ah (Below.refl _ _) _).cell (World.block_lt_of_cell? w _ hx)).trans hx
    clear hx
    clear he hle
    obtain rfl:i=(gk:Int):=by have:=hi.out.1;omega
    rw [Int.toNat_natCast] at hx2
    have hl2:=hla.out
    rw [kX] at hl2
    generalize lg ByteArray.empty ks (gk:Int)=y at *
    cases hy:(y.toList == nm.toList)
    ·rw [if_neg (by rw [hy];decide)] at hl2
     replace hl2:=ae.mk hl2
     go_wp2
     go_roundg gk
     case measure=>omega
     case rel=>exact ⟨(gk:Int) - 1,by have:=hi.out.2.1;congr 1;unfold wrap64;omega,⟨rfl,by have:=hi.out.2.1;omega,hl2.out⟩,rfl⟩
    ·rw [if_pos hy] at hl2
     replace hl2:=ae.mk hl2
     go_wp2
     go_ret
     exact ⟨by rw [hl2.out];rfl,ah (Below.refl _ _) _⟩
theorem uw (xs:List S25) (i:Int) (h0:0≤i) (h1:i < (xs.length:Int)):iR xs i ∈ xs:=by
 unfold iR
 rw [List.getD_eq_getElem?_getD,List.getElem?_eq_getElem (by omega:i.toNat < xs.length)]
 exact List.getElem_mem _
theorem wM (t x:S25) (h:x ∈ t.f3):SizeOf.sizeOf x < SizeOf.sizeOf t:=by
 cases t with
 | mk a b c d =>
   have:=List.sizeOf_lt_of_mem h
   simp only [S25.mk.sizeOf_spec]
   simp only at this
   omega
theorem lN (n:Nat):∀ (t:S25),SizeOf.sizeOf t < n→∀ (A2:Option Addr) (c2:Nat) (A3:Option Addr) (c3:Nat) (w:World) (h2:Kd.string.C w A2 t.f2.length t.f2) (h3:k25.C w A3 t.f3.length t.f3),
 Calls Tryz.prog 19 #[.agg #[.int .i64 t.f0,.string t.f1,.slice A2 t.f2.length c2,.slice A3 t.f3.length c3]] w fun e w'=>e = .returned (.bool (uq n t))∧Below w.heap.size w w':=by
 induction n with
 | zero=>exact fun t h=>absurd h (by omega)
 | succ n ih =>
 intro t ht A2 c2 A3 c3 w h2 h3
 have hm:=Kd.uM h2
 have hm3:=Kd.uM h3
 have hsub:∀ x ∈ t.f3,SizeOf.sizeOf x < n:=fun x hx=>by have:=wM t x hx;omega
 rw [uq]
 generalize t.f0=kd at *
 generalize t.f1=txt at *
 generalize t.f2=ks at *
 generalize t.f3=ts at *
 obtain ⟨R,hRes⟩:∃ R,(if kV ks ks.length=true then oP (uq n) ts ts.length else false)=R:=⟨_,rfl⟩
 rw [hRes]
 replace hRes:=ae.mk hRes
 replace h2:=ae.mk h2
 replace h3:=ae.mk h3
 replace hsub:=ae.mk hsub
 replace ih:=ae.mk ih
 clear ht
 obtain ⟨W0,hW0⟩:∃ W0,w.alloc (.cells #[.int .i64 kd,.string txt,.slice A2 ks.length c2,.slice A3 ts.length c3] 25)=W0:=⟨_,rfl⟩
 have hb0:=ae.mk (show Below w.heap.size w W0 by rw [← hW0];exact ah (Below.refl _ _) _)
 have kb0:=ae.mk (show W0.heap[w.heap.size]?=some (.cells #[.int .i64 kd,.string txt,.slice A2 ks.length c2,.slice A3 ts.length c3] 25 (0,0)) by rw [← hW0];exact fM w _)
 replace hW0:=ae.mk hW0
 go_enter Tryz.func19,Tryz.ntmps19
 go_wp2_with (fail)
 go_loopg [3] ks.length (fun kq v3 w'=>∃ i:Nat,v3 = .int .i64 i∧ae (i+kq=ks.length∧kV ks ks.length=kV ks kq)∧ae (Below W0.heap.size W0 w'))
 case atStart=>exact ⟨0,rfl,⟨by omega,rfl⟩,⟨by rw [← hW0.out];exact Below.refl _ _⟩⟩
 case round =>
  obtain ⟨i,rfl,hi,hB⟩:=hrel
  have kb:=df kb0.out hB.out
  have c0:=(ak kb 0).trans rfl
  have c1:=(ak kb 1).trans rfl
  have c2':=(ak kb 2).trans rfl
  have c3':=(ak kb 3).trans rfl
  have hBw:=ae.mk (dR hb0.out hb0.out.size hB.out)
  replace kb:=ae.mk kb
  cases gk with
  | zero =>
    have hi':=hi.out.1
    have e0:decide (i < ks.length)=false:=decide_eq_false (by omega)
    clear hi'
    replace hm:=ae.mk hm
    have hgoal:=ae.mk (show kV ks ks.length=true from hi.out.2)
    go_wp2_with (fail)
    go_loopg [4] ts.length (fun kq v4 w'=>∃ i:Nat,v4 = .int .i64 i∧ae (i+kq=ts.length∧oP (uq n) ts ts.length=oP (uq n) ts kq)∧ae (Below W0.heap.size W0 w'))
    case atStart=>exact ⟨0,rfl,⟨by omega,rfl⟩,hB⟩
    case round =>
     clear c0 c1 c2' c3' hBw kb hB hi
     obtain ⟨i,rfl,hi,hB⟩:=hrel
     have kb:=df kb0.out hB.out
     have c0:=(ak kb 0).trans rfl
     have c1:=(ak kb 1).trans rfl
     have c2':=(ak kb 2).trans rfl
     have c3':=(ak kb 3).trans rfl
     have hBw:=ae.mk (dR hb0.out hb0.out.size hB.out)
     replace kb:=ae.mk kb
     cases gk with
     | zero =>
       have hi':=hi.out.1
       have e0:decide (i < ts.length)=false:=decide_eq_false (by omega)
       clear hi'
       go_wp2
       go_ret
       exact ⟨by rw [← hRes.out,hgoal.out,if_pos rfl,hi.out.2];rfl,hBw.out⟩
     | succ gk =>
       have hi':=hi.out.1
       have e0:decide (i < ts.length)=true:=decide_eq_true (by omega)
       obtain ⟨ad,B2,d2,B3,d3,rfl,q0,q1,q2,q3,l2,g2,l3,g3⟩:=sW (Kd.dG h3.out (dR hb0.out hb0.out.size hB.out)) (i:Int) (by omega) (by omega)
       have p1:(0≤(i:Int))=True:=eq_true (by omega)
       have p2:((i:Int) < (ts.length:Int))=True:=eq_true (by omega)
       have hstep:=hi.out.2
       rw [oP,show ts.length - (gk+1)=i by omega] at hstep
       have hcall:=ih.out (iR ts i) (hsub.out _ (uw ts i (by omega) (by omega))) B2 d2 B3 d3 wr g2 g3
       replace g2:=ae.mk g2
       replace g3:=ae.mk g3
       rw [Int.toNat_natCast] at q0 q1 q2 q3
       generalize iR ts (i:Int)=x at *
       clear hi'
       replace hstep:=ae.mk hstep
       go_wp2_with (fail)
       refine hcall.mono ?_
       rintro e w5 ⟨rfl,hb5⟩
       have hB5:=ae.mk (dR hB.out (by have:=hB.out.size;omega) hb5)
       replace hstep:=hstep.out
       cases hb:uq n x
       ·rw [if_neg (by rw [hb];decide)] at hstep
        replace hstep:=ae.mk hstep
        replace hb:=ae.mk hb
        go_wp2
        go_ret
        exact ⟨by rw [← hRes.out,hgoal.out,if_pos rfl,hstep.out];rfl,dR hb0.out hb0.out.size hB5.out⟩
       ·rw [if_pos hb] at hstep
        replace hstep:=ae.mk hstep
        replace hb:=ae.mk hb
        go_wp2
        go_roundg gk
        case measure=>omega
        case rel=>exact ⟨i+1,by have:=hi.out.1;congr 1;unfold wrap64;omega,⟨by have:=hi.out.1;omega,hstep.out⟩,hB5⟩
  | succ gk =>
    have hi':=hi.out.1
    have e0:decide (i < ks.length)=true:=decide_eq_true (by omega)
    obtain ⟨ad,rfl,hx⟩:=Kd.kG (Kd.dG h2.out hBw.out) (i:Int) (by omega) (by omega)
    have p1:(0≤(i:Int))=True:=eq_true (by omega)
    have p2:((i:Int) < (ks.length:Int))=True:=eq_true (by omega)
    rw [Int.toNat_natCast] at hx
    have hstep:=hi.out.2
    rw [kV,show ks.length - (gk+1)=i by omega] at hstep
    generalize lg ByteArray.empty ks (i:Int)=y at *
    have hat:=fun W (hW:Below w.heap.size w W)=>Aw kd txt (some ad) c2 ks A3 ts.length c3 y W (Kd.dG h2.out hW)
    clear hi'
    replace hstep:=ae.mk hstep
    go_wp2_with (fail)
    go_region_with (first | (go_at_call 41;refine (hat _ ?_).mono ?_;(repeat (with_reducible first | exact hBw.out | apply ah | apply ag | apply eU));rintro e w5 ⟨rfl,hb5⟩;replace hb5:=ae.mk hb5))
    all_goals
     have hB5:=ae.mk (dR (eU hB.out) (by have:=hB.out.size;exact this) hb5.out)
     replace hstep:=hstep.out
     cases hb:(kX ks y ks.length != (i:Int))
     ·rw [if_neg (by rw [hb];decide)] at hstep
      replace hstep:=ae.mk hstep
      go_wp2
      go_roundg gk
      case measure=>omega
      case rel=>exact ⟨i+1,by have:=hi.out.1;congr 1;unfold wrap64;omega,⟨by have:=hi.out.1;omega,hstep.out⟩,hB5⟩
     ·rw [if_pos hb] at hstep
      replace hstep:=ae.mk hstep
      go_wp2
      go_ret
      exact ⟨by rw [← hRes.out,hstep.out,if_neg (by decide)];rfl,dR hb0.out hb0.out.size hB5.out⟩
end Go.Proofs.YtpgfjbimodnkeaaGreatDoor.Q
namespace Go.Proofs.YtpgfjbimodnkeaaGreatDoor.Dec
open Go Go.RowKit Go.Proofs.YtpgfjbimodnkeaaGreatDoorW.PrintWords Go.Proofs.YtpgfjbimodnkeaaGreatDoorW.PrintLast Go.Proofs.YtpgfjbimodnkeaaGreatDoorW.PrintMore Go.Proofs.YtpgfjbimodnkeaaGreatDoor.Scan Go.Proofs.YtpgfjbimodnkeaaGreatDoor.Q
theorem wL:∀ (x y:List UInt8),x < y→Op.bytesLess x y=true
 | [],[],h=>absurd h (List.lt_irrefl _)
 | [],_ :: _,_=>rfl
 | _ :: _,[],h=>absurd h (List.not_lt_nil _)
 | a :: x,b :: y,h=>by
   unfold Op.bytesLess
   rcases List.cons_lt_cons_iff.1 h with h | ⟨h1,h2⟩
   ·simp [h]
   ·subst h1
    simp [wL x y h2]
theorem toList_data (b:ByteArray):b.toList=b.data.toList:=by
 exact ByteArray.toList_eq b
theorem Af {s:ByteArray} (hS:s.size≤1099511627776) {b m:Nat} {kd:Int} {ns:List S44} {ks:List S32} (h:J s .val b m kd ns ks) (hp:Prd s b) {t:S25} (ht:Evt (fun k=>bI.f k s kd (b:Int) (m:Int) ns ks) (t.f0,t.f1,t.f2,t.f3)) :
 Evt (fun k=>fU.f k (s.extract b m)) (t.f0,t.f1,t.f2,t.f3,true):=by
 have hb:=h.bound
 have P:=nV (show b≤m by omega) hb.2
 have hsz:(s.extract b m).size=m - b:=by rw [ByteArray.size_extract];omega
 have hJ:=h.move P (Nat.le_refl _) (by omega)
 obtain ⟨keys,ts,_,_,_,_,h5⟩:=h.trees P hS (by rw [hsz];omega) hp (Nat.le_refl _) (by omega)
 obtain ⟨txt,e1,e2⟩:=h5 rfl
 have e:=ht.uniq e1
 have hpl:=yg (s:=s.extract b m) (by rw [hsz];omega) (i:=b - b+0) (m:=m - b+0) ⟨by omega,fun j h1 h2=>absurd h2 (by omega)⟩ hJ ⟨by omega,fun j h1 h2=>absurd h2 (by omega)⟩
 rw [show (b:Int)+(((0:Nat):Int) - b)=((b - b+0:Nat):Int) by omega,show (m:Int)+(((0:Nat):Int) - b)=((m - b+0:Nat):Int) by omega,← e] at e2
 unfold fU.f
 exact Evt.bind hpl (Evt.pos (by simp) (Evt.bind e2 (Evt.pure _)))
theorem rW (ks:List ByteArray) (nm:ByteArray):∀ k j:Nat,j < k→(lg ByteArray.empty ks (j:Int)).toList=nm.toList→(j:Int)≤kX ks nm k
 | 0,j,h,_=>absurd h (by omega)
 | k+1,j,h,e=>by
   unfold kX
   split
   ·omega
   ·rename_i hne
    rcases Nat.lt_or_ge j k with h2 | h2
    ·exact rW ks nm k j h2 e
    ·obtain rfl:j=k:=by omega
     exact absurd (beq_iff_eq.mpr e) hne
theorem Dh {ks:List ByteArray}:∀ r:Nat,r≤ks.length→kV ks r=true→∀ i:Nat,ks.length - r≤i→i < ks.length→kX ks (lg ByteArray.empty ks (i:Int)) ks.length=i
 | 0,_,_,i,h1,h2=>absurd h2 (by omega)
 | r+1,hr,h,i,h1,h2=>by
   unfold kV at h
   split at h
   ·cases h
   ·rename_i hne
    rcases Nat.lt_or_ge (ks.length - (r+1)) i with h3 | h3
    ·exact Dh r (by omega) h i (by omega) h2
    ·obtain rfl:i=ks.length - (r+1):=by omega
     simpa using hne
theorem Aj {ks:List ByteArray} (h:kV ks ks.length=true):(ks.map fun k=>k.data.toList).Nodup:=by
 have hall:=Dh ks.length (Nat.le_refl _) h
 rw [Nat.sub_self] at hall
 refine List.pairwise_iff_getElem.2 fun i j hi hj hij e=>?_
 rw [List.length_map] at hi hj
 simp only [List.getElem_map] at e
 have h1:=hall i (Nat.zero_le _) hi
 have e2:∀ (n:Nat) (hn:n < ks.length),lg ByteArray.empty ks (n:Int)=ks[n]:=fun n hn=>by
  unfold lg
  rw [Int.toNat_natCast,List.getD_eq_getElem?_getD,List.getElem?_eq_getElem hn]
  rfl
 have h2:=rW ks (lg ByteArray.empty ks (i:Int)) ks.length j hj (by rw [e2 i hi,e2 j hj,toList_data,toList_data,e])
 omega
end Go.Proofs.YtpgfjbimodnkeaaGreatDoor.Dec
namespace Go.Proofs.YtpgfjbimodnkeaaGreatDoor.Scan
open Go Go.RowKit Go.Proofs.YtpgfjbimodnkeaaGreatDoorW.PrintWords Go.Proofs.YtpgfjbimodnkeaaGreatDoor.Q Go.Proofs.YtpgfjbimodnkeaaGreatDoor.Dec
def Gap (c:Int):Prop:=blank c∨c=44∨c=58
inductive lH (s:ByteArray):Nat→List S32→Prop
 | done (p:Nat):p < s.size→bt s p=125→lH s p []
 | skip (p:Nat) (l:List S32):p < s.size→Gap (bt s p)→lH s (p+1) l→lH s p l
 | tok (p m:Nat) (kd:Int) (ns:List S44) (ks l:List S32):J s .val p m kd ns ks→Prd s p→(kd=4∨After s m)→lH s m l→lH s p (⟨kd,(p:Nat),(m:Nat),ns,ks⟩ :: l)
def toks:List S44→List S32→List S32
 | n :: ns,p :: ps=>⟨4,n.f0,n.f1,[],[]⟩ :: p :: toks ns ps
 | _,_=>[]
theorem lH.lt {s:ByteArray} {p:Nat} {l:List S32} (h:lH s p l):p < s.size:=by
 cases h with
 | done _ h=>exact h
 | skip _ _ h=>exact h
 | tok _ m kd ns ks l h=>have:=h.bound;omega
theorem xW {s:ByteArray} {j:Nat} {l:List S32} (h:lH s j l) (n:Nat):∀ i:Nat,j - i=n→Blanks s i j→lH s i l:=by
 induction n with
 | zero =>
   intro i hn hb
   have:=hb.le
   obtain rfl:i=j:=by omega
   exact h
 | succ n ih =>
   intro i hn hb
   have:=h.lt
   exact .skip i l (by omega) (.inl (hb.all i (Nat.le_refl _) (by omega))) (ih (i+1) (by omega) ⟨by omega,fun m h1 h2=>hb.all m (by omega) h2⟩)
theorem ig {s:ByteArray} {i j:Nat} {l:List S32} (hb:Blanks s i j) (h:lH s j l):lH s i l:=xW h _ i rfl hb
theorem rV {s:ByteArray} {m e:Nat} (hb:Blanks s m e) (he:e < s.size) (h:bt s e=44∨bt s e=125):After s m:=by
 have hle:=hb.le
 rcases Nat.lt_or_ge m e with hl | hl
 ·exact .inr ⟨by omega,.inl (hb.all m (Nat.le_refl _) hl)⟩
 ·obtain rfl:m=e:=by omega
  exact .inr ⟨he,by omega⟩
theorem xO {s:ByteArray} (hS:s.size≤1099511627776) {md:Md} {a e:Nat} {kd:Int} {ns:List S44} {ks:List S32} (h:J s md a e kd ns ks):md = .mems→Prd s a→lH s a (toks ns ks):=by
 induction h with
 | null | fals | tru | num | str | arr0 | obj0 | arr | obj | el1 | els=>intro h;cases h
 | mem1 i q c b m e kd ns ks h0 h1 h2 h3 h4 h5 h6 h7 h8 h9 h10 ih =>
   intro _ hp
   have:=h2.bound
   have:=h7.bound
   have k1:=(gp.prd hS h0 h1 h2 hp).2
   have k2:=h6.prd hS (by omega) (Prd.plain hS (h3.prd hS (by omega) k1) h4 (by omega))
   refine .tok i (q+1) 4 [] [] _ (.str i q h0 h1 h2) hp (.inl rfl) (ig h3 (.skip c _ h4 (.inr (.inr h5)) (ig h6 ?_)))
   exact .tok b m kd ns ks _ h7 k2 (.inr (rV h8 h9 (.inr h10))) (ig h8 (.done e h9 h10))
 | mems i q c b m d n e kd ns nl ks l h0 h1 h2 h3 h4 h5 h6 h7 h8 h9 h10 h11 h12 ih ih2 =>
   intro _ hp
   have:=h2.bound
   have:=h7.bound
   have:=h12.bound
   have k1:=(gp.prd hS h0 h1 h2 hp).2
   have k2:=h6.prd hS (by omega) (Prd.plain hS (h3.prd hS (by omega) k1) h4 (by omega))
   have k3:=h11.prd hS (by omega) (Prd.plain hS (h8.prd hS (by omega) (h7.prd hS k2)) h9 (by omega))
   refine .tok i (q+1) 4 [] [] _ (.str i q h0 h1 h2) hp (.inl rfl) (ig h3 (.skip c _ h4 (.inr (.inr h5)) (ig h6 ?_)))
   exact .tok b m kd ns ks _ h7 k2 (.inr (rV h8 h9 (.inl h10))) (ig h8 (.skip d _ h9 (.inr (.inl h10)) (ig h11 (ih2 rfl k3))))
theorem zF {s:ByteArray} (hS:s.size≤1099511627776) {a e:Nat} {ns:List S44} {ks:List S32} (h:J s .val a e 6 ns ks) (hp:Prd s a):lH s (a+1) (toks ns ks):=by
 generalize hk:(6:Int)=kd at h
 cases h with
 | obj0 _ j h0 h1 h2 h3 h4=>exact ig h2 (.done j h3 h4)
 | obj _ j _ _ _ h0 h1 h2 h3 =>
   have:=h3.bound
   exact ig h2 (xO hS h3 rfl (h2.prd hS (by omega) (Prd.plain hS hp h0 (by omega))))
 | null=>exact absurd hk (by decide)
 | fals=>exact absurd hk (by decide)
 | tru=>exact absurd hk (by decide)
 | num=>exact absurd hk (by decide)
 | str=>exact absurd hk (by decide)
 | arr0=>exact absurd hk (by decide)
 | arr=>exact absurd hk (by decide)
end Go.Proofs.YtpgfjbimodnkeaaGreatDoor.Scan
namespace Go.Proofs.YtpgfjbimodnkeaaGreatDoor.Q
open Go.RowKit Go.Proofs.YtpgfjbimodnkeaaGreatDoorW.PrintWords Go.Proofs.YtpgfjbimodnkeaaGreatDoorW.PrintLast Go.Proofs.YtpgfjbimodnkeaaGreatDoorW.PrintMore
attribute [local go_sem] dm di dL dK cu bZ dD dC
def eX.l0:Nat→ByteArray→List ByteArray→Int→Int→Option (Int)
 | 0,_,_,_,_=>none
 | k+1,x1,x8,x9,x10=>if x10 < x9 then (if 0≤x10 then (if x10 < (x8.length:Int) then (if (lg ByteArray.empty x8 x10).toList=x1.toList then (some x10) else (eX.l0 k x1 x8 x9 (wrap64 (x10+1)))) else (none)) else (none)) else (some (-1))
def eX.f (k:Nat) (a0_0:Int) (a0_1:ByteArray) (l0_2:List ByteArray) (l0_3:List (S25)) (a1:ByteArray):Option (Int):=eX.l0 k a1 l0_2 (l0_2.length:Int) 0
theorem eX.calls (k:Nat) (a0_0:Int) (a0_1:ByteArray) (A0_2:Option Addr) (c0_2:Nat) (l0_2:List ByteArray) (A0_3:Option Addr) (c0_3:Nat) (l0_3:List (S25)) (a1:ByteArray) (r:Int) (w:World) (hr0_2:Kd.C Kd.string w A0_2 l0_2.length l0_2) (hc0_2:l0_2.length≤c0_2) (hr0_3:Kd.C k25 w A0_3 l0_3.length l0_3) (hc0_3:l0_3.length≤c0_3) (h:eX.f k a0_0 a0_1 l0_2 l0_3 a1=some r) :
 Calls Tryz.prog 22 #[.agg #[.int .i64 a0_0,.string a0_1,.slice A0_2 l0_2.length c0_2,.slice A0_3 l0_3.length c0_3],.string a1] w fun e w'=>e = .returned (.int .i64 r)∧Below w.heap.size w w':=by
 have hu25:=Tryz.underlying25
 have HR0_2:=ae.mk hr0_2
 have HC0_2:=ae.mk hc0_2
 clear hr0_2 hc0_2
 have HR0_3:=ae.mk hr0_3
 have HC0_3:=ae.mk hc0_3
 clear hr0_3 hc0_3
 have HB:=ae.mk (Below.refl w.heap.size w)
 have H:(eX.l0 k a1 l0_2 (l0_2.length:Int) 0)=some r:=h
 clear h
 have H':=ae.mk H
 clear H
 go_enter Tryz.func22,Tryz.ntmps22
 go_wp2_with (first | ((with_reducible refine gm (N:=2) rfl ?_);refine gI ?hg (N:=2) ?hd (cs:=#[.int .i64 a0_0,.string a0_1,.slice A0_2 l0_2.length c0_2,.slice A0_3 l0_3.length c0_3]) (t:=25) ?hr ?_;(case hd=>rfl);(case hg=>rfl);(case hr=>first | (go_simp;done) | (go_simp;rfl));intro gb777 hg w3 hbox hb;have n0_:=ae.mk (bz (by repeat (first | (with_reducible first | exact HB.out | apply ah | apply ag | apply aj) | exact HB.out)) hb);have n1_:=ae.mk (hbox);have n2_:=ae.mk ((by rw [hg];exact (bQ (by repeat (first | (with_reducible first | exact HB.out | apply ah | apply ag | apply aj) | exact HB.out))):w.heap.size≤gb777));have n3_:=ae.mk ((by rw [hg];exact (bQ (by repeat (first | (with_reducible first | exact HB.out | apply ah | apply ag | apply aj) | exact HB.out))):w.heap.size≤gb777));clear HB;have HB:=n0_;have BK777:=n1_;have GW777:=n2_;have GE777:=n3_;clear n0_ n1_ n2_ n3_;clear hb hbox hg;have hcz4_0:w3.cell? ⟨gb777,0,none⟩=some (.int .i64 a0_0):=(ak BK777.out 0).trans rfl;have hcz4_1:w3.cell? ⟨gb777,1,none⟩=some (.string a0_1):=(ak BK777.out 1).trans rfl;have hcz4_2:w3.cell? ⟨gb777,2,none⟩=some (.slice A0_2 l0_2.length c0_2):=(ak BK777.out 2).trans rfl;have hcz4_3:w3.cell? ⟨gb777,3,none⟩=some (.slice A0_3 l0_3.length c0_3):=(ak BK777.out 3).trans rfl;have hfz4_0:=ax BK777.out 0;have hfz4_1:=ax BK777.out 1;have hfz4_2:=ax BK777.out 2;have hfz4_3:=ax BK777.out 3))
 go_loopg [10] k (fun kq v10 w'=>∃ (x10_1:Int),v10 = .int .i64 x10_1∧ae (eX.l0 kq a1 l0_2 (l0_2.length:Int) x10_1=some r)∧ae (kq≤k)∧ae (w'.heap[gb777]?=some (.cells #[.int .i64 a0_0,.string a0_1,(.slice A0_2 l0_2.length c0_2),(.slice A0_3 l0_3.length c0_3)] 25 (0,0)))∧ae (Below w.heap.size w w'))
 case atStart=>exact ⟨(0),(by first | rfl | (simp;done) | (simp [*];done)),H',⟨Nat.le_refl _⟩,⟨by (with_reducible repeat (first | refine aW ?_ _ | refine bn ?_ | refine aJ ?_ _));exact BK777.out⟩,⟨by repeat (first | (with_reducible first | exact HB.out | apply ah | apply ag | apply aj | refine aA ?_ GE777.out) | exact HB.out)⟩⟩
 case round =>
  clear H'
  try clear c2
  try clear p2
  try clear hcz4_0
  try clear hcz4_1
  try clear hcz4_2
  try clear hcz4_3
  try clear hfz4_0
  try clear hfz4_1
  try clear hfz4_2
  try clear hfz4_3
  obtain ⟨x10_1,rfl,HA,HK1,BK777,HB⟩:=hrel
  cases gk with
  | zero=>exact absurd HA.out (by simp [eX.l0])
  | succ k1 =>
    have H:=HA.out
    clear HA
    simp only [eX.l0] at H
    by_cases c5:x10_1 < (l0_2.length:Int)
    ·rw [if_pos c5] at H
     have c5b0:decide (x10_1 < (l0_2.length:Int))=true:=decide_eq_true c5
     clear c5
     by_cases c6:0≤x10_1
     ·rw [if_pos c6] at H
      have c6b0:decide (0≤x10_1)=true:=decide_eq_true c6
      clear c6
      by_cases c7:x10_1 < (l0_2.length:Int)
      ·rw [if_pos c7] at H
       have c7b0:decide (x10_1 < (l0_2.length:Int))=true:=decide_eq_true c7
       clear c7
       by_cases c8:(lg ByteArray.empty l0_2 x10_1).toList=a1.toList
       ·rw [if_pos c8] at H
        have c8b0:((lg ByteArray.empty l0_2 x10_1).toList == a1.toList)=true:=beq_iff_eq.mpr c8
        have c8b1:((lg ByteArray.empty l0_2 x10_1).toList != a1.toList)=false:=bne_eq_false_iff_eq.mpr c8
        clear c8
        obtain rfl:=Option.some.inj H
        have p778:0≤(x10_1:Int):=of_decide_eq_true (by first | (with_reducible assumption) | assumption)
        have q778:x10_1 < (l0_2.length:Int):=of_decide_eq_true (by first | (with_reducible assumption) | assumption)
        obtain ⟨ad778,e778,hx778_0⟩:=Kd.kG HR0_2.out x10_1 p778 q778
        cases e778
        replace hx778_0:=(HB.out.cell (World.block_lt_of_cell? w _ hx778_0)).trans hx778_0
        replace p778:=eq_true p778
        replace q778:=eq_true q778
        go_wp2
        go_ret
        exact ⟨by first | rfl | (simp [aZ,bf] <;> rfl) | (simp [*,aZ,bf] <;> rfl),by repeat (first | (with_reducible first | exact HB.out | apply ah | apply ag | apply aj | refine aA ?_ GE777.out) | exact HB.out)⟩
       ·rw [if_neg c8] at H
        have c8b0:((lg ByteArray.empty l0_2 x10_1).toList == a1.toList)=false:=beq_eq_false_iff_ne.mpr c8
        have c8b1:((lg ByteArray.empty l0_2 x10_1).toList != a1.toList)=true:=bne_iff_ne.mpr c8
        have H':=ae.mk H
        clear H
        have p778:0≤(x10_1:Int):=of_decide_eq_true (by first | (with_reducible assumption) | assumption)
        have q778:x10_1 < (l0_2.length:Int):=of_decide_eq_true (by first | (with_reducible assumption) | assumption)
        obtain ⟨ad778,e778,hx778_0⟩:=Kd.kG HR0_2.out x10_1 p778 q778
        cases e778
        replace hx778_0:=(HB.out.cell (World.block_lt_of_cell? w _ hx778_0)).trans hx778_0
        replace p778:=eq_true p778
        replace q778:=eq_true q778
        go_wp2
        go_roundg k1
        case measure=>have:=HK1.out;omega
        case rel=>exact ⟨(wrap64 (x10_1+1)),(by first | rfl | (simp;done) | (simp [*];done)),H',⟨by have:=HK1.out;omega⟩,⟨by (with_reducible repeat (first | refine aW ?_ _ | refine bn ?_ | refine aJ ?_ _));exact BK777.out⟩,⟨by repeat (first | (with_reducible first | exact HB.out | apply ah | apply ag | apply aj | refine aA ?_ GE777.out) | exact HB.out)⟩⟩
      ·rw [if_neg c7] at H
       exact absurd H (by simp)
     ·rw [if_neg c6] at H
      exact absurd H (by simp)
    ·rw [if_neg c5] at H
     have c5b0:decide (x10_1 < (l0_2.length:Int))=false:=decide_eq_false c5
     clear c5
     obtain rfl:=Option.some.inj H
     go_wp2
     go_ret
     exact ⟨by first | rfl | (simp [aZ,bf] <;> rfl) | (simp [*,aZ,bf] <;> rfl),by repeat (first | (with_reducible first | exact HB.out | apply ah | apply ag | apply aj | refine aA ?_ GE777.out) | exact HB.out)⟩
end Go.Proofs.YtpgfjbimodnkeaaGreatDoor.Q
namespace Go.Proofs.YtpgfjbimodnkeaaGreatDoor.Dec
open Go Go.RowKit Go.Proofs.YtpgfjbimodnkeaaGreatDoorW.PrintWords Go.Proofs.YtpgfjbimodnkeaaGreatDoorW.PrintLast Go.Proofs.YtpgfjbimodnkeaaGreatDoorW.PrintMore Go.Proofs.YtpgfjbimodnkeaaGreatDoor.Scan Go.Proofs.YtpgfjbimodnkeaaGreatDoor.Q
theorem zW {s:ByteArray} {md:Md} {a e:Nat} {kd:Int} {ns:List S44} {ks:List S32} (h:J s md a e kd ns ks):md = .mems∨md = .val∧kd=6→ns.length=ks.length:=by
 induction h with
 | null | fals | tru | num | str | arr0 | obj0=>intro _;rfl
 | arr a j e ks h0 h1 h2 h3 ih=>rintro (h | ⟨_,h⟩) <;> simp at h
 | obj a j e ns ks h0 h1 h2 h3 ih=>exact fun _=>ih (.inl rfl)
 | el1 | els=>rintro (h | ⟨h,_⟩) <;> cases h
 | mem1=>intro _;rfl
 | mems a q f b m g x e kd ns nl ks l h0 h1 h2 h3 h4 h5 h6 h7 h8 h9 h10 h11 h12 ih ih2=>intro _;rw [List.length_cons,List.length_cons,ih2 (.inl rfl)]
theorem fF.len {s:ByteArray}:∀ {ps:List S32} {ts:List S25},fF s ps ts→ps.length=ts.length
 | [],[],_=>rfl
 | _ :: _,_ :: _,h=>by simp [fF.len h.2]
 | [],_ :: _,h=>h.elim
 | _ :: _,[],h=>h.elim
theorem fF.at {s:ByteArray}:∀ {ps:List S32} {ts:List S25},fF s ps ts→∀ (j:Nat) (p:S32) (t:S25),ps[j]?=some p→ts[j]?=some t→Evt (fun k=>bI.f k s p.f0 p.f1 p.f2 p.f3 p.f4) (t.f0,t.f1,t.f2,t.f3)
 | [],[],_,j,p,t,h1,_=>by simp at h1
 | a :: ps,b :: ts,h,0,p,t,h1,h2=>by
   simp only [List.getElem?_cons_zero,Option.some.injEq] at h1 h2
   subst h1;subst h2
   exact h.1
 | a :: ps,b :: ts,h,j+1,p,t,h1,h2=>fF.at h.2 j p t (by simpa using h1) (by simpa using h2)
 | [],_ :: _,h,_,_,_,_,_=>h.elim
 | _ :: _,[],h,_,_,_,_,_=>h.elim
theorem AO {s:ByteArray} (hS:s.size≤1099511627776) {a q:Nat} (h1:1≤a) (haq:a≤q) (hq:q < s.size) {v v':ByteArray} (h:Says s a q v) (h':Says s a q v'):v=v' :=
 (h.nY hS h1 haq hq).uniq (h'.nY hS h1 haq hq)
theorem zH {s:ByteArray} (hS:s.size≤1099511627776) {n:S44} {r:Rs} {v:ByteArray} (h:oZ s n r) (h':qo s n v):r.str=v:=by
 obtain ⟨b,q,h1,h2,h3,h4,h5,h6⟩:=h.at_
 obtain ⟨b',q',g1,g2,g3,g4,g5⟩:=h'.at_
 have e1:b=b':=by omega
 have e2:q=q':=by omega
 subst e1;subst e2
 exact AO hS (by omega) (by omega) h4 h6 g5
theorem sO {s:ByteArray} (hS:s.size≤1099511627776) {ns:List S44} {ps:List (Rs × Rs)} {keys:List ByteArray} (h:fH s ns ps) (h':dZ s ns keys):ps.map (fun q=>q.1.str)=keys:=by
 have l1:=fH.length h
 have l2:=dZ.length h'
 refine List.ext_getElem? fun j=>?_
 rw [List.getElem?_map]
 cases hp:ps[j]? with
 | none =>
   have:=List.getElem?_eq_none_iff.1 hp
   rw [List.getElem?_eq_none (by omega)]
   rfl
 | some q =>
   obtain ⟨hj,_⟩:=List.getElem?_eq_some_iff.1 hp
   have hn:ns[j]?=some (ns[j]'(by omega)):=List.getElem?_eq_getElem _
   have hk:keys[j]?=some (keys[j]'(by omega)):=List.getElem?_eq_getElem _
   rw [hk]
   exact congrArg some (zH hS (fH.at h j _ _ hn hp) (dZ.at h' j _ _ hn hk))
theorem CO {r q:Rs} (h:rsA r=rsA q):r=q:=by
 cases r
 cases q
 simp [rsA,gW] at h
 simp [h]
structure Fit (keys:List ByteArray) (tt:List S25) (x:List UInt8) (r:Rs) (j:Nat) (t:S25):Prop where
 key:∃ y,keys[j]?=some y∧y.data.toList=x
 fst:∀ i y,i < j→keys[i]?=some y→y.data.toList≠x
 tree:tt[j]?=some t
 kind:r.k=gjk t.f0
 ex:r.ex=true
 read:Evt (fun k=>fU.f k r.raw) (t.f0,t.f1,t.f2,t.f3,true)
 str:t.f0=4→r.str=t.f1
theorem DU {s:ByteArray} (hs:s.size≤65536) {m:Nat} {ns:List S44} {ks:List S32} {ps:List (Rs × Rs)} {keys:List ByteArray} {tt:List S25} (hJ:J s .val 0 m 6 ns ks) (hP:Prd s 0) (hN:fH s ns ps) (hK:gX s ks ps) (h1:dZ s ns keys) (h2:fF s ks tt)
 {x:List UInt8} {r:Rs} (hx:Maps.has (mapD ps) (.string x)=true) (hr:∀ z,(mapD ps).atKey (.string x) z = .held (rsA r)):∃ j t,Fit keys tt x r j t:=by
 have hS:s.size≤1099511627776:=by omega
 have hkeys:=sO hS hN h1
 obtain ⟨j,q,hj,hq,hf,hat⟩:=uD hx
 obtain rfl:r=q.2:=by
  have:=(hr .nil).symm.trans (hat .nil)
  injection this with this
  exact CO this
 obtain ⟨hlt,_⟩:=List.getElem?_eq_some_iff.1 hj
 have l1:=gX.length hK
 have l2:=fF.len h2
 have hp:ks[j]?=some (ks[j]'(by omega)):=List.getElem?_eq_getElem _
 have ht:tt[j]?=some (tt[j]'(by omega)):=List.getElem?_eq_getElem _
 have hmem:(ks[j]'(by omega)) ∈ ks:=List.getElem_mem _
 generalize (ks[j]'(by omega))=p at hp hmem
 generalize (tt[j]'(by omega))=t at ht
 have hk:=gX.at hK j p q hp hj
 have hE:=fF.at h2 j p t hp ht
 obtain ⟨b,e,f1,f2,-,-,hJ2,hP2⟩:=Bv hS hJ hP p hmem
 obtain ⟨b',e',g1,g2,g3,g4,g5,g6⟩:=hk.at_
 obtain rfl:b=b':=by omega
 obtain rfl:e=e':=by omega
 rw [f1,f2] at hE
 have hkd:t.f0=p.f0:=by
  obtain ⟨_,_,h⟩:=xq hS hJ2 hP2
  obtain ⟨txt,keys,ts,g,_⟩:=h rfl
  exact (Prod.mk.inj (hE.uniq g)).1
 have key:∀ (i:Nat),keys[i]?=ps[i]?.map (fun q=>q.1.str):=fun i=>by rw [← hkeys,List.getElem?_map]
 refine ⟨j,t,⟨⟨q.1.str,by rw [key,hj];rfl,hq⟩,fun i y hi hy=>?_,ht,by rw [hk.kind,hkd],hk.ex,by rw [g5];exact Af hS hJ2 hP2 hE,fun h4=>?_⟩⟩
 ·rw [key] at hy
  cases hpi:ps[i]? with
  | none=>rw [hpi] at hy;cases hy
  | some p2 =>
    rw [hpi] at hy
    obtain rfl:p2.1.str=y:=Option.some.inj hy
    exact hf i p2 hi hpi
 ·obtain ⟨q1,rfl,hbq,hsay⟩:=g6 (hkd ▸ h4)
  have hk4:p.f0=4:=hkd ▸ h4
  generalize p.f3=nx at hJ2 hE
  generalize p.f4=kx at hJ2 hE
  rw [hk4] at hJ2 hE
  generalize hq9:q1+1=e9 at hJ2
  generalize h4k:(4:Int)=kd at hJ2
  cases hJ2 with
  | str _ q2 c0 c1 c2 =>
    obtain rfl:q1=q2:=by omega
    have hE2:=qC hS b q1 hbq (by omega) hsay
    exact ((Prod.mk.inj ((Prod.mk.inj (hE.uniq hE2)).2)).1).symm
  | null=>exact absurd h4k (by decide)
  | fals=>exact absurd h4k (by decide)
  | tru=>exact absurd h4k (by decide)
  | num=>exact absurd h4k (by decide)
  | arr0=>exact absurd h4k (by decide)
  | arr=>exact absurd h4k (by decide)
  | obj0=>exact absurd h4k (by decide)
  | obj=>exact absurd h4k (by decide)
theorem AY (x:ByteArray) (keys:List ByteArray) (hl:keys.length≤65536) (j:Nat) (y:ByteArray) (hy:keys[j]?=some y) (hyx:y.data.toList=x.data.toList) (hf:∀ i y,i < j→keys[i]?=some y→y.data.toList≠x.data.toList) (n:Nat) :
 ∀ a:Nat,j - a=n→a≤j→Evt (fun k=>eX.l0 k x keys (keys.length:Int) (a:Int)) (j:Int):=by
 obtain ⟨hj,_⟩:=List.getElem?_eq_some_iff.1 hy
 have e2:∀ (n:Nat) (z:ByteArray),keys[n]?=some z→lg ByteArray.empty keys (n:Int)=z:=fun n z hn=>by
  unfold lg
  rw [Int.toNat_natCast,List.getD_eq_getElem?_getD,hn]
  rfl
 induction n with
 | zero =>
   intro a h1 h2
   obtain rfl:a=j:=by omega
   refine Evt.succ ?_
   simp only [eX.l0]
   exact Evt.pos (by omega) (Evt.pos (by omega) (Evt.pos (by omega) (Evt.pos (by rw [e2 a y hy,toList_data,toList_data,hyx]) (Evt.pure _))))
 | succ n ih =>
   intro a h1 h2
   obtain ⟨z,hz⟩:∃ z,keys[a]?=some z:=⟨_,List.getElem?_eq_getElem (by omega)⟩
   have h3:=hf a z (by omega) hz
   refine Evt.succ ?_
   simp only [eX.l0]
   refine Evt.pos (by omega) (Evt.pos (by omega) (Evt.pos (by omega) (Evt.neg (by rw [e2 a z hz,toList_data,toList_data];exact h3) ?_)))
   rw [show wrap64 ((a:Int)+1)=((a+1:Nat):Int) by unfold wrap64;omega]
   exact ih (a+1) (by omega) (by omega)
theorem Fit.member {keys:List ByteArray} {tt:List S25} {x:List UInt8} {r:Rs} {j:Nat} {t:S25} (h:Fit keys tt x r j t) (hl:keys.length≤65536) (kd:Int) (txt:ByteArray):Evt (fun k=>eX.f k kd txt keys tt ⟨x.toArray⟩) (j:Int):=by
 obtain ⟨y,h1,h2⟩:=h.key
 unfold eX.f
 exact AY ⟨x.toArray⟩ keys hl j y h1 (by rw [h2]) (fun i y hi hy=>h.fst i y hi hy) _ 0 rfl (Nat.zero_le _)
end Go.Proofs.YtpgfjbimodnkeaaGreatDoor.Dec
namespace Go.Proofs.YtpgfjbimodnkeaaGreatDoor.Q
open Go.RowKit Go.Proofs.YtpgfjbimodnkeaaGreatDoorW.PrintWords Go.Proofs.YtpgfjbimodnkeaaGreatDoorW.PrintLast Go.Proofs.YtpgfjbimodnkeaaGreatDoorW.PrintMore
attribute [local go_sem] dm di dL dK cu bZ dD dC
def eF.f (a0_0:Int) (a0_1:ByteArray) (a0_2:ByteArray) (a0_3:Nat) (a0_4:Int) (l0_5:List Int):Option (Bool):=if a0_0=0 then (some ((a0_1.size:Int) != 0)) else (some true)
theorem eF.calls (a0_0:Int) (a0_1:ByteArray) (a0_2:ByteArray) (a0_3:Nat) (a0_4:Int) (A0_5:Option Addr) (c0_5:Nat) (l0_5:List Int) (r:Bool) (w:World) (hr0_5:Kd.C (Kd.int .i64) w A0_5 l0_5.length l0_5) (hc0_5:l0_5.length≤c0_5) (h:eF.f a0_0 a0_1 a0_2 a0_3 a0_4 l0_5=some r) :
 Calls Tryz.prog 59 #[.agg #[.int .i64 a0_0,.string a0_1,.string a0_2,.float .f64 a0_3,.int .i64 a0_4,.slice A0_5 l0_5.length c0_5]] w fun e w'=>e = .returned (.bool r)∧Below w.heap.size w w':=by
 have hu67:=Tryz.underlying67
 have HR0_5:=ae.mk hr0_5
 have HC0_5:=ae.mk hc0_5
 clear hr0_5 hc0_5
 have HB:=ae.mk (Below.refl w.heap.size w)
 have H:(if a0_0=0 then (some ((a0_1.size:Int) != 0)) else (some true))=some r:=h
 clear h
 by_cases c2:a0_0=0
 ·rw [if_pos c2] at H
  have c2b0:(a0_0 == 0)=true:=beq_iff_eq.mpr c2
  have c2b1:(a0_0 != 0)=false:=bne_eq_false_iff_eq.mpr c2
  clear c2
  obtain rfl:=Option.some.inj H
  go_enter Tryz.func59,Tryz.ntmps59
  go_wp2_with (first | ((with_reducible refine gm (N:=1) rfl ?_);(try (refine qO (by rfl) ?_;dsimp only));refine gI ?hg (N:=1) ?hd (cs:=#[.int .i64 a0_0,.string a0_1,.string a0_2,.float .f64 a0_3,.int .i64 a0_4,.slice A0_5 l0_5.length c0_5]) (t:=67) ?hr ?_;(case hd=>rfl);(case hg=>rfl);(case hr=>first | (go_simp;done) | (go_simp;rfl));intro gb408 hg w3 hbox hb;have n0_:=ae.mk (bz (by repeat (first | (with_reducible first | exact HB.out | apply ah | apply ag | apply aj) | exact HB.out)) hb);have n1_:=ae.mk (hbox);have n2_:=ae.mk ((by rw [hg];exact (bQ (by repeat (first | (with_reducible first | exact HB.out | apply ah | apply ag | apply aj) | exact HB.out))):w.heap.size≤gb408));have n3_:=ae.mk ((by rw [hg];exact (bQ (by repeat (first | (with_reducible first | exact HB.out | apply ah | apply ag | apply aj) | exact HB.out))):w.heap.size≤gb408));clear HB;have HB:=n0_;have BK408:=n1_;have GW408:=n2_;have GE408:=n3_;clear n0_ n1_ n2_ n3_;clear hb hbox hg;have hcz4_0:w3.cell? ⟨gb408,0,none⟩=some (.int .i64 a0_0):=(ak BK408.out 0).trans rfl;have hcz4_1:w3.cell? ⟨gb408,1,none⟩=some (.string a0_1):=(ak BK408.out 1).trans rfl;have hcz4_2:w3.cell? ⟨gb408,2,none⟩=some (.string a0_2):=(ak BK408.out 2).trans rfl;have hcz4_3:w3.cell? ⟨gb408,3,none⟩=some (.float .f64 a0_3):=(ak BK408.out 3).trans rfl;have hcz4_4:w3.cell? ⟨gb408,4,none⟩=some (.int .i64 a0_4):=(ak BK408.out 4).trans rfl;have hcz4_5:w3.cell? ⟨gb408,5,none⟩=some (.slice A0_5 l0_5.length c0_5):=(ak BK408.out 5).trans rfl;have hfz4_0:=ax BK408.out 0;have hfz4_1:=ax BK408.out 1;have hfz4_2:=ax BK408.out 2;have hfz4_3:=ax BK408.out 3;have hfz4_4:=ax BK408.out 4;have hfz4_5:=ax BK408.out 5))
  go_ret
  exact ⟨by first | rfl | (simp [aZ,bf] <;> rfl) | (simp [*,aZ,bf] <;> rfl),by repeat (first | (with_reducible first | exact HB.out | apply ah | apply ag | apply aj | refine aA ?_ GE408.out) | exact HB.out)⟩
 ·rw [if_neg c2] at H
  have c2b0:(a0_0 == 0)=false:=beq_eq_false_iff_ne.mpr c2
  have c2b1:(a0_0 != 0)=true:=bne_iff_ne.mpr c2
  obtain rfl:=Option.some.inj H
  go_enter Tryz.func59,Tryz.ntmps59
  go_wp2_with (first | ((with_reducible refine gm (N:=1) rfl ?_);(try (refine qO (by rfl) ?_;dsimp only));refine gI ?hg (N:=1) ?hd (cs:=#[.int .i64 a0_0,.string a0_1,.string a0_2,.float .f64 a0_3,.int .i64 a0_4,.slice A0_5 l0_5.length c0_5]) (t:=67) ?hr ?_;(case hd=>rfl);(case hg=>rfl);(case hr=>first | (go_simp;done) | (go_simp;rfl));intro gb408 hg w5 hbox hb;have n0_:=ae.mk (bz (by repeat (first | (with_reducible first | exact HB.out | apply ah | apply ag | apply aj) | exact HB.out)) hb);have n1_:=ae.mk (hbox);have n2_:=ae.mk ((by rw [hg];exact (bQ (by repeat (first | (with_reducible first | exact HB.out | apply ah | apply ag | apply aj) | exact HB.out))):w.heap.size≤gb408));have n3_:=ae.mk ((by rw [hg];exact (bQ (by repeat (first | (with_reducible first | exact HB.out | apply ah | apply ag | apply aj) | exact HB.out))):w.heap.size≤gb408));clear HB;have HB:=n0_;have BK408:=n1_;have GW408:=n2_;have GE408:=n3_;clear n0_ n1_ n2_ n3_;clear hb hbox hg;have hcz6_0:w5.cell? ⟨gb408,0,none⟩=some (.int .i64 a0_0):=(ak BK408.out 0).trans rfl;have hcz6_1:w5.cell? ⟨gb408,1,none⟩=some (.string a0_1):=(ak BK408.out 1).trans rfl;have hcz6_2:w5.cell? ⟨gb408,2,none⟩=some (.string a0_2):=(ak BK408.out 2).trans rfl;have hcz6_3:w5.cell? ⟨gb408,3,none⟩=some (.float .f64 a0_3):=(ak BK408.out 3).trans rfl;have hcz6_4:w5.cell? ⟨gb408,4,none⟩=some (.int .i64 a0_4):=(ak BK408.out 4).trans rfl;have hcz6_5:w5.cell? ⟨gb408,5,none⟩=some (.slice A0_5 l0_5.length c0_5):=(ak BK408.out 5).trans rfl;have hfz6_0:=ax BK408.out 0;have hfz6_1:=ax BK408.out 1;have hfz6_2:=ax BK408.out 2;have hfz6_3:=ax BK408.out 3;have hfz6_4:=ax BK408.out 4;have hfz6_5:=ax BK408.out 5))
  go_ret
  exact ⟨by first | rfl | (simp [aZ,bf] <;> rfl) | (simp [*,aZ,bf] <;> rfl),by repeat (first | (with_reducible first | exact HB.out | apply ah | apply ag | apply aj | refine aA ?_ GE408.out) | exact HB.out)⟩
attribute [local go_sem] dm di dL dK cu bZ dD dC
def jl.f (a0_0:Int) (a0_1:ByteArray) (a0_2:ByteArray) (a0_3:Nat) (a0_4:Int) (l0_5:List Int):Option (Int × ByteArray × ByteArray × Nat × Bool):=(eF.f a0_0 a0_1 a0_2 a0_3 a0_4 l0_5).bind fun t646=>(some (a0_0,a0_1,a0_2,a0_3,t646))
def jl.T1:Bool × List (List Nat × List Nat):=(true,[([],[]),([0],[0]),([],[]),([2],[2]),([],[]),([4],[4]),([],[]),([6],[6]),([],[]),([8],[8]),([1,3,5,7,9],[1,3,5,7,9]),([10,9,0,1,2,3,4,5,6,7,8,9,10],[10])])
def jl.B1:List Nat:=[0,1,0,4,0,16,0,64,0,256,1023,2047]
theorem jl.Ez:kL .any (opsOf Tryz.f34 1)=jl.T1:=by kernel_rfl
theorem jl.Ei:mH jl.T1.2 jl.B1=true:=by kernel_rfl
theorem jl.calls (a0_0:Int) (a0_1:ByteArray) (a0_2:ByteArray) (a0_3:Nat) (a0_4:Int) (A0_5:Option Addr) (c0_5:Nat) (l0_5:List Int) (r1:Int) (r2:ByteArray) (r3:ByteArray) (r4:Nat) (r5:Bool) (w:World) (hr0_5:Kd.C (Kd.int .i64) w A0_5 l0_5.length l0_5) (hc0_5:l0_5.length≤c0_5) (h:jl.f a0_0 a0_1 a0_2 a0_3 a0_4 l0_5=some (r1,r2,r3,r4,r5)) :
 Calls Tryz.prog 34 #[.agg #[.int .i64 a0_0,.string a0_1,.string a0_2,.float .f64 a0_3,.int .i64 a0_4,.slice A0_5 l0_5.length c0_5]] w fun e w'=>e = .returned (.agg #[.int .i64 r1,.string r2,.string r3,.float .f64 r4,.bool r5])∧Below w.heap.size w w':=by
 have hu67:=Tryz.underlying67
 have hu39:=Tryz.underlying39
 have HR0_5:=ae.mk hr0_5
 have HC0_5:=ae.mk hc0_5
 clear hr0_5 hc0_5
 have HB:=ae.mk (Below.refl w.heap.size w)
 have H:((eF.f a0_0 a0_1 a0_2 a0_3 a0_4 l0_5).bind fun t646=>(some (a0_0,a0_1,a0_2,a0_3,t646)))=some (r1,r2,r3,r4,r5):=h
 clear h
 replace H:=Option.bind_eq_some_iff.mp H
 obtain ⟨t646,A20,H⟩:=H
 replace H:(some (a0_0,a0_1,a0_2,a0_3,t646))=some (r1,r2,r3,r4,r5):=H
 have A2:=ae.mk A20
 clear A20
 simp only [Option.some.injEq,Prod.mk.injEq] at H
 obtain ⟨rfl,rfl,rfl,rfl,rfl⟩:=H
 go_enter Tryz.func34,Tryz.ntmps34
 try go_wp2_with (first | ((with_reducible refine gm (N:=1) rfl ?_);refine gI ?hg (N:=1) ?hd (cs:=#[.int .i64 a0_0,.string a0_1,.string a0_2,.float .f64 a0_3,.int .i64 a0_4,.slice A0_5 l0_5.length c0_5]) (t:=67) ?hr ?_;(case hd=>rfl);(case hg=>rfl);(case hr=>first | (go_simp;done) | (go_simp;rfl));intro gb644 hg w3 hbox hb;have n0_:=ae.mk (bz (by repeat (first | (with_reducible first | exact HB.out | apply ah | apply ag | apply aj) | exact HB.out)) hb);have n1_:=ae.mk (hbox);have n2_:=ae.mk ((by rw [hg];exact (bQ (by repeat (first | (with_reducible first | exact HB.out | apply ah | apply ag | apply aj) | exact HB.out))):w.heap.size≤gb644));have n3_:=ae.mk ((by rw [hg];exact (bQ (by repeat (first | (with_reducible first | exact HB.out | apply ah | apply ag | apply aj) | exact HB.out))):w.heap.size≤gb644));clear HB;have HB:=n0_;have BK644:=n1_;have GW644:=n2_;have GE644:=n3_;clear n0_ n1_ n2_ n3_;clear hb hbox hg) | ((with_reducible refine gm (N:=2) rfl ?_);refine gI ?hg (N:=2) ?hd (cs:=#[.int .i64 0,.string (⟨#[]⟩:ByteArray),.string (⟨#[]⟩:ByteArray),.float .f64 0,.bool false]) (t:=39) ?hr ?_;(case hd=>rfl);(case hg=>rfl);(case hr=>first | (go_simp;done) | (go_simp;rfl));intro gb645 hg w4 hbox hb;have n0_:=ae.mk (df (g:=gb644) (o:=.cells #[.int .i64 a0_0,.string a0_1,.string a0_2,.float .f64 a0_3,.int .i64 a0_4,.slice A0_5 l0_5.length c0_5] 67 (0,0)) (by (with_reducible repeat (first | refine aW ?_ _ | refine bn ?_ | refine aJ ?_ _));exact BK644.out) hb);have n1_:=ae.mk (bz (by repeat (first | (with_reducible first | exact HB.out | apply ah | apply ag | apply aj | refine aA ?_ GE644.out) | exact HB.out)) hb);have n2_:=ae.mk (hbox);have n3_:=ae.mk ((by rw [hg];exact (bQ (by repeat (first | (with_reducible first | exact HB.out | apply ah | apply ag | apply aj | refine aA ?_ GE644.out) | exact HB.out))):w.heap.size≤gb645));have n4_:=ae.mk ((by rw [hg];exact (bQ (by repeat (first | (with_reducible first | exact HB.out | apply ah | apply ag | apply aj | refine aA ?_ GE644.out) | exact HB.out))):w.heap.size≤gb645));have n5_:=ae.mk ((by rw [hg];exact Nat.ne_of_lt (jy (g:=gb644) (o:=.cells #[.int .i64 a0_0,.string a0_1,.string a0_2,.float .f64 a0_3,.int .i64 a0_4,.slice A0_5 l0_5.length c0_5] 67 (0,0)) (by (with_reducible repeat (first | refine aW ?_ _ | refine bn ?_ | refine aJ ?_ _));exact BK644.out)):gb644≠gb645));have n6_:=ae.mk ((by rw [hg];exact Nat.ne_of_gt (jy (g:=gb644) (o:=.cells #[.int .i64 a0_0,.string a0_1,.string a0_2,.float .f64 a0_3,.int .i64 a0_4,.slice A0_5 l0_5.length c0_5] 67 (0,0)) (by (with_reducible repeat (first | refine aW ?_ _ | refine bn ?_ | refine aJ ?_ _));exact BK644.out)):gb645≠gb644));clear BK644;clear HB;have BK644:=n0_;have HB:=n1_;have BK645:=n2_;have GW645:=n3_;have GE645:=n4_;have NB644_645:=n5_;have NB645_644:=n6_;clear n0_ n1_ n2_ n3_ n4_ n5_ n6_;clear hb hbox hg))
 have n0_:=ae.mk (bn BK644.out)
 have n1_:=ae.mk (bn BK645.out)
 have n2_:=ae.mk (aj HB.out)
 clear BK644
 clear BK645
 clear HB
 have BK644:=n0_
 have BK645:=n1_
 have HB:=n2_
 clear n0_ n1_ n2_
 refine vW (n:=12) (S:=fun w'=>w'.cell? ⟨gb644,0,none⟩=some (.int .i64 a0_0)∧w'.cell? ⟨gb644,1,none⟩=some (.string a0_1)∧w'.cell? ⟨gb644,2,none⟩=some (.string a0_2)∧w'.cell? ⟨gb644,3,none⟩=some (.float .f64 a0_3)∧w'.cell? ⟨gb644,4,none⟩=some (.int .i64 a0_4)∧w'.cell? ⟨gb644,5,none⟩=some (.slice A0_5 l0_5.length c0_5)) (ds:=[]) #[false,false,false,false,false,false,false,false,false,false,false,false] (by kernel_rfl) rfl rfl ⟨(ak BK644.out 0).trans rfl,(ak BK644.out 1).trans rfl,(ak BK644.out 2).trans rfl,(ak BK644.out 3).trans rfl,(ak BK644.out 4).trans rfl,(ak BK644.out 5).trans rfl⟩ (fun hHeld=>?_);refine oU jl.Ez jl.Ei (fun HT_ HW_=>?_)
 generalize w4.drew=w5 at BK644 BK645 HB hHeld ⊢
 refine dV (i:=0) (N:=some 3) (v:=?_) (a':=?_) #[true,false,false,false,false,false,false,false,false,false,false,false] rfl rfl (dE HT_.out (by kernel_rfl)) (fun _ _ _ h=>h) (Or.inl ⟨by rfl,?_⟩) ?_ ?_
 rotate_left
 ·intro w'
  go_simp
  with_reducible rfl
 rotate_left
 ·simp only [Act.put,List.setIfInBounds_toArray,List.set_cons_zero,List.set_cons_succ,bW,cZ]
  rfl
 refine dV (i:=2) (N:=some 5) (v:=?_) (a':=?_) #[true,false,true,false,false,false,false,false,false,false,false,false] rfl rfl (dE HT_.out (by kernel_rfl)) (fun _ _ _ h=>h) (Or.inl ⟨by rfl,?_⟩) ?_ ?_
 rotate_left
 ·intro w'
  go_simp
  with_reducible rfl
 rotate_left
 ·simp only [Act.put,List.setIfInBounds_toArray,List.set_cons_zero,List.set_cons_succ,bW,cZ]
  rfl
 refine dV (i:=4) (N:=some 7) (v:=?_) (a':=?_) #[true,false,true,false,true,false,false,false,false,false,false,false] rfl rfl (dE HT_.out (by kernel_rfl)) (fun _ _ _ h=>h) (Or.inl ⟨by rfl,?_⟩) ?_ ?_
 rotate_left
 ·intro w'
  go_simp
  with_reducible rfl
 rotate_left
 ·simp only [Act.put,List.setIfInBounds_toArray,List.set_cons_zero,List.set_cons_succ,bW,cZ]
  rfl
 refine dV (i:=6) (N:=some 9) (v:=?_) (a':=?_) #[true,false,true,false,true,false,true,false,false,false,false,false] rfl rfl (dE HT_.out (by kernel_rfl)) (fun _ _ _ h=>h) (Or.inl ⟨by rfl,?_⟩) ?_ ?_
 rotate_left
 ·intro w'
  go_simp
  with_reducible rfl
 rotate_left
 ·simp only [Act.put,List.setIfInBounds_toArray,List.set_cons_zero,List.set_cons_succ,bW,cZ]
  rfl
 refine lw (i:=1) (N:=some 4) (v:=?_) (a':=?_) #[true,true,true,false,true,false,true,false,false,false,false,false] rfl rfl (iJ HT_.out HW_.out (by kernel_rfl)) (fun _ _ _ h=>h) (Or.inl ⟨by rfl,?_⟩) hHeld ?_ ?_
 rotate_left
 ·rintro w' ⟨s0,s1,s2,s3,s4,s5⟩
  go_simp
  with_reducible rfl
 rotate_left
 ·simp only [Act.put,List.setIfInBounds_toArray,List.set_cons_zero,List.set_cons_succ,bW,cZ]
  rfl
 refine lw (i:=3) (N:=some 6) (v:=?_) (a':=?_) #[true,true,true,true,true,false,true,false,false,false,false,false] rfl rfl (iJ HT_.out HW_.out (by kernel_rfl)) (fun _ _ _ h=>h) (Or.inl ⟨by rfl,?_⟩) hHeld ?_ ?_
 rotate_left
 ·rintro w' ⟨s0,s1,s2,s3,s4,s5⟩
  go_simp
  with_reducible rfl
 rotate_left
 ·simp only [Act.put,List.setIfInBounds_toArray,List.set_cons_zero,List.set_cons_succ,bW,cZ]
  rfl
 refine lw (i:=5) (N:=some 8) (v:=?_) (a':=?_) #[true,true,true,true,true,true,true,false,false,false,false,false] rfl rfl (iJ HT_.out HW_.out (by kernel_rfl)) (fun _ _ _ h=>h) (Or.inl ⟨by rfl,?_⟩) hHeld ?_ ?_
 rotate_left
 ·rintro w' ⟨s0,s1,s2,s3,s4,s5⟩
  go_simp
  with_reducible rfl
 rotate_left
 ·simp only [Act.put,List.setIfInBounds_toArray,List.set_cons_zero,List.set_cons_succ,bW,cZ]
  rfl
 refine lw (i:=7) (N:=some 10) (v:=?_) (a':=?_) #[true,true,true,true,true,true,true,true,false,false,false,false] rfl rfl (iJ HT_.out HW_.out (by kernel_rfl)) (fun _ _ _ h=>h) (Or.inl ⟨by rfl,?_⟩) hHeld ?_ ?_
 rotate_left
 ·rintro w' ⟨s0,s1,s2,s3,s4,s5⟩
  go_simp
  with_reducible rfl
 rotate_left
 ·simp only [Act.put,List.setIfInBounds_toArray,List.set_cons_zero,List.set_cons_succ,bW,cZ]
  rfl
 refine lw (i:=8) (N:=some 11) (v:=?_) (a':=?_) #[true,true,true,true,true,true,true,true,true,false,false,false] rfl rfl (iJ HT_.out HW_.out (by kernel_rfl)) (fun _ _ _ h=>h) (Or.inl ⟨by rfl,?_⟩) hHeld ?_ ?_
 rotate_left
 ·rintro w' ⟨s0,s1,s2,s3,s4,s5⟩
  go_simp
  with_reducible rfl
 rotate_left
 ·simp only [Act.put,List.setIfInBounds_toArray,List.set_cons_zero,List.set_cons_succ,bW,cZ]
  rfl
 refine BQ (i:=9) (N:=some 12) #[true,true,true,true,true,true,true,true,true,true,false,false] rfl rfl (uo HT_.out (by kernel_rfl)) (by decide) (fun K hK=>?_)
 refine Aq Tryz.func59 (by kernel_rfl) rfl #[.agg #[.int .i64 a0_0,.string a0_1,.string a0_2,.float .f64 a0_3,.int .i64 a0_4,.slice A0_5 l0_5.length c0_5]] (by rfl) rfl rfl (by (try simp only [List.map_toArray,List.map_cons,List.map_nil]);first | done | rfl | (simp only [List.length_drop,List.length_take];rfl)) ?_
 with_reducible refine (eF.calls a0_0 a0_1 a0_2 a0_3 a0_4 _ _ l0_5 t646 _ ?side1 ?side2 A2.out).mono ?_
 (case side1=>repeat (first | exact (Kd.dG HR0_5.out HB.out) | (with_reducible refine Kd.C_alloc ?_ _) | (with_reducible refine Kd.C_drewN ?_ _) | (with_reducible refine Kd.C_drew ?_)))
 (case side2=>exact HC0_5.out)
 rintro e w6 ⟨rfl,hb⟩
 refine ⟨_,rfl,?_⟩
 have n0_:=ae.mk (df (g:=gb644) (o:=.cells #[.int .i64 a0_0,.string a0_1,.string a0_2,.float .f64 a0_3,.int .i64 a0_4,.slice A0_5 l0_5.length c0_5] 67 (0,0)) (by (with_reducible repeat (first | refine aW ?_ _ | refine bn ?_ | refine aJ ?_ _));exact BK644.out) hb)
 have n1_:=ae.mk (df (g:=gb645) (o:=.cells #[.int .i64 0,.string (⟨#[]⟩:ByteArray),.string (⟨#[]⟩:ByteArray),.float .f64 0,.bool false] 39 (0,0)) (by (with_reducible repeat (first | refine aW ?_ _ | refine bn ?_ | refine aJ ?_ _));exact BK645.out) hb)
 have n2_:=ae.mk (bz (by repeat (first | (with_reducible first | exact HB.out | apply ah | apply ag | apply aj | refine aA ?_ GE644.out | refine aA ?_ GE645.out) | exact HB.out)) hb)
 clear BK644
 clear BK645
 clear HB
 have BK644:=n0_
 have BK645:=n1_
 have HB:=n2_
 clear n0_ n1_ n2_
 (try clear hb)
 (try clear hb2)
 (try clear hk)
 (try clear hi)
 refine hK.out _ _ ⟨(ak BK644.out 0).trans rfl,(ak BK644.out 1).trans rfl,(ak BK644.out 2).trans rfl,(ak BK644.out 3).trans rfl,(ak BK644.out 4).trans rfl,(ak BK644.out 5).trans rfl⟩ (fun hHeld=>?_)
 clear hK K
 refine zh (a':=?_) ?_ ?_
 rotate_left
 ·show Act.put _ (some 12) _=_
  simp only [Act.put,List.setIfInBounds_toArray,List.set_cons_zero,List.set_cons_succ,bW,cZ]
  rfl
 refine dV (i:=10) (N:=some 13) (v:=?_) (a':=?_) #[true,true,true,true,true,true,true,true,true,true,true,false] rfl rfl (dE HT_.out (by kernel_rfl)) (fun _ _ _ h=>h) (Or.inl ⟨by rfl,?_⟩) ?_ ?_
 rotate_left
 ·intro w'
  go_simp
  with_reducible rfl
 rotate_left
 ·simp only [Act.put,List.setIfInBounds_toArray,List.set_cons_zero,List.set_cons_succ,bW,cZ]
  rfl
 refine BQ (i:=11) (N:=none) #[true,true,true,true,true,true,true,true,true,true,true,true] rfl rfl (uo HT_.out (by kernel_rfl)) (by decide) (fun K hK=>?_)
 have hs7:w6.cell? ⟨gb645,0,none⟩=some (.int .i64 0):=(ak BK645.out 0).trans rfl
 have hfs7:=ax BK645.out 0
 have hns7_0:=NB644_645.out
 have hms7_0:=NB645_644.out
 have hs8:w6.cell? ⟨gb645,1,none⟩=some (.string (⟨#[]⟩:ByteArray)):=(ak BK645.out 1).trans rfl
 have hfs8:=ax BK645.out 1
 have hns8_0:=NB644_645.out
 have hms8_0:=NB645_644.out
 have hs9:w6.cell? ⟨gb645,2,none⟩=some (.string (⟨#[]⟩:ByteArray)):=(ak BK645.out 2).trans rfl
 have hfs9:=ax BK645.out 2
 have hns9_0:=NB644_645.out
 have hms9_0:=NB645_644.out
 have hs10:w6.cell? ⟨gb645,3,none⟩=some (.float .f64 0):=(ak BK645.out 3).trans rfl
 have hfs10:=ax BK645.out 3
 have hns10_0:=NB644_645.out
 have hms10_0:=NB645_644.out
 have hs11:w6.cell? ⟨gb645,4,none⟩=some (.bool false):=(ak BK645.out 4).trans rfl
 have hfs11:=ax BK645.out 4
 have hns11_0:=NB644_645.out
 have hms11_0:=NB645_644.out
 refine En (w1:=?_) (by rfl) rfl ?_ ?_
 rotate_left
 ·go_simp
  rfl
 refine hK.out _ _ ⟨((cell_far (p:=⟨gb645,_,none⟩) NB644_645.out _).trans (((cell_far (p:=⟨gb645,_,none⟩) NB644_645.out _).trans (((cell_far (p:=⟨gb645,_,none⟩) NB644_645.out _).trans (((cell_far (p:=⟨gb645,_,none⟩) NB644_645.out _).trans (((cell_far (p:=⟨gb645,_,none⟩) NB644_645.out _).trans (hHeld.1)))))))))),((cell_far (p:=⟨gb645,_,none⟩) NB644_645.out _).trans (((cell_far (p:=⟨gb645,_,none⟩) NB644_645.out _).trans (((cell_far (p:=⟨gb645,_,none⟩) NB644_645.out _).trans (((cell_far (p:=⟨gb645,_,none⟩) NB644_645.out _).trans (((cell_far (p:=⟨gb645,_,none⟩) NB644_645.out _).trans (hHeld.2.1)))))))))),((cell_far (p:=⟨gb645,_,none⟩) NB644_645.out _).trans (((cell_far (p:=⟨gb645,_,none⟩) NB644_645.out _).trans (((cell_far (p:=⟨gb645,_,none⟩) NB644_645.out _).trans (((cell_far (p:=⟨gb645,_,none⟩) NB644_645.out _).trans (((cell_far (p:=⟨gb645,_,none⟩) NB644_645.out _).trans (hHeld.2.2.1)))))))))),((cell_far (p:=⟨gb645,_,none⟩) NB644_645.out _).trans (((cell_far (p:=⟨gb645,_,none⟩) NB644_645.out _).trans (((cell_far (p:=⟨gb645,_,none⟩) NB644_645.out _).trans (((cell_far (p:=⟨gb645,_,none⟩) NB644_645.out _).trans (((cell_far (p:=⟨gb645,_,none⟩) NB644_645.out _).trans (hHeld.2.2.2.1)))))))))),((cell_far (p:=⟨gb645,_,none⟩) NB644_645.out _).trans (((cell_far (p:=⟨gb645,_,none⟩) NB644_645.out _).trans (((cell_far (p:=⟨gb645,_,none⟩) NB644_645.out _).trans (((cell_far (p:=⟨gb645,_,none⟩) NB644_645.out _).trans (((cell_far (p:=⟨gb645,_,none⟩) NB644_645.out _).trans (hHeld.2.2.2.2.1)))))))))),((cell_far (p:=⟨gb645,_,none⟩) NB644_645.out _).trans (((cell_far (p:=⟨gb645,_,none⟩) NB644_645.out _).trans (((cell_far (p:=⟨gb645,_,none⟩) NB644_645.out _).trans (((cell_far (p:=⟨gb645,_,none⟩) NB644_645.out _).trans (((cell_far (p:=⟨gb645,_,none⟩) NB644_645.out _).trans (hHeld.2.2.2.2.2))))))))))⟩ (fun hHeld=>?_)
 clear hK K
 refine zq (tY HT_.out (by kernel_rfl)) ?_
 try go_wp2
 refine bodyPost_ret (results_cell_row rfl _ _ gb645 39 #[.int .i64 a0_0,.string a0_1,.string a0_2,.float .f64 a0_3,.bool t646] (0,0) _ rfl (by (with_reducible repeat (first | refine aW ?_ _ | refine bn ?_ | refine aJ ?_ _));refine bU (cs:=#[.int .i64 a0_0,.string a0_1,.string a0_2,.float .f64 a0_3,.bool false]) ?_ 4 _ rfl;(with_reducible repeat (first | refine aW ?_ _ | refine bn ?_ | refine aJ ?_ _));refine bU (cs:=#[.int .i64 a0_0,.string a0_1,.string a0_2,.float .f64 0,.bool false]) ?_ 3 _ rfl;(with_reducible repeat (first | refine aW ?_ _ | refine bn ?_ | refine aJ ?_ _));refine bU (cs:=#[.int .i64 a0_0,.string a0_1,.string (⟨#[]⟩:ByteArray),.float .f64 0,.bool false]) ?_ 2 _ rfl;(with_reducible repeat (first | refine aW ?_ _ | refine bn ?_ | refine aJ ?_ _));refine bU (cs:=#[.int .i64 a0_0,.string (⟨#[]⟩:ByteArray),.string (⟨#[]⟩:ByteArray),.float .f64 0,.bool false]) ?_ 1 _ rfl;(with_reducible repeat (first | refine aW ?_ _ | refine bn ?_ | refine aJ ?_ _));refine bU (cs:=#[.int .i64 0,.string (⟨#[]⟩:ByteArray),.string (⟨#[]⟩:ByteArray),.float .f64 0,.bool false]) ?_ 0 _ rfl;(with_reducible repeat (first | refine aW ?_ _ | refine bn ?_ | refine aJ ?_ _));exact BK645.out) Tryz.underlying39 rfl (by kernel_rfl)) rfl ?_
 exact ⟨by first | rfl | (simp [aZ,bf] <;> rfl) | (simp [*,aZ,bf] <;> rfl),by repeat (first | (with_reducible first | exact HB.out | apply ah | apply ag | apply aj | refine aA ?_ GE644.out | refine aA ?_ GE645.out) | exact HB.out)⟩
end Go.Proofs.YtpgfjbimodnkeaaGreatDoor.Q
namespace Go.Proofs.YtpgfjbimodnkeaaGreatDoor.Dec
open Go Go.RowKit Go.Proofs.YtpgfjbimodnkeaaGreatDoorW.PrintWords Go.Proofs.YtpgfjbimodnkeaaGreatDoorW.PrintLast Go.Proofs.YtpgfjbimodnkeaaGreatDoorW.PrintMore Go.Proofs.YtpgfjbimodnkeaaGreatDoor.Scan
open Go.Sort (Holds putRow)
open Go.Proofs (encStr)
theorem uZ (w:World) (r:Rs):Calls Tryz.prog 34 #[resV r.k r.raw r.str r.num r.idx] w fun e w'=>e = .returned (.agg #[.int .i64 r.k,.string r.raw,.string r.str,.float .f64 r.num,.bool r.ex])∧Below w.heap.size w w':=by
 refine Q.jl.calls r.k r.raw r.str r.num r.idx none 0 [] r.k r.raw r.str r.num r.ex w ?_ (Nat.le_refl _) ?_
 ·exact Kd.Dj _ _
 ·unfold Q.jl.f Q.eF.f Rs.ex
  by_cases h:r.k=0
  ·rw [if_pos h,if_pos h];rfl
  ·rw [if_neg h,if_neg h];rfl
theorem qH (w:World) (r:Rs) (x:Bool):Calls Tryz.prog 31 #[.agg #[.int .i64 r.k,.string r.raw,.string r.str,.float .f64 r.num,.bool x]] w fun e w'=>e = .returned (resV r.k r.raw r.str r.num 0)∧Below w.heap.size w w':=by
 go_enter Tryz.func31,Tryz.ntmps31
 go_wp2_with (fail)
 exact bodyPost_ret (results_cell_row rfl _ _ (w.heap.size+1) 67 (gW ⟨r.k,r.raw,r.str,r.num,0⟩) (0,0) _ rfl (oz w _ _ 39 67).2 Tryz.underlying67 rfl (by kernel_rfl)) rfl ⟨rfl,ah (ah (Below.refl _ _) _) _⟩
theorem info9:(Tryz.prog.info? 9).map (fun i=>(i.zero,i.size,i.bytes))=some (some (.string ⟨#[]⟩),1,16):=by kernel_rfl
theorem Dw:(Tryz.prog.info? 39).map (fun i=>(i.zero,i.size,i.bytes))=some (some (.agg #[.int .i64 0,.string ⟨#[]⟩,.string ⟨#[]⟩,.float .f64 0,.bool false]),5,56):=by kernel_rfl
structure lQ:Prop where
 some_:∀ (blk off cap:Nat) (ss:List (List UInt8)) (w:World),Holds encStr w blk off ss.toArray→blk < w.heap.size→ss.length < 4611686018427387904 →
  Calls Tryz.prog 43 #[.slice (some ⟨blk,off,none⟩) ss.length cap] w fun e w'=>e = .returned (.tuple #[])∧∃ n os,w'=Go.Sort.grow (putRow encStr (Sort.ahead w n) blk off (ss.mergeSort fun x y=>decide (x≤y)).toArray) os
 none_:∀ (p:Option Addr) (cap:Nat) (w:World),Calls Tryz.prog 43 #[.slice p 0 cap] w fun e w'=>e = .returned (.tuple #[])∧w'=w
theorem nJ {H:Type} {P:Program} {k:TypeId} {R:Value→Option (DataW H × List MemPlace)} {w:World} {b r:Nat} {D:DataW H} {base:Nat} {e:TypeId} {size:Nat} {v:Value} {m:Nat} {xs:List Value}
 (h:w.ownsRow base e size v m xs) (hr:w.ownsMap P k R b r D):some b≠v.ownBlock:=by
 obtain ⟨es,clock,hb,_⟩:=hr
 rcases h.2 with ⟨rfl,_⟩ | ⟨g,cap,cur,rfl,_,hg,_⟩
 ·simp [Value.ownBlock]
 ·intro e1
  have:b=g:=by simpa [Value.ownBlock] using e1
  subst this
  rw [hb] at hg
  cases hg
theorem Bj (vr:Rs):∀ u ∈ vr.cells,u.oneCell'=true:=by
 intro u hu
 simp only [Rs.cells,List.mem_cons,List.not_mem_nil,or_false] at hu
 rcases hu with rfl | rfl | rfl | rfl | rfl <;> rfl
theorem yE (w:World) (r:Rs):∀ j u,r.cells[j]?=some u→(w.alloc (.cells #[.int .i64 r.k,.string r.raw,.string r.str,.float .f64 r.num,.bool r.ex] 39)).cell? ((⟨w.heap.size,0,none⟩:Addr).add j)=some u:=by
 intro j u h
 have:=ak (fM w (.cells #[.int .i64 r.k,.string r.raw,.string r.str,.float .f64 r.num,.bool r.ex] 39)) j
 rw [← h,show (⟨w.heap.size,0,none⟩:Addr).add j=⟨w.heap.size,j,none⟩ by cases j <;> simp [Addr.add],this]
 simp [Rs.cells]
theorem kH {w:World} {base:Nat} {e:TypeId} {size:Nat} {v:Value} {n:Nat} {xs:List Value} (h:w.ownsRow base e size v n xs):∃ (A:Option Addr) (c:Nat),v = .slice A n c∧(0 < n→∃ g,A=some ⟨g,0,none⟩):=by
 rcases h.2 with ⟨rfl,rfl⟩ | ⟨g,cap,cur,rfl,_,hg,_⟩
 ·exact ⟨none,0,rfl,fun h=>absurd h (by decide)⟩
 ·exact ⟨_,cap,rfl,fun _=>⟨g,rfl⟩⟩
theorem Ai (hS:lQ) (w0 w:World) (v:Value) (ss:List (List UInt8)) (b n:Nat) (D:DataW Value) (h:w.ownsRow w0.heap.size 9 1 v ss.length (ss.map encStr)) (hm:w.ownsMap Tryz.prog 9 RV b n D) (hb:Below w0.heap.size w0 w) (hl:ss.length≤100000) :
 Calls Tryz.prog 43 #[v] w fun e w'=>e = .returned (.tuple #[])∧w'.ownsRow w0.heap.size 9 1 v ss.length ((ss.mergeSort fun x y=>decide (x≤y)).map encStr)∧w'.ownsMap Tryz.prog 9 RV b n D∧Below w0.heap.size w0 w':=by
 have hne:=nJ h hm
 rcases h.2 with ⟨rfl,h0⟩ | ⟨g,cap,cur,rfl,hbase,hg,h1,h2,h3,h4⟩
 ·obtain rfl:=List.eq_nil_of_length_eq_zero h0
  refine (hS.none_ none 0 w).mono ?_
  rintro e w' ⟨rfl,rfl⟩
  exact ⟨rfl,by simpa using h,hm,hb⟩
 ·have hH:Holds encStr w g 0 ss.toArray:=holds_of_block hg (by simpa using h4)
  have hgl:g < w.heap.size:=(Array.getElem?_eq_some_iff.1 hg).1
  refine (hS.some_ g 0 cap ss w hH hgl (by omega)).mono ?_
  rintro e w' ⟨rfl,nn,os,rfl⟩
  exact ⟨rfl,ownsRow_sorted (by simp) hbase hg h1 h2 h3,hm.kept (grownBy_sorted _) hne,hb.grown (grownBy_sorted _) hb.size (fun j hj=>by cases hj;exact hbase)⟩
structure Dx (w:World) (ps:List (Rs × Rs)) (v1 v2:Value) (ts:List (List UInt8)) (vs:List Rs) (W:World):Prop where
 srt:Srt ps ts
 len:vs.length=ts.length
 at_:∀ (i:Nat) (x:List UInt8) (r:Rs),ts[i]?=some x→vs[i]?=some r→∀ z,(mapD ps).atKey (.string x) z = .held (rsA r)
 r1:W.ownsRow w.heap.size 9 1 v1 ts.length (ts.map encStr)
 r2:W.ownsRow w.heap.size 39 5 v2 ts.length (vs.flatMap Rs.cells)
 bel:Below w.heap.size w W
structure OL (w:World) (b:Nat) (ps:List (Rs × Rs)) (ts:List (List UInt8)) (v1:Value) (kq i:Nat) (v2:Value) (vs:List Rs) (W:World):Prop where
 kq:kq=ts.length - i
 le:i≤ts.length
 len:vs.length=i
 at_:∀ (j:Nat) (x:List UInt8) (r:Rs),ts[j]?=some x→vs[j]?=some r→∀ z,(mapD ps).atKey (.string x) z = .held (rsA r)
 r1:W.ownsRow w.heap.size 9 1 v1 ts.length (ts.map encStr)
 r2:W.ownsRow w.heap.size 39 5 v2 i (vs.flatMap Rs.cells)
 mp:W.ownsMap Tryz.prog 9 RV b ps.length (mapD ps)
 bel:Below w.heap.size w W
theorem OL.next {w W w5 w6:World} {b:Nat} {ps:List (Rs × Rs)} {ts:List (List UInt8)} {v1 v2 v':Value} {kq i:Nat} {vs:List Rs} {y:List UInt8} {r:Rs} {o:Obj} (h:OL w b ps ts v1 kq i v2 vs W) (hy:ts[i]?=some y) (hat:∀ z,(mapD ps).atKey (.string y) z = .held (rsA r)) (hB:Below W.heap.size W w5)
 (ho:w6.ownsRow w.heap.size 39 5 v' (i+1) (vs.flatMap Rs.cells ++ r.cells)) (hg:(w5.alloc o).grownBy w6 v2.ownBlock):OL w b ps ts v1 (ts.length - (i+1)) (i+1) v' (vs ++ [r]) w6:=by
 have h2:=(iq h.r2 hB).alloc o
 have hi:i < ts.length:=(List.getElem?_eq_some_iff.1 hy).1
 have hm:(w5.alloc o).ownsMap Tryz.prog 9 RV b ps.length (mapD ps):=(h.mp.kept (jJ hB none) (by simp)).alloc o
 refine ⟨rfl,hi,by rw [List.length_append,h.len];rfl,fun j x q h1 h3=>?_,yC ((iq h.r1 hB).alloc o) hg (vw ((iq h.r1 hB).alloc o) h2 (by decide)),?_,hm.kept hg (nJ h2 hm),?_⟩
 ·rcases Nat.lt_or_ge j i with hj | hj
  ·rw [List.getElem?_append_left (by rw [h.len];exact hj)] at h3
   exact h.at_ j x q h1 h3
  ·obtain ⟨hj2,_⟩:=List.getElem?_eq_some_iff.1 h3
   rw [List.length_append,h.len] at hj2
   obtain rfl:j=i:=by have:([r]:List Rs).length=1:=rfl;omega
   rw [List.getElem?_append_right (by rw [h.len];exact Nat.le_refl _),h.len,Nat.sub_self] at h3
   obtain rfl:r=q:=by simpa using h3
   obtain rfl:y=x:=by rw [hy] at h1;exact Option.some.inj h1
   exact hat
 ·rw [List.flatMap_append]
  simpa using ho
 ·have hb5:=bz h.bel hB
  exact (hb5.alloc hb5.size o).grown hg (by have:=hb5.size;simp;omega) (fun j hj=>(h2.lt j hj).1)
theorem nI:Maps.Keyed Tryz.prog 9:=Maps.string_keyed Tryz.underlying9
theorem um (w:World):(zeroValue 67).run Tryz.prog w = .ok (rsA rs0) w:=by kernel_rfl
theorem oC (hS:lQ) (w:World) (r:Rs) (x:Bool) (Pp:List (Rs × Rs)→Prop) (hpp:∀ ps,Pp ps→ps.length≤100000)
 (hmap:∀ W,Below w.heap.size w W→Calls Tryz.prog 42 #[resV r.k r.raw r.str r.num 0] W fun e w'=>∃ b ps,e = .returned (.map (some b))∧Pp ps∧W.heap.size≤b∧w'.ownsMap Tryz.prog 9 RV b ps.length (mapD ps)∧Below W.heap.size W w') :
 Calls Tryz.prog 20 #[.agg #[.int .i64 r.k,.string r.raw,.string r.str,.float .f64 r.num,.bool x]] w fun e w'=>∃ v1 v2 ts vs ps,e = .returned (.tuple #[v1,v2])∧Pp ps∧Dx w ps v1 v2 ts vs w':=by
 obtain ⟨i0,hi,hz0,hz1,hz2⟩:=info_parts info9
 have hgo:=fun W=>qH W r x
 have hl0:=Nat.le_refl w.heap.size
 go_enter Tryz.func20,Tryz.ntmps20
 go_wp2_with (fail)
 with_reducible refine (hgo _).mono ?_
 rintro e w1 ⟨rfl,hB1⟩
 have hB2:Below w.heap.size w w1:=dR (ah (Below.refl _ _) _) (by simp) hB1
 clear hgo
 replace hB1:=ae.mk hB1
 replace hB2:=ae.mk hB2
 go_wp2_with (fail)
 with_reducible refine (hmap _ hB2.out).mono ?_
 rintro e w2 ⟨b,ps,rfl,hPp,hbl,hown,hB3⟩
 have hps:=hpp ps hPp
 replace hPp:=ae.mk hPp
 have hB4:=bz hB2.out hB3
 have hsz:Maps.size (mapD ps)≤100000:=Nat.le_trans hown.size_le hps
 have hbw:w.heap.size≤b:=Nat.le_trans hB2.out.size hbl
 clear hmap hB3
 replace hB4:=ae.mk hB4
 replace hbl:=ae.mk hbl
 go_wp2_with (first | (at_range;refine wpList_range_own _ rfl _ 74 rfl 9 67 nI Tryz.underlying74 RV b ps.length (mapD ps) rfl hown ?_;intro w0 hrg0 hg0 hs0))
 go_frame
 have hbs:=hown.lt
 have hbw2:ae (Below w.heap.size w w0):=⟨hB4.out.grown hg0 hB4.out.size (fun j hj=>by cases hj)⟩
 have hw2:=hB4.out.size
 go_loopw [5] (fun v wr=>∃ (left:Lit→Bool) (cnt:Nat) (ss:List (List UInt8)),wr.ranges Tryz.prog 9 RV b w2.heap.size ps.length (mapD ps) left cnt∧ss.length+cnt≤100000 ∧
  wr.ownsRow w.heap.size 9 1 v ss.length (ss.map encStr)∧Collected (mapD ps) left ss∧Below w.heap.size w wr∧w2.heap.size < wr.heap.size ) (fun _ wr=>wr.rangeLeft b w2.heap.size)
 case atStart =>
  exact ⟨_,_,[],hrg0,by simpa using hsz,World.ownsRow_nil _ _ _ _,Collected.start _,hbw2.out,by omega⟩
 case round =>
  obtain ⟨left,cnt,ss,hrg,hcs,hrow,hC,hnx,hlow⟩:=hrel
  clear hrg0 hg0 hs0 hbw2
  go_wp2_with (first | (at_next;refine wpList_next_ranges _ rfl _ rfl 9 nI RV encStr (id:Value→Value) (fun key kl hk=>by obtain ⟨x,hx,_⟩:=Maps.keyOf_str Tryz.underlying9 hk;exact ⟨x,hx⟩) (fun v y hv=>⟨v,rfl⟩) b w2.heap.size ps.length _ _ _ rfl hrg ?_ ?_))
  ·intro hc0 hl0
   obtain ⟨ts,hts⟩:∃ ts,(ss.mergeSort fun x y=>decide (x≤y))=ts:=⟨_,rfl⟩
   have hsort:=Ai hS w wr u5 ss b ps.length (mapD ps) hrow hrg.owns hnx (by omega)
   have hsrt:Srt ps ts:=by
    rw [← hts]
    exact DD hC.1 fun y=>by rw [hC.2 y,hl0];simp
   have htl:ts.length=ss.length:=by rw [← hts];exact (List.mergeSort_perm _ _).length_eq
   rw [hts,← htl] at hsort
   have htn:ts.length≤100000:=by omega
   obtain ⟨A,c,rfl,hA⟩:=kH hrow
   rw [← htl] at hsort hA ⊢
   clear hrow hrg hC hts hl0 hlow hcs
   replace hsrt:=ae.mk hsrt
   replace htl:=ae.mk htl
   go_wp2_with (fail)
   with_reducible refine hsort.mono ?_
   rintro e w3 ⟨rfl,hr1,hm3,hb3⟩
   clear hsort
   replace hr1:=ae.mk hr1
   replace hm3:=ae.mk hm3
   replace hb3:=ae.mk hb3
   go_wp2_with (fail)
   go_loopg [7,27] (ts.length) (fun kq v7 v27 W=>∃ (i:Nat) (vs:List Rs),v27 = .int .i64 i∧ae (OL w b ps ts (.slice A ts.length c) kq i v7 vs W))
   case atStart=>exact ⟨0,[],rfl,⟨⟨by omega,by omega,rfl,fun j x r _ h=>absurd h (by simp),hr1.out,World.ownsRow_nil _ _ _ _,hm3.out,hb3.out⟩⟩⟩
   case round =>
    obtain ⟨i,vs,rfl,hL⟩:=hrel
    clear hr1 hm3 hb3 hnx hc0
    obtain ⟨k0,ki,kz0,kz1,kz2⟩:=info_parts Dw
    rcases Nat.lt_or_ge i ts.length with hlt | hge
    ·obtain ⟨g,rfl⟩:=hA (by omega)
     obtain ⟨y,hy⟩:∃ y,ts[i]?=some y:=⟨_,List.getElem?_eq_getElem hlt⟩
     have hcell:wr.cell? ⟨g,i,none⟩=some (.string ⟨y.toArray⟩):=(hL.out.r1.cellAt i (by omega)).trans (by rw [List.getElem?_map,hy];rfl)
     have e1:decide ((i:Int) < (ts.length:Int))=true:=decide_eq_true (by omega)
     have e2:decide (i < ts.length)=true:=decide_eq_true (by omega)
     have j0:((0:Int)≤(i:Int))=True:=eq_true (by omega)
     have j1:((i:Int) < (ts.length:Int))=True:=eq_true (by omega)
     have j2:(i < ts.length)=True:=eq_true hlt
     have hmem:=(hsrt.out.mem y).1 (List.mem_of_getElem? hy)
     obtain ⟨j,q,hq1,hq2,hq3,hat⟩:=uD hmem
     have hyl:y.length≤maxLen:=by
      obtain ⟨es,hD,hko⟩:=hL.out.mp.keysOf
      rw [hD,Maps.has_eq] at hmem
      obtain ⟨p,hp,hp2⟩:=List.any_eq_true.1 hmem
      obtain ⟨v,hv⟩:=hko p hp
      obtain ⟨z,_,hz,hl⟩:=Maps.keyOf_str Tryz.underlying9 hv
      rw [hz] at hp2
      have:z=y:=by simpa [Lit.sameKey] using hp2
      rw [← this]
      exact hl
     have hkey:keyOf Tryz.prog 9 (.string ⟨y.toArray⟩)=some (.string y):=_root_.Go.WideMaps.keyOf_string_mk Tryz.underlying9 (by show y.toArray.size≤_;simpa using hyl)
     have hm:=hL.out.mp
     have hkq:=ae.mk hL.out.kq
     have hgj:=fun W=>uZ W q.2
     generalize hqq:q.2=rq at hgj hat
     have hqq:=ae.mk hqq
     replace hq1:=ae.mk hq1
     replace hq2:=ae.mk hq2
     replace hy:=ae.mk hy
     clear hmem hq3
     go_wp2_with (first | (at_lookup;refine Az _ rfl _ _ 74 rfl 9 67 nI Tryz.underlying74 (um _) b ps.length ps rfl hm _ y rfl hkey rq hat ?_) | (go_at_call 34;(with_reducible refine (hgj _).mono ?_);rintro e w5 ⟨rfl,hB5⟩;have hr2:=iq hL.out.r2 hB5;replace hB5:=ae.mk hB5) | (at_builtin;refine wpList_append_own _ rfl _ _ 54 rfl w.heap.size 39 k0 (.agg #[.int .i64 0,.string ⟨#[]⟩,.string ⟨#[]⟩,.float .f64 0,.bool false]) 5 56 Tryz.underlying54 ki kz0 kz1 kz2 rfl (by decide) _ _ _ rfl (hr2.alloc _) ⟨w5.heap.size,0,none⟩ 1 1 rq.cells rfl rfl (yE w5 rq) (Bj rq) (by unfold maxLen;omega) (by omega) (by have:=hL.out.bel.size;have:=hB5.out.size;simp;omega) ?_;intro v' w6 hown' hg6 hnil6;go_frame))
     have hnx3:=ae.mk (hL.out.next hy.out hat hB5.out hown' hg6)
     clear hown' hg6 hnil6 hr2
     go_roundg (ts.length - (i+1))
     case measure=>have:=hkq.out;omega
     case rel=>exact ⟨i+1,vs ++ [rq],by first | rfl | (congr 1;omega),hnx3⟩
    ·have e1:decide ((i:Int) < (ts.length:Int))=false:=decide_eq_false (by omega)
     have e2:decide (i < ts.length)=false:=decide_eq_false (by omega)
     go_wp2_with (fail)
     go_ret2
     have hi:i=ts.length:=by have:=hL.out.le;omega
     exact ⟨_,_,ts,vs,ps,rfl,hPp.out,⟨hsrt.out,by rw [hL.out.len,hi],hL.out.at_,hL.out.r1,hi ▸ hL.out.r2,hL.out.bel⟩⟩
  ·intro xk c kl yd yp w3 cnt2 hkey hlk hv hat hrg2 hlt hg2 hs2 hen
   obtain ⟨x',ex,rfl,hxl⟩:=Maps.keyOf_str Tryz.underlying9 hkey
   obtain rfl:xk=x':=encStr_inj ex
   have hrow2:=hrow.kept hg2 (Or.inr (row_ne_iter hrow hrg).symm)
   have hnx2:=ae.mk (hnx.grown hg2 hnx.size (fun j hj=>by cases hj;exact hw2))
   clear hs2
   go_wp2_with (first | (at_builtin;refine wpList_append_own _ rfl _ _ 22 rfl w.heap.size 9 i0 (.string ⟨#[]⟩) 1 16 Tryz.underlying22 hi hz0 hz1 hz2 rfl (by decide) _ _ _ rfl (hrow2.alloc _) ⟨w3.heap.size,0,none⟩ 1 1 [encStr xk] rfl rfl (cell_one_new _ _ _) (by simp [Value.oneCell',encStr]) (by unfold maxLen at *;omega) (by omega) (by have:=hnx2.out.size;simp;omega) ?_;intro v' w4 hown' hg3 hnil3;go_frame))
   have hg3':(w3.alloc (.cells #[encStr xk] 9)).grownBy w4 u5.ownBlock:=hg3
   clear hg3 hnil3
   have hrg3:=(hrg2.alloc (.cells #[encStr xk] 9)).kept hg3' (nJ hrow2 hrg2.owns) (row_ne_iter hrow2 hrg2)
   have hlw:=hnx2.out.size
   have hs4:=hg3'.size
   have hs2:=hg2.size
   simp only [World.alloc,Array.size_push] at hs4
   refine ⟨⟨_,cnt2,ss ++ [xk],hrg3,by simp;omega,by simpa using hown',hC.step hlk hat,?_,by omega⟩,?_⟩
   ·exact (hnx2.out.alloc hlw _).grown hg3' (by simp;omega) (fun j hj=>(hrow2.lt j hj).1)
   ·rw [hrg3.left_eq,hrg.left_eq];exact hlt
theorem wC (hS:lQ) (w:World) (r:Rs) (x:Bool)
 (hmap:∀ W,Below w.heap.size w W→Calls Tryz.prog 42 #[resV r.k r.raw r.str r.num 0] W fun e w'=>e = .returned (.map none)∧Below W.heap.size W w') :
 Calls Tryz.prog 20 #[.agg #[.int .i64 r.k,.string r.raw,.string r.str,.float .f64 r.num,.bool x]] w fun e w'=>∃ v1 v2 ts vs,e = .returned (.tuple #[v1,v2])∧Dx w [] v1 v2 ts vs w':=by
 have hgo:=fun W=>qH W r x
 have hno:=fun W=>hS.none_ none 0 W
 have hl0:=Nat.le_refl w.heap.size
 go_enter Tryz.func20,Tryz.ntmps20
 go_wp2_with (fail)
 with_reducible refine (hgo _).mono ?_
 rintro e w1 ⟨rfl,hB1⟩
 have hB2:Below w.heap.size w w1:=dR (ah (Below.refl _ _) _) (by simp) hB1
 clear hgo
 replace hB1:=ae.mk hB1
 replace hB2:=ae.mk hB2
 go_wp2_with (fail)
 with_reducible refine (hmap _ hB2.out).mono ?_
 rintro e w2 ⟨rfl,hB3⟩
 have hB4:=bz hB2.out hB3
 clear hmap hB3
 replace hB4:=ae.mk hB4
 have hrg:=run_range_nilMap (P:=Tryz.prog) w2 74 9 67 Tryz.underlying74
 have hnx:∀ ty,(Instr.next (.pointer (some ⟨w2.heap.size,0,none⟩)) false ty).run Tryz.prog (w2.alloc (.mapIter none 0 #[] 0))=_:=fun ty=>run_next_nilMap _ ty 0 0 #[]
 go_wp2_with (fail)
 refine wp_loop_rounds 1 ?_
 rw [rounds_succ]
 go_wp2_with (fail)
 with_reducible refine (hno _).mono ?_
 rintro e w3 ⟨rfl,rfl⟩
 clear hno
 go_wp2_with (fail)
 refine wp_loop_rounds 1 ?_
 rw [rounds_succ]
 go_wp2_with (fail)
 go_ret2
 exact ⟨_,_,[],[],rfl,⟨⟨List.Pairwise.nil,fun y=>by simp [mapD,Maps.has]⟩,rfl,fun i y q h=>absurd h (by simp),World.ownsRow_nil _ _ _ _,World.ownsRow_nil _ _ _ _,ah hB4.out _⟩⟩
open Go Go.RowKit Go.Proofs.YtpgfjbimodnkeaaGreatDoorW.PrintWords Go.Proofs.YtpgfjbimodnkeaaGreatDoorW.PrintLast Go.Proofs.YtpgfjbimodnkeaaGreatDoorW.PrintMore Go.Proofs.YtpgfjbimodnkeaaGreatDoor.Scan Go.Proofs.YtpgfjbimodnkeaaGreatDoor.Q
structure TL (hi:Nat) (w:World) (kq p:Nat) (W:World):Prop where
 kq:kq=hi - p
 lo:1≤p
 hi:p≤hi
 drw:ai w W
theorem xC (s:ByteArray):s.extract 0 s.size=s:=by simp
theorem uy (w:World) (s:ByteArray) (hs:s.size≤65536) (m:Nat) (h1:1≤m) (hm:m≤s.size) (hall:∀ j:Nat,1≤j→j < m→97≤bt s j∧bt s j≤122) (hend:bt s m < 97∨122 < bt s m) :
 Calls Tryz.prog 70 #[.string s] w fun e w'=>e = .returned (.string (s.extract 0 m))∧Below w.heap.size w w':=by
 have sl1:((0:Int)≤(m:Int))=True:=eq_true (by omega)
 have sl2:((m:Int)≤(s.size:Int))=True:=eq_true (by omega)
 replace hall:=ae.mk hall
 replace hend:=ae.mk hend
 go_enter Tryz.func70,Tryz.ntmps70
 go_wp2_with (fail)
 go_loopg [3] (m - 1) (fun kq v3 W=>∃ p:Nat,v3 = .int .i64 p∧ae (TL m w kq p W))
 case atStart=>exact ⟨1,rfl,⟨⟨rfl,Nat.le_refl _,h1,⟨0,rfl⟩⟩⟩⟩
 case round =>
  obtain ⟨p,rfl,hL⟩:=hrel
  obtain ⟨hkq,hp1,hpm,hd⟩:=hL.out
  clear hL
  replace hkq:=ae.mk hkq
  replace hd:=ae.mk hd
  by_cases hps:p < s.size
  ·have j0:((0:Int)≤(p:Int))=True:=eq_true (by omega)
   have j1:((p:Int) < (s.size:Int))=True:=eq_true (by omega)
   have j2:(p < s.size)=True:=eq_true hps
   have j3:decide ((p:Int) < (s.size:Int))=true:=decide_eq_true (by omega)
   have t0:((s[p]'hps).toNat:Int)=bt s p:=by simpa using dI s p (by simpa using hps)
   by_cases hpe:p=m
   ·subst hpe
    have he:=hend.out
    generalize bt s p=c at *
    rcases he with he | he
    ·have e1:decide (c < 97)=true:=decide_eq_true he
     go_wp2_with (fail)
     go_ret
     exact ⟨rfl,hd.out.below⟩
    ·have e1:decide (c < 97)=false:=decide_eq_false (by omega)
     have e2:decide (122 < c)=true:=decide_eq_true he
     go_wp2_with (fail)
     go_ret
     exact ⟨rfl,hd.out.below⟩
   ·have ha:=hall.out p hp1 (by omega)
    generalize bt s p=c at *
    have e1:decide (c < 97)=false:=decide_eq_false (by omega)
    have e2:decide (122 < c)=false:=decide_eq_false (by omega)
    clear ha
    go_wp2_with (fail)
    go_roundg (m - (p+1))
    case measure=>have:=hkq.out;omega
    case rel=>exact ⟨p+1,by first | rfl | (congr 1;omega),⟨⟨rfl,by omega,by omega,hd.out⟩⟩⟩
  ·have hpm2:p=m:=by omega
   have hms:m=s.size:=by omega
   have j3:decide ((p:Int) < (s.size:Int))=false:=decide_eq_false (by omega)
   have j4:decide (p < s.size)=false:=decide_eq_false (by omega)
   replace hpm2:=ae.mk hpm2
   replace hms:=ae.mk hms
   go_wp2_with (fail)
   go_ret
   exact ⟨by rw [hms.out,xC];rfl,hd.out.below⟩
theorem vz (w:World) (B:Nat) (s:ByteArray) (hs:s.size≤65536) (m:Nat) (h1:1≤m) (hm:m≤s.size) (hsp:gY s kz 0 m) (hend:m=s.size∨bt s m≤32∨bt s m=44∨bt s m=93∨bt s m=125) (hT:Tabs B w) :
 Calls Tryz.prog 69 #[.string s] w fun e w'=>(∃ b,e = .returned (.tuple #[.string (s.extract 0 m),.float .f64 b]))∧Below w.heap.size w w':=by
 have sl1:((0:Int)≤(m:Int))=True:=eq_true (by omega)
 have sl2:((m:Int)≤(s.size:Int))=True:=eq_true (by omega)
 have hns:=zo hsp hm
 have hxs:(s.extract 0 m).size≤1000000:=by rw [ByteArray.size_extract];omega
 have hpf:∀ W,ai w W→Calls Tryz.prog 87 #[.string (s.extract 0 m),.int .i64 64] W fun e w'=>Dq e∧Below w.heap.size w w':=fun W h =>
  (vY W B (s.extract 0 m) hxs hns (hT.below (iy h.below hT.size))).mono (fun e w' hh=>⟨hh.1,bz h.below hh.2⟩)
 have hall:∀ j:Nat,1≤j→j < m→kz (bt s j):=fun j _ h=>hsp.all j (by omega) h
 replace hsp:=ae.mk hsp
 replace hall:=ae.mk hall
 replace hend:=ae.mk hend
 replace hT:=ae.mk hT
 replace hns:=ae.mk hns
 replace hxs:=ae.mk hxs
 go_enter Tryz.func69,Tryz.ntmps69
 go_wp2_with (fail)
 go_loopg [4] (m - 1) (fun kq v4 W=>∃ p:Nat,v4 = .int .i64 p∧ae (TL m w kq p W))
 case atStart=>exact ⟨1,rfl,⟨⟨rfl,Nat.le_refl _,h1,⟨0,rfl⟩⟩⟩⟩
 case round =>
  obtain ⟨p,rfl,hL⟩:=hrel
  obtain ⟨hkq,hp1,hpm,hd⟩:=hL.out
  clear hL
  have hpf2:=hpf _ hd
  replace hkq:=ae.mk hkq
  replace hd:=ae.mk hd
  replace hpf:=ae.mk hpf
  by_cases hps:p < s.size
  ·have j0:((0:Int)≤(p:Int))=True:=eq_true (by omega)
   have j1:((p:Int) < (s.size:Int))=True:=eq_true (by omega)
   have j2:(p < s.size)=True:=eq_true hps
   have j3:decide ((p:Int) < (s.size:Int))=true:=decide_eq_true (by omega)
   have t0:((s[p]'hps).toNat:Int)=bt s p:=by simpa using dI s p (by simpa using hps)
   by_cases hpe:p=m
   ·subst hpe
    have he:=hend.out.resolve_left (by omega)
    generalize bt s p=c at *
    rcases (show c≤32∨c=44∨c=93∨c=125 by omega) with hc | rfl | rfl | rfl
    all_goals
     try (have e1:decide (c≤45)=true:=decide_eq_true (by omega))
     try (have e2:decide (c≤32)=true:=decide_eq_true hc)
     clear he
     go_wp2_with (fail)
     refine hpf2.mono ?_
     rintro e w3 ⟨⟨b,ev,rfl⟩,hB3⟩
     replace hB3:=ae.mk hB3
     go_wp2_with (fail)
     go_ret2
     exact ⟨⟨b,rfl⟩,hB3.out⟩
   ·have ha:=hall.out p hp1 (by omega)
    have hcc:bt s p=43∨bt s p=45∨bt s p=46∨bt s p=101∨bt s p=69∨(48≤bt s p∧bt s p≤57):=by unfold kz at ha;omega
    generalize bt s p=c at *
    replace ha:=ae.mk True.intro
    rcases (show c=43∨c=45∨(¬ c≤45∧c≠93∧c≠125) by omega) with rfl | rfl | ⟨hc1,hc2,hc3⟩
    all_goals
     try (have e1:decide (c≤45)=false:=decide_eq_false hc1)
     try (have e2:(c == 93)=false:=beq_eq_false_iff_ne.mpr hc2)
     try (have e3:(c == 125)=false:=beq_eq_false_iff_ne.mpr hc3)
     clear hcc
     go_wp2_with (fail)
     go_roundg (m - (p+1))
     case measure=>have:=hkq.out;omega
     case rel=>exact ⟨p+1,by first | rfl | (congr 1;omega),⟨⟨rfl,by omega,by omega,hd.out⟩⟩⟩
  ·have hpm2:p=m:=by omega
   have hms:m=s.size:=by omega
   have j3:decide ((p:Int) < (s.size:Int))=false:=decide_eq_false (by omega)
   have j4:decide (p < s.size)=false:=decide_eq_false (by omega)
   have hx:s.extract 0 m=s:=by rw [hms,xC]
   rw [hx] at hpf2
   clear hpm2 hms
   replace hx:=ae.mk hx
   go_wp2_with (fail)
   refine hpf2.mono ?_
   rintro e w3 ⟨⟨b,ev,rfl⟩,hB3⟩
   replace hB3:=ae.mk hB3
   go_wp2_with (fail)
   go_ret2
   exact ⟨⟨b,by rw [hx.out];rfl⟩,hB3.out⟩
structure TS (s:ByteArray) (lo hi:Nat) (w:World) (kq p:Nat) (W:World):Prop where
 kq:kq=hi - p
 lo:lo≤p
 hi:p≤hi
 drw:ai w W
theorem uS (w:World) (s:ByteArray) (hs:s.size≤65536) (q:Nat) (h0:bt s (0:Nat)=34) (hq:gp s 1 q) (v:ByteArray) (hv:Says s 1 q v) :
 Calls Tryz.prog 71 #[.string s] w fun e w'=>e = .returned (.tuple #[.string (s.extract 0 (q+1)),.string v])∧Below w.heap.size w w':=by
 have hQ:=hq.str.quo (Nat.le_refl 1) h0
 have hqb:=hq.bound
 have hlt:=hQ.lt
 have hle:=hQ.le
 have hmark:=hQ.mark
 have sl1:((0:Int)≤(q:Int)+1)=True:=eq_true (by omega)
 have sl2:((q:Int)+1≤(s.size:Int))=True:=eq_true (by omega)
 have sl3:((1:Int)≤(q:Int))=True:=eq_true (by omega)
 have sl4:((q:Int)≤(s.size:Int))=True:=eq_true (by omega)
 have sl5:((q:Int)+1).toNat=q+1:=by omega
 have sl6:ae (IntKind.i64.wrap ((q:Int)+1)=(q:Int)+1):=⟨IntWalk.i64_in _ (by omega)⟩
 have hun:∀ W,Calls Tryz.prog 61 #[.string (s.extract 1 q)] W fun e w'=>e = .returned (.string v)∧Below W.heap.size W w':=fun W=>by
  obtain ⟨l,h1,rfl⟩:=hv.unq
  exact qL W (s.extract 1 q) l (by rw [ByteArray.size_extract];omega) h1
 have hpl:(∀ j:Nat,1≤j→j < q→bt s j≠92)→s.extract 1 q=v:=fun h=>(hv.plain (by omega) h).symm
 replace hQ:=ae.mk hQ
 replace hq:=ae.mk hq
 replace hv:=ae.mk hv
 replace h0:=ae.mk h0
 replace hmark:=ae.mk hmark
 go_enter Tryz.func71,Tryz.ntmps71
 go_wp2_with (fail)
 go_loopg [4] (q - 1) (fun kq v4 W=>∃ p:Nat,v4 = .int .i64 p∧ae (TS s 1 q w kq p W)∧ae (∀ j:Nat,1≤j→j < p→bt s j≠92))
 case atStart=>exact ⟨1,rfl,⟨⟨rfl,Nat.le_refl _,by omega,⟨0,rfl⟩⟩⟩,⟨fun j h1 h2=>by omega⟩⟩
 case round =>
  obtain ⟨p,rfl,hL,hno⟩:=hrel
  obtain ⟨hkq,hp1,hpq,hd⟩:=hL.out
  have hps:p < s.size:=by omega
  have j0:((0:Int)≤(p:Int))=True:=eq_true (by omega)
  have j1:((p:Int) < (s.size:Int))=True:=eq_true (by omega)
  have j2:(p < s.size)=True:=eq_true hps
  have j3:decide ((p:Int) < (s.size:Int))=true:=decide_eq_true (by omega)
  have t0:((s[p]'hps).toNat:Int)=bt s p:=by simpa using dI s p (by simpa using hps)
  have hz:bt s p=34→p=q:=fun h=>hQ.out.same hp1 hpq h (by
   have:slashes s 1 p=0:=by
    cases p with
    | zero=>rfl
    | succ p=>rw [slashes,if_neg (fun h=>hno.out p h.1 (by omega) h.2)]
   rw [this])
  replace hkq:=ae.mk hkq
  replace hd:=ae.mk hd
  replace hL:=ae.mk True.intro
  by_cases hpe:p=q
  ·subst hpe
   have hm:=hmark.out
   have hvv:=hpl hno.out
   clear hz hpl
   rw [hm] at t0
   go_wp2_with (fail)
   go_quiet (fail)
   go_wp2_with (fail)
   go_ret2
   exact ⟨by first | rfl | (rw [hvv]),(hd.out.step _).below⟩
  ·generalize hcc:bt s p=c at *
   have hcq:c≠34:=fun h=>hpe (hz h)
   clear hz hpl
   rcases (show 92 < c∨c=92∨(¬ 92 < c∧c≠92) by omega) with hc | hc | ⟨hc,hc2⟩
   ·have e1:decide (92 < c)=true:=decide_eq_true hc
    replace hcc:=ae.mk hcc
    go_wp2_with (fail)
    go_roundg (q - (p+1))
    case measure=>have:=hkq.out;omega
    case rel=>exact ⟨p+1,by first | rfl | (congr 1;omega),⟨⟨rfl,by omega,by omega,hd.out⟩⟩,⟨fun j g1 g2=>by
     by_cases hj:j=p
     ·rw [hj,hcc.out];omega
     ·exact hno.out j g1 (by omega)⟩⟩
   ·subst hc
    replace hcc:=ae.mk hcc
    replace hno:=ae.mk True.intro
    go_wp2_with (fail)
    go_loopg [4,5,6] (q - (p+1)) (fun kq v4 v5 v6 W=>∃ i:Nat,v4 = .int .i64 i∧ae (TS s (p+1) q w kq i W))
    case atStart=>exact ⟨p+1,by first | rfl | (congr 1;omega),⟨⟨rfl,Nat.le_refl _,by omega,hd.out⟩⟩⟩
    case round =>
     obtain ⟨i,rfl,hL⟩:=hrel
     obtain ⟨hkq2,hip,hiq,hd2⟩:=hL.out
     clear j0 j1 j2 j3 t0
     have his:i < s.size:=by omega
     have j0:((0:Int)≤(i:Int))=True:=eq_true (by omega)
     have j1:((i:Int) < (s.size:Int))=True:=eq_true (by omega)
     have j2:(i < s.size)=True:=eq_true his
     have j3:decide ((i:Int) < (s.size:Int))=true:=decide_eq_true (by omega)
     have t0:((s[i]'his).toNat:Int)=bt s i:=by simpa using dI s i (by simpa using his)
     replace hkq2:=ae.mk hkq2
     replace hd2:=ae.mk hd2
     replace hL:=ae.mk True.intro
     have hm:=hmark.out
     have hi1:i - 1 < s.size:=by omega
     have ht:((i:Int) - 1).toNat=i - 1:=by omega
     have k0:((0:Int)≤(i:Int) - 1)=True:=eq_true (by omega)
     have k1:((i:Int) - 1 < (s.size:Int))=True:=eq_true (by omega)
     have k2:(i - 1 < s.size)=True:=eq_true hi1
     have t1:((s[i - 1]'hi1).toNat:Int)=bt s ((i - 1:Nat):Int):=by simpa using dI s ((i - 1:Nat):Int) (by simpa using hi1)
     have hsl:slashes s 1 i=if bt s ((i - 1:Nat):Int)=92 then slashes s 1 (i - 1)+1 else 0:=by
      obtain ⟨i',rfl⟩:∃ i',i=i'+1:=⟨i - 1,by omega⟩
      rw [Nat.add_sub_cancel,slashes]
      by_cases h:bt s (i':Nat)=92
      ·rw [if_pos h,if_pos ⟨by omega,h⟩]
      ·rw [if_neg h,if_neg (fun hh=>h hh.2)]
     by_cases hci:bt s i=34
     ·have hodd:i≠q→slashes s 1 i % 2=1:=fun h=>hQ.out.odd i (by omega) (by omega) hci
      have hsame:slashes s 1 i % 2=0→i=q:=fun h=>hQ.out.same (by omega) hiq hci h
      have heven:=hQ.out.even
      rw [hci] at t0
      clear hm
      by_cases hb:bt s ((i - 1:Nat):Int)=92
      ·rw [if_pos hb] at hsl
       rw [hb] at t1
       replace hci:=ae.mk hci
       replace hb:=ae.mk hb
       replace hsl:=ae.mk hsl
       go_wp2_with (fail)
       go_loopg [5,6] i (fun kq v5 v6 W=>∃ n j:Nat,v5 = .int .i64 n∧v6 = .int .i64 j∧ae (slashes s 1 (j+1)+n=slashes s 1 (i - 1)∧j+2≤i∧kq=j+2∧ai w W))
       case atStart=>exact ⟨0,i - 2,rfl,by first | rfl | (congr 1;omega),⟨by rw [show i - 2+1=i - 1 by omega];rfl,by omega,by omega,hd2.out⟩⟩
       case round =>
        obtain ⟨n,j,rfl,rfl,hR⟩:=hrel
        obtain ⟨hR1,hR2,hR3,hR4⟩:=hR.out
        clear t0 t1 ht k0 k1 k2 j0 j1 j2 j3
        have hjs:j < s.size:=by omega
        have g0:((0:Int)≤(j:Int))=True:=eq_true (by omega)
        have g1:((j:Int) < (s.size:Int))=True:=eq_true (by omega)
        have g2:(j < s.size)=True:=eq_true hjs
        have t2:((s[j]'hjs).toNat:Int)=bt s j:=by simpa using dI s j (by simpa using hjs)
        by_cases hgo:0 < j∧bt s j=92
        ·obtain ⟨hj0,hj9⟩:=hgo
         have f0:decide ((0:Int) < (j:Int))=true:=decide_eq_true (by omega)
         have f1:decide (0 < j)=true:=decide_eq_true hj0
         rw [hj9] at t2
         have hsj:slashes s 1 (j+1)=slashes s 1 j+1:=by rw [slashes,if_pos ⟨by omega,hj9⟩]
         have hnb:n≤s.size:=by have:=lJ s 1 (i - 1);omega
         replace hj9:=ae.mk hj9
         replace hsj:=ae.mk hsj
         replace hR1:=ae.mk hR1
         replace hR4:=ae.mk hR4
         cases gk with
         | zero=>exact absurd hR3 (by omega)
         | succ gk =>
         go_wp2_with (fail)
         go_roundg gk
         case measure=>omega
         case rel=>exact ⟨n+1,j - 1,by first | rfl | (congr 1;omega),by first | rfl | (congr 1;omega),⟨by rw [show j - 1+1=j by omega];have:=hR1.out;have:=hsj.out;omega,by omega,by omega,hR4.out⟩⟩
        ·have hsj:slashes s 1 (j+1)=0:=by rw [slashes,if_neg (fun h=>hgo ⟨by omega,h.2⟩)]
         have hn:slashes s 1 i=n+1:=by have:=hsl.out;omega
         have hnb:n≤s.size:=by have:=lJ s 1 (i - 1);omega
         have hmod:Int.tmod (n:Int) 2=((n % 2:Nat):Int):=by rw [Int.tmod_eq_emod_of_nonneg (by omega)];omega
         replace hsj:=ae.mk hsj
         replace hR1:=ae.mk hR1
         replace hR4:=ae.mk hR4
         replace hn:=ae.mk hn
         rcases (show j=0∨0 < j∧bt s j≠92 by omega) with rfl | ⟨hj0,hj9⟩
         all_goals
          try (have f0:decide ((0:Int) < (j:Int))=true:=decide_eq_true (by omega))
          try (have f1:decide (0 < j)=true:=decide_eq_true hj0)
          try (generalize bt s j=b at *;have f2:(b != 92)=true:=bne_iff_ne.mpr hj9)
          try (replace hj9:=ae.mk hj9)
          rcases Nat.mod_two_eq_zero_or_one n with hev | hev
          ·have hm2:Int.tmod (n:Int) 2=0:=by rw [hmod,hev];rfl
           have hne:i≠q:=fun h=>by have h1:=heven;rw [← h,hn.out] at h1;omega
           clear hmod hodd hsame heven
           go_wp2_with (fail)
           go_roundg (q - (i+1))
           case measure=>have:=hkq2.out;omega
           case rel=>exact ⟨i+1,by first | rfl | (congr 1;omega),⟨⟨rfl,by omega,by omega,hR4.out⟩⟩⟩
          ·have hm2:Int.tmod (n:Int) 2=1:=by rw [hmod,hev];rfl
           obtain rfl:=hsame (by rw [hn.out];omega)
           clear hmod hodd heven
           replace hsame:=ae.mk True.intro
           go_wp2_with (fail)
           replace sl6:=sl6.out
           go_region_with (first | (go_at_call 61;refine (hun _).mono ?_;rintro e w3 ⟨rfl,hB3⟩;replace hB3:=ae.mk hB3))
           all_goals (try go_wp2_with (fail))
           all_goals go_ret2
           all_goals exact ⟨rfl,bz (eU hR4.out.below) hB3.out⟩
      ·rw [if_neg hb] at hsl
       obtain rfl:=hsame (by rw [hsl])
       generalize bt s ((i - 1:Nat):Int)=b at *
       have e1:(b == 92)=false:=beq_eq_false_iff_ne.mpr hb
       replace hci:=ae.mk hci
       replace hb:=ae.mk hb
       replace hsl:=ae.mk hsl
       clear hodd hsame heven
       go_wp2_with (fail)
       replace sl6:=sl6.out
       go_region_with (first | (go_at_call 61;refine (hun _).mono ?_;rintro e w3 ⟨rfl,hB3⟩;replace hB3:=ae.mk hB3))
       all_goals (try go_wp2_with (fail))
       all_goals go_ret2
       all_goals exact ⟨rfl,bz (eU hd2.out.below) hB3.out⟩
     ·generalize hcj:bt s i=c at *
      have hiq2:i≠q:=fun h=>hci (by rw [← hcj,h];exact hm)
      replace hcj:=ae.mk hcj
      clear hm hsl ht k0 k1 k2 t1
      have e2:(c == 34)=false:=beq_eq_false_iff_ne.mpr hci
      by_cases hc9:92 < c
      ·have e1:decide (92 < c)=true:=decide_eq_true hc9
       go_wp2_with (fail)
       go_roundg (q - (i+1))
       case measure=>have:=hkq2.out;omega
       case rel=>exact ⟨i+1,by first | rfl | (congr 1;omega),⟨⟨rfl,by omega,by omega,hd2.out⟩⟩⟩
      ·have e1:decide (92 < c)=false:=decide_eq_false hc9
       go_wp2_with (fail)
       go_roundg (q - (i+1))
       case measure=>have:=hkq2.out;omega
       case rel=>exact ⟨i+1,by first | rfl | (congr 1;omega),⟨⟨rfl,by omega,by omega,hd2.out⟩⟩⟩
   ·have e1:decide (92 < c)=false:=decide_eq_false hc
    have e2:(c == 34)=false:=beq_eq_false_iff_ne.mpr hcq
    have e3:(c == 92)=false:=beq_eq_false_iff_ne.mpr hc2
    replace hcc:=ae.mk hcc
    go_wp2_with (fail)
    go_roundg (q - (p+1))
    case measure=>have:=hkq.out;omega
    case rel=>exact ⟨p+1,by first | rfl | (congr 1;omega),⟨⟨rfl,by omega,by omega,hd.out⟩⟩,⟨fun j g1 g2=>by
     by_cases hj:j=p
     ·rw [hj,hcc.out];omega
     ·exact hno.out j g1 (by omega)⟩⟩
end Go.Proofs.YtpgfjbimodnkeaaGreatDoor.Dec
