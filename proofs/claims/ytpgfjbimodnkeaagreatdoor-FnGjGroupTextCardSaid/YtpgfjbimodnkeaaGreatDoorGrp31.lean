/- FnGjGroupText: whatever text comes in, the law returns true and the text reads afterwards as before; with the fourteen package-level variables that its row lists as the text of the program lays them (the tied card) (part 31 of 33: lemmas for its last part) -/
import Derived.Test.YtpgfjbimodnkeaaGreatDoorGrp16
import Derived.Test.YtpgfjbimodnkeaaGreatDoorGrp25
import Derived.Test.YtpgfjbimodnkeaaGreatDoorGrp26
import Derived.Test.YtpgfjbimodnkeaaGreatDoorGrp28
import Derived.Test.YtpgfjbimodnkeaaGreatDoorGrp30
set_option maxHeartbeats 16000000
set_option maxRecDepth 100000
set_option linter.unusedVariables false
set_option linter.unusedSimpArgs false
namespace Go.Proofs.YtpgfjbimodnkeaaGreatDoor.Hec
open Go Go.RowKit Go.Proofs.YtpgfjbimodnkeaaGreatDoorW.PrintWords Go.Proofs.YtpgfjbimodnkeaaGreatDoorW.PrintLast Go.Proofs.YtpgfjbimodnkeaaGreatDoorW.PrintMore Go.Proofs.YtpgfjbimodnkeaaGreatDoor.Scan Go.Proofs.YtpgfjbimodnkeaaGreatDoor.Q Go.Proofs.YtpgfjbimodnkeaaGreatDoor.Dec
def tot {α:Type} (R:List (List α)):Nat:=(R.map List.length).sum
theorem CG {α:Type} (R:List (List α)) (p:List α):tot (R ++ [p])=tot R+p.length:=by simp [tot]
theorem iP {α:Type} (p:List α) (R:List (List α)):tot (p :: R)=p.length+tot R:=by simp [tot]
theorem uj {α:Type}:∀ (R:List (List α)) (j:Nat),tot (R.take j)≤tot R
 | [],j=>by simp
 | _ :: _,0=>by simp [tot]
 | l :: R,j+1=>by
   have:=uj R j
   rw [List.take_succ_cons,iP,iP]
   omega
theorem Aq:∀ (R:List (List Int)) (c:Nat) (p:List Int),c < R.length→tot (R.set c (R.getD c [] ++ p))=tot R+p.length
 | [],_,_,h=>absurd h (Nat.not_lt_zero _)
 | l :: R,0,p,_=>by
   rw [List.set_cons_zero,iP,iP,List.length_append,List.getD_cons_zero]
   omega
 | l :: R,c+1,p,h=>by
   have:=Aq R c p (by simpa using h)
   rw [List.set_cons_succ,iP,iP,List.getD_cons_succ,this]
   omega
theorem CY {R:List (List Int)} {c:Nat} {p:List Int} (h:c≤R.length):tot (grow R c p)=tot R+p.length:=by
 unfold grow
 split
 ·exact CG _ _
 ·exact Aq _ _ _ (by omega)
theorem E5 {R:List (List Int)} {nm:ByteArray} (hn:nm.size≤65536) (ys:List ByteArray) (hy:∀ y ∈ ys,y.size≤65536):tot (grs R nm ys)≤tot R+ys.length*131074:=by
 induction ys using pY with
 | h0=>simp [grs]
 | h1 l x ih =>
   have h1:=ih (fun y h=>hy y (List.mem_append_left _ h))
   have h2:=hy x (by simp)
   rw [nS,CY (by rw [oC];omega),qL,List.length_append,List.length_singleton]
   omega
theorem Dj {R:List (List Int)} (hR:∀ l ∈ R,0 < l.length) {c:Nat} {p:List Int} (hp:0 < p.length):∀ l ∈ grow R c p,0 < l.length:=by
 intro l hl
 unfold grow at hl
 split at hl
 ·rcases List.mem_append.1 hl with h | h
  ·exact hR l h
  ·obtain rfl:=List.mem_singleton.1 h
   exact hp
 ·rcases List.mem_or_eq_of_mem_set hl with h | rfl
  ·exact hR l h
  ·rw [List.length_append]
   omega
theorem FU {R:List (List Int)} (hR:∀ l ∈ R,0 < l.length) (nm:ByteArray) (ys:List ByteArray):∀ l ∈ grs R nm ys,0 < l.length:=by
 induction ys using pY with
 | h0=>simpa [grs] using hR
 | h1 l x ih =>
   rw [nS]
   exact Dj ih (by rw [qL];omega)
theorem xU:∀ (l:List (ByteArray × List ByteArray)) (R:List (List Int)),(∀ l ∈ R,0 < l.length)→∀ x ∈ l.foldl (fun R q=>grs R q.1 q.2) R,0 < x.length
 | [],_,h=>h
 | q :: l,R,h=>xU l (grs R q.1 q.2) (FU h q.1 q.2)
theorem Fe (nms:List ByteArray) (es:List (List ByteArray)):∀ x ∈ gat nms es,0 < x.length:=xU _ [] (fun l h=>by cases h)
theorem wV:∀ (nms:List ByteArray) (es:List (List ByteArray)) (R:List (List Int)),(∀ n ∈ nms,n.size≤65536)→(∀ ys ∈ es,∀ y ∈ ys,y.size≤65536)→tot ((nms.zip es).foldl (fun R q=>grs R q.1 q.2) R)≤tot R+tot es*131074
 | [],es,R,_,_=>by simp
 | _ :: _,[],R,_,_=>by simp
 | n :: nms,ys :: es,R,h1,h2=>by
   have h3:=wV nms es (grs R n ys) (fun m hm=>h1 m (List.mem_cons_of_mem _ hm)) (fun m hm=>h2 m (List.mem_cons_of_mem _ hm))
   have h4:=E5 (R:=R) (h1 n (List.mem_cons_self ..)) ys (h2 ys (List.mem_cons_self ..))
   rw [List.zip_cons_cons,List.foldl_cons,iP,Nat.add_mul]
   show tot (List.foldl (fun R q=>grs R q.1 q.2) (grs R n ys) (nms.zip es))≤_
   omega
theorem CB:∀ l:List (List Int),(jn l).length≤tot l+l.length
 | []=>by simp [jn]
 | [x]=>by simp [jn,tot]
 | x :: y :: l=>by
   have:=CB (y :: l)
   rw [jn,List.length_append,List.length_cons,iP,List.length_cons]
   omega
def jQ (l:List Int):List Int:=123 :: (l.drop 1 ++ [125])
theorem ul:∀ l:List (List Int),tot (l.map jQ)≤tot l+2*l.length
 | []=>by simp [tot]
 | x :: l=>by
   have:=ul l
   have h:(jQ x).length≤x.length+2:=by simp [jQ]
   rw [List.map_cons,iP,iP,List.length_cons]
   omega
def rY (R:List (List Int)):List Int:=91 :: (jn (R.map jQ) ++ [93])
theorem vJ (R:List (List Int)) (j:Nat):(91 :: jn ((R.take j).map jQ)).length≤tot R+3*R.length+1:=by
 have h1:=CB ((R.take j).map jQ)
 have h2:=ul (R.take j)
 have h3:=uj R j
 have h4:(R.take j).length≤R.length:=by rw [List.length_take];omega
 rw [List.length_map] at h1
 rw [List.length_cons]
 omega
theorem pg {s:ByteArray}:∀ {ns:List S44} {ps:List (Rs × Rs)},gI s ns ps→∀ n ∈ ps.map (fun p=>p.1.raw),n.size≤s.size
 | [],[],_=>fun n h=>by cases h
 | p :: ks,r :: ps,h=>fun n hn=>by
   rcases List.mem_cons.1 hn with rfl | hn
   ·exact uF h.1
   ·exact pg h.2 n hn
 | [],_ :: _,h=>h.elim
 | _ :: _,[],h=>h.elim
end Go.Proofs.YtpgfjbimodnkeaaGreatDoor.Hec
namespace Go.Proofs.YtpgfjbimodnkeaaGreatDoor.Scan
open Go Go.RowKit Go.Proofs.YtpgfjbimodnkeaaGreatDoorW.PrintWords Go.Proofs.YtpgfjbimodnkeaaGreatDoor.Q Go.Proofs.YtpgfjbimodnkeaaGreatDoor.Dec
theorem Fa {r:ByteArray} {p:Nat} (h:r.size≤p):Prd r p:=by
 refine Evt.succ ?_
 simp only [bn.l0]
 exact Evt.neg (by omega) (Evt.pure _)
theorem tu {r:ByteArray} (hR:r.size≤1099511627776) {p:Nat} (hp:p < r.size) (hb:bt r p≠92) (h:Prd r (p+1)):Prd r p:=by
 refine Evt.succ ?_
 simp only [bn.l0]
 rw [bu (i:=(p:Int)+1) (p+1) (by omega) (by omega)]
 exact Evt.pos (by omega) (Evt.pos (by omega) (Evt.neg hb h))
theorem zk {r:ByteArray} (hR:r.size≤1099511627776) {p:Nat} (hp:p < r.size) (hb:bt r p=92) (hU:¬ jq r p) (h:Prd r (p+2)):Prd r p:=by
 obtain ⟨v,b,g1,g2,g3⟩:=ku r hR p (by omega)
 have hbf:¬ (b=true):=fun hb=>hU (g2.1 hb)
 refine Evt.succ ?_
 simp only [bn.l0]
 rw [bu (i:=(p:Int)+2) (p+2) (by omega) (by omega)]
 exact Evt.pos (by omega) (Evt.pos (by omega) (Evt.pos hb (Evt.bind g1 (Evt.neg hbf h))))
theorem EE {r:ByteArray} (hR:r.size≤1099511627776) {p:Nat} (hU:jq r p) (hn:¬ (55296≤dV r ((p:Int)+2)∧dV r ((p:Int)+2)≤57343)) (h:Prd r (p+6)):Prd r p:=by
 have hle:=hU.le
 obtain ⟨v,b,g1,g2,g3⟩:=ku r hR p (by omega)
 have hbt:=g2.2 hU
 have hv:=g3 hbt
 have hh:¬ (55296≤v∧v≤56319):=by rw [hv];omega
 have hl:¬ (56320≤v∧v≤57343):=by rw [hv];omega
 refine Evt.succ ?_
 simp only [bn.l0]
 rw [bu (i:=(p:Int)+6) (p+6) (by omega) (by omega)]
 exact Evt.pos (by omega) (Evt.pos (by omega) (Evt.pos hU.b0 (Evt.bind g1 (Evt.pos hbt (Evt.aI (jX _) (Evt.neg (by simp only [decide_eq_true_eq];exact hh) (Evt.aI (nH _) (Evt.neg (by simp only [decide_eq_true_eq];exact hl) h))))))))
theorem Bf {r:ByteArray} (hR:r.size≤1099511627776) {p:Nat} (hU:jq r p) (h1:55296≤dV r ((p:Int)+2)∧dV r ((p:Int)+2)≤56319) (hU2:jq r (p+6)) (h3:56320≤dV r ((p:Int)+8)∧dV r ((p:Int)+8)≤57343) (h:Prd r (p+12)):Prd r p:=by
 have hle:=hU2.le
 obtain ⟨v,b,g1,g2,g3⟩:=ku r hR p (by omega)
 have hbt:=g2.2 hU
 have hv:=g3 hbt
 obtain ⟨v2,b2,f1,f2,f3⟩:=ku r hR (p+6) (by omega)
 have hb2:=f2.2 hU2
 have hv2:=f3 hb2
 rw [show ((p+6:Nat):Int)+2=(p:Int)+8 by omega] at hv2
 have hh:55296≤v∧v≤56319:=by rw [hv];exact h1
 have hl:56320≤v2∧v2≤57343:=by rw [hv2];exact h3
 refine Evt.succ ?_
 simp only [bn.l0]
 rw [bu (i:=(p:Int)+6) (p+6) (by omega) (by omega),bu (i:=(p:Int)+12) (p+12) (by omega) (by omega)]
 exact Evt.pos (by omega) (Evt.pos (by omega) (Evt.pos hU.b0 (Evt.bind g1 (Evt.pos hbt (Evt.aI (jX _) (Evt.pos (decide_eq_true hh) (Evt.bind f1 (Evt.pos hb2 (Evt.aI (nH _) (Evt.pos (decide_eq_true hl) h))))))))))
section
variable {s r:ByteArray} {c d n:Nat}
theorem Part.dV (P:Part s r c d n) (z:Int) (h1:(c:Int)≤z) (h2:z+3 < (c+n:Nat)):Dec.dV r (z - c+d)=Dec.dV s z:=by
 unfold Dec.dV
 rw [← P.int z (by omega) (by omega),← P.int (z+1) (by omega) (by omega),← P.int (z+2) (by omega) (by omega),← P.int (z+3) (by omega) (by omega),show z - c+d+1=z+1 - c+d by omega,show z - c+d+2=z+2 - c+d by omega,show z - c+d+3=z+3 - c+d by omega]
theorem Part.unit (P:Part s r c d n) {p:Nat} (h1:c≤p) (h2:p+6≤c+n) (h:jq s p):jq r (p - c+d):=by
 have:=P.hr
 exact ⟨by omega,by rw [P.at p h1 (by omega)];exact h.b0,by rw [P.one p h1 (by omega)];exact h.b1,P.Ih p h1 h2 h.hex⟩
theorem mi (P:Part s r c d n) (hR:r.size≤1099511627776) {Q:Int→Prop} (hQ:∀ c,Q c→c≠92) {i j:Nat} (h:gJ s Q i j) (h1:c≤i) (h2:j≤c+n) (hp:Prd r (j - c+d)):Prd r (i - c+d):=by
 have hz:=P.hr
 have hle:=h.le
 have key:∀ n m:Nat,j - m=n→i≤m→m≤j→Prd r (m - c+d):=by
  intro n
  induction n with
  | zero =>
    intro m g1 g2 g3
    have e:m=j:=by omega
    rw [e];exact hp
  | succ n ih =>
    intro m g1 g2 g3
    have g4:=ih (m+1) (by omega) (by omega) (by omega)
    rw [show m+1 - c+d=m - c+d+1 by omega] at g4
    exact tu hR (by omega) (by rw [P.at m (by omega) (by omega)];exact hQ _ (h.all m (by omega) (by omega))) g4
 exact key _ i rfl (Nat.le_refl _) h.le
theorem iJ (P:Part s r c d n) (hR:r.size≤1099511627776) {i:Nat} (h1:c≤i) (h2:i < c+n) (hb:bt s i≠92) (hp:Prd r (i+1 - c+d)):Prd r (i - c+d):=by
 have hz:=P.hr
 rw [show i+1 - c+d=i - c+d+1 by omega] at hp
 exact tu hR (by omega) (by rw [P.at i h1 h2];exact hb) hp
theorem fQ (P:Part s r c d n) (hR:r.size≤1099511627776) {i j:Nat} (h:Blanks s i j) (h1:c≤i) (h2:j≤c+n) (hp:Prd r (j - c+d)):Prd r (i - c+d) :=
 mi P hR (Q:=blank) (fun c hc=>by unfold blank at hc;omega) ⟨h.le,h.all⟩ h1 h2 hp
theorem Cj (P:Part s r c d n) (hS:s.size≤1099511627776) (hR:r.size≤1099511627776) {q:Nat} (hq:q < c+n) (hpq:Prd r (q - c+d)) (m:Nat):∀ p:Nat,q - p=m→c≤p→gm s p q→Prd s p→Prd r (p - c+d):=by
 have hz:=P.hr
 induction m using Nat.strongRecOn with
 | _ m ih =>
   intro p hm h1 h hp
   have hb:=h.bound
   cases h with
   | close _ g0 g1=>exact hpq
   | plain _ _ g0 g1 g2 g3 g4 =>
     have:=g4.bound
     exact iJ P hR h1 (by omega) g3 (ih _ (by omega) (p+1) rfl (by omega) g4 (Prd.plain hS hp g0 g3))
   | short _ _ g0 g1 g2 g3 =>
     have:=g3.bound
     have hU:¬ jq s p:=fun h=>by have:=h.b1;unfold fU at g2;omega
     have hU2:¬ jq r (p - c+d):=fun h=>by have:=h.b1;rw [P.one p h1 (by omega)] at this;unfold fU at g2;omega
     have g4:=ih _ (by omega) (p+2) rfl (by omega) g3 (Prd.short hS hp (by omega) g1 hU)
     rw [show p+2 - c+d=p - c+d+2 by omega] at g4
     exact zk hR (by omega) (by rw [P.at p h1 (by omega)];exact g1) hU2 g4
   | uni _ _ g0 g1 g2 g3 g4 =>
     have:=g4.bound
     have hU:jq s p:=⟨g0,g1,g2,g3⟩
     have hU2:=P.unit h1 (by omega) hU
     have hx:=P.dV ((p:Int)+2) (by omega) (by omega)
     rw [show (p:Int)+2 - c+d=((p - c+d:Nat):Int)+2 by omega] at hx
     rcases Prd.uni hS hp hU with ⟨k1,k2⟩ | ⟨k1,k2,k3,k4⟩
     ·rw [← hx] at k1
      have g5:=ih _ (by omega) (p+6) rfl (by omega) g4 k2
      rw [show p+6 - c+d=p - c+d+6 by omega] at g5
      exact EE hR hU2 k1 g5
     ·cases g4 with
      | close _ f0 f1=>exact absurd (k2.b0.symm.trans f1) (by decide)
      | plain _ _ f0 f1 f2 f3 f4=>exact absurd k2.b0 f3
      | short _ _ f0 f1 f2 f3=>exact absurd k2.b1 (by unfold fU at f2;omega)
      | uni _ _ f0 f1 f2 f3 f4 =>
        have:=f4.bound
        have hx2:=P.dV ((p:Int)+8) (by omega) (by omega)
        rw [show (p:Int)+8 - c+d=((p - c+d:Nat):Int)+8 by omega] at hx2
        rw [← hx] at k1
        rw [← hx2] at k3
        have hU3:=P.unit (p:=p+6) (by omega) (by omega) k2
        rw [show p+6 - c+d=p - c+d+6 by omega] at hU3
        have g5:=ih _ (by omega) (p+12) rfl (by omega) f4 k4
        rw [show p+12 - c+d=p - c+d+12 by omega] at g5
        exact Bf hR hU2 k1 hU3 k3 g5
theorem qO (P:Part s r c d n) (hS:s.size≤1099511627776) (hR:r.size≤1099511627776) {i q:Nat} (h0:i < s.size) (h1:bt s i=34) (h:gm s (i+1) q) (hp:Prd s i) (h2:c≤i) (h3:q < c+n) (hpq:Prd r (q+1 - c+d)):Prd r (i - c+d):=by
 have hb:=h.bound
 exact iJ P hR h2 (by omega) (by omega) (Cj P hS hR h3 (iJ P hR (by omega) h3 (by omega) hpq) _ (i+1) rfl (by omega) h (Prd.plain hS hp h0 (by omega)))
theorem J.back (P:Part s r c d n) (hS:s.size≤1099511627776) (hR:r.size≤1099511627776) {md:Md} {a e:Nat} {kd:Int} {ns:List S44} {ks:List S32} (h:J s md a e kd ns ks):c≤a→e≤c+n→Prd s a→Prd r (e - c+d)→Prd r (a - c+d):=by
 have let92:∀ c:Int,97≤c∧c≤122→c≠92:=fun c hc=>by omega
 induction h with
 | null i h=>exact fun h1 h2 _=>mi P hR let92 (h.span nz) h1 h2
 | fals i h=>exact fun h1 h2 _=>mi P hR let92 (h.span lG) h1 h2
 | tru i h=>exact fun h1 h2 _=>mi P hR let92 (h.span ny) h1 h2
 | num i e h0 h1 h2 h3=>exact fun g1 g2 _=>mi P hR (fun c hc=>by unfold kU at hc;omega) h3 g1 g2
 | str i q h0 h1 h2=>exact fun g1 g2 hp he=>qO P hS hR h0 h1 h2 hp g1 (by omega) he
 | arr0 i j h0 h1 h2 h3 h4 =>
   intro g1 g2 hp he
   have:=h2.le
   exact iJ P hR g1 (by omega) (by omega) (fQ P hR h2 (by omega) (by omega) (iJ P hR (by omega) (by omega) (by omega) he))
 | arr i j e ks h0 h1 h2 h3 ih =>
   intro g1 g2 hp he
   have:=h2.le
   have:=h3.bound
   exact iJ P hR g1 (by omega) (by omega) (fQ P hR h2 (by omega) (by omega) (ih (by omega) g2 (h2.prd hS (by omega) (Prd.plain hS hp h0 (by omega))) he))
 | obj0 i j h0 h1 h2 h3 h4 =>
   intro g1 g2 hp he
   have:=h2.le
   exact iJ P hR g1 (by omega) (by omega) (fQ P hR h2 (by omega) (by omega) (iJ P hR (by omega) (by omega) (by omega) he))
 | obj i j e ns ks h0 h1 h2 h3 ih =>
   intro g1 g2 hp he
   have:=h2.le
   have:=h3.bound
   exact iJ P hR g1 (by omega) (by omega) (fQ P hR h2 (by omega) (by omega) (ih (by omega) g2 (h2.prd hS (by omega) (Prd.plain hS hp h0 (by omega))) he))
 | el1 i m e kd ns ks h0 h1 h2 h3 ih =>
   intro g1 g2 hp he
   have:=h1.le
   have:=h0.bound
   exact ih g1 (by omega) hp (fQ P hR h1 (by omega) (by omega) (iJ P hR (by omega) (by omega) (by omega) he))
 | els i m x y e kd ns ks l h0 h1 h2 h3 h4 h5 ih ih2 =>
   intro g1 g2 hp he
   have:=h1.le
   have:=h4.le
   have:=h0.bound
   have:=h5.bound
   exact ih g1 (by omega) hp (fQ P hR h1 (by omega) (by omega) (iJ P hR (by omega) (by omega) (by omega) (fQ P hR h4 (by omega) (by omega) (ih2 (by omega) g2 (h4.prd hS (by omega) (Prd.plain hS (h1.prd hS (by omega) (h0.prd hS hp)) h2 (by omega))) he))))
 | mem1 i q x b m e kd ns ks h0 h1 h2 h3 h4 h5 h6 h7 h8 h9 h10 ih =>
   intro g1 g2 hp he
   have:=h2.bound
   have:=h3.le
   have:=h6.le
   have:=h7.bound
   have:=h8.le
   have k1:=(gm.prd hS h0 h1 h2 hp).2
   have k2:=h6.prd hS (by omega) (Prd.plain hS (h3.prd hS (by omega) k1) h4 (by omega))
   exact qO P hS hR h0 h1 h2 hp g1 (by omega) (fQ P hR h3 (by omega) (by omega) (iJ P hR (by omega) (by omega) (by omega) (fQ P hR h6 (by omega) (by omega) (ih (by omega) (by omega) k2 (fQ P hR h8 (by omega) (by omega) (iJ P hR (by omega) (by omega) (by omega) he))))))
 | mems i q x b m y z e kd ns nl ks l h0 h1 h2 h3 h4 h5 h6 h7 h8 h9 h10 h11 h12 ih ih2 =>
   intro g1 g2 hp he
   have:=h2.bound
   have:=h3.le
   have:=h6.le
   have:=h7.bound
   have:=h8.le
   have:=h11.le
   have:=h12.bound
   have k1:=(gm.prd hS h0 h1 h2 hp).2
   have k2:=h6.prd hS (by omega) (Prd.plain hS (h3.prd hS (by omega) k1) h4 (by omega))
   have k3:=h11.prd hS (by omega) (Prd.plain hS (h8.prd hS (by omega) (h7.prd hS k2)) h9 (by omega))
   exact qO P hS hR h0 h1 h2 hp g1 (by omega) (fQ P hR h3 (by omega) (by omega) (iJ P hR (by omega) (by omega) (by omega) (fQ P hR h6 (by omega) (by omega) (ih (by omega) (by omega) k2 (fQ P hR h8 (by omega) (by omega) (iJ P hR (by omega) (by omega) (by omega) (fQ P hR h11 (by omega) (by omega) (ih2 (by omega) g2 k3 he))))))))
end
theorem xJ {s:ByteArray} {b m:Nat} (h1:b≤m) (h:m≤s.size):Part s (s.extract b m) b 0 (m - b):=by
 refine ⟨by omega,by rw [ByteArray.size_extract];omega,fun j hj=>?_⟩
 rw [Nat.zero_add,ji s b m j (by omega) h]
theorem EK {s:ByteArray} (hS:s.size≤1099511627776) {b m:Nat} {kd:Int} {ns:List S44} {ks:List S32} (h:J s .val b m kd ns ks) (hp:Prd s b):Prd (s.extract b m) 0:=by
 have hb:=h.bound
 have hz:(s.extract b m).size=m - b:=by rw [ByteArray.size_extract];omega
 have:=h.back (xJ (by omega) hb.2) hS (by omega) (Nat.le_refl _) (by omega) hp (Fa (by omega))
 rwa [show b - b+0=0 by omega] at this
theorem qA {s:ByteArray} (hS:s.size≤1099511627776) {md:Md} {a e:Nat} {kd:Int} {ns:List S44} {ks:List S32} (h:J s md a e kd ns ks):Prd s a→∀ p ∈ ks,∃ b m:Nat,p.f1=b∧p.f2=m∧a≤b∧m≤e∧J s .val b m p.f0 p.f3 p.f4∧Prd s b:=by
 induction h with
 | null | fals | tru | num | str | arr0 | obj0=>intro _ p hp;cases hp
 | arr a j e ks h0 h1 h2 h3 ih =>
   intro hp
   have:=h3.bound
   have:=h2.le
   intro p hm
   obtain ⟨b,m,g1,g2,g3,g4,g5⟩:=ih (h2.prd hS (by omega) (Prd.plain hS hp h0 (by omega))) p hm
   exact ⟨b,m,g1,g2,by omega,g4,g5⟩
 | obj a j e ns ks h0 h1 h2 h3 ih =>
   intro hp
   have:=h3.bound
   have:=h2.le
   intro p hm
   obtain ⟨b,m,g1,g2,g3,g4,g5⟩:=ih (h2.prd hS (by omega) (Prd.plain hS hp h0 (by omega))) p hm
   exact ⟨b,m,g1,g2,by omega,g4,g5⟩
 | el1 a m e kd ns ks h0 h1 h2 h3 ih =>
   intro hp p hm
   obtain rfl:=List.mem_singleton.1 hm
   have:=h1.le
   exact ⟨a,m,rfl,rfl,Nat.le_refl _,by omega,h0,hp⟩
 | els a m f q e kd ns ks l h0 h1 h2 h3 h4 h5 ih ih2 =>
   intro hp p hm
   have:=h5.bound
   have:=h1.le
   have:=h4.le
   have:=h0.bound
   rcases List.mem_cons.1 hm with rfl | hm
   ·exact ⟨a,m,rfl,rfl,Nat.le_refl _,by omega,h0,hp⟩
   ·obtain ⟨b,x,g1,g2,g3,g4,g5⟩:=ih2 (h4.prd hS (by omega) (Prd.plain hS (h1.prd hS (by omega) (h0.prd hS hp)) h2 (by omega))) p hm
    exact ⟨b,x,g1,g2,by omega,g4,g5⟩
 | mem1 a q f b m e kd ns ks h0 h1 h2 h3 h4 h5 h6 h7 h8 h9 h10 ih =>
   intro hp p hm
   have:=h7.bound
   obtain rfl:=List.mem_singleton.1 hm
   have:=h2.bound
   have:=h3.le
   have:=h6.le
   have:=h8.le
   exact ⟨b,m,rfl,rfl,by omega,by omega,h7,h6.prd hS (by omega) (Prd.plain hS (h3.prd hS (by omega) (gm.prd hS h0 h1 h2 hp).2) h4 (by omega))⟩
 | mems a q f b m g x e kd ns nl ks l h0 h1 h2 h3 h4 h5 h6 h7 h8 h9 h10 h11 h12 ih ih2 =>
   intro hp p hm
   have:=h7.bound
   have:=h12.bound
   have hpb:=h6.prd hS (by omega) (Prd.plain hS (h3.prd hS (by omega) (gm.prd hS h0 h1 h2 hp).2) h4 (by omega))
   have:=h2.bound
   have:=h3.le
   have:=h6.le
   have:=h8.le
   have:=h11.le
   rcases List.mem_cons.1 hm with rfl | hm
   ·exact ⟨b,m,rfl,rfl,by omega,by omega,h7,hpb⟩
   ·obtain ⟨b',m',g1,g2,g3,g4,g5⟩:=ih2 (h11.prd hS (by omega) (Prd.plain hS (h8.prd hS (by omega) (h7.prd hS hpb)) h9 (by omega))) p hm
    exact ⟨b',m',g1,g2,by omega,g4,g5⟩
end Go.Proofs.YtpgfjbimodnkeaaGreatDoor.Scan
namespace Go.Proofs.YtpgfjbimodnkeaaGreatDoor.Hec
open Go Go.RowKit Go.Proofs.YtpgfjbimodnkeaaGreatDoorW.PrintWords Go.Proofs.YtpgfjbimodnkeaaGreatDoorW.PrintLast Go.Proofs.YtpgfjbimodnkeaaGreatDoorW.PrintMore Go.Proofs.YtpgfjbimodnkeaaGreatDoor.Scan Go.Proofs.YtpgfjbimodnkeaaGreatDoor.Q Go.Proofs.YtpgfjbimodnkeaaGreatDoor.Dec
theorem oM {s:ByteArray}:∀ {ps:List S32} {ts:List S25},fP s ps ts→ps.length=ts.length
 | [],[],_=>rfl
 | _ :: _,_ :: _,h=>by simp [oM h.2]
 | [],_ :: _,h=>h.elim
 | _ :: _,[],h=>h.elim
theorem uV {s:ByteArray}:∀ {ns:List S44} {ps:List (Rs × Rs)},gI s ns ps→ns.length=ps.length
 | [],[],_=>rfl
 | _ :: _,_ :: _,h=>by simp [uV h.2]
 | [],_ :: _,h=>h.elim
 | _ :: _,[],h=>h.elim
def elems (s:ByteArray) (ks:List S32):List ByteArray:=ks.map fun p=>s.extract p.f1.toNat p.f2.toNat
theorem sN {s:ByteArray}:∀ {ks:List S32} {ps:List (Rs × Rs)},gX s ks ps→ps.map (fun p=>p.2.raw)=elems s ks
 | [],[],_=>rfl
 | p :: ks,r :: ps,h=>by
   obtain ⟨b,e,h1,h2,_,_,h3,_⟩:=h.1.at_
   rw [List.map_cons,sN h.2,elems,elems,List.map_cons,h1,h2,h3,Int.toNat_natCast,Int.toNat_natCast]
 | [],_ :: _,h=>h.elim
 | _ :: _,[],h=>h.elim
theorem uU {s r:ByteArray} {b n:Nat} (P:Part s r b 0 n):∀ ks:List S32,(∀ p ∈ ks,∃ x y:Nat,p.f1=x∧p.f2=y∧b≤x∧x≤y∧y≤b+n)→elems r (mvs (((0:Nat):Int) - b) ks)=elems s ks
 | [],_=>by rw [mvs];rfl
 | ⟨k,x',y',ns,l⟩ :: ps,h=>by
   obtain ⟨x,y,e1,e2,h1,h2,h3⟩:=h _ (List.mem_cons_self ..)
   have ih:=uU P ps (fun p hp=>h p (List.mem_cons_of_mem _ hp))
   have e1':x'=x:=e1
   have e2':y'=y:=e2
   subst e1'
   subst e2'
   have hc:=P.cut x y h1 h2 h3
   rw [mvs,mv]
   unfold elems at ih ⊢
   rw [List.map_cons,List.map_cons,ih]
   congr 1
   rw [Int.toNat_natCast,Int.toNat_natCast,← hc]
   congr 1
   ·show ((x:Int)+(((0:Nat):Int) - b)).toNat=_
    omega
   ·show ((y:Int)+(((0:Nat):Int) - b)).toNat=_
    omega
theorem DC {s:ByteArray} {a e:Nat} {ns:List S44} {ks:List S32} (h:J s .val a e 5 ns ks):bt s a=91:=by
 generalize hk:(5:Int)=kd at h
 cases h with
 | arr0 _ _ _ h1=>exact h1
 | arr _ _ _ _ _ h1=>exact h1
 | null=>exact absurd hk (by decide)
 | fals=>exact absurd hk (by decide)
 | tru=>exact absurd hk (by decide)
 | num=>exact absurd hk (by decide)
 | str=>exact absurd hk (by decide)
 | obj0=>exact absurd hk (by decide)
 | obj=>exact absurd hk (by decide)
theorem Eu {s:ByteArray} {a e:Nat} {ns:List S44} {ks:List S32} (h:J s .val a e 6 ns ks):bt s a=123:=by
 generalize hk:(6:Int)=kd at h
 cases h with
 | obj0 _ _ _ h1=>exact h1
 | obj _ _ _ _ _ _ h1=>exact h1
 | null=>exact absurd hk (by decide)
 | fals=>exact absurd hk (by decide)
 | tru=>exact absurd hk (by decide)
 | num=>exact absurd hk (by decide)
 | str=>exact absurd hk (by decide)
 | arr0=>exact absurd hk (by decide)
 | arr=>exact absurd hk (by decide)
theorem BH {s:ByteArray} (hs:s.size≤65536) {b m:Nat} {p:S32} (h:J s .val b m 5 p.f3 p.f4) (hp:Prd s b) (e0:p.f0=5) (e1:p.f1=b) (e2:p.f2=m):Gives s p (elems s p.f4):=by
 intro vr hok
 obtain ⟨b',m',f1,f2,f3,f4,f5,_⟩:=hok.at_
 obtain rfl:b'=b:=by omega
 obtain rfl:m'=m:=by omega
 have hk:vr.k=5:=by rw [hok.kind,e0];rfl
 have hz:(s.extract b' m').size=m' - b':=by rw [ByteArray.size_extract];omega
 have hz2:(s.extract b' m').size=m' - b'+0:=hz
 have hkid:=qA (lb hs) h hp
 have hl:=h.lens
 have P:=xJ (show b'≤m' by omega) f4
 have hns:=xK h
 rw [hns] at h
 have hJ:=h.move P (Nat.le_refl _) (by omega)
 rw [show b' - b'+0=0 by omega,show m' - b'+0=(s.extract b' m').size from hz.symm,List.map_nil] at hJ
 have h91:=DC hJ
 have hel:elems (s.extract b' m') (mvs (((0:Nat):Int) - b') p.f4)=elems s p.f4:=uU P _ (fun q hq=>by
  obtain ⟨x,y,g1,g2,g3,g4,g5,_⟩:=hkid q hq
  have:=g5.bound
  exact ⟨x,y,g1,g2,g3,by omega,by omega⟩)
 refine .inr ⟨hk,fun W=>?_,mvs (((0:Nat):Int) - b') p.f4,(s.extract b' m').size,?_⟩
 ·rw [f5]
  exact yH _ (by omega) true (by rw [h91];rfl) _ _ _ W
 ·rw [f5]
  refine ⟨hJ,Blanks.refl _ _,EK (lb hs) h hp,by rw [pG];omega,by rw [elems,List.length_map];omega,fun y hy=>?_,fun ps hps=>by rw [sN hps,hel]⟩
  obtain ⟨q,_,rfl⟩:=List.mem_map.1 hy
  rw [ByteArray.size_extract]
  omega
theorem Eg:∀ l:List (List Int),tot l≤(jn l).length
 | []=>by simp [tot]
 | [x]=>by simp [jn,tot]
 | x :: y :: l=>by
   have:=Eg (y :: l)
   rw [jn,List.length_append,List.length_cons,iP]
   omega
theorem Dn {α β γ:Type} (f:α→List β) (g:α→List γ):∀ l:List α,(∀ x ∈ l,(f x).length≤(g x).length)→tot (l.map f)≤tot (l.map g)
 | [],_=>by simp [tot]
 | x :: l,h=>by
   have h1:=Dn f g l (fun y hy=>h y (List.mem_cons_of_mem _ hy))
   have h2:=h x (List.mem_cons_self ..)
   rw [List.map_cons,List.map_cons,iP,iP]
   omega
theorem uY {s:ByteArray} (hs:s.size≤65536) {ns:List S44} {ks:List S32} (h:J s .val 0 s.size 6 ns ks) (hp:Prd s 0) {keys:List ByteArray} (hn:fB s ns keys) {ts:List S25} (ht:fP s ks ts):tot (ks.map fun p=>elems s p.f4)≤65536:=by
 have hg:=(h.pieces (lb hs) hp keys ts hn ht).I9
 rw [show Md.room .val 6 (s.size - 0)=s.size - 0 - 1 by simp [Md.room]] at hg
 have h1:=Eg (ks.map (qJ s))
 have h2:=Dn (fun p:S32=>elems s p.f4) (qJ s) ks (fun p hm=>by
  obtain ⟨b,m,g1,g2,_,_,g3,_⟩:=qA (lb hs) h hp p hm
  have hl:=g3.lens
  have hb:=g3.bound
  rw [elems,List.length_map,qJ,g1,g2,Int.toNat_natCast,Int.toNat_natCast,jF hb.2]
  omega)
 omega
theorem xk:∀ (l:List (ByteArray × List ByteArray)) (R:List (List Int)) (i:Nat),(l.foldl (fun R q=>grs R q.1 q.2) R).getD i []=R.getD i [] ++ l.flatMap (fun q=>(q.2[i]?.map (piece q.1)).getD [])
 | [],R,i=>by simp
 | q :: l,R,i=>by rw [List.foldl_cons,xk l,zN,List.flatMap_cons,List.append_assoc]
theorem xP (m:Nat):∀ (l:List (ByteArray × List ByteArray)) (R:List (List Int)),R.length=m→(∀ q ∈ l,q.2.length=m)→(l.foldl (fun R q=>grs R q.1 q.2) R).length=m
 | [],R,h,_=>h
 | q :: l,R,h,h2=>xP m l _ (by rw [oC,h,h2 q (List.mem_cons_self ..)];omega) (fun p hp=>h2 p (List.mem_cons_of_mem _ hp))
theorem zU {m:Nat} {nms:List ByteArray} {es:List (List ByteArray)} (hl:nms.length=es.length) (h:∀ ys ∈ es,ys.length=m) (h0:es=[]→m=0):(gat nms es).length=m:=by
 match nms,es,hl with
 | [],[],_=>rw [h0 rfl];rfl
 | n :: nms,ys :: es,_ =>
   unfold gat
   rw [List.zip_cons_cons,List.foldl_cons]
   refine xP m _ _ (by rw [oC,h ys (List.mem_cons_self ..)];simp) (fun q hq=>?_)
   exact h _ (List.mem_cons_of_mem _ (List.of_mem_zip hq).2)
theorem Ep (nm y:ByteArray):piece nm y=44 :: mb (bytesOf nm) (bytesOf y):=by
 unfold piece mb bytesOf
 simp [ByteArray.data_append]
theorem zV:∀ l:List (List Int),(l.flatMap fun x=>44 :: x).drop 1=jn l
 | []=>rfl
 | [x]=>by simp [jn]
 | x :: y :: l=>by
   have:=zV (y :: l)
   rw [jn,← this]
   simp
def vX (es:List (List ByteArray)) (i:Nat):List (List Int):=es.map fun ys=>bytesOf (ys.getD i ⟨#[]⟩)
theorem AB (i:Nat):∀ (nms:List ByteArray) (es:List (List ByteArray)),(∀ ys ∈ es,i < ys.length)→(nms.zip es).flatMap (fun q=>(q.2[i]?.map (piece q.1)).getD [])=(List.zipWith mb (nms.map bytesOf) (vX es i)).flatMap fun x=>44 :: x
 | [],_,_=>by simp
 | _ :: _,[],_=>by simp [vX]
 | n :: nms,ys :: es,h=>by
   have h1:=h ys (List.mem_cons_self ..)
   have ih:=AB i nms es (fun y hy=>h y (List.mem_cons_of_mem _ hy))
   rw [List.zip_cons_cons,List.flatMap_cons,ih,List.getElem?_eq_getElem h1,Option.map_some,Option.getD_some,Ep]
   rw [show vX (ys :: es) i=bytesOf (ys.getD i ⟨#[]⟩) :: vX es i from rfl,List.map_cons,List.zipWith_cons_cons,List.flatMap_cons,List.getD_eq_getElem?_getD,List.getElem?_eq_getElem h1,Option.getD_some]
theorem AL {nms:List ByteArray} {es:List (List ByteArray)} {i:Nat} (h:∀ ys ∈ es,i < ys.length):jQ ((gat nms es).getD i [])=123 :: (jn (List.zipWith mb (nms.map bytesOf) (vX es i)) ++ [125]):=by
 unfold jQ gat
 rw [xk,AB i nms es h,List.getD_nil,List.nil_append,zV]
theorem Hw {m:Nat} {nms:List ByteArray} {es:List (List ByteArray)} (hl:nms.length=es.length) (h:∀ ys ∈ es,ys.length=m) (h0:es=[]→m=0):(gat nms es).map jQ=(List.range m).map fun i=>123 :: (jn (List.zipWith mb (nms.map bytesOf) (vX es i)) ++ [125]):=by
 have hlen:=zU hl h h0
 refine List.ext_getElem (by rw [List.length_map,List.length_map,List.length_range,hlen]) fun i h1 h2=>?_
 rw [List.length_map,hlen] at h1
 rw [List.getElem_map,List.getElem_map,List.getElem_range,← AL (fun ys hy=>by rw [h ys hy];exact h1),List.getD_eq_getElem?_getD,List.getElem?_eq_getElem (by omega),Option.getD_some]
def col (ts:List S25) (i:Nat):List S25:=ts.map fun t=>t.f3.getD i z25
def wC (keys:List ByteArray) (ts:List S25) (m:Nat):List S25:=(List.range m).map fun i=>⟨6,⟨#[]⟩,keys,col ts i⟩
theorem ya:∀ {bs:List (List Int)} {ts:List S25},mP bs ts→∀ i,i < ts.length→ql (bs.getD i []) (ts.getD i z25)
 | [],[],_,_,h=>absurd h (Nat.not_lt_zero _)
 | _ :: _,_ :: _,h,0,_=>h.1
 | _ :: _,_ :: _,h,i+1,hi=>by
   rw [List.getD_cons_succ,List.getD_cons_succ]
   exact ya h.2 i (by simpa using hi)
 | [],_ :: _,h,_,_=>h.elim
 | _ :: _,[],h,_,_=>h.elim
def tN (s:ByteArray):List S32→List S25→Prop
 | [],[]=>True
 | p :: ps,t :: ts=>(p.f0=5∧p.f4.length=t.f3.length∧mP ((elems s p.f4).map bytesOf) t.f3)∧tN s ps ts
 | _,_=>False
theorem oH {s:ByteArray} (hs:s.size≤65536):∀ {ks:List S32} {ts:List S25},(∀ p ∈ ks,∃ b m:Nat,p.f1=b∧p.f2=m∧J s .val b m p.f0 p.f3 p.f4∧Prd s b)→fP s ks ts→(∀ t ∈ ts,t.f0=5)→tN s ks ts
 | [],[],_,_,_=>trivial
 | p :: ks,t :: ts,h,ht,h5=>by
   refine ⟨?_,oH hs (fun q hq=>h q (List.mem_cons_of_mem _ hq)) ht.2 (fun u hu=>h5 u (List.mem_cons_of_mem _ hu))⟩
   obtain ⟨b,m,e1,e2,hJ,hp⟩:=h p (List.mem_cons_self ..)
   have hT:=ht.1
   rw [e1,e2] at hT
   have hk:=mD (lb hs) hJ hp hT
   have h50:=h5 t (List.mem_cons_self ..)
   rw [h50] at hk
   rw [← hk] at hJ hT
   have hns:=xK hJ
   rw [hns] at hJ hT
   obtain ⟨us,e,hu⟩:=vM (lb hs) (.inl rfl) hJ hp (keys:=[]) trivial hT
   have e3:t.f3=us:=by injection e with _ e;injection e with _ e;injection e with _ e
   rw [e3]
   refine ⟨hk.symm,oM hu,?_⟩
   have:=(hJ.pieces (lb hs) hp [] us trivial hu).vals
   rw [elems,List.map_map]
   exact this
 | [],_ :: _,_,h,_=>h.elim
 | _ :: _,[],_,h,_=>h.elim
theorem tN.col {s:ByteArray} {m i:Nat} (hi:i < m):∀ {ks:List S32} {ts:List S25},tN s ks ts→(∀ t ∈ ts,t.f3.length=m)→mP (vX (ks.map fun p=>elems s p.f4) i) (Hec.col ts i)
 | [],[],_,_=>trivial
 | p :: ks,t :: ts,h,hm=>by
   obtain ⟨_,h1,h2⟩:=h.1
   have hl:=hm t (List.mem_cons_self ..)
   have h3:=ya h2 i (by omega)
   have h4:i < (elems s p.f4).length:=by rw [elems,List.length_map];omega
   refine ⟨?_,tN.col hi h.2 (fun u hu=>hm u (List.mem_cons_of_mem _ hu))⟩
   rw [List.getD_eq_getElem?_getD,List.getElem?_map,List.getElem?_eq_getElem h4,Option.map_some,Option.getD_some] at h3
   show ql (bytesOf ((elems s p.f4).getD i ⟨#[]⟩)) (t.f3.getD i z25)
   rw [List.getD_eq_getElem?_getD,List.getElem?_eq_getElem h4,Option.getD_some]
   exact h3
 | [],_ :: _,h,_=>h.elim
 | _ :: _,[],h,_=>h.elim
theorem tN.lens {s:ByteArray} {m:Nat}:∀ {ks:List S32} {ts:List S25},tN s ks ts→(∀ t ∈ ts,t.f3.length=m)→∀ ys ∈ ks.map (fun p=>elems s p.f4),ys.length=m
 | [],[],_,_,ys,h=>by cases h
 | p :: ks,t :: ts,h,hm,ys,hy=>by
   rcases List.mem_cons.1 hy with rfl | hy
   ·show (elems s p.f4).length=m
    rw [elems,List.length_map,h.1.2.1]
    exact hm t (List.mem_cons_self ..)
   ·exact tN.lens h.2 (fun u hu=>hm u (List.mem_cons_of_mem _ hu)) ys hy
 | [],_ :: _,h,_,_,_=>h.elim
 | _ :: _,[],h,_,_,_=>h.elim
theorem sZ {f:Nat→List Int} {g:Nat→S25}:∀ l:List Nat,(∀ i ∈ l,ql (f i) (g i))→mP (l.map f) (l.map g)
 | [],_=>trivial
 | i :: l,h=>⟨h i (List.mem_cons_self ..),sZ l (fun j hj=>h j (List.mem_cons_of_mem _ hj))⟩
theorem Hm {nl bs:List (List Int)} (h1:∀ x ∈ nl,Byt x) (h2:∀ x ∈ bs,Byt x):∀ x ∈ List.zipWith mb nl bs,Byt x:=by
 intro x hx
 obtain ⟨j,hj⟩:=List.mem_iff_getElem?.1 hx
 rw [List.getElem?_zipWith] at hj
 cases g1:nl[j]? with
 | none=>rw [g1] at hj;simp at hj
 | some a =>
   cases g2:bs[j]? with
   | none=>rw [g1,g2] at hj;simp at hj
   | some b =>
     rw [g1,g2] at hj
     obtain rfl:=Option.some.inj hj
     exact (h1 a (List.mem_of_getElem? g1)).app (Byt.cons (by decide) (by decide) (h2 b (List.mem_of_getElem? g2)))
theorem yz {s:ByteArray} (hs:s.size≤65536) {ns:List S44} {ks:List S32} (h:J s .val 0 s.size 6 ns ks) (hp:Prd s 0) {keys:List ByteArray} (hn:fB s ns keys) {ts:List S25} (ht:fP s ks ts) {m:Nat} (h5:∀ t ∈ ts,t.f0=5) (hm:∀ t ∈ ts,t.f3.length=m) (hm0:ts=[]→m=0) {ps:List (Rs × Rs)} (hps:gI s ns ps) (hpl:ps.length=ks.length) :
 Evt (fun k=>fO.f k (strOfNums (rY (gat (ps.map fun p=>p.1.raw) (ks.map fun p=>elems s p.f4))))) (5,⟨#[]⟩,[],wC keys ts m,true):=by
 have hkid:=qA (lb hs) h hp
 have hT:=oH hs (fun p hp=>by obtain ⟨b,m,g1,g2,_,_,g3,g4⟩:=hkid p hp;exact ⟨b,m,g1,g2,g3,g4⟩) ht h5
 have hpc:=h.pieces (lb hs) hp keys ts hn ht
 have hnm:=uJ hps
 have hl:=h.lens
 have hlt:=oM ht
 have htot:=uY hs h hp hn ht
 have hgt:=wV (ps.map fun p=>p.1.raw) (ks.map fun p=>elems s p.f4) [] (fun n hn=>Nat.le_trans (pg hps n hn) hs) (fun ys hy y hyy=>by
  obtain ⟨p,_,rfl⟩:=List.mem_map.1 hy
  obtain ⟨q,_,rfl⟩:=List.mem_map.1 hyy
  rw [ByteArray.size_extract]
  omega)
 change tot (gat _ _)≤_ at hgt
 have hg0:tot ([]:List (List Int))=0:=rfl
 have hgl:=zU (nms:=ps.map fun p=>p.1.raw) (es:=ks.map fun p=>elems s p.f4) (by rw [List.length_map,List.length_map,hpl]) (hT.lens hm) (fun e=>hm0 (by
  have:ks.length=0:=by have:=congrArg List.length e;rwa [List.length_map] at this
  exact List.eq_nil_of_length_eq_zero (by omega)))
 have hml:m≤65536:=by
  match ts,ks,ht,hm,hm0,hT,hkid with
  | [],_,_,_,hm0,_,_=>rw [hm0 rfl];omega
  | t :: ts,p :: ks,_,hm,_,hT,hkid =>
    obtain ⟨b,x,_,_,_,_,g3,_⟩:=hkid p (List.mem_cons_self ..)
    have h1:=hm t (List.mem_cons_self ..)
    have h2:=hT.1.2.1
    have h3:=g3.lens
    have h4:=g3.bound
    omega
 have hjl:=vJ (gat (ps.map fun p=>p.1.raw) (ks.map fun p=>elems s p.f4)) (gat (ps.map fun p=>p.1.raw) (ks.map fun p=>elems s p.f4)).length
 rw [List.take_length,List.length_cons] at hjl
 have hgr:=Hw (nms:=ps.map fun p=>p.1.raw) (es:=ks.map fun p=>elems s p.f4) (by rw [List.length_map,List.length_map,hpl]) (hT.lens hm) (fun e=>hm0 (by
  have:ks.length=0:=by have:=congrArg List.length e;rwa [List.length_map] at this
  exact List.eq_nil_of_length_eq_zero (by omega)))
 have hnl:(ps.map fun p=>p.1.raw).map bytesOf=ns.map (uy s):=by
  rw [← hnm,List.map_map,List.map_map]
  rfl
 rw [hnl] at hgr
 have hV:mP ((List.range m).map fun i=>123 :: (jn (List.zipWith mb (ns.map (uy s)) (vX (ks.map fun p=>elems s p.f4) i)) ++ [125])) (wC keys ts m):=by
  refine sZ _ fun i hi=>?_
  have hi':=List.mem_range.1 hi
  refine Gj ?_ hpc.names (hT.col hi' hm)
  rw [vX,List.length_map,List.length_map,List.length_map]
  have:=uV hps
  omega
 unfold rY at *
 rw [hgr] at hjl ⊢
 refine (FP hV).read ?_ ?_
 ·refine Byt.cons (by decide) (by decide) ((zi fun x hx=>?_).app (Byt.cons (by decide) (by decide) Byt.nil))
  obtain ⟨i,_,rfl⟩:=List.mem_map.1 hx
  refine Byt.cons (by decide) (by decide) ((zi (Hm ?_ ?_)).app (Byt.cons (by decide) (by decide) Byt.nil))
  ·intro x hx
   obtain ⟨y,_,rfl⟩:=List.mem_map.1 hx
   exact vH _
  ·intro x hx
   obtain ⟨y,_,rfl⟩:=List.mem_map.1 hx
   exact vH _
 ·rw [List.length_cons,List.length_append,List.length_singleton]
  omega
theorem wQ (B:Nat) (w:World) (s arg:ByteArray) (ns:List S44) (ks:List S32) (es:List (List ByteArray)) (hs:s.size≤65536) (hJ:J s .val 0 s.size 6 ns ks) (hP:Prd s 0) (hT:Tabs B w) (hk:ks.length≤65536) (hnk:ns.length=ks.length) (hek:es.length=ks.length) (hg:∀ (i:Nat) (p:S32) (ys:List ByteArray),ks[i]?=some p→es[i]?=some ys→Gives s p ys) (htot:tot es≤65536) (hsz:∀ ys ∈ es,∀ y ∈ ys,y.size≤65536)
 (hpo:∀ W,Calls Tryz.prog 44 #[.string s] W fun e w'=>e = .returned (resV 5 s ⟨#[]⟩ 0 0)∧Below W.heap.size W w') (hio:∀ W,Calls Tryz.prog 88 #[resV 5 s ⟨#[]⟩ 0 0] W fun e w'=>e = .returned (.bool true)∧Below W.heap.size W w')
 (hin:∀ (args:Array Value) (W:World),(callFunc 89 args).run Tryz.prog W = .ok (.enter 89 args) W) (hin2:∀ (args:Array Value) (W:World),(callFunc 91 args).run Tryz.prog W = .ok (.enter 91 args) W) :
 Calls Tryz.prog 65 #[.string s,.string arg] w fun e w'=>∃ ps:List (Rs × Rs),gI s ns ps∧ps.length=ks.length∧e = .returned (.string (strOfNums (rY (gat (ps.map fun p=>p.1.raw) es))))∧Below w.heap.size w w':=by
 replace hJ:=ae.mk hJ
 replace hP:=ae.mk hP
 replace hT:=ae.mk hT
 replace hin:=ae.mk hin
 replace hin2:=ae.mk hin2
 replace hnk:=ae.mk hnk
 replace hg:=ae.mk hg
 replace hek:=ae.mk hek
 go_enter Tryz.func65,Tryz.ntmps65
 go_wp2_with (fail)
 with_reducible refine (hpo _).mono ?_
 rintro e w1 ⟨rfl,hB1⟩
 go_wp2_with (fail)
 with_reducible refine (hio _).mono ?_
 rintro e w2 ⟨rfl,hB2⟩
 have kr:=bU (dP w1 (.cells (jg ⟨5,s,⟨#[]⟩,0,0⟩) 67)) hB2
 have hb2:Below w.heap.size w w2:=dB (dB hB1 (ai (Below.refl _ _) _)) hB2
 have kr3:=aN kr (.cells #[.slice none 0 0] 126)
 have hb3:Below w.heap.size w (w2.alloc (.cells #[.slice none 0 0] 126)):=dB hb2 (ai (Below.refl _ _) _)
 have kO3:=dP w2 (.cells #[.slice none 0 0] 126)
 have d0:=(ah kr3 0).trans rfl
 have d1:=(ah kr3 1).trans rfl
 have d2:=(ah kr3 2).trans rfl
 have d3:=(ah kr3 3).trans rfl
 have d4:=(ah kr3 4).trans rfl
 have d5:=(ah kr3 5).trans rfl
 have hlo:w.heap.size≤w2.heap.size:=hb2.size
 have hO3:Out w.heap.size w2.heap.size w2.heap.size es w [] (w2.alloc (.cells #[.slice none 0 0] 126)):=⟨⟨⟨.slice none 0 0,[],kO3,⟨rfl,.inl ⟨rfl,rfl⟩⟩,iQ.nil _ _ _ _⟩⟩,by simp [gat],fun i=>by simp [gat],hb3,by simp⟩
 replace kr3:=ae.mk kr3
 replace hb3:=ae.mk hb3
 replace hb2:=ae.mk hb2
 replace kO3:=ae.mk kO3
 replace hO3:=ae.mk hO3
 replace hlo:=ae.mk hlo
 have hmf:∀ (fn:Fn) (first cap:Array Value) (w:World),(Instr.makeFunc fn first cap).run Tryz.prog w = .ok (.func fn first cap) w:=fun _ _ _ _=>rfl
 clear hB1 hB2 kr hpo hio
 go_wp2_with (fail)
 with_reducible refine (xG w _ B w.heap.size _ _ 0 (Out w.heap.size w2.heap.size w2.heap.size es w) 89 ⟨w2.heap.size,0,none⟩ s hs ns ks s.size hJ.out (Blanks.refl _ _) hP.out ⟨#[]⟩ 0 0 hT.out hT.out.size (yb hlo.out (by simp)) (yG hs hk hnk.out hek.out hg.out hT.out hT.out.size hlo.out hlo.out hin2.out) hin.out rfl rfl hO3.out).mono ?_
 rintro e w4 ⟨rfl,ps,hO4,hok,hnm,hle,hend,-⟩
 have hlen:ps.length=ks.length:=hend.resolve_right (fun h=>by omega)
 rw [hlen,← hnk.out,List.take_length] at hnm
 have hRt:=wV (ps.map fun p=>p.1.raw) es [] (fun n hn=>Nat.le_trans (pg hnm n hn) hs) hsz
 have hRp:=Fe (ps.map fun p=>p.1.raw) es
 change tot (gat _ es)≤_ at hRt
 obtain ⟨R,hRg⟩:∃ R,gat (ps.map fun p=>p.1.raw) es=R:=⟨_,rfl⟩
 have hA4:=hO4.all
 have hRl:=hO4.len
 have hRr:=hO4.rows
 have hB4:=hO4.bel
 rw [hRg] at hA4 hRl hRr hRt hRp
 have hbl0:=fun j=>vJ R j
 replace hbl0:=ae.mk hbl0
 replace hRp:=ae.mk hRp
 have hRt2:tot R≤65536*131074:=Nat.le_trans hRt (by simp [tot] at htot ⊢;omega)
 replace hRt2:=ae.mk hRt2
 clear hRt
 obtain ⟨A,cap,vs,kA,hOr,hM0,hvl⟩:=hA4.rows
 have kc:=(ah kA 0).trans rfl
 have hn0:w4.ownsRow w4.heap.size 5 1 (.slice none 0 0) ([]:List Int).length (nums .u8 []):=⟨rfl,.inl ⟨rfl,rfl⟩⟩
 have hM:=ae.mk (MR.mk (bs:=[]) (Below.refl _ w4) hn0)
 replace kA:=ae.mk kA
 replace hOr:=ae.mk hOr
 replace hM0:=ae.mk hM0
 replace hvl:=ae.mk hvl
 replace hRr:=ae.mk hRr
 replace hRg:=ae.mk hRg
 replace hB4:=ae.mk hB4
 replace hnm:=ae.mk hnm
 replace hlen:=ae.mk hlen
 clear hn0 hA4 hO4 hok hle hend d0 d1 d2 d3 d4 d5
 go_wp2_with (first | ((with_reducible refine cO (b:=.append) (xs:=#[.tmp 18,.tmp 19]) rfl ?_);at_builtin;refine dF (w0:=w4) w4.heap.size rfl (.tmp 18) (.tmp 19) 99 5 .u8 1 rfl Tryz.underlying99 Q.info5 (by decide) _ [] 91 rfl rfl ?aO ?aB ?aS ?aL ?_;(case aO=>exact hM.out.own);(case aB=>exact hM.out.bel);(case aS=>exact hM.out.bel.size);(case aL=>simp);intro v1 w6 ho hb hg hat;replace hM:=ae.mk (MR.mk (bs:=[91]) hb ho);clear ho hb hg hat;replace kc:=(ah (bU kA.out hM.out.bel) 0).trans rfl))
 go_loopg [7,23] R.length (fun kq v7 v23 W=>∃ (j:Nat) (bs:List Int),v23 = .int .i64 (j:Int)∧ae (j+kq=R.length)∧ae (bs=91 :: jn ((R.take j).map jQ))∧ae (MR w4 v7 bs W))
 case atStart=>exact ⟨0,[91],rfl,⟨by omega⟩,⟨by simp [jn]⟩,hM⟩
 case round =>
  clear hM
  obtain ⟨j,bs,rfl,hj,hbs,hM⟩:=hrel
  have hbl:ae (bs.length≤900000000000):=⟨by have:=hbl0.out j;have:=hRt2.out;rw [hbs.out];omega⟩
  cases gk with
  | zero =>
    have e0:decide (j < R.length)=false:=decide_eq_false (by have:=hj.out;omega)
    have hbs0:=hbs.out
    rw [show j=R.length from hj.out,List.take_length] at hbs0
    have hg9:(strOfNums (bs ++ [93]))=strOfNums (rY R):=by
     rw [hbs0]
     rfl
    replace hg9:=ae.mk hg9
    clear hbs0
    go_wp2_with (first | ((with_reducible refine cO (b:=.append) (xs:=#[.tmp 44,.tmp 45]) rfl ?_);at_builtin;refine dF (w0:=w4) w4.heap.size rfl (.tmp 44) (.tmp 45) 99 5 .u8 1 rfl Tryz.underlying99 Q.info5 (by decide) _ bs 93 rfl rfl ?aO ?aB ?aS ?aL ?_;(case aO=>exact hM.out.own);(case aB=>exact hM.out.bel);(case aS=>exact hM.out.bel.size);(case aL=>have:=hbl.out;(try simp only [List.length_append,List.length_cons,List.length_nil,bytesOf_length]);omega);intro v1 w1 ho hb hg hat;have hcv:=pO (P:=Tryz.prog) Tryz.underlying99 Tryz.underlying5 Tryz.underlying9 ho;replace hM:=ae.mk (MR.mk hb ho);clear ho hb hg hat))
    go_ret
    exact ⟨ps,hnm.out,hlen.out,by rw [hRg.out,← hg9.out];rfl,hB4.out.trans (Below.mono hM.out.bel hB4.out.size)⟩
  | succ gk =>
    have hlt:j < R.length:=by have:=hj.out;omega
    have e0:decide (j < R.length)=true:=decide_eq_true hlt
    have hjl:(R.map jQ)[j]?=some (jQ R[j]):=by rw [List.getElem?_map,List.getElem?_eq_getElem hlt];rfl
    have hstep:=EO (l:=R.map jQ) (j:=j) (by rw [List.length_map];exact hlt)
    have hpos:=hRp.out R[j] (List.getElem_mem hlt)
    have htl:R[j].length≤tot R:=by
     have h1:=uj (R.drop j) 1
     have h2:tot R=tot (R.take j)+tot (R.drop j):=by
      unfold tot
      rw [← List.sum_append,← List.map_append,List.take_append_drop]
     rw [List.drop_eq_getElem_cons hlt] at h2
     rw [iP] at h2
     omega
    have hvj:j < vs.length:=by have:=hvl.out;omega
    have hv:=List.getElem?_eq_getElem hvj
    have hRj:(R.map rowOf)[j]?=some (rowOf R[j]):=by rw [List.getElem?_map,List.getElem?_eq_getElem hlt];rfl
    have hown:=hM0.out.own j _ _ hv hRj
    obtain ⟨gA,capA,hA,hbgA,hncA⟩:=mH hOr.out (by omega)
    obtain rfl:A=some ⟨gA,0,none⟩:=by injection hA
    have hcell:=hOr.out.cells (g:=gA) rfl j _ hv
    rw [wH] at hcell
    rw [List.getElem_map] at hstep
    obtain ⟨gv,capv,hvv,hbgv,hncv⟩:=mH hown (by show 0 < R[j].length;exact hpos)
    rw [hvv] at hown hcell
    generalize R[j]=l at *
    change l.length≤capv at hncv
    change w4.cell? _=some (.slice (some ⟨gv,0,none⟩) l.length capv) at hcell
    change w4.ownsRow w2.heap.size 5 1 (.slice (some ⟨gv,0,none⟩) l.length capv) l.length (nums .u8 l) at hown
    have hri:=zx hown
    have hcj:=(hM.out.bel.cell (World.block_lt_of_cell? w4 _ hcell)).trans hcell
    have p1:(0≤(j:Int))=True:=eq_true (by omega)
    have p2:((j:Int) < (R.length:Int))=True:=eq_true (by omega)
    have p3:(1≤l.length)=True:=eq_true hpos
    have p4:((1:Int)≤(l.length:Int))=True:=eq_true (by omega)
    replace hri:=ae.mk hri
    replace hown:=ae.mk hown
    replace hstep:=ae.mk hstep
    have htl':=ae.mk (Nat.le_trans htl hRt2.out)
    clear hv hRj hvv hcell hA htl hjl
    have hri:=ae.mk (jd.Iy hri.out 1 hpos hncv)
    by_cases hj0:j=0
    ·have e3:decide (0 < j)=false:=decide_eq_false (by omega)
     replace hj0:=ae.mk hj0
     go_wp2_with (first | ((with_reducible refine cO (b:=.append) (xs:=#[.tmp 30,.tmp 31]) rfl ?_);at_builtin;refine dF (w0:=w4) w4.heap.size rfl (.tmp 30) (.tmp 31) 99 5 .u8 1 rfl Tryz.underlying99 Q.info5 (by decide) _ bs 44 rfl rfl ?aO ?aB ?aS ?aL ?_;(case aO=>exact hM.out.own);(case aB=>exact hM.out.bel);(case aS=>exact hM.out.bel.size);(case aL=>have:=hbl.out;have:=htl'.out;(try simp only [List.length_append,List.length_cons,List.length_nil,List.length_drop]);omega);intro v1 w6 ho hb hg hat;replace hM:=ae.mk (MR.mk hb ho);clear ho hb hg hat) | ((with_reducible refine cO (b:=.append) (xs:=#[.tmp 33,.tmp 34]) rfl ?_);at_builtin;refine dF (w0:=w4) w4.heap.size rfl (.tmp 33) (.tmp 34) 99 5 .u8 1 rfl Tryz.underlying99 Q.info5 (by decide) _ (bs) 123 rfl rfl ?aO ?aB ?aS ?aL ?_;(case aO=>exact hM.out.own);(case aB=>exact hM.out.bel);(case aS=>exact hM.out.bel.size);(case aL=>have:=hbl.out;have:=htl'.out;(try simp only [List.length_append,List.length_cons,List.length_nil,List.length_drop]);omega);intro v1 w6 ho hb hg hat;replace hM:=ae.mk (MR.mk hb ho);clear ho hb hg hat) | ((with_reducible refine cO (b:=.append) (xs:=#[.tmp 36,.tmp 38]) rfl ?_);at_builtin;refine jI (w0:=w4) w4.heap.size rfl (.tmp 36) (.tmp 38) 99 5 .u8 1 rfl Tryz.underlying99 Q.info5 (by decide) _ (bs ++ [123]) (l.drop 1) _ _ _ rfl rfl ?aO ?aR ?aB ?aS ?aL ?_;(case aO=>exact hM.out.own);(case aR=>exact jd.below hri.out hM.out.bel);(case aB=>exact hM.out.bel);(case aS=>exact hM.out.bel.size);(case aL=>have:=hbl.out;have:=htl'.out;(try simp only [List.length_append,List.length_cons,List.length_nil,List.length_drop]);omega);intro v1 w6 ho hb hg hat;replace hM:=ae.mk (MR.mk hb ho);clear ho hb hg hat) | ((with_reducible refine cO (b:=.append) (xs:=#[.tmp 40,.tmp 41]) rfl ?_);at_builtin;refine dF (w0:=w4) w4.heap.size rfl (.tmp 40) (.tmp 41) 99 5 .u8 1 rfl Tryz.underlying99 Q.info5 (by decide) _ (bs ++ [123] ++ l.drop 1) 125 rfl rfl ?aO ?aB ?aS ?aL ?_;(case aO=>exact hM.out.own);(case aB=>exact hM.out.bel);(case aS=>exact hM.out.bel.size);(case aL=>have:=hbl.out;have:=htl'.out;(try simp only [List.length_append,List.length_cons,List.length_nil,List.length_drop]);omega);intro v1 w6 ho hb hg hat;replace hM:=ae.mk (MR.mk hb ho);clear ho hb hg hat))
     all_goals
      go_roundg gk
      case measure=>omega
      case rel =>
       refine ⟨j+1,_,by congr 1,⟨by have:=hj.out;omega⟩,⟨?_⟩,hM⟩
       rw [hbs.out,List.map_take,List.map_take,hstep.out,if_pos hj0.out,hj0.out]
       simp [jn,jQ]
    ·have e3:decide (0 < j)=true:=decide_eq_true (by omega)
     replace hj0:=ae.mk hj0
     go_wp2_with (first | ((with_reducible refine cO (b:=.append) (xs:=#[.tmp 30,.tmp 31]) rfl ?_);at_builtin;refine dF (w0:=w4) w4.heap.size rfl (.tmp 30) (.tmp 31) 99 5 .u8 1 rfl Tryz.underlying99 Q.info5 (by decide) _ bs 44 rfl rfl ?aO ?aB ?aS ?aL ?_;(case aO=>exact hM.out.own);(case aB=>exact hM.out.bel);(case aS=>exact hM.out.bel.size);(case aL=>have:=hbl.out;have:=htl'.out;(try simp only [List.length_append,List.length_cons,List.length_nil,List.length_drop]);omega);intro v1 w6 ho hb hg hat;replace hM:=ae.mk (MR.mk hb ho);clear ho hb hg hat) | ((with_reducible refine cO (b:=.append) (xs:=#[.tmp 33,.tmp 34]) rfl ?_);at_builtin;refine dF (w0:=w4) w4.heap.size rfl (.tmp 33) (.tmp 34) 99 5 .u8 1 rfl Tryz.underlying99 Q.info5 (by decide) _ (bs ++ [44]) 123 rfl rfl ?aO ?aB ?aS ?aL ?_;(case aO=>exact hM.out.own);(case aB=>exact hM.out.bel);(case aS=>exact hM.out.bel.size);(case aL=>have:=hbl.out;have:=htl'.out;(try simp only [List.length_append,List.length_cons,List.length_nil,List.length_drop]);omega);intro v1 w6 ho hb hg hat;replace hM:=ae.mk (MR.mk hb ho);clear ho hb hg hat) | ((with_reducible refine cO (b:=.append) (xs:=#[.tmp 36,.tmp 38]) rfl ?_);at_builtin;refine jI (w0:=w4) w4.heap.size rfl (.tmp 36) (.tmp 38) 99 5 .u8 1 rfl Tryz.underlying99 Q.info5 (by decide) _ (bs ++ [44] ++ [123]) (l.drop 1) _ _ _ rfl rfl ?aO ?aR ?aB ?aS ?aL ?_;(case aO=>exact hM.out.own);(case aR=>exact jd.below hri.out hM.out.bel);(case aB=>exact hM.out.bel);(case aS=>exact hM.out.bel.size);(case aL=>have:=hbl.out;have:=htl'.out;(try simp only [List.length_append,List.length_cons,List.length_nil,List.length_drop]);omega);intro v1 w6 ho hb hg hat;replace hM:=ae.mk (MR.mk hb ho);clear ho hb hg hat) | ((with_reducible refine cO (b:=.append) (xs:=#[.tmp 40,.tmp 41]) rfl ?_);at_builtin;refine dF (w0:=w4) w4.heap.size rfl (.tmp 40) (.tmp 41) 99 5 .u8 1 rfl Tryz.underlying99 Q.info5 (by decide) _ (bs ++ [44] ++ [123] ++ l.drop 1) 125 rfl rfl ?aO ?aB ?aS ?aL ?_;(case aO=>exact hM.out.own);(case aB=>exact hM.out.bel);(case aS=>exact hM.out.bel.size);(case aL=>have:=hbl.out;have:=htl'.out;(try simp only [List.length_append,List.length_cons,List.length_nil,List.length_drop]);omega);intro v1 w6 ho hb hg hat;replace hM:=ae.mk (MR.mk hb ho);clear ho hb hg hat))
     all_goals
      go_roundg gk
      case measure=>omega
      case rel =>
       refine ⟨j+1,_,by congr 1,⟨by have:=hj.out;omega⟩,⟨?_⟩,hM⟩
       rw [hbs.out,List.map_take,List.map_take,hstep.out,if_neg hj0.out]
       simp [jQ]
end Go.Proofs.YtpgfjbimodnkeaaGreatDoor.Hec
namespace Go.Proofs.YtpgfjbimodnkeaaGreatDoor.Q
open Go.RowKit Go.Proofs.YtpgfjbimodnkeaaGreatDoorW.PrintWords Go.Proofs.YtpgfjbimodnkeaaGreatDoorW.PrintLast Go.Proofs.YtpgfjbimodnkeaaGreatDoorW.PrintMore
section
variable {β:Type} {f:Nat→Nat→List β} {m k i:Nat}
def mid (f:Nat→Nat→List β) (m k i:Nat):List (List β):=(List.range (if k=0 then i else m)).map fun j=>f (if j < i then k+1 else k) j
def pre (f:Nat→Nat→List β) (m k i:Nat):List (List β):=if k=0 then mid f m k i ++ [[]] else mid f m k i
theorem oD:(mid f m k i).length=if k=0 then i else m:=by simp [mid]
theorem CU:mid f m k m=mid f m (k+1) 0:=by
 unfold mid
 rw [if_neg (Nat.succ_ne_zero k),ite_self]
 refine List.map_congr_left fun j hj=>?_
 rw [if_pos (List.mem_range.1 hj),if_neg (Nat.not_lt_zero _)]
theorem zK (hi:i < m):i < (pre f m k i).length∧(pre f m k i).length≤m:=by
 unfold pre
 split
 ·rw [List.length_append,oD,if_pos (by assumption),List.length_singleton];omega
 ·rw [oD,if_neg (by assumption)];omega
theorem pX (h0:∀ j,f 0 j=[]) (hi:i < m):(pre f m k i)[i]?=some (f k i):=by
 unfold pre
 split
 ·rename_i hk
  subst hk
  rw [List.getElem?_append_right (by rw [oD,if_pos rfl];exact Nat.le_refl _),oD,if_pos rfl,Nat.sub_self,h0]
  rfl
 ·rename_i hk
  unfold mid
  rw [if_neg hk,List.getElem?_map,List.getElem?_range hi,Option.map_some,if_neg (Nat.lt_irrefl _)]
theorem Aw (hi:i < m):(pre f m k i).set i (f (k+1) i)=mid f m k (i+1):=by
 have hl:=zK (f:=f) (k:=k) hi
 refine List.ext_getElem? fun j=>?_
 unfold pre at hl ⊢
 split
 ·rename_i hk
  subst hk
  unfold mid
  rw [if_pos rfl,if_pos rfl,List.range_succ,List.map_append,List.map_singleton,List.set_append_right _ _ (by simp)]
  simp only [List.length_map,List.length_range,Nat.sub_self,List.set_cons_zero,Nat.zero_add]
  rw [if_pos (Nat.lt_succ_self i)]
  congr 2
  refine List.map_congr_left fun x hx=>?_
  have:=List.mem_range.1 hx
  rw [if_pos this,if_pos (by omega)]
 ·rename_i hk
  unfold mid
  rw [if_neg hk,if_neg hk,List.getElem?_set]
  by_cases hj:i=j
  ·subst hj
   rw [if_pos rfl,if_pos (by simpa using hi),List.getElem?_map,List.getElem?_range hi,Option.map_some,if_pos (Nat.lt_succ_self _)]
  ·rw [if_neg hj,List.getElem?_map,List.getElem?_map]
   by_cases hjm:j < m
   ·rw [List.getElem?_range hjm,Option.map_some,Option.map_some]
    by_cases hji:j < i
    ·rw [if_pos hji,if_pos (by omega)]
    ·rw [if_neg hji,if_neg (by omega)]
   ·rw [List.getElem?_eq_none (by simp;omega)]
    rfl
end
def flat (av:List (Value × Value)):List Value:=av.flatMap fun a=>[.int .i64 6,.string ⟨#[]⟩,a.1,a.2]
theorem sO:∀ av:List (Value × Value),(flat av).length=av.length*4
 | []=>rfl
 | a :: av=>by
   have:=sO av
   unfold flat at this ⊢
   rw [List.flatMap_cons,List.length_append,this,List.length_cons]
   simp
   omega
theorem BF (av:List (Value × Value)) (a:Value × Value):flat (av ++ [a])=flat av ++ [.int .i64 6,.string ⟨#[]⟩,a.1,a.2]:=by
 unfold flat
 rw [List.flatMap_append]
 simp
theorem su:∀ (av:List (Value × Value)) (i:Nat) (a:Value × Value),av[i]?=some a→(flat av)[i*4+2]?=some a.1∧(flat av)[i*4+3]?=some a.2
 | [],i,a,h=>by simp at h
 | b :: av,0,a,h=>by
   obtain rfl:b=a:=by simpa using h
   exact ⟨rfl,rfl⟩
 | b :: av,i+1,a,h=>by
   have:=su av i a (by simpa using h)
   rw [show (i+1)*4+2=i*4+2+1+1+1+1 by omega,show (i+1)*4+3=i*4+3+1+1+1+1 by omega]
   exact this
theorem sF:∀ (av:List (Value × Value)) (i:Nat) (a:Value × Value) (v:Value),av[i]?=some a→(flat av).set (i*4+2) v=flat (av.set i (v,a.2))∧(flat av).set (i*4+3) v=flat (av.set i (a.1,v))
 | [],i,a,v,h=>by simp at h
 | b :: av,0,a,v,h=>by
   obtain rfl:b=a:=by simpa using h
   exact ⟨rfl,rfl⟩
 | b :: av,i+1,a,v,h=>by
   have:=sF av i a v (by simpa using h)
   have e:∀ (b:Value × Value) (l:List (Value × Value)),flat (b :: l) = .int .i64 6 :: .string ⟨#[]⟩ :: b.1 :: b.2 :: flat l:=fun _ _=>rfl
   rw [show (i+1)*4+2=i*4+2+1+1+1+1 by omega,show (i+1)*4+3=i*4+3+1+1+1+1 by omega,List.set_cons_succ,List.set_cons_succ,e,e,e]
   simp only [List.set_cons_succ]
   exact ⟨by rw [this.1],by rw [this.2]⟩
section
variable {α:Type} (a b:List α) (x y:α) (i:Nat)
theorem at0:(a ++ x :: b)[a.length]?=some x:=by simp
theorem at1:(a ++ x :: b)[a.length+1+i]?=b[i]?:=by
 rw [List.getElem?_append_right (by omega),show a.length+1+i - a.length=i+1 by omega,List.getElem?_cons_succ]
theorem set0:(a ++ x :: b).set a.length y=a ++ y :: b:=by
 rw [List.set_append_right _ _ (Nat.le_refl _),Nat.sub_self,List.set_cons_zero]
theorem set1:(a ++ x :: b).set (a.length+1+i) y=a ++ x :: b.set i y:=by
 rw [List.set_append_right _ _ (by omega),show a.length+1+i - a.length=i+1 by omega,List.set_cons_succ]
end
section
variable {e e':TypeId} {sz sz' base base' n':Nat} {W W':World} {vs:List Value} {xs:List (Nat × List Value)} {v':Value} {xs':List Value}
theorem iQ.at_ (h:iQ e sz base W vs xs) {i:Nat} {v:Value} (hv:vs[i]?=some v):∃ x,xs[i]?=some x∧W.ownsRow base e sz v x.1 x.2:=by
 have hl:=(List.getElem?_eq_some_iff.1 hv).1
 have hx:=List.getElem?_eq_getElem (l:=xs) (i:=i) (by rw [← h.len];exact hl)
 exact ⟨_,hx,h.own i v _ hv hx⟩
theorem iQ.types (h:iQ e sz base W vs xs) (h':W.ownsRow base' e' sz' v' n' xs') (hne:e≠e'):∀ v ∈ vs,v.ownBlock=none∨v.ownBlock≠v'.ownBlock:=fun v hv=>by
 obtain ⟨i,hi⟩:=List.mem_iff_getElem?.1 hv
 obtain ⟨x,_,ho⟩:=h.at_ hi
 exact lI ho h' hne
theorem iQ.low (h:iQ e sz base W vs xs) {g:Nat} (hg:g < base):∀ v ∈ vs,some g≠v.ownBlock:=fun v hv he=>by
 obtain ⟨i,hi⟩:=List.mem_iff_getElem?.1 hv
 obtain ⟨x,_,ho⟩:=h.at_ hi
 have:=own_base ho g he.symm
 omega
theorem iQ.ne (h:iQ e sz base W vs xs) {g:Nat} {cs:Array Value} (hg:W.heap[g]?=some (.cells cs e' (0,0))) (hne:e≠e'):∀ v ∈ vs,some g≠v.ownBlock:=fun v hv=>by
 obtain ⟨i,hi⟩:=List.mem_iff_getElem?.1 hv
 obtain ⟨x,_,ho⟩:=h.at_ hi
 exact own_ne ho hg hne
theorem iQ.tail {v:Value} {x:Nat × List Value} (h:iQ e sz base W (v :: vs) (x :: xs)):iQ e sz base W vs xs :=
 ⟨by simpa using h.len,fun i u y h1 h2=>h.own (i+1) u y h1 h2,fun i j u u' hij h1 h2=>h.far (i+1) (j+1) u u' (by omega) h1 h2⟩
theorem iQ.cons {v:Value} {x:Nat × List Value} (h:iQ e sz base W vs xs) (hb:Below W.heap.size W W') (ho:W'.ownsRow base e sz v x.1 x.2) (hnew:∀ k,v.ownBlock=some k→W.heap.size≤k):iQ e sz base W' (v :: vs) (x :: xs):=by
 have hf:∀ u ∈ vs,∀ k,u.ownBlock=some k→v.ownBlock≠some k:=fun u hu k hk he=>by
  obtain ⟨i,hi⟩:=List.mem_iff_getElem?.1 hu
  obtain ⟨y,_,ho'⟩:=h.at_ hi
  have h1:=ut ho' k hk
  have h2:=hnew k he
  omega
 have h':=h.below hb
 refine ⟨by simp [h.len],?_,?_⟩
 ·intro i u y h1 h2
  cases i with
  | zero =>
    obtain rfl:v=u:=by simpa using h1
    obtain rfl:x=y:=by simpa using h2
    exact ho
  | succ i=>exact h'.own i u y (by simpa using h1) (by simpa using h2)
 ·intro i j u u' hij h1 h2
  cases i with
  | zero =>
    obtain rfl:v=u:=by simpa using h1
    cases j with
    | zero=>exact absurd rfl hij
    | succ j =>
      have hm:=List.mem_of_getElem? (show vs[j]?=some u' by simpa using h2)
      cases hv:v.ownBlock with
      | none=>exact .inl rfl
      | some k=>exact .inr fun he=>hf u' hm k he.symm hv
  | succ i =>
    have hm:=List.mem_of_getElem? (show vs[i]?=some u by simpa using h1)
    cases j with
    | zero =>
      obtain rfl:v=u':=by simpa using h2
      cases hv:u.ownBlock with
      | none=>exact .inl rfl
      | some k=>exact .inr fun he=>hf u hm k hv he.symm
    | succ j=>exact h'.far i j u u' (by omega) (by simpa using h1) (by simpa using h2)
theorem iQ.put (h:iQ e sz base W vs xs) {i g n c:Nat} {x:Nat × List Value} (hv:vs[i]?=some (.slice (some ⟨g,0,none⟩) n c)) (hx:xs[i]?=some x) (j:Nat) (u:Value):iQ e sz base (W.setCell ⟨g,j,none⟩ u) vs (xs.set i (x.1,x.2.set j u)):=by
 have ho:=h.own i _ x hv hx
 obtain ⟨A,c',e1⟩:=ja ho
 injection e1 with _ e1 _
 rw [← e1] at ho
 obtain ⟨h1,h2⟩:=ho.stored j u
 have h3:=h.grow (x1:=(x.1,x.2.set j u)) hv (by rw [← e1];exact h1) h2 (.inl rfl)
 have h4:vs.set i (.slice (some ⟨g,0,none⟩) n c)=vs:=by
  refine List.ext_getElem? fun k=>?_
  rw [List.getElem?_set]
  split
  ·rename_i h5
   subst h5
   split
   ·exact hv.symm
   ·rw [List.getElem?_eq_none (by omega)]
  ·rfl
 rwa [h4] at h3
end
structure Gst (w:World) (u z:Array Value) (o3 v3:Value) (vx:List Value) (cx:List (Nat × List Value)) (Ks:List (List ByteArray)) (av:List (Value × Value)) (xs:List (Nat × List Value)) (W:World):Prop where
 k0:W.heap[w.heap.size]?=some (.cells u 25 (0,0))
 k1:W.heap[w.heap.size+1]?=some (.cells z 47 (0,0))
 k2:W.heap[w.heap.size+2]?=some (.cells #[.int .i64 5,.string ⟨#[]⟩,.slice none 0 0,o3] 25 (0,0))
 own:iQ 25 4 (w.heap.size+3) W (vx ++ v3 :: av.map Prod.snd) (cx ++ (av.length,flat av) :: xs)
 lx:cx.length=vx.length
 strs:iQ 9 1 (w.heap.size+3) W (av.map Prod.fst) (Ks.map fun l=>(l.length,encs Value.string l))
 bel:Below w.heap.size w W
section
variable {w W W' W1:World} {u z:Array Value} {o3 v3 v1:Value} {vx:List Value} {cx:List (Nat × List Value)} {Ks:List (List ByteArray)} {av:List (Value × Value)} {xs:List (Nat × List Value)}
theorem Gst.size (h:Gst w u z o3 v3 vx cx Ks av xs W):w.heap.size+3≤W.heap.size:=by have:=jO h.k2;omega
theorem Gst.below (h:Gst w u z o3 v3 vx cx Ks av xs W) (hb:Below W.heap.size W W'):Gst w u z o3 v3 vx cx Ks av xs W' :=
 ⟨bU h.k0 hb,bU h.k1 hb,bU h.k2 hb,h.own.below hb,h.lx,h.strs.below hb,dX h.bel h.bel.size hb⟩
theorem Gst.drew (h:Gst w u z o3 v3 vx cx Ks av xs W):Gst w u z o3 v3 vx cx Ks av xs W.drew:=h.below (dm (Below.refl _ _))
theorem Gst.alloc (h:Gst w u z o3 v3 vx cx Ks av xs W) (o:Obj):Gst w u z o3 v3 vx cx Ks av xs (W.alloc o):=h.below (ai (Below.refl _ _) _)
theorem Gst.len (h:Gst w u z o3 v3 vx cx Ks av xs W):xs.length=av.length∧Ks.length=av.length:=by
 have h1:=h.own.len
 have h2:=h.strs.len
 have h3:=h.lx
 simp only [List.length_append,List.length_cons,List.length_map] at h1 h2
 omega
theorem Gst.row3 (h:Gst w u z o3 v3 vx cx Ks av xs W):W.ownsRow (w.heap.size+3) 25 4 v3 av.length (flat av) :=
 h.own.own vx.length v3 (av.length,flat av) (at0 _ _ _) (by rw [← h.lx];exact at0 _ _ _)
theorem Gst.He (h:Gst w u z o3 v3 vx cx Ks av xs W) {i:Nat} {l:List ByteArray} {a:Value × Value} (hl:Ks[i]?=some l) (ha:av[i]?=some a):W.ownsRow (w.heap.size+3) 9 1 a.1 l.length (encs Value.string l) :=
 h.strs.own i a.1 (l.length,encs Value.string l) (by rw [List.getElem?_map,ha];rfl) (by rw [List.getElem?_map,hl];rfl)
theorem Gst.zG (h:Gst w u z o3 v3 vx cx Ks av xs W) {i:Nat} {x:Nat × List Value} {a:Value × Value} (hx:xs[i]?=some x) (ha:av[i]?=some a):W.ownsRow (w.heap.size+3) 25 4 a.2 x.1 x.2 :=
 h.own.own (vx.length+1+i) a.2 x (by rw [at1,List.getElem?_map,ha];rfl) (by rw [← h.lx,at1];exact hx)
theorem Gst.low (h:Gst w u z o3 v3 vx cx Ks av xs W) {base n size:Nat} {e:TypeId} {v:Value} {ys:List Value} (ho:W.ownsRow (w.heap.size+3) e size v n ys) (hg:W.grownBy W1 v.ownBlock) {g:Nat} (hgl:g < w.heap.size+3) {o:Obj} (hk:W.heap[g]?=some o):W1.heap[g]?=some o :=
 gK hk hg (fun he=>by have:=own_base ho g he.symm;omega)
theorem Gst.obj (h:Gst w u z o3 v3 vx cx Ks av xs W) (ho:W1.ownsRow (w.heap.size+3) 25 4 v1 (av.length+1) (flat av ++ [.int .i64 6,.string ⟨#[]⟩,.slice none 0 0,.slice none 0 0])) (hb:Below w.heap.size w W1) (hg:W.grownBy W1 v3.ownBlock) (hat:v1.ownBlock=v3.ownBlock∨∃ b,v1.ownBlock=some b∧W.heap.size≤b) :
 Gst w u z o3 v1 vx cx (Ks ++ [[]]) (av ++ [(.slice none 0 0,.slice none 0 0)]) (xs ++ [(0,[])]) W1:=by
 have h3:=h.row3
 refine ⟨h.low (base:=0) h3 hg (by omega) h.k0,h.low (base:=0) h3 hg (by omega) h.k1,h.low (base:=0) h3 hg (by omega) h.k2,?_,h.lx,?_,hb⟩
 ·have g1:=(h.own.grow (i:=vx.length) (x1:=(av.length+1,flat (av ++ [(.slice none 0 0,.slice none 0 0)]))) (at0 _ _ _) (by rw [BF];exact ho) hg hat).snoc (v1:=.slice none 0 0) (x1:=(0,[])) (rX _ _ _ _) (fun v _=>⟨by cases v.ownBlock with | none=>exact .inl rfl | some k=>exact .inr (fun e=>by cases e),.inl rfl⟩)
  rw [set0,← h.lx,set0,List.append_assoc,List.append_assoc] at g1
  rw [List.map_append,List.length_append]
  exact g1
 ·have g1:=(h.strs.other hg (h.strs.types h3 (by decide))).snoc (v1:=.slice none 0 0) (x1:=(0,[])) (rX _ _ _ _) (fun v _=>⟨by cases v.ownBlock with | none=>exact .inl rfl | some k=>exact .inr (fun e=>by cases e),.inl rfl⟩)
  rw [List.map_append,List.map_append]
  exact g1
theorem Gst.lX (h:Gst w u z o3 v3 vx cx Ks av xs W) (j:Nat) (v:Value) {z':Array Value} (e:z.setIfInBounds j v=z'):Gst w u z' o3 v3 vx cx Ks av xs (W.setCell ⟨w.heap.size+1,j,none⟩ v) :=
 ⟨bW h.k0 (by simp) _,cu h.k1 j _ e,bW h.k2 (by simp) _,h.own.setCell (p:=⟨w.heap.size+1,j,none⟩) v (h.own.low (show w.heap.size+1 < _ by omega)),h.lx,h.strs.setCell (p:=⟨w.heap.size+1,j,none⟩) v (h.strs.low (show w.heap.size+1 < _ by omega)),aA h.bel (by simp)⟩
theorem Gst.GV (h:Gst w u z o3 v3 vx cx Ks av xs W) (v:Value):Gst w u z v v3 vx cx Ks av xs (W.setCell ⟨w.heap.size+2,3,none⟩ v) :=
 ⟨bW h.k0 (by simp) _,bW h.k1 (by simp) _,cu h.k2 3 _ rfl,h.own.setCell (p:=⟨w.heap.size+2,3,none⟩) v (h.own.low (show w.heap.size+2 < _ by omega)),h.lx,h.strs.setCell (p:=⟨w.heap.size+2,3,none⟩) v (h.strs.low (show w.heap.size+2 < _ by omega)),aA h.bel (by simp)⟩
theorem oG {base n c g m:Nat} {e:TypeId} {size:Nat} {ys:List Value} (h:W.ownsRow base e size (.slice (some ⟨g,0,none⟩) n c) m ys):n=m∧base≤g∧m≤c∧∃ cur,W.heap[g]?=some (.cells cur e (0,0)):=by
 rcases h.2 with ⟨h',_⟩ | ⟨g',cap',cur,h',hb,hh,hc,_⟩
 ·cases h'
 ·injection h' with h' e2 e3
  injection h' with h'
  injection h' with h'
  subst h'
  subst e3
  exact ⟨e2,hb,hc,cur,hh⟩
theorem pq {n base:Nat} {e:TypeId} {size:Nat} {v:Value} {ys:List Value} (h:W.ownsRow base e size v n ys) (h0:0 < n):∃ g cap,v = .slice (some ⟨g,0,none⟩) n cap∧base≤g∧n≤cap:=by
 rcases h.2 with ⟨_,hz⟩ | ⟨g,cap,cur,rfl,hbg,hhg,hnc,hcm,hcs,htk⟩
 ·omega
 ·exact ⟨g,cap,rfl,hbg,hnc⟩
theorem Fj {base n m c g b':Nat} {e e':TypeId} {s s' k:Nat} {v:Value} {ys zs:List Value} (h:W.ownsRow base e s (.slice (some ⟨g,0,none⟩) n c) m ys) (h':W.ownsRow b' e' s' v k zs) (hne:e'≠e:=by decide):some g≠v.ownBlock:=by
 obtain ⟨_,_,_,cur,hcur⟩:=oG h
 exact own_ne h' hcur hne
theorem zP {av':List (Value × Value)} {Ks':List (List ByteArray)} {g n c j:Nat} {v:Value} (k0:W.heap[w.heap.size]?=some (.cells u 25 (0,0))) (k1:W.heap[w.heap.size+1]?=some (.cells z 47 (0,0))) (k2:W.heap[w.heap.size+2]?=some (.cells #[.int .i64 5,.string ⟨#[]⟩,.slice none 0 0,o3] 25 (0,0)))
 (own:iQ 25 4 (w.heap.size+3) W (vx ++ .slice (some ⟨g,0,none⟩) n c :: av'.map Prod.snd) (cx ++ (av.length,flat av) :: xs)) (lx:cx.length=vx.length) (strs:iQ 9 1 (w.heap.size+3) W (av'.map Prod.fst) (Ks'.map fun l=>(l.length,encs Value.string l))) (bel:Below w.heap.size w W)
 (hf:(flat av).set j v=flat av') (hl:av'.length=av.length):Gst w u z o3 (.slice (some ⟨g,0,none⟩) n c) vx cx Ks' av' xs (W.setCell ⟨g,j,none⟩ v):=by
 obtain ⟨e1,hg,_,cur,hcur⟩:=oG (own.own vx.length _ (av.length,flat av) (at0 _ _ _) (by rw [← lx];exact at0 _ _ _))
 refine ⟨bW k0 (p:=⟨g,j,none⟩) (by show w.heap.size≠g;omega) v,bW k1 (p:=⟨g,j,none⟩) (by show w.heap.size+1≠g;omega) v,bW k2 (p:=⟨g,j,none⟩) (by show w.heap.size+2≠g;omega) v,?_,lx,strs.setCell (p:=⟨g,j,none⟩) v (strs.ne hcur (by decide)),aA bel (by omega)⟩
 have g1:=own.put (i:=vx.length) (x:=(av.length,flat av)) (at0 _ _ _) (by rw [← lx];exact at0 _ _ _) j v
 rw [← lx,set0,hf,← hl] at g1
 exact g1
theorem xq {α:Type} {l:List α} {i:Nat} {x:α} (h:l[i]?=some x):l.set i x=l:=by
 refine List.ext_getElem? fun k=>?_
 rw [List.getElem?_set]
 split
 ·rename_i h5
  subst h5
  split
  ·exact h.symm
  ·rw [List.getElem?_eq_none (by omega)]
 ·rfl
theorem Gst.key {g n c i:Nat} {l:List ByteArray} {a:Value × Value} {key:ByteArray} (h:Gst w u z o3 (.slice (some ⟨g,0,none⟩) n c) vx cx Ks av xs W) (hl:Ks[i]?=some l) (ha:av[i]?=some a) (ho:W1.ownsRow (w.heap.size+3) 9 1 v1 (l.length+1) (encs Value.string l ++ [.string key])) (hb:Below w.heap.size w W1) (hg:W.grownBy W1 a.1.ownBlock) (hat:v1.ownBlock=a.1.ownBlock∨∃ b,v1.ownBlock=some b∧W.heap.size≤b) :
 Gst w u z o3 (.slice (some ⟨g,0,none⟩) n c) vx cx (Ks.set i (l ++ [key])) (av.set i (v1,a.2)) xs (W1.setCell ⟨g,i*4+2,none⟩ v1):=by
 have hK:=h.He hl ha
 refine zP (av:=av) (h.low (base:=0) hK hg (by omega) h.k0) (h.low (base:=0) hK hg (by omega) h.k1) (h.low (base:=0) hK hg (by omega) h.k2) ?_ h.lx ?_ hb (sF av i a v1 ha).1 (by rw [List.length_set])
 ·rw [List.map_set,xq (by rw [List.getElem?_map,ha];rfl)]
  exact h.own.other hg (h.own.types hK (by decide))
 ·rw [List.map_set,List.map_set]
  have g1:=h.strs.grow (x1:=((l ++ [key]).length,encs Value.string (l ++ [key]))) (i:=i) (v:=a.1) (v1:=v1) (by rw [List.getElem?_map,ha];rfl) (by rw [List.length_append,List.length_singleton,xn];exact ho) hg hat
  exact g1
theorem Gst.kid {g n c i:Nat} {x:Nat × List Value} {a:Value × Value} {cs:List Value} (h:Gst w u z o3 (.slice (some ⟨g,0,none⟩) n c) vx cx Ks av xs W) (hx:xs[i]?=some x) (ha:av[i]?=some a) (ho:W1.ownsRow (w.heap.size+3) 25 4 v1 (x.1+1) (x.2 ++ cs)) (hb:Below w.heap.size w W1) (hg:W.grownBy W1 a.2.ownBlock) (hat:v1.ownBlock=a.2.ownBlock∨∃ b,v1.ownBlock=some b∧W.heap.size≤b) :
 Gst w u z o3 (.slice (some ⟨g,0,none⟩) n c) vx cx Ks (av.set i (a.1,v1)) (xs.set i (x.1+1,x.2 ++ cs)) (W1.setCell ⟨g,i*4+3,none⟩ v1):=by
 have hV:=h.zG hx ha
 refine zP (av:=av) (h.low (base:=0) hV hg (by omega) h.k0) (h.low (base:=0) hV hg (by omega) h.k1) (h.low (base:=0) hV hg (by omega) h.k2) ?_ h.lx ?_ hb (sF av i a v1 ha).2 (by rw [List.length_set])
 ·rw [List.map_set]
  have g1:=h.own.grow (x1:=(x.1+1,x.2 ++ cs)) (i:=vx.length+1+i) (v:=a.2) (v1:=v1) (by rw [at1,List.getElem?_map,ha];rfl) ho hg hat
  rw [set1,← h.lx,set1] at g1
  exact g1
 ·rw [List.map_set,xq (by rw [List.getElem?_map,ha];rfl)]
  exact h.strs.other hg (h.strs.types hV (by decide))
theorem Gst.cell {i g n c:Nat} {x:Nat × List Value} {a:Value × Value} (h:Gst w u z o3 v3 vx cx Ks av xs W) (hx:xs[i]?=some x) (ha:av[i]?=some a) (hv:a.2 = .slice (some ⟨g,0,none⟩) n c) (j:Nat) (v:Value):Gst w u z o3 v3 vx cx Ks av (xs.set i (x.1,x.2.set j v)) (W.setCell ⟨g,j,none⟩ v):=by
 have hV:=h.zG hx ha
 rw [hv] at hV
 obtain ⟨e1,hg,_,cur,hcur⟩:=oG hV
 refine ⟨bW h.k0 (p:=⟨g,j,none⟩) (by show w.heap.size≠g;omega) v,bW h.k1 (p:=⟨g,j,none⟩) (by show w.heap.size+1≠g;omega) v,bW h.k2 (p:=⟨g,j,none⟩) (by show w.heap.size+2≠g;omega) v,?_,h.lx,h.strs.setCell (p:=⟨g,j,none⟩) v (h.strs.ne hcur (by decide)),aA h.bel (by omega)⟩
 have g1:=h.own.put (i:=vx.length+1+i) (x:=x) (by rw [at1,List.getElem?_map,ha,← hv];rfl) (by rw [← h.lx,at1];exact hx) j v
 rw [← h.lx,set1] at g1
 exact g1
theorem Gst.var (h:Gst w u z o3 v3 [] [] Ks av xs W) (cs:List Value) (hc:cs.length=4):Gst w u z o3 v3 [.slice (some ⟨W.heap.size,0,none⟩) 1 1] [(1,cs)] Ks av xs (W.alloc (.cells cs.toArray 25)):=by
 have h':=h.alloc (.cells cs.toArray 25)
 have hz:=h.size
 exact ⟨h'.k0,h'.k1,h'.k2,h.own.cons (ai (Below.refl _ _) _) ⟨by simp [hc],.inr ⟨_,1,cs.toArray,rfl,hz,dP W _,Nat.le_refl _,by decide,by simp [hc],by simp [← hc]⟩⟩ (fun k hk=>by
  have:W.heap.size=k:=by simpa [Value.ownBlock] using hk
  omega),rfl,h'.strs,h'.bel⟩
theorem Gst.Gm {v:Value} {x:Nat × List Value} (h:Gst w u z o3 v3 [v] [x] Ks av xs W):Gst w u z o3 v3 [] [] Ks av xs W:=⟨h.k0,h.k1,h.k2,h.own.tail,rfl,h.strs,h.bel⟩
end
theorem mY (g c:Nat):(⟨g,0,none⟩:Addr).add c=⟨g,c,none⟩:=by
 unfold Addr.add
 split
 ·rename_i h
  rw [h]
 ·simp
section
variable {w W W1:World} {u z:Array Value} {o3 v3:Value} {vx:List Value} {cx:List (Nat × List Value)} {Ks:List (List ByteArray)} {av:List (Value × Value)} {xs:List (Nat × List Value)}
theorem Gst.stand {g n c m size:Nat} {e:TypeId} {v:Value} {ys:List Value} (h:Gst w u z o3 (.slice (some ⟨g,0,none⟩) n c) vx cx Ks av xs W) (ho:W.ownsRow (w.heap.size+3) e size v m ys) (hg:W.grownBy W1 v.ownBlock) (hne:v.ownBlock=none∨some g≠v.ownBlock) {j:Nat} {x:Value} (hj:(flat av)[j]?=some x) :
 W1.heap[w.heap.size]?=some (.cells u 25 (0,0))∧W1.heap[w.heap.size+2]?=some (.cells #[.int .i64 5,.string ⟨#[]⟩,.slice none 0 0,o3] 25 (0,0))∧W1.cell? ⟨g,j,none⟩=some x∧W1.frozen? ⟨g,j,none⟩=false:=by
 have h3:=h.row3
 have h2:(Value.slice (some ⟨g,0,none⟩) n c).ownBlock≠v.ownBlock:=by
  rcases hne with e | e
  ·rw [e]
   exact fun h=>by cases h
  ·exact e
 have h1:=lu h3 hg (.inr h2)
 obtain ⟨rfl,_⟩:=oG h3
 have h4:=h1.cells (g:=g) rfl j x hj
 rw [mY] at h4
 exact ⟨h.low (base:=0) ho hg (by omega) h.k0,h.low (base:=0) ho hg (by omega) h.k2,h4,h1.frozenAt j⟩
theorem Gst.lg {vb:Nat} {cs:List Value} (h:Gst w u z o3 v3 [.slice (some ⟨vb,0,none⟩) 1 1] [(1,cs)] Ks av xs W) (j:Nat) {x:Value} (hj:cs[j]?=some x):W.cell? ⟨vb,j,none⟩=some x:=by
 have h1:=(h.own.own 0 _ (1,cs) rfl rfl).cells (g:=vb) rfl j x hj
 rwa [mY] at h1
end
section
variable {w W W1:World} {u z:Array Value} {o3 v3:Value} {vx:List Value} {cx:List (Nat × List Value)} {Ks:List (List ByteArray)} {av:List (Value × Value)} {xs:List (Nat × List Value)}
theorem Gst.Gt {vb i:Nat} {cs:List Value} {a:Value × Value} (h:Gst w u z o3 v3 [.slice (some ⟨vb,0,none⟩) 1 1] [(1,cs)] Ks av xs W) (ha:av[i]?=some a) (hg:W.grownBy W1 a.2.ownBlock) (j:Nat) {x:Value} (hj:cs[j]?=some x):W1.cell? ⟨vb,j,none⟩=some x:=by
 have h0:=h.own.far 0 (1+1+i) _ a.2 (by omega) rfl (by have:=at1 [.slice (some ⟨vb,0,none⟩) 1 1] (av.map Prod.snd) v3 i;rw [List.length_singleton] at this;rw [this,List.getElem?_map,ha];rfl)
 have h1:=(lu (h.own.own 0 _ (1,cs) rfl rfl) hg h0).cells (g:=vb) rfl j x hj
 rwa [mY] at h1
theorem Gst.gne {i g n c:Nat} {a:Value × Value} (h:Gst w u z o3 (.slice (some ⟨g,0,none⟩) n c) vx cx Ks av xs W) (ha:av[i]?=some a):some g≠a.2.ownBlock:=by
 have h0:=h.own.far vx.length (vx.length+1+i) _ a.2 (by omega) (at0 _ _ _) (by rw [at1,List.getElem?_map,ha];rfl)
 rcases h0 with h0 | h0
 ·cases h0
 ·exact h0
theorem GM {W:World} {a:Addr} {x:Value} (h:W.cell? a=some x) (o:Obj):(W.drew.alloc o).cell? a=some x:=((ai (Below.refl _ _) o).cell (World.block_lt_of_cell? W.drew _ h)).trans h
theorem IR {l:List Value} {p:Nat} (hp:l.length=p) (z0 z1 z2 z3 c0 c1 c2 c3:Value):((((l ++ [z0,z1,z2,z3]).set p c0).set (p+1) c1).set (p+2) c2).set (p+3) c3=l ++ [c0,c1,c2,c3]:=by
 subst hp
 simp [List.set_append_right]
theorem Gst.IE {i g n c n1 p:Nat} {l:List Value} {z0 z1 z2 z3:Value} {a:Value × Value} (h:Gst w u z o3 v3 vx cx Ks av xs W) (hx:xs[i]?=some (n1,l ++ [z0,z1,z2,z3])) (ha:av[i]?=some a) (hv:a.2 = .slice (some ⟨g,0,none⟩) n c) (hp:l.length=p) (c0 c1 c2 c3:Value) :
 Gst w u z o3 v3 vx cx Ks av (xs.set i (n1,l ++ [c0,c1,c2,c3])) ((((W.setCell ⟨g,p,none⟩ c0).setCell ⟨g,p+1,none⟩ c1).setCell ⟨g,p+2,none⟩ c2).setCell ⟨g,p+3,none⟩ c3):=by
 have hi:i < xs.length:=(List.getElem?_eq_some_iff.1 hx).1
 have h1:=h.cell hx ha hv p c0
 have h2:=h1.cell (by rw [List.getElem?_set_self hi]) ha hv (p+1) c1
 have h3:=h2.cell (by rw [List.getElem?_set_self (by rw [List.length_set];exact hi)]) ha hv (p+2) c2
 have h4:=h3.cell (by rw [List.getElem?_set_self (by rw [List.length_set,List.length_set];exact hi)]) ha hv (p+3) c3
 rw [List.set_set,List.set_set,List.set_set] at h4
 simp only at h4
 rw [IR hp] at h4
 exact h4
end
structure Rps (w:World) (Vs:List (List S25)) (xs:List (Nat × List Value)):Prop where
 len:Vs.length=xs.length
 at_:∀ (i:Nat) (l:List S25) (x:Nat × List Value),Vs[i]?=some l→xs[i]?=some x→x.1=l.length∧gW (fun t cs=>k25.K w t cs) 4 l x.2
theorem Rps.nil (w:World):Rps w [] []:=⟨rfl,fun i l x h=>by simp at h⟩
theorem Rps.obj {w:World} {Vs:List (List S25)} {xs:List (Nat × List Value)} (h:Rps w Vs xs):Rps w (Vs ++ [[]]) (xs ++ [(0,[])]):=by
 refine ⟨by simp [h.len],fun i l x h1 h2=>?_⟩
 rcases Nat.lt_or_ge i Vs.length with hi | hi
 ·rw [List.getElem?_append_left hi] at h1
  rw [List.getElem?_append_left (by rw [← h.len];exact hi)] at h2
  exact h.at_ i l x h1 h2
 ·rw [List.getElem?_append_right hi] at h1
  rw [List.getElem?_append_right (by rw [← h.len];exact hi),← h.len] at h2
  cases hz:i - Vs.length with
  | zero =>
    rw [hz] at h1 h2
    obtain rfl:=Option.some.inj h1
    obtain rfl:=Option.some.inj h2
    exact ⟨rfl,gW.none _ _⟩
  | succ k=>rw [hz] at h1;simp at h1
theorem Rps.kid {w:World} {Vs:List (List S25)} {xs:List (Nat × List Value)} {i:Nat} {l:List S25} {x:Nat × List Value} {t:S25} {cs:List Value} (h:Rps w Vs xs) (hl:Vs[i]?=some l) (hx:xs[i]?=some x) (hK:k25.K w t cs) (hc:cs.length=4):Rps w (Vs.set i (l ++ [t])) (xs.set i (x.1+1,x.2 ++ cs)):=by
 refine ⟨by rw [List.length_set,List.length_set,h.len],fun j l' x' h1 h2=>?_⟩
 rw [List.getElem?_set] at h1 h2
 by_cases hj:i=j
 ·subst hj
  rw [if_pos rfl] at h1 h2
  split at h1
  ·split at h2
   ·obtain rfl:=Option.some.inj h1
    obtain rfl:=Option.some.inj h2
    obtain ⟨e1,e2⟩:=h.at_ i l x hl hx
    exact ⟨by rw [List.length_append,List.length_singleton,← e1],gW.snoc e2 hK hc⟩
   ·cases h2
  ·cases h1
 ·rw [if_neg hj] at h1 h2
  exact h.at_ j l' x' h1 h2
theorem tJ {α:Type} {R:α→List Value→Prop} {w:World} {base n size:Nat} {e:TypeId} {v:Value} {ps:List α} {cs:List Value} (h:w.ownsRow base e size v n cs) (hR:gW R size ps cs) (hn:ps.length=n):∃ A c,v = .slice A n c∧n≤c∧gY R size w A n ps:=by
 obtain ⟨A,c,e1,hr⟩:=lV h hR hn
 refine ⟨A,c,e1,?_,hr⟩
 rcases h.2 with ⟨rfl,e2⟩ | ⟨g,cap,cur,rfl,_,_,hc,_⟩
 ·omega
 ·injection e1 with _ _ e3
  omega
theorem Gst.reads {w W:World} {u z:Array Value} {o3 v3:Value} {Ks:List (List ByteArray)} {Vs:List (List S25)} {av:List (Value × Value)} {xs:List (Nat × List Value)} (h:Gst w u z o3 v3 [] [] Ks av xs W) (hR:Rps w Vs xs):∃ A c,v3 = .slice A av.length c∧k25.C W A av.length (List.zipWith (fun k v=>(⟨6,⟨#[]⟩,k,v⟩:S25)) Ks Vs):=by
 obtain ⟨l1,l2⟩:=h.len
 have l3:=hR.len
 have hlen:(List.zipWith (fun k v=>(⟨6,⟨#[]⟩,k,v⟩:S25)) Ks Vs).length=av.length:=by rw [List.length_zipWith];omega
 refine lV h.row3 ⟨by rw [sO,hlen];rfl,fun j p hp=>?_⟩ hlen
 have hj:j < av.length:=by rw [← hlen];exact (List.getElem?_eq_some_iff.1 hp).1
 have ha:=List.getElem?_eq_getElem hj
 have hk:=List.getElem?_eq_getElem (l:=Ks) (i:=j) (by omega)
 have hv:=List.getElem?_eq_getElem (l:=Vs) (i:=j) (by omega)
 have hx:=List.getElem?_eq_getElem (l:=xs) (i:=j) (by omega)
 rw [List.getElem?_zipWith,hk,hv] at hp
 obtain rfl:=Option.some.inj hp
 obtain ⟨e1,e2⟩:=hR.at_ j _ _ hv hx
 obtain ⟨A2,c2,q1,q2,q3⟩:=tJ (h.He hk ha) (Kd.xh _) rfl
 obtain ⟨A3,c3,r1,r2,r3⟩:=tJ (h.zG hx ha) e2 e1.symm
 have hf:((flat av).drop (j*4)).take 4=[.int .i64 6,.string ⟨#[]⟩,av[j].1,av[j].2]:=by
  have:flat av=flat (av.take j) ++ flat (av[j] :: av.drop (j+1)):=by
   unfold flat
   rw [← List.flatMap_append,← List.drop_eq_getElem_cons hj,List.take_append_drop]
  have h4:(flat (av.take j)).length=j*4:=by rw [sO,List.length_take];congr 1;omega
  rw [this,List.drop_append_of_le_length (by omega),List.drop_of_length_le (by omega)]
  rfl
 rw [show k25.sz=4 from rfl,hf,q1,r1,e1]
 rw [e1] at r2 r3
 exact DY W ⟨6,⟨#[]⟩,Ks[j],Vs[j]⟩ q2 q3 r2 (gY.lm r3 (Below.refl _ _) (fun _ _ hp=>k25.iC h.bel hp))
end Go.Proofs.YtpgfjbimodnkeaaGreatDoor.Q
