/- FnGjGroupText: whatever text comes in, the law returns true and the text reads afterwards as before; with the fourteen package-level variables that its row lists as the text of the program lays them (the tied card) (part 28 of 33: lemmas for its last part) -/
import Derived.Deep.RegionLaw
import Derived.Test.YtpgfjbimodnkeaaGreatDoorGrp2
import Derived.Test.YtpgfjbimodnkeaaGreatDoorGrp18
import Derived.Test.YtpgfjbimodnkeaaGreatDoorGrp25
import Derived.Test.YtpgfjbimodnkeaaGreatDoorGrp26
import Derived.Test.YtpgfjbimodnkeaaGreatDoorGrp27
set_option maxHeartbeats 16000000
set_option maxRecDepth 100000
set_option linter.unusedVariables false
set_option linter.unusedSimpArgs false
namespace Go.Proofs.YtpgfjbimodnkeaaGreatDoor.Q
open Go.RowKit Go.Proofs.YtpgfjbimodnkeaaGreatDoorW.PrintWords Go.Proofs.YtpgfjbimodnkeaaGreatDoorW.PrintLast Go.Proofs.YtpgfjbimodnkeaaGreatDoorW.PrintMore
theorem xy (w:World) (s:ByteArray) (t:S25) (k:Nat) (h:fO.f k s=some (t.f0,t.f1,t.f2,t.f3,true)) (A2:Option Addr) (c2:Nat) (A3:Option Addr) (c3:Nat) (h2:Kd.string.C w A2 t.f2.length t.f2) (h3:k25.C w A3 t.f3.length t.f3) :
 Calls Tryz.prog 15 #[.string s,.agg #[.int .i64 t.f0,.string t.f1,.slice A2 t.f2.length c2,.slice A3 t.f3.length c3]] w fun e w'=>e = .returned (.bool true)∧Below w.heap.size w w':=by
 have hrd:=fun W=>fO.calls k s t.f0 t.f1 t.f2 t.f3 true W h
 have hsm:=fun A2 c2 A3 c3 B2 d2 B3 d3 W=>yZ _ t (Nat.lt_succ_self _) A2 c2 A3 c3 B2 d2 B3 d3 W
 clear h
 generalize t.f0=kd at *
 generalize t.f1=txt at *
 generalize t.f2=keys at *
 generalize t.f3=ts at *
 replace h2:=ae.mk h2
 replace h3:=ae.mk h3
 go_enter Tryz.func15,Tryz.ntmps15
 go_wp2_with (fail)
 refine (hrd _).mono ?_
 rintro e w1 ⟨v2,v3,rfl,r2,r3,hB1⟩
 obtain ⟨B2,d2,rfl,-,g2⟩:=Kd.lq r2
 obtain ⟨B3,d3,rfl,-,g3⟩:=Kd.lq r3
 have hb0:Below w.heap.size w w1:=dX (ai (Below.refl _ _) _) (by simp) hB1
 have hb1:Below w1.heap.size w1 (w1.alloc (.cells #[.int .i64 kd,.string txt,.slice B2 keys.length d2,.slice B3 ts.length d3] 25)):=ai (Below.refl _ _) _
 have hb2:=dB hb0 hb1
 have kp:=aN (bU (dP w (.cells #[.int .i64 kd,.string txt,.slice A2 keys.length c2,.slice A3 ts.length c3] 25)) hB1) (.cells #[.int .i64 kd,.string txt,.slice B2 keys.length d2,.slice B3 ts.length d3] 25)
 have c0:=(ah kp 0).trans rfl
 have c1:=(ah kp 1).trans rfl
 have c2':=(ah kp 2).trans rfl
 have c3':=(ah kp 3).trans rfl
 have hcall:=hsm B2 d2 B3 d3 A2 c2 A3 c3 _ (Kd.fF g2 hb1) (Kd.fF g3 hb1) (Kd.fF h2.out hb2) (Kd.fF h3.out hb2)
 clear r2 r3 hB1 hrd hsm
 replace kp:=ae.mk kp
 replace hb2:=ae.mk hb2
 go_wp2_with (fail)
 refine hcall.mono ?_
 rintro e w5 ⟨rfl,hb5⟩
 replace hb5:=ae.mk hb5
 go_wp2
 go_ret
 exact ⟨rfl,dB hb2.out hb5.out⟩
end Go.Proofs.YtpgfjbimodnkeaaGreatDoor.Q
namespace Go.Proofs.YtpgfjbimodnkeaaGreatDoor.Dec
open Go Go.RowKit Go.Proofs.YtpgfjbimodnkeaaGreatDoorW.PrintWords Go.Proofs.YtpgfjbimodnkeaaGreatDoorW.PrintLast Go.Proofs.YtpgfjbimodnkeaaGreatDoorW.PrintMore Go.Proofs.YtpgfjbimodnkeaaGreatDoor.Scan Go.Proofs.YtpgfjbimodnkeaaGreatDoor.Q
theorem xM (c:Int):∃ b,fJ.f c=some b∧(b=false→¬ Scan.blank c):=by
 unfold fJ.f Scan.blank
 by_cases h1:c=32
 ·exact ⟨true,by rw [if_pos h1],fun h=>by cases h⟩
 rw [if_neg h1]
 by_cases h2:c=9
 ·exact ⟨true,by rw [if_pos h2],fun h=>by cases h⟩
 rw [if_neg h2]
 by_cases h3:c=10
 ·exact ⟨true,by rw [if_pos h3],fun h=>by cases h⟩
 rw [if_neg h3]
 refine ⟨_,rfl,fun h=>?_⟩
 have:=beq_eq_false_iff_ne.mp h
 omega
def wB (s:ByteArray) (kd:Int) (txt:ByteArray) (keys:List ByteArray) (ts:List S25) (b:Bool):Prop :=
 ∀ w:World,Calls Tryz.prog 13 #[.string s] w fun e w'=>∃ A c A3 c3,e = .returned (.tuple #[.agg #[.int .i64 kd,.string txt,.slice A keys.length c,.slice A3 ts.length c3],.bool b])∧Kd.string.C w' A keys.length keys∧k25.C w' A3 ts.length ts∧Below w.heap.size w w'
theorem Fb (s:ByteArray) (hsz:s.size≤2147483647):∃ (kd:Int) (txt:ByteArray) (keys:List ByteArray) (ts:List S25) (b:Bool),wB s kd txt keys ts b∧(b=true→∃ (ns:List S44) (ks:List S32),CO s kd 0 s.size ns ks keys∧Evt (fun k=>bJ.f k s kd 0 (s.size:Int) ns ks) (kd,txt,keys,ts)):=by
 obtain ⟨kd,txt,keys,ts,ok,hE,hx⟩:=DJ s
 obtain ⟨k,hk⟩:=hE.at
 obtain ⟨b0,h0,hb0⟩:=xM (bt s 0)
 obtain ⟨b1,h1,hb1⟩:=xM (bt s ((s.size:Int) - 1))
 refine ⟨kd,txt,keys,ts,_,fun w=>yE w s kd txt keys ts ok k hk (fun h=>?_) hsz _ b0 b1 rfl h0 h1,fun h=>?_⟩
 ·obtain ⟨i,m,ns,ks,hx⟩:=hx h
  have:=hx.val.bound
  omega
 ·simp only [Bool.and_eq_true,Bool.not_eq_true'] at h
  obtain ⟨⟨⟨hok,_⟩,g0⟩,g1⟩:=h
  obtain ⟨i,m,ns,ks,hy⟩:=hx hok
  clear hx
  have hx:=hy
  clear hy
  have hb:=hx.val.bound
  subst hok
  have hT:=hx.tree _ hE
  have hi:i=0:=by
   rcases Nat.eq_zero_or_pos i with h | h
   ·exact h
   ·exact absurd (hx.pre.all 0 (Nat.le_refl _) h) (hb0 g0)
  have hm:m=s.size:=by
   rcases Nat.lt_or_ge m s.size with h | h
   ·have h2:=hx.post.all (s.size - 1) (by omega) (by omega)
    rw [show ((s.size - 1:Nat):Int)=(s.size:Int) - 1 by omega] at h2
    exact absurd h2 (hb1 g1)
   ·omega
  subst hi
  subst hm
  exact ⟨ns,ks,hx,hT⟩
end Go.Proofs.YtpgfjbimodnkeaaGreatDoor.Dec
namespace Go.Proofs.YtpgfjbimodnkeaaGreatDoor.Hec
open Go Go.RowKit Go.Proofs.YtpgfjbimodnkeaaGreatDoorW.PrintWords Go.Proofs.YtpgfjbimodnkeaaGreatDoorW.PrintLast Go.Proofs.YtpgfjbimodnkeaaGreatDoorW.PrintMore Go.Proofs.YtpgfjbimodnkeaaGreatDoor.Scan Go.Proofs.YtpgfjbimodnkeaaGreatDoor.Q Go.Proofs.YtpgfjbimodnkeaaGreatDoor.Dec
structure Ed (B0 L0 B1:Nat) (w0:World) (Inv:List (Rs × Rs)→World→Prop):Prop where
 bel:∀ {ps W},Inv ps W→Below B0 w0 W
 lo:∀ {ps W},Inv ps W→B0≤W.heap.size
 below:∀ {ps W W'},Inv ps W→Below W.heap.size W W'→Inv ps W'
 set:∀ {ps W g cs},Inv ps W→W.heap[g]?=some (.cells cs 67 (0,0))→L0≤g→g < B1→∀ (j:Nat) (u:Value),Inv ps (W.setCell ⟨g,j,none⟩ u)
def Gh (L0 B1:Nat) (stop:Int) (Inv:List (Rs × Rs)→World→Prop) (F:Nat) (mk:Value→Value→Array Value) (s:ByteArray) (nms:List S44) (ks:List S32):Prop :=
 ∀ (ps:List (Rs × Rs)) (kr vr:Rs) (p:S32) (W:World),Inv ps W→ks[ps.length]?=some p→lJ s p vr→(∀ n,nms[ps.length]?=some n→qE s n kr)→ps.length≤100000→B1≤W.heap.size →
  Calls Tryz.prog F (mk (resV kr.k kr.raw kr.str kr.num kr.idx) (resV vr.k vr.raw vr.str vr.num vr.idx)) W fun e w'=>e = .returned (.bool (((ps.length+1:Nat):Int) != stop))∧Inv (ps ++ [(kr,vr)]) w'∧∀ (b:Nat) (cs:Array Value),L0≤b→b < B1→W.heap[b]?=some (.cells cs 67 (0,0))→w'.heap[b]?=some (.cells cs 67 (0,0))
structure FEW (s:ByteArray) (B0 L0 B1:Nat) (w0:World) (Inv:List (Rs × Rs)→World→Prop) (gt gk gv:Nat) (str:ByteArray) (fl:Nat) (num:Int) (ps:List (Rs × Rs)) (kr vr:Rs) (W:World):Prop where
 feed:Ed B0 L0 B1 w0 Inv
 inv:Inv ps W
 bt:W.heap[gt]?=some (.cells #[.int .i64 5,.string s,.string str,.float .f64 fl,.int .i64 num,.slice none 0 0] 67 (0,0))
 bk:W.heap[gk]?=some (.cells (jg kr) 67 (0,0))
 bv:W.heap[gv]?=some (.cells (jg vr) 67 (0,0))
 ne:gt≠gk∧gt≠gv∧gk≠gv
 lo:L0≤gt∧L0≤gk∧L0≤gv
 hi:gt < B1∧gk < B1∧gv < B1
section
variable {s:ByteArray} {B0 L0 B1:Nat} {w0:World} {Inv:List (Rs × Rs)→World→Prop} {gt gk gv:Nat} {str:ByteArray} {fl:Nat} {num:Int} {ps:List (Rs × Rs)} {kr vr:Rs} {W W':World}
theorem FEW.bel (h:FEW s B0 L0 B1 w0 Inv gt gk gv str fl num ps kr vr W):Below B0 w0 W:=h.feed.bel h.inv
theorem FEW.below (h:FEW s B0 L0 B1 w0 Inv gt gk gv str fl num ps kr vr W) (hb:Below W.heap.size W W'):FEW s B0 L0 B1 w0 Inv gt gk gv str fl num ps kr vr W' :=
 ⟨h.feed,h.feed.below h.inv hb,bU h.bt hb,bU h.bk hb,bU h.bv hb,h.ne,h.lo,h.hi⟩
theorem FEW.drewN (h:FEW s B0 L0 B1 w0 Inv gt gk gv str fl num ps kr vr W) (n:Nat):FEW s B0 L0 B1 w0 Inv gt gk gv str fl num ps kr vr (W.drewN n):=h.below (ag (Below.refl _ _) n)
theorem FEW.mW (h:FEW s B0 L0 B1 w0 Inv gt gk gv str fl num ps kr vr W) (r:Rs) (j:Nat) (u:Value) (hr:(jg vr).setIfInBounds j u=jg r):FEW s B0 L0 B1 w0 Inv gt gk gv str fl num ps kr r (W.setCell ⟨gv,j,none⟩ u) :=
 ⟨h.feed,h.feed.set h.inv h.bv h.lo.2.2 h.hi.2.2 _ _,bW h.bt h.ne.2.1 _,bW h.bk h.ne.2.2 _,cu h.bv j _ hr,h.ne,h.lo,h.hi⟩
theorem FEW.yR (h:FEW s B0 L0 B1 w0 Inv gt gk gv str fl num ps kr vr W) (r:Rs) (j:Nat) (u:Value) (hr:(jg kr).setIfInBounds j u=jg r):FEW s B0 L0 B1 w0 Inv gt gk gv str fl num ps r vr (W.setCell ⟨gk,j,none⟩ u) :=
 ⟨h.feed,h.feed.set h.inv h.bk h.lo.2.1 h.hi.2.1 _ _,bW h.bt h.ne.1 _,cu h.bk j _ hr,bW h.bv h.ne.2.2.symm _,h.ne,h.lo,h.hi⟩
theorem FEW.Cm (h:FEW s B0 L0 B1 w0 Inv gt gk gv str fl num ps kr vr W) (x:Nat):FEW s B0 L0 B1 w0 Inv gt gk gv str fl num ps { kr with num:=x } vr (W.setCell ⟨gk,3,none⟩ (.float .f64 x)):=h.yR _ 3 _ rfl
theorem FEW.Hu (h:FEW s B0 L0 B1 w0 Inv gt gk gv str fl num ps kr vr W) (r:Rs) (x:Int):FEW s B0 L0 B1 w0 Inv gt gk gv str fl num ps kr { r with idx:=x }
 (((((((W.setCell ⟨gv,0,none⟩ (.int .i64 r.k)).setCell ⟨gv,1,none⟩ (.string r.raw)).setCell ⟨gv,2,none⟩ (.string r.str)).setCell ⟨gv,3,none⟩ (.float .f64 r.num)).setCell ⟨gv,4,none⟩ (.int .i64 r.idx)).setCell ⟨gv,5,none⟩ (.slice none 0 0)).setCell ⟨gv,4,none⟩ (.int .i64 x)) :=
 ((((((h.mW ⟨r.k,vr.raw,vr.str,vr.num,vr.idx⟩ 0 _ rfl).mW ⟨r.k,r.raw,vr.str,vr.num,vr.idx⟩ 1 _ rfl).mW ⟨r.k,r.raw,r.str,vr.num,vr.idx⟩ 2 _ rfl).mW ⟨r.k,r.raw,r.str,r.num,vr.idx⟩ 3 _ rfl).mW ⟨r.k,r.raw,r.str,r.num,r.idx⟩ 4 _ rfl).mW ⟨r.k,r.raw,r.str,r.num,r.idx⟩ 5 _ rfl).mW ⟨r.k,r.raw,r.str,r.num,x⟩ 4 _ rfl
theorem FEW.after (h:FEW s B0 L0 B1 w0 Inv gt gk gv str fl num ps kr vr W) {ps':List (Rs × Rs)} (ho:Inv ps' W') (h67:∀ (b:Nat) (cs:Array Value),L0≤b→b < B1→W.heap[b]?=some (.cells cs 67 (0,0))→W'.heap[b]?=some (.cells cs 67 (0,0))) :
 FEW s B0 L0 B1 w0 Inv gt gk gv str fl num ps' kr vr W':=⟨h.feed,ho,h67 _ _ h.lo.1 h.hi.1 h.bt,h67 _ _ h.lo.2.1 h.hi.2.1 h.bk,h67 _ _ h.lo.2.2 h.hi.2.2 h.bv,h.ne,h.lo,h.hi⟩
end
structure LA (s:ByteArray) (e:Nat) (ks:List S32) (B0 L0 B1:Nat) (stop:Int) (w0:World) (Inv:List (Rs × Rs)→World→Prop) (gt gk gv:Nat) (str:ByteArray) (fl:Nat) (num:Int) (kq i ix:Nat) (ps:List (Rs × Rs)) (kdone rest:List S32) (kr vr:Rs) (W:World):Prop where
 kq:kq=s.size - i
 all:kdone ++ rest=ks
 ok:gX s kdone ps
 cnt:ix=ps.length
 bnd:ix≤i
 rem:Ht s e rest i
 prd:i≤s.size→Prd s i
 few:FEW s B0 L0 B1 w0 Inv gt gk gv str fl num ps kr vr W
 go:∀ j:Nat,0 < j→j≤ps.length→(j:Int)≠stop
structure InA (s:ByteArray) (B0 L0 B1:Nat) (w0:World) (Inv:List (Rs × Rs)→World→Prop) (gt gk gv:Nat) (str:ByteArray) (fl:Nat) (num:Int) (ps:List (Rs × Rs)) (vr:Rs) (i j kq p:Nat) (W:World):Prop where
 kq:kq=s.size - p
 lo:i≤p
 hi:p≤j
 few:∃ kr,FEW s B0 L0 B1 w0 Inv gt gk gv str fl num ps kr vr W
end Go.Proofs.YtpgfjbimodnkeaaGreatDoor.Hec
namespace Go.Proofs.YtpgfjbimodnkeaaGreatDoor.Q
open Go.RowKit Go.Proofs.YtpgfjbimodnkeaaGreatDoorW.PrintWords Go.Proofs.YtpgfjbimodnkeaaGreatDoorW.PrintLast Go.Proofs.YtpgfjbimodnkeaaGreatDoorW.PrintMore
structure iQ (e:TypeId) (sz base:Nat) (W:World) (vs:List Value) (xs:List (Nat × List Value)):Prop where
 len:vs.length=xs.length
 own:∀ (i:Nat) (v:Value) (x:Nat × List Value),vs[i]?=some v→xs[i]?=some x→W.ownsRow base e sz v x.1 x.2
 far:∀ (i j:Nat) (v v':Value),i≠j→vs[i]?=some v→vs[j]?=some v'→v.ownBlock=none∨v.ownBlock≠v'.ownBlock
section
variable {e:TypeId} {sz base:Nat} {W W':World} {vs:List Value} {xs:List (Nat × List Value)}
theorem iQ.nil (e:TypeId) (sz base:Nat) (W:World):iQ e sz base W [] []:=⟨rfl,fun i v x h=>by simp at h,fun i j v v' _ h=>by simp at h⟩
theorem iQ.below (h:iQ e sz base W vs xs) (hb:Below W.heap.size W W'):iQ e sz base W' vs xs:=⟨h.len,fun i v x h1 h2=>ik (h.own i v x h1 h2) hb,h.far⟩
theorem iQ.other (h:iQ e sz base W vs xs) {row:Option Nat} (hg:W.grownBy W' row) (hne:∀ v ∈ vs,v.ownBlock=none∨v.ownBlock≠row):iQ e sz base W' vs xs :=
 ⟨h.len,fun i v x h1 h2=>lu (h.own i v x h1 h2) hg (hne v (List.mem_of_getElem? h1)),h.far⟩
theorem iQ.setCell (h:iQ e sz base W vs xs) {p:Addr} (u:Value) (hne:∀ v ∈ vs,some p.block≠v.ownBlock):iQ e sz base (W.setCell p u) vs xs :=
 ⟨h.len,fun i v x h1 h2=>ou (h.own i v x h1 h2) (hne v (List.mem_of_getElem? h1)) u,h.far⟩
theorem iQ.grow (h:iQ e sz base W vs xs) {i:Nat} {v v1:Value} {x1:Nat × List Value} (hi:vs[i]?=some v) (ho:W'.ownsRow base e sz v1 x1.1 x1.2) (hg:W.grownBy W' v.ownBlock) (hat:v1.ownBlock=v.ownBlock∨∃ b,v1.ownBlock=some b∧W.heap.size≤b):iQ e sz base W' (vs.set i v1) (xs.set i x1):=by
 have hlt:∀ (j:Nat) (v':Value),vs[j]?=some v'→∀ k,v'.ownBlock=some k→k < W.heap.size:=by
  intro j v' hj k hk
  obtain ⟨hjl,_⟩:=List.getElem?_eq_some_iff.1 hj
  exact ut (h.own j v' _ hj (List.getElem?_eq_getElem (by rw [← h.len];exact hjl))) k hk
 refine ⟨by rw [List.length_set,List.length_set,h.len],?_,?_⟩
 ·intro j u x h1 h2
  rw [List.getElem?_set] at h1 h2
  by_cases hj:i=j
  ·subst hj
   rw [if_pos rfl] at h1 h2
   split at h1
   ·split at h2
    ·obtain rfl:=Option.some.inj h1
     obtain rfl:=Option.some.inj h2
     exact ho
    ·cases h2
   ·cases h1
  ·rw [if_neg hj] at h1 h2
   exact lu (h.own j u x h1 h2) hg (h.far j i u v (fun e=>hj e.symm) h1 hi)
 ·intro j k u u' hjk h1 h2
  rw [List.getElem?_set] at h1 h2
  by_cases hj:i=j
  ·subst hj
   rw [if_pos rfl] at h1
   rw [if_neg hjk] at h2
   split at h1
   ·obtain rfl:=Option.some.inj h1
    rcases hat with hat | ⟨b,hat,hb⟩
    ·rw [hat]
     exact h.far i k v u' hjk hi h2
    ·right
     rw [hat]
     intro he
     have:=hlt k u' h2 b he.symm
     omega
   ·cases h1
  ·rw [if_neg hj] at h1
   by_cases hk:i=k
   ·subst hk
    rw [if_pos rfl] at h2
    split at h2
    ·obtain rfl:=Option.some.inj h2
     rcases hat with hat | ⟨b,hat,hb⟩
     ·rw [hat]
      exact h.far j i u v hjk h1 hi
     ·right
      rw [hat]
      intro he
      have:=hlt j u h1 b he
      omega
    ·cases h2
   ·rw [if_neg hk] at h2
    exact h.far j k u u' hjk h1 h2
theorem iQ.snoc (h:iQ e sz base W vs xs) {v1:Value} {x1:Nat × List Value} (ho:W.ownsRow base e sz v1 x1.1 x1.2) (hat:∀ v ∈ vs,(v.ownBlock=none∨v.ownBlock≠v1.ownBlock)∧(v1.ownBlock=none∨v1.ownBlock≠v.ownBlock)):iQ e sz base W (vs ++ [v1]) (xs ++ [x1]):=by
 refine ⟨by rw [List.length_append,List.length_append,h.len];rfl,?_,?_⟩
 ·intro j u x h1 h2
  rcases Nat.lt_or_ge j vs.length with hj | hj
  ·rw [List.getElem?_append_left hj] at h1
   rw [List.getElem?_append_left (by rw [← h.len];exact hj)] at h2
   exact h.own j u x h1 h2
  ·rw [List.getElem?_append_right hj] at h1
   rw [List.getElem?_append_right (by rw [← h.len];exact hj),← h.len] at h2
   cases hz:j - vs.length with
   | zero =>
     rw [hz] at h1 h2
     obtain rfl:=Option.some.inj h1
     obtain rfl:=Option.some.inj h2
     exact ho
   | succ z=>rw [hz] at h1;simp at h1
 ·intro j k u u' hjk h1 h2
  rcases Nat.lt_or_ge j vs.length with hj | hj
  ·rw [List.getElem?_append_left hj] at h1
   rcases Nat.lt_or_ge k vs.length with hk | hk
   ·rw [List.getElem?_append_left hk] at h2
    exact h.far j k u u' hjk h1 h2
   ·rw [List.getElem?_append_right hk] at h2
    cases hz:k - vs.length with
    | zero =>
      rw [hz] at h2
      obtain rfl:=Option.some.inj h2
      exact (hat u (List.mem_of_getElem? h1)).1
    | succ z=>rw [hz] at h2;simp at h2
  ·rw [List.getElem?_append_right hj] at h1
   cases hz:j - vs.length with
   | zero =>
     rw [hz] at h1
     obtain rfl:=Option.some.inj h1
     rcases Nat.lt_or_ge k vs.length with hk | hk
     ·rw [List.getElem?_append_left hk] at h2
      exact (hat u' (List.mem_of_getElem? h2)).2
     ·rw [List.getElem?_append_right hk] at h2
      cases hy:k - vs.length with
      | zero=>omega
      | succ z=>rw [hy] at h2;simp at h2
   | succ z=>rw [hz] at h1;simp at h1
end
end Go.Proofs.YtpgfjbimodnkeaaGreatDoor.Q
