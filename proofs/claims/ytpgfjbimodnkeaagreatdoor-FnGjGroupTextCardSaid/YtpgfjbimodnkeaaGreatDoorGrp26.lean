/- FnGjGroupText: whatever text comes in, the law returns true and the text reads afterwards as before; with the fourteen package-level variables that its row lists as the text of the program lays them (the tied card) (part 26 of 33: lemmas for its last part) -/
import Derived.StillTailTactics
import Derived.WalkSpells
import Derived.IntWalk
import Derived.Deep.Cut
import Derived.Deep.RegionWith
import Derived.Test.YtpgfjbimodnkeaaGreatDoorGrp2
import Derived.Test.YtpgfjbimodnkeaaGreatDoorGrp18
import Derived.Test.YtpgfjbimodnkeaaGreatDoorGrp21
import Derived.Test.YtpgfjbimodnkeaaGreatDoorGrp22
import Derived.Test.YtpgfjbimodnkeaaGreatDoorGrp25
set_option maxHeartbeats 16000000
set_option maxRecDepth 100000
set_option linter.unusedVariables false
set_option linter.unusedSimpArgs false
namespace Go.Proofs.YtpgfjbimodnkeaaGreatDoor.Scan
open Go Go.RowKit Go.Proofs.YtpgfjbimodnkeaaGreatDoorW.PrintWords Go.Proofs.YtpgfjbimodnkeaaGreatDoor.Q Go.Proofs.YtpgfjbimodnkeaaGreatDoor.Dec
structure Put (r:ByteArray) (i:Nat) (bs:List Int):Prop where
 le:i+bs.length≤r.size
 at_:∀ m:Nat,m < bs.length→bt r ((i+m:Nat):Int)=bs.getD m 0
theorem Put.left {r:ByteArray} {i:Nat} {a b:List Int} (h:Put r i (a ++ b)):Put r i a:=by
 have hl:=h.le
 rw [List.length_append] at hl
 refine ⟨by omega,fun m hm=>?_⟩
 rw [h.at_ m (by rw [List.length_append];omega),List.getD_eq_getElem?_getD,List.getD_eq_getElem?_getD,List.getElem?_append_left hm]
theorem Put.right {r:ByteArray} {i:Nat} {a b:List Int} (h:Put r i (a ++ b)):Put r (i+a.length) b:=by
 have hl:=h.le
 rw [List.length_append] at hl
 refine ⟨by omega,fun m hm=>?_⟩
 have:=h.at_ (a.length+m) (by rw [List.length_append];omega)
 rw [← Nat.add_assoc] at this
 rw [this,List.getD_eq_getElem?_getD,List.getD_eq_getElem?_getD,List.getElem?_append_right (by omega),Nat.add_sub_cancel_left]
theorem Put.head {r:ByteArray} {i:Nat} {x:Int} {b:List Int} (h:Put r i (x :: b)):i < r.size∧bt r i=x:=by
 have hl:=h.le
 rw [List.length_cons] at hl
 exact ⟨by omega,by simpa using h.at_ 0 (by simp)⟩
theorem Put.tail {r:ByteArray} {i:Nat} {x:Int} {b:List Int} (h:Put r i (x :: b)):Put r (i+1) b:=Put.right (a:=[x]) h
theorem sV (s:ByteArray) (m:Nat):(bytesOf s).getD m 0=bt s m:=by
 have:=zF s (m:Int)
 unfold rd at this
 simpa using this
def Byt (l:List Int):Prop:=∀ x ∈ l,0≤x∧x≤255
theorem vH (s:ByteArray):Byt (bytesOf s):=by
 intro x hx
 obtain ⟨b,_,rfl⟩:=List.mem_map.1 hx
 have:=b.toNat_lt
 omega
theorem Byt.app {a b:List Int} (h:Byt a) (h':Byt b):Byt (a ++ b):=fun x hx=>(List.mem_append.1 hx).elim (h x) (h' x)
theorem Byt.cons {x:Int} {b:List Int} (h0:0≤x) (h1:x≤255) (h':Byt b):Byt (x :: b):=fun y hy=>by
 rcases List.mem_cons.1 hy with rfl | hy
 ·exact ⟨h0,h1⟩
 ·exact h' y hy
theorem Byt.nil:Byt []:=fun x hx=>by simp at hx
theorem vG (l:List Int):(strOfNums l).size=l.length:=by
 show (strOfNums l).data.size=_
 rw [← Array.length_toList,strOfNums_data,List.length_map]
theorem Ef {l:List Int} (h:Byt l):Put (strOfNums l) 0 l:=by
 refine ⟨by rw [vG];omega,fun m hm=>?_⟩
 rw [Nat.zero_add,← sV,bytesOf,strOfNums_data,List.getD_eq_getElem?_getD,List.getD_eq_getElem?_getD,List.getElem?_map,List.getElem?_map,List.getElem?_eq_getElem hm]
 have:=h _ (List.getElem_mem hm)
 simp only [Option.map_some,Option.getD_some]
 generalize l[m]=x at *
 rw [UInt8.toNat_ofNat']
 omega
def jn:List (List Int)→List Int
 | []=>[]
 | [x]=>x
 | x :: y :: l=>x ++ 44 :: jn (y :: l)
theorem zS (x:List Int):∀ l:List (List Int),l≠[]→jn (l ++ [x])=jn l ++ 44 :: x
 | [],h=>absurd rfl h
 | [a],_=>rfl
 | a :: b :: l,_=>by
   have:=zS x (b :: l) (by simp)
   simp only [List.cons_append,jn] at this ⊢
   rw [this,List.append_assoc]
   rfl
theorem zi:∀ {l:List (List Int)},(∀ x ∈ l,Byt x)→Byt (jn l)
 | [],_=>Byt.nil
 | [x],h=>h x (by simp)
 | x :: y :: l,h=>(h x (by simp)).app (Byt.cons (by decide) (by decide) (zi (l:=y :: l) (fun z hz=>h z (List.mem_cons_of_mem _ hz))))
def ql (bs:List Int) (t:S25):Prop:=∀ (r:ByteArray) (i:Nat),r.size≤1099511627776→Put r i bs →
 ∃ (ns:List S44) (ks:List S32),J r .val i (i+bs.length) t.f0 ns ks∧Evt (fun k=>bJ.f k r t.f0 (i:Int) ((i+bs.length:Nat):Int) ns ks) (t.f0,t.f1,t.f2,t.f3)
def Eb (bs:List Int) (v:ByteArray):Prop:=∀ (r:ByteArray) (i:Nat),r.size≤1099511627776→Put r i bs →
 ∃ q:Nat,i+bs.length=q+1∧i < r.size∧bt r i=34∧gm r (i+1) q∧sW r ⟨(i:Nat),(q+1:Nat)⟩ v
def mP:List (List Int)→List S25→Prop
 | [],[]=>True
 | b :: bs,t :: ts=>ql b t∧mP bs ts
 | _,_=>False
def Names:List (List Int)→List ByteArray→Prop
 | [],[]=>True
 | b :: bs,t :: ts=>Eb b t∧Names bs ts
 | _,_=>False
theorem zQ {r:ByteArray} (hR:r.size≤1099511627776):∀ (bs:List (List Int)) (ts:List S25) (i:Nat),bs≠[]→mP bs ts→Put r i (jn bs ++ [93])→∃ ks,J r .els i (i+(jn bs).length+1) 0 [] ks∧fP r ks ts
 | [],_,_,h,_,_=>absurd rfl h
 | [x],[t],i,_,hv,hp=>by
   have hp':Put r i (x ++ [93]):=hp
   obtain ⟨ns,ks,hJ,hT⟩:=hv.1 r i hR hp'.left
   obtain ⟨h1,h2⟩:=hp'.right.head
   exact ⟨_,.el1 i _ (i+x.length) t.f0 ns ks hJ (Blanks.refl _ _) h1 h2,hT,trivial⟩
 | x :: y :: l,t :: ts,i,_,hv,hp=>by
   have hp':Put r i (x ++ 44 :: (jn (y :: l) ++ [93])):=by simpa [jn] using hp
   obtain ⟨ns,ks,hJ,hT⟩:=hv.1 r i hR hp'.left
   obtain ⟨h1,h2⟩:=hp'.right.head
   obtain ⟨ks2,hJ2,hT2⟩:=zQ hR (y :: l) ts _ (by simp) hv.2 hp'.right.tail
   refine ⟨⟨t.f0,(i:Nat),(i+x.length:Nat),ns,ks⟩ :: ks2,?_,hT,hT2⟩
   have:=J.els i _ (i+x.length) (i+x.length+1) _ t.f0 ns ks ks2 hJ (Blanks.refl _ _) h1 h2 (Blanks.refl _ _) hJ2
   rwa [show i+x.length+1+(jn (y :: l)).length+1=i+(jn (x :: y :: l)).length+1 by simp [jn];omega] at this
 | [_],[],_,_,h,_=>h.elim
 | [_],_ :: _ :: _,_,_,h,_=>h.2.elim
 | _ :: _ :: _,[],_,_,h,_=>h.elim
theorem FP {bs:List (List Int)} {ts:List S25} (h:mP bs ts):ql (91 :: (jn bs ++ [93])) ⟨5,⟨#[]⟩,[],ts⟩:=by
 intro r i hR hp
 obtain ⟨h1,h2⟩:=hp.head
 cases bs with
 | nil =>
   cases ts with
   | cons=>exact h.elim
   | nil =>
   obtain ⟨h3,h4⟩:=(show Put r (i+1) [93] from hp.tail).head
   exact ⟨[],[],.arr0 i (i+1) h1 h2 (Blanks.refl _ _) h3 h4,kF hR _ _ 5 (by decide) (by decide) (by simp) (by simp) trivial trivial⟩
 | cons x l =>
   obtain ⟨ks,hJ,hT⟩:=zQ hR (x :: l) ts (i+1) (by simp) h hp.tail
   have hl:=hJ.lens
   have hb:=hJ.bound
   have hv:J r .val i (i+(91 :: (jn (x :: l) ++ [93])).length) 5 [] ks:=by
    have:=J.arr i (i+1) _ ks h1 h2 (Blanks.refl _ _) hJ
    rwa [show i+1+(jn (x :: l)).length+1=i+(91 :: (jn (x :: l) ++ [93])).length by simp;omega] at this
   exact ⟨[],ks,hv,kF hR _ _ 5 (by decide) (by decide) (by simp) (by omega) trivial hT⟩
def mb (n v:List Int):List Int:=n ++ 58 :: v
theorem xR {r:ByteArray} (hR:r.size≤1099511627776):∀ (nl bs:List (List Int)) (vs:List ByteArray) (ts:List S25) (i:Nat),bs≠[]→nl.length=bs.length→Names nl vs→mP bs ts→Put r i (jn (List.zipWith mb nl bs) ++ [125]) →
 ∃ ns ks,J r .mems i (i+(jn (List.zipWith mb nl bs)).length+1) 0 ns ks∧fB r ns vs∧fP r ks ts
 | _,[],_,_,_,h,_,_,_,_=>absurd rfl h
 | [],_ :: _,_,_,_,_,h,_,_,_=>by simp at h
 | [n],[x],[v],[t],i,_,_,hn,hv,hp=>by
   have hp':Put r i (n ++ 58 :: (x ++ [125])):=by simpa [jn,mb] using hp
   obtain ⟨q,q1,q2,q3,q4,q5⟩:=hn.1 r i hR hp'.left
   have hp2:=hp'.right
   rw [q1] at hp2
   obtain ⟨h1,h2⟩:=hp2.head
   obtain ⟨ns,ks,hJ,hT⟩:=hv.1 r _ hR hp2.tail.left
   obtain ⟨h3,h4⟩:=hp2.tail.right.head
   refine ⟨[⟨(i:Nat),(q+1:Nat)⟩],[⟨t.f0,(q+1+1:Nat),(q+1+1+x.length:Nat),ns,ks⟩],?_,⟨q5,trivial⟩,hT,trivial⟩
   have:=J.mem1 i q (q+1) (q+1+1) _ _ t.f0 ns ks q2 q3 q4 (Blanks.refl _ _) h1 h2 (Blanks.refl _ _) hJ (Blanks.refl _ _) h3 h4
   rwa [show q+1+1+x.length+1=i+(jn (List.zipWith mb [n] [x])).length+1 by simp [jn,mb];omega] at this
 | n :: n2 :: nl,x :: y :: l,v :: vs,t :: ts,i,_,hlen,hn,hv,hp=>by
   have hp':Put r i (n ++ 58 :: (x ++ 44 :: (jn (List.zipWith mb (n2 :: nl) (y :: l)) ++ [125]))):=by simpa [jn,mb] using hp
   obtain ⟨q,q1,q2,q3,q4,q5⟩:=hn.1 r i hR hp'.left
   have hp2:=hp'.right
   rw [q1] at hp2
   obtain ⟨h1,h2⟩:=hp2.head
   obtain ⟨ns,ks,hJ,hT⟩:=hv.1 r _ hR hp2.tail.left
   obtain ⟨h3,h4⟩:=hp2.tail.right.head
   obtain ⟨ns2,ks2,hJ2,hN2,hT2⟩:=xR hR (n2 :: nl) (y :: l) vs ts _ (by simp) (by simpa using hlen) hn.2 hv.2 hp2.tail.right.tail
   refine ⟨⟨(i:Nat),(q+1:Nat)⟩ :: ns2,⟨t.f0,(q+1+1:Nat),(q+1+1+x.length:Nat),ns,ks⟩ :: ks2,?_,⟨q5,hN2⟩,hT,hT2⟩
   have:=J.mems i q (q+1) (q+1+1) _ _ _ _ t.f0 ns ns2 ks ks2 q2 q3 q4 (Blanks.refl _ _) h1 h2 (Blanks.refl _ _) hJ (Blanks.refl _ _) h3 h4 (Blanks.refl _ _) hJ2
   rwa [show q+1+1+x.length+1+(jn (List.zipWith mb (n2 :: nl) (y :: l))).length+1=i+(jn (List.zipWith mb (n :: n2 :: nl) (x :: y :: l))).length+1 by simp [jn,mb];omega] at this
 | _ :: _ :: _,[_],_,_,_,_,h,_,_,_=>by simp at h
 | [_],_ :: _ :: _,_,_,_,_,h,_,_,_=>by simp at h
 | _ :: _,_ :: _,[],_,_,_,_,h,_,_=>h.elim
 | _ :: _,_ :: _,_ :: _,[],_,_,_,_,h,_=>h.elim
 | [_],[_],_ :: _ :: _,_,_,_,_,h,_,_=>h.2.elim
 | [_],[_],[_],_ :: _ :: _,_,_,_,_,h,_=>h.2.elim
theorem Gj {nl bs:List (List Int)} {vs:List ByteArray} {ts:List S25} (hlen:nl.length=bs.length) (hn:Names nl vs) (h:mP bs ts):ql (123 :: (jn (List.zipWith mb nl bs) ++ [125])) ⟨6,⟨#[]⟩,vs,ts⟩:=by
 intro r i hR hp
 obtain ⟨h1,h2⟩:=hp.head
 cases bs with
 | nil =>
   obtain rfl:=List.eq_nil_of_length_eq_zero hlen
   cases ts with
   | cons=>exact h.elim
   | nil =>
   cases vs with
   | cons=>exact hn.elim
   | nil =>
   obtain ⟨h3,h4⟩:=(show Put r (i+1) [125] from hp.tail).head
   exact ⟨[],[],.obj0 i (i+1) h1 h2 (Blanks.refl _ _) h3 h4,kF hR _ _ 6 (by decide) (by decide) (by simp) (by simp) trivial trivial⟩
 | cons x l =>
   obtain ⟨ns,ks,hJ,hN,hT⟩:=xR hR nl (x :: l) vs ts (i+1) (by simp) hlen hn h hp.tail
   have hl:=hJ.lens
   have hb:=hJ.bound
   have hv:J r .val i (i+(123 :: (jn (List.zipWith mb nl (x :: l)) ++ [125])).length) 6 ns ks:=by
    have:=J.obj i (i+1) _ ns ks h1 h2 (Blanks.refl _ _) hJ
    rwa [show i+1+(jn (List.zipWith mb nl (x :: l))).length+1=i+(123 :: (jn (List.zipWith mb nl (x :: l)) ++ [125])).length by simp;omega] at this
   exact ⟨ns,ks,hv,kF hR _ _ 6 (by decide) (by decide) (by omega) (by omega) hN hT⟩
theorem ql.read {bs:List Int} {t:S25} (h:ql bs t) (hb:Byt bs) (hl:bs.length≤1099511627776):Evt (fun k=>fO.f k (strOfNums bs)) (t.f0,t.f1,t.f2,t.f3,true):=by
 have hz:=vG bs
 obtain ⟨ns,ks,hJ,hT⟩:=h (strOfNums bs) 0 (by omega) (Ef hb)
 rw [Nat.zero_add] at hJ hT
 unfold fO.f
 exact Evt.bind (Bz (by omega) (Blanks.refl _ _) hJ (by rw [hz];exact Blanks.refl _ _)) (Evt.pos (by simp) (Evt.bind hT (Evt.pure _)))
def qo (s:ByteArray) (a e:Nat):List Int:=bytesOf (s.extract a e)
theorem jF {s:ByteArray} {a e:Nat} (h:e≤s.size):(qo s a e).length=e - a:=by rw [qo,bytesOf_length,ByteArray.size_extract];omega
theorem yB {s r:ByteArray} {a e i:Nat} (h1:a≤e) (h:e≤s.size) (hp:Put r i (qo s a e)):Part s r a i (e - a):=by
 have hl:=hp.le
 rw [jF h] at hl
 refine ⟨by omega,hl,fun m hm=>?_⟩
 rw [hp.at_ m (by rw [jF h];exact hm),qo,sV,ji s a e m (by omega) h]
theorem vY {s:ByteArray} (hS:s.size≤1099511627776) {a e:Nat} {kd:Int} {ns:List S44} {ks:List S32} (h:J s .val a e kd ns ks) (hp:Prd s a) {t:S25} (hk:t.f0=kd) (ht:Evt (fun k=>bJ.f k s kd (a:Int) (e:Int) ns ks) (t.f0,t.f1,t.f2,t.f3)):ql (qo s a e) t:=by
 intro r i hR hput
 have hb:=h.bound
 have P:=yB (by omega) hb.2 hput
 have hJ:=h.move P (Nat.le_refl _) (by omega)
 obtain ⟨keys,ts,_,_,_,_,h5⟩:=h.trees P hS hR hp (Nat.le_refl _) (by omega)
 obtain ⟨txt,h6,h7⟩:=h5 rfl
 have hu:=ht.uniq h6
 rw [jF hb.2,hk]
 rw [show a - a+i=i by omega,show e - a+i=i+(e - a) by omega] at hJ
 refine ⟨_,_,hJ,?_⟩
 rw [show (a:Int)+((i:Int) - a)=(i:Int) by omega,show (e:Int)+((i:Int) - a)=((i+(e - a):Nat):Int) by omega] at h7
 rw [hk] at hu
 rw [hu]
 exact h7
theorem Az {s:ByteArray} {a q:Nat} (h0:a < s.size) (h1:bt s a=34) (h2:gm s (a+1) q) {v:ByteArray} (hv:sW s ⟨(a:Nat),(q+1:Nat)⟩ v):Eb (qo s a (q+1)) v:=by
 intro r i hR hput
 have hb:=h2.bound
 have P:=yB (by omega) (show q+1≤s.size by omega) hput
 obtain ⟨a',q',e1,e2,e3,e4,hs⟩:=hv.at_
 have ea:a'=a:=by have:(a:Int)=a':=e1;omega
 have eq:q'=q:=by have:((q+1:Nat):Int)=((q'+1:Nat):Int):=e2;omega
 subst ea;subst eq
 have hN:=(P.name hs (Nat.le_refl _) (by omega) (by omega)).2
 have hQ:=P.Fg h2 (by omega) (by omega)
 have hr:=P.hr
 rw [yU _ a' (q'+1) i (i+(q' - a')+1) (by omega) (by omega)] at hN
 rw [show a'+1 - a'+i=i+1 by omega,show q' - a'+i=i+(q' - a') by omega] at hQ
 have hat:=P.at a' (Nat.le_refl _) (by omega)
 rw [show a' - a'+i=i by omega] at hat
 refine ⟨i+(q' - a'),by rw [jF (by omega)];omega,by omega,by rw [hat];exact h1,hQ,hN⟩
def qJ (s:ByteArray) (p:S32):List Int:=qo s p.f1.toNat p.f2.toNat
def uy (s:ByteArray) (n:S44):List Int:=qo s n.f0.toNat n.f1.toNat
theorem mD {s:ByteArray} (hS:s.size≤1099511627776) {a e:Nat} {kd:Int} {ns:List S44} {ks:List S32} (h:J s .val a e kd ns ks) (hp:Prd s a) {t:S25} (ht:Evt (fun k=>bJ.f k s kd (a:Int) (e:Int) ns ks) (t.f0,t.f1,t.f2,t.f3)):t.f0=kd:=by
 obtain ⟨_,_,h⟩:=wW hS h hp
 obtain ⟨txt,keys,ts,g,_⟩:=h rfl
 exact (Prod.mk.inj (ht.uniq g)).1
def Md.room:Md→Int→Nat→Nat
 | .val,kd,n=>if kd=5∨kd=6 then n - 1 else n
 | _,_,n=>n
structure Pcs (s:ByteArray) (z:Nat) (ns:List S44) (ks:List S32) (vs:List ByteArray) (ts:List S25):Prop where
 vals:mP (ks.map (qJ s)) ts
 names:Names (ns.map (uy s)) vs
 I9:(jn (ks.map (qJ s))).length < z
 Jb:(jn (List.zipWith mb (ns.map (uy s)) (ks.map (qJ s)))).length < z
theorem vV (x:List Int) (l:List (List Int)):(jn (x :: l)).length≤x.length+1+(jn l).length:=by
 cases l with
 | nil=>simp [jn]
 | cons y l=>simp [jn];omega
theorem Pcs.zero {s:ByteArray} {z:Nat} (h:0 < z):∀ (vs:List ByteArray) (ts:List S25),fB s [] vs→fP s [] ts→Pcs s z [] [] vs ts:=by
 intro vs ts h1 h2
 cases vs with
 | cons=>exact h1.elim
 | nil =>
 cases ts with
 | cons=>exact h2.elim
 | nil=>exact ⟨trivial,trivial,h,h⟩
theorem kN (s:ByteArray) (kd:Int) (b e:Nat) (ns:List S44) (ks:List S32):qJ s ⟨kd,(b:Int),(e:Int),ns,ks⟩=qo s b e:=by simp [qJ]
theorem rW (s:ByteArray) (b e:Nat):uy s ⟨(b:Int),(e:Int)⟩=qo s b e:=by simp [uy]
theorem J.pieces {s:ByteArray} (hS:s.size≤1099511627776) {md:Md} {a e:Nat} {kd:Int} {ns:List S44} {ks:List S32} (h:J s md a e kd ns ks):Prd s a→∀ (vs:List ByteArray) (ts:List S25),fB s ns vs→fP s ks ts→Pcs s (md.room kd (e - a)) ns ks vs ts:=by
 induction h with
 | null a h=>exact fun _=>Pcs.zero (by simp [Md.room])
 | fals a h=>exact fun _=>Pcs.zero (by simp [Md.room])
 | tru a h=>exact fun _=>Pcs.zero (by simp [Md.room])
 | num a e h0 h1 h2 h3=>exact fun _=>Pcs.zero (by simp [Md.room];omega)
 | str a q h0 h1 h2=>exact fun _=>Pcs.zero (by have:=h2.bound;simp [Md.room];omega)
 | arr0 a j h0 h1 h2 h3 h4=>exact fun _=>Pcs.zero (by have:=h2.le;simp [Md.room];omega)
 | arr a j e ks h0 h1 h2 h3 ih =>
   intro hp vs ts hn ht
   have hle:=h2.le
   have hb:=h3.bound
   obtain ⟨g1,g2,g3,g4⟩:=ih (h2.prd hS (by omega) (Prd.plain hS hp h0 (by omega))) vs ts hn ht
   simp [Md.room] at g3 g4
   exact ⟨g1,g2,by simp [Md.room];omega,by simp [Md.room];omega⟩
 | obj0 a j h0 h1 h2 h3 h4=>exact fun _=>Pcs.zero (by have:=h2.le;simp [Md.room];omega)
 | obj a j e ns ks h0 h1 h2 h3 ih =>
   intro hp vs ts hn ht
   have hle:=h2.le
   have hb:=h3.bound
   obtain ⟨g1,g2,g3,g4⟩:=ih (h2.prd hS (by omega) (Prd.plain hS hp h0 (by omega))) vs ts hn ht
   simp [Md.room] at g3 g4
   exact ⟨g1,g2,by simp [Md.room];omega,by simp [Md.room];omega⟩
 | el1 a m e kd ns ks h0 h1 h2 h3 ih =>
   intro hp vs ts hn ht
   have hle:=h1.le
   have hb:=h0.bound
   cases vs with
   | cons=>exact hn.elim
   | nil =>
   match ts,ht with
   | [t],ht =>
   have hk:=mD hS h0 hp ht.1
   refine ⟨⟨?_,trivial⟩,trivial,?_,?_⟩
   ·rw [kN]
    exact vY hS h0 hp hk ht.1
   ·simp [jn,kN,jF hb.2,Md.room];omega
   ·simp [jn,Md.room];omega
 | els a m f q e kd ns ks l h0 h1 h2 h3 h4 h5 ih ih2 =>
   intro hp vs ts hn ht
   have hle:=h1.le
   have hle2:=h4.le
   have hb:=h5.bound
   have hb0:=h0.bound
   cases vs with
   | cons=>exact hn.elim
   | nil =>
   match ts,ht with
   | t :: ts,ht =>
   have hk:=mD hS h0 hp ht.1
   obtain ⟨g1,g2,g3,g4⟩:=ih2 (h4.prd hS (by omega) (Prd.plain hS (h1.prd hS (by omega) (h0.prd hS hp)) h2 (by omega))) [] ts trivial ht.2
   simp [Md.room] at g3
   refine ⟨⟨?_,g1⟩,trivial,?_,?_⟩
   ·rw [kN]
    exact vY hS h0 hp hk ht.1
   ·rw [List.map_cons,kN]
    have:=vV (qo s a m) (l.map (qJ s))
    rw [jF hb0.2] at this
    simp [Md.room];omega
   ·simp [jn,Md.room];omega
 | mem1 a q f b m e kd ns ks h0 h1 h2 h3 h4 h5 h6 h7 h8 h9 h10 ih =>
   intro hp vs ts hn ht
   have hb:=h7.bound
   have hq:=h2.bound
   have e1:=h3.le
   have e2:=h6.le
   have e3:=h8.le
   have hpb:=h6.prd hS (by omega) (Prd.plain hS (h3.prd hS (by omega) (gm.prd hS h0 h1 h2 hp).2) h4 (by omega))
   match vs,ts,hn,ht with
   | [v],[t],hn,ht =>
   have hk:=mD hS h7 hpb ht.1
   have l1:=jF (s:=s) (a:=a) (show q+1≤s.size by omega)
   have l2:=jF (s:=s) (a:=b) hb.2
   refine ⟨⟨?_,trivial⟩,⟨?_,trivial⟩,?_,?_⟩
   ·rw [kN]
    exact vY hS h7 hpb hk ht.1
   ·rw [rW]
    exact Az h0 h1 h2 hn.1
   ·simp only [List.map_cons,List.map_nil,kN,jn,l2];simp [Md.room];omega
   ·simp only [List.map_cons,List.map_nil,kN,rW,List.zipWith_cons_cons,List.zipWith_nil_left,jn,mb,List.length_append,List.length_cons,l1,l2];simp [Md.room];omega
 | mems a q f b m g x e kd ns nl ks l h0 h1 h2 h3 h4 h5 h6 h7 h8 h9 h10 h11 h12 ih ih2 =>
   intro hp vs ts hn ht
   have hb:=h7.bound
   have hq:=h2.bound
   have hx:=h12.bound
   have e1:=h3.le
   have e2:=h6.le
   have e3:=h8.le
   have e4:=h11.le
   have hpb:=h6.prd hS (by omega) (Prd.plain hS (h3.prd hS (by omega) (gm.prd hS h0 h1 h2 hp).2) h4 (by omega))
   match vs,ts,hn,ht with
   | v :: vs,t :: ts,hn,ht =>
   have hk:=mD hS h7 hpb ht.1
   obtain ⟨g1,g2,g3,g4⟩:=ih2 (h11.prd hS (by omega) (Prd.plain hS (h8.prd hS (by omega) (h7.prd hS hpb)) h9 (by omega))) vs ts hn.2 ht.2
   replace g3:(jn (l.map (qJ s))).length < e - x:=g3
   replace g4:(jn (List.zipWith mb (nl.map (uy s)) (l.map (qJ s)))).length < e - x:=g4
   have l1:=jF (s:=s) (a:=a) (show q+1≤s.size by omega)
   have l2:=jF (s:=s) (a:=b) hb.2
   refine ⟨⟨?_,g1⟩,⟨?_,g2⟩,?_,?_⟩
   ·rw [kN]
    exact vY hS h7 hpb hk ht.1
   ·rw [rW]
    exact Az h0 h1 h2 hn.1
   ·rw [List.map_cons,kN]
    have:=vV (qo s b m) (l.map (qJ s))
    rw [l2] at this
    simp [Md.room];omega
   ·rw [List.map_cons,List.map_cons,kN,rW,List.zipWith_cons_cons]
    have:=vV (mb (qo s a (q+1)) (qo s b m)) (List.zipWith mb (nl.map (uy s)) (l.map (qJ s)))
    rw [mb,List.length_append,List.length_cons,l1,l2] at this
    rw [mb]
    simp only [Md.room]
    omega
end Go.Proofs.YtpgfjbimodnkeaaGreatDoor.Scan
namespace Go.Proofs.YtpgfjbimodnkeaaGreatDoor.Dec
open Go Go.RowKit Go.Proofs.YtpgfjbimodnkeaaGreatDoorW.PrintWords Go.Proofs.YtpgfjbimodnkeaaGreatDoorW.PrintLast Go.Proofs.YtpgfjbimodnkeaaGreatDoorW.PrintMore Go.Proofs.YtpgfjbimodnkeaaGreatDoor.Scan Go.Proofs.YtpgfjbimodnkeaaGreatDoor.Q
theorem EO {l:List (List Int)} {j:Nat} (h:j < l.length):jn (l.take (j+1))=if j=0 then l[j] else jn (l.take j) ++ 44 :: l[j]:=by
 rw [List.take_succ_eq_append_getElem h]
 by_cases h0:j=0
 ·subst h0
  rw [if_pos rfl]
  rfl
 ·rw [if_neg h0,zS _ _ (fun he=>h0 (by have:=congrArg List.length he;rw [List.length_take,List.length_nil] at this;omega))]
theorem J.same {s:ByteArray} {md:Md} {a e:Nat} {kd:Int} {ns:List S44} {ks:List S32} (h:J s md a e kd ns ks):md = .mems∨md = .val∧kd=6→ns.length=ks.length:=by
 induction h with
 | null | fals | tru | num | str | arr0 | obj0=>intro _;rfl
 | arr a j e ks h0 h1 h2 h3 ih=>rintro (h | ⟨_,h⟩) <;> simp at h
 | obj a j e ns ks h0 h1 h2 h3 ih=>exact fun _=>ih (.inl rfl)
 | el1 | els=>rintro (h | ⟨h,_⟩) <;> cases h
 | mem1=>intro _;rfl
 | mems a q f b m g x e kd ns nl ks l h0 h1 h2 h3 h4 h5 h6 h7 h8 h9 h10 h11 h12 ih ih2=>intro _;rw [List.length_cons,List.length_cons,ih2 (.inl rfl)]
structure MR (w4:World) (o:Value) (bs:List Int) (W:World):Prop where
 bel:Below w4.heap.size w4 W
 own:W.ownsRow w4.heap.size 5 1 o bs.length (nums .u8 bs)
theorem uJ {s:ByteArray}:∀ {ns:List S44} {ps:List (Rs × Rs)},gI s ns ps→(ps.map Prod.fst).map (fun r=>bytesOf r.raw)=ns.map (uy s)
 | [],[],_=>rfl
 | p :: ks,r :: ps,h=>by
   obtain ⟨b,q,h1,h2,_,_,h3,_⟩:=h.1.at_
   rw [List.map_cons,List.map_cons,List.map_cons,uJ h.2,uy,h1,h2,h3,Int.toNat_natCast,Int.toNat_natCast]
   rfl
 | [],_ :: _,h=>h.elim
 | _ :: _,[],h=>h.elim
end Go.Proofs.YtpgfjbimodnkeaaGreatDoor.Dec
namespace Go.Proofs.YtpgfjbimodnkeaaGreatDoor.Scan
open Go Go.RowKit Go.Proofs.YtpgfjbimodnkeaaGreatDoorW.PrintWords Go.Proofs.YtpgfjbimodnkeaaGreatDoor.Q Go.Proofs.YtpgfjbimodnkeaaGreatDoor.Dec
theorem xK {s:ByteArray} {a e:Nat} {ns:List S44} {ks:List S32} (h:J s .val a e 5 ns ks):ns=[]:=by
 generalize hk:(5:Int)=kd at h
 cases h with
 | obj=>exact absurd hk (by decide)
 | _=>rfl
theorem vM {s:ByteArray} (hS:s.size≤1099511627776) {a e:Nat} {kd:Int} (hkd:kd=5∨kd=6) {ns:List S44} {ks:List S32} (h:J s .val a e kd ns ks) (hp:Prd s a) {keys:List ByteArray} (hn:fB s ns keys) {t:Int × ByteArray × List ByteArray × List S25} (ht:Evt (fun k=>bJ.f k s kd (a:Int) (e:Int) ns ks) t) :
 ∃ ts,t=(kd,⟨#[]⟩,keys,ts)∧fP s ks ts:=by
 obtain ⟨_,⟨ts,h2⟩,_⟩:=wW hS h hp
 have hl:=h.lens
 have hb:=h.bound
 exact ⟨ts,ht.uniq (kF hS _ _ kd (by omega) (by omega) (by omega) (by omega) hn h2),h2⟩
end Go.Proofs.YtpgfjbimodnkeaaGreatDoor.Scan
namespace Go.Proofs.YtpgfjbimodnkeaaGreatDoor.Q
open Go.RowKit Go.Proofs.YtpgfjbimodnkeaaGreatDoorW.PrintWords Go.Proofs.YtpgfjbimodnkeaaGreatDoorW.PrintLast Go.Proofs.YtpgfjbimodnkeaaGreatDoorW.PrintMore
def pV (ks:List ByteArray) (nm:ByteArray):Nat→Int
 | 0=>-1
 | k+1=>if ((uu ByteArray.empty ks (k:Int)).toList == nm.toList)=true then (k:Int) else pV ks nm k
def o8 (ks:List ByteArray):Nat→Bool
 | 0=>true
 | r+1=>if (pV ks (uu ByteArray.empty ks ((ks.length - (r+1):Nat):Int)) ks.length != ((ks.length - (r+1):Nat):Int))=true then false else o8 ks r
def qR (f:S25→Bool) (ts:List S25):Nat→Bool
 | 0=>true
 | r+1=>if f (gV ts ((ts.length - (r+1):Nat):Int))=true then qR f ts r else false
def uq:Nat→S25→Bool
 | 0,_=>true
 | n+1,t=>if o8 t.f2 t.f2.length=true then qR (uq n) t.f3 t.f3.length else false
theorem CZ (kd:Int) (txt:ByteArray) (A2:Option Addr) (c2:Nat) (ks:List ByteArray) (A3:Option Addr) (n3 c3:Nat) (nm:ByteArray) (w:World) (h2:Kd.string.C w A2 ks.length ks) :
 Calls Tryz.prog 41 #[.agg #[.int .i64 kd,.string txt,.slice A2 ks.length c2,.slice A3 n3 c3],.string nm] w fun e w'=>e = .returned (.int .i64 (pV ks nm ks.length))∧Below w.heap.size w w':=by
 have hm:=Kd.xm h2
 replace h2:=ae.mk h2
 go_enter Tryz.func41,Tryz.ntmps41
 go_wp2_with (fail)
 go_loopg [5] ks.length (fun kq v5 w'=>∃ i:Int,v5 = .int .i64 i∧ae (i=(kq:Int) - 1∧kq≤ks.length∧pV ks nm ks.length=pV ks nm kq)∧w'=w.alloc (.cells #[.int .i64 kd,.string txt,.slice A2 ks.length c2,.slice A3 n3 c3] 25))
 case atStart=>exact ⟨(ks.length:Int) - 1,by congr 1,⟨rfl,Nat.le_refl _,rfl⟩,rfl⟩
 case round =>
  obtain ⟨i,rfl,hi,rfl⟩:=hrel
  obtain ⟨he,hle,hla⟩:=hi.out
  replace hla:=ae.mk hla
  cases gk with
  | zero =>
    have e0:decide (0≤i)=false:=decide_eq_false (by omega)
    clear he hle
    go_wp2
    go_ret
    exact ⟨by rw [hla.out];rfl,ai (Below.refl _ _) _⟩
  | succ gk =>
    have e0:decide (0≤i)=true:=decide_eq_true (by omega)
    obtain ⟨ad,rfl,hx⟩:=Kd.mG h2.out i (by omega) (by omega)
    have p1:(0≤i)=True:=eq_true (by omega)
    have p2:(i < (ks.length:Int))=True:=eq_true (by omega)
    have hx2:(w.alloc (.cells #[.int .i64 kd,.string txt,.slice (some ad) ks.length c2,.slice A3 n3 c3] 25)).cell? (ad.add i.toNat)=_:=((ai (Below.refl _ _) _).cell (World.block_lt_of_cell? w _ hx)).trans hx
    clear hx
    clear he hle
    obtain rfl:i=(gk:Int):=by have:=hi.out.1;omega
    rw [Int.toNat_natCast] at hx2
    have hl2:=hla.out
    rw [pV] at hl2
    generalize uu ByteArray.empty ks (gk:Int)=y at *
    cases hy:(y.toList == nm.toList)
    ·rw [if_neg (by rw [hy];decide)] at hl2
     replace hl2:=ae.mk hl2
     go_wp2
     go_roundg gk
     case measure=>omega
     case rel=>exact ⟨(gk:Int) - 1,by have:=hi.out.2.1;congr 1;unfold wrap64;omega,⟨rfl,by have:=hi.out.2.1;omega,hl2.out⟩,rfl⟩
    ·rw [if_pos hy] at hl2
     replace hl2:=ae.mk hl2
     go_wp2
     go_ret
     exact ⟨by rw [hl2.out];rfl,ai (Below.refl _ _) _⟩
theorem yA (xs:List S25) (i:Int) (h0:0≤i) (h1:i < (xs.length:Int)):gV xs i ∈ xs:=by
 unfold gV
 rw [List.getD_eq_getElem?_getD,List.getElem?_eq_getElem (by omega:i.toNat < xs.length)]
 exact List.getElem_mem _
theorem zM (t x:S25) (h:x ∈ t.f3):SizeOf.sizeOf x < SizeOf.sizeOf t:=by
 cases t with
 | mk a b c d =>
   have:=List.sizeOf_lt_of_mem h
   simp only [S25.mk.sizeOf_spec]
   simp only at this
   omega
theorem wU (n:Nat):∀ (t:S25),SizeOf.sizeOf t < n→∀ (A2:Option Addr) (c2:Nat) (A3:Option Addr) (c3:Nat) (w:World) (h2:Kd.string.C w A2 t.f2.length t.f2) (h3:k25.C w A3 t.f3.length t.f3),
 Calls Tryz.prog 19 #[.agg #[.int .i64 t.f0,.string t.f1,.slice A2 t.f2.length c2,.slice A3 t.f3.length c3]] w fun e w'=>e = .returned (.bool (uq n t))∧Below w.heap.size w w':=by
 induction n with
 | zero=>exact fun t h=>absurd h (by omega)
 | succ n ih =>
 intro t ht A2 c2 A3 c3 w h2 h3
 have hm:=Kd.xm h2
 have hm3:=Kd.xm h3
 have hsub:∀ x ∈ t.f3,SizeOf.sizeOf x < n:=fun x hx=>by have:=zM t x hx;omega
 rw [uq]
 generalize t.f0=kd at *
 generalize t.f1=txt at *
 generalize t.f2=ks at *
 generalize t.f3=ts at *
 obtain ⟨R,hRes⟩:∃ R,(if o8 ks ks.length=true then qR (uq n) ts ts.length else false)=R:=⟨_,rfl⟩
 rw [hRes]
 replace hRes:=ae.mk hRes
 replace h2:=ae.mk h2
 replace h3:=ae.mk h3
 replace hsub:=ae.mk hsub
 replace ih:=ae.mk ih
 clear ht
 obtain ⟨W0,hW0⟩:∃ W0,w.alloc (.cells #[.int .i64 kd,.string txt,.slice A2 ks.length c2,.slice A3 ts.length c3] 25)=W0:=⟨_,rfl⟩
 have hb0:=ae.mk (show Below w.heap.size w W0 by rw [← hW0];exact ai (Below.refl _ _) _)
 have kb0:=ae.mk (show W0.heap[w.heap.size]?=some (.cells #[.int .i64 kd,.string txt,.slice A2 ks.length c2,.slice A3 ts.length c3] 25 (0,0)) by rw [← hW0];exact dP w _)
 replace hW0:=ae.mk hW0
 go_enter Tryz.func19,Tryz.ntmps19
 go_wp2_with (fail)
 go_loopg [3] ks.length (fun kq v3 w'=>∃ i:Nat,v3 = .int .i64 i∧ae (i+kq=ks.length∧o8 ks ks.length=o8 ks kq)∧ae (Below W0.heap.size W0 w'))
 case atStart=>exact ⟨0,rfl,⟨by omega,rfl⟩,⟨by rw [← hW0.out];exact Below.refl _ _⟩⟩
 case round =>
  obtain ⟨i,rfl,hi,hB⟩:=hrel
  have kb:=bU kb0.out hB.out
  have c0:=(ah kb 0).trans rfl
  have c1:=(ah kb 1).trans rfl
  have c2':=(ah kb 2).trans rfl
  have c3':=(ah kb 3).trans rfl
  have hBw:=ae.mk (dX hb0.out hb0.out.size hB.out)
  replace kb:=ae.mk kb
  cases gk with
  | zero =>
    have hi':=hi.out.1
    have e0:decide (i < ks.length)=false:=decide_eq_false (by omega)
    clear hi'
    replace hm:=ae.mk hm
    have hgoal:=ae.mk (show o8 ks ks.length=true from hi.out.2)
    go_wp2_with (fail)
    go_loopg [4] ts.length (fun kq v4 w'=>∃ i:Nat,v4 = .int .i64 i∧ae (i+kq=ts.length∧qR (uq n) ts ts.length=qR (uq n) ts kq)∧ae (Below W0.heap.size W0 w'))
    case atStart=>exact ⟨0,rfl,⟨by omega,rfl⟩,hB⟩
    case round =>
     clear c0 c1 c2' c3' hBw kb hB hi
     obtain ⟨i,rfl,hi,hB⟩:=hrel
     have kb:=bU kb0.out hB.out
     have c0:=(ah kb 0).trans rfl
     have c1:=(ah kb 1).trans rfl
     have c2':=(ah kb 2).trans rfl
     have c3':=(ah kb 3).trans rfl
     have hBw:=ae.mk (dX hb0.out hb0.out.size hB.out)
     replace kb:=ae.mk kb
     cases gk with
     | zero =>
       have hi':=hi.out.1
       have e0:decide (i < ts.length)=false:=decide_eq_false (by omega)
       clear hi'
       go_wp2
       go_ret
       exact ⟨by rw [← hRes.out,hgoal.out,if_pos rfl,hi.out.2];rfl,hBw.out⟩
     | succ gk =>
       have hi':=hi.out.1
       have e0:decide (i < ts.length)=true:=decide_eq_true (by omega)
       obtain ⟨ad,B2,d2,B3,d3,rfl,q0,q1,q2,q3,l2,g2,l3,g3⟩:=qG (Kd.fF h3.out (dX hb0.out hb0.out.size hB.out)) (i:Int) (by omega) (by omega)
       have p1:(0≤(i:Int))=True:=eq_true (by omega)
       have p2:((i:Int) < (ts.length:Int))=True:=eq_true (by omega)
       have hstep:=hi.out.2
       rw [qR,show ts.length - (gk+1)=i by omega] at hstep
       have hcall:=ih.out (gV ts i) (hsub.out _ (yA ts i (by omega) (by omega))) B2 d2 B3 d3 wr g2 g3
       replace g2:=ae.mk g2
       replace g3:=ae.mk g3
       rw [Int.toNat_natCast] at q0 q1 q2 q3
       generalize gV ts (i:Int)=x at *
       clear hi'
       replace hstep:=ae.mk hstep
       go_wp2_with (fail)
       refine hcall.mono ?_
       rintro e w5 ⟨rfl,hb5⟩
       have hB5:=ae.mk (dX hB.out (by have:=hB.out.size;omega) hb5)
       replace hstep:=hstep.out
       cases hb:uq n x
       ·rw [if_neg (by rw [hb];decide)] at hstep
        replace hstep:=ae.mk hstep
        replace hb:=ae.mk hb
        go_wp2
        go_ret
        exact ⟨by rw [← hRes.out,hgoal.out,if_pos rfl,hstep.out];rfl,dX hb0.out hb0.out.size hB5.out⟩
       ·rw [if_pos hb] at hstep
        replace hstep:=ae.mk hstep
        replace hb:=ae.mk hb
        go_wp2
        go_roundg gk
        case measure=>omega
        case rel=>exact ⟨i+1,by have:=hi.out.1;congr 1;unfold wrap64;omega,⟨by have:=hi.out.1;omega,hstep.out⟩,hB5⟩
  | succ gk =>
    have hi':=hi.out.1
    have e0:decide (i < ks.length)=true:=decide_eq_true (by omega)
    obtain ⟨ad,rfl,hx⟩:=Kd.mG (Kd.fF h2.out hBw.out) (i:Int) (by omega) (by omega)
    have p1:(0≤(i:Int))=True:=eq_true (by omega)
    have p2:((i:Int) < (ks.length:Int))=True:=eq_true (by omega)
    rw [Int.toNat_natCast] at hx
    have hstep:=hi.out.2
    rw [o8,show ks.length - (gk+1)=i by omega] at hstep
    generalize uu ByteArray.empty ks (i:Int)=y at *
    have hat:=fun W (hW:Below w.heap.size w W)=>CZ kd txt (some ad) c2 ks A3 ts.length c3 y W (Kd.fF h2.out hW)
    clear hi'
    replace hstep:=ae.mk hstep
    go_wp2_with (fail)
    go_region_with (first | (go_at_call 41;refine (hat _ ?_).mono ?_;(repeat (with_reducible first | exact hBw.out | apply ai | apply ag | apply dm));rintro e w5 ⟨rfl,hb5⟩;replace hb5:=ae.mk hb5))
    all_goals
     have hB5:=ae.mk (dX (dm hB.out) (by have:=hB.out.size;exact this) hb5.out)
     replace hstep:=hstep.out
     cases hb:(pV ks y ks.length != (i:Int))
     ·rw [if_neg (by rw [hb];decide)] at hstep
      replace hstep:=ae.mk hstep
      go_wp2
      go_roundg gk
      case measure=>omega
      case rel=>exact ⟨i+1,by have:=hi.out.1;congr 1;unfold wrap64;omega,⟨by have:=hi.out.1;omega,hstep.out⟩,hB5⟩
     ·rw [if_pos hb] at hstep
      replace hstep:=ae.mk hstep
      go_wp2
      go_ret
      exact ⟨by rw [← hRes.out,hstep.out,if_neg (by decide)];rfl,dX hb0.out hb0.out.size hB5.out⟩
end Go.Proofs.YtpgfjbimodnkeaaGreatDoor.Q
