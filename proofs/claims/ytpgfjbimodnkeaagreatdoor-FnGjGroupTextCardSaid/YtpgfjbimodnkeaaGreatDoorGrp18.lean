/- FnGjGroupText: whatever text comes in, the law returns true and the text reads afterwards as before; with the fourteen package-level variables that its row lists as the text of the program lays them (the tied card) (part 18 of 33: lemmas for its last part) -/
import Derived.WalkSpells
import Derived.Deep.Cut
import Derived.Test.YtpgfjbimodnkeaaGreatDoorGrp2
import Derived.Test.YtpgfjbimodnkeaaGreatDoorGrp17
set_option maxHeartbeats 16000000
set_option maxRecDepth 100000
set_option linter.unusedVariables false
set_option linter.unusedSimpArgs false
namespace Go.Proofs.YtpgfjbimodnkeaaGreatDoor.Dec
open Go Go.RowKit Go.Proofs.YtpgfjbimodnkeaaGreatDoorW.PrintWords Go.Proofs.YtpgfjbimodnkeaaGreatDoorW.PrintLast Go.Proofs.YtpgfjbimodnkeaaGreatDoorW.PrintMore Go.Proofs.YtpgfjbimodnkeaaGreatDoor.Scan
structure Rs where
 k:Int
 raw:ByteArray
 str:ByteArray
 num:Nat
 idx:Int
def Rs.ex (r:Rs):Bool:=if r.k=0 then ((r.raw.size:Int) != 0) else true
theorem vS (w:World) (a b:Array Value) (t u:TypeId):((w.alloc (.cells a t)).alloc (.cells b u)).heap[w.heap.size]?=some (.cells a t (0,0))∧((w.alloc (.cells a t)).alloc (.cells b u)).heap[w.heap.size+1]?=some (.cells b u (0,0)):=by
 refine ⟨aN (dP w _) _,?_⟩
 have:=dP (w.alloc (.cells a t)) (.cells b u)
 simpa using this
end Go.Proofs.YtpgfjbimodnkeaaGreatDoor.Dec
namespace Go.Proofs.YtpgfjbimodnkeaaGreatDoor.Q
open Go.RowKit Go.Proofs.YtpgfjbimodnkeaaGreatDoorW.PrintWords Go.Proofs.YtpgfjbimodnkeaaGreatDoorW.PrintLast Go.Proofs.YtpgfjbimodnkeaaGreatDoorW.PrintMore
attribute [local go_sem] dK dJ dZ ed dC dD dN dM
end Go.Proofs.YtpgfjbimodnkeaaGreatDoor.Q
namespace Go.Proofs.YtpgfjbimodnkeaaGreatDoor.Dec
open Go Go.RowKit Go.Proofs.YtpgfjbimodnkeaaGreatDoorW.PrintWords Go.Proofs.YtpgfjbimodnkeaaGreatDoorW.PrintLast Go.Proofs.YtpgfjbimodnkeaaGreatDoorW.PrintMore Go.Proofs.YtpgfjbimodnkeaaGreatDoor.Scan Go.Proofs.YtpgfjbimodnkeaaGreatDoor.Q
def gjk (kd:Int):Int:=if kd=1 then 1 else if kd=3 then 2 else if kd=4 then 3 else if kd=2 then 4 else if kd=5 then 5 else if kd=6 then 5 else 0
structure lJ (s:ByteArray) (p:S32) (r:Rs):Prop where
 at_:∃ b e:Nat,p.f1=b∧p.f2=e∧b < e∧e≤s.size∧r.raw=s.extract b e∧(p.f0=4→∃ q,e=q+1∧b < q∧Says s (b+1) q r.str)
 kind:r.k=gjk p.f0
 ex:r.ex=true
structure qE (s:ByteArray) (n:S44) (r:Rs):Prop where
 at_:∃ b q:Nat,n.f0=b∧n.f1=(q+1:Nat)∧b < q∧q < s.size∧r.raw=s.extract b (q+1)∧Says s (b+1) q r.str
 kind:r.k=3
theorem HY {s:ByteArray} {b e:Nat} (h:b < e) (he:e≤s.size) (r:Rs) (hr:r.raw=s.extract b e):r.ex=true:=by
 unfold Rs.ex
 split
 ·rw [hr,ByteArray.size_extract]
  exact bne_iff_ne.mpr (by omega)
 ·rfl
theorem vg (w:World) (B:Nat) (s:ByteArray) (hs:s.size≤65536) (hT:Tabs B w) {b m:Nat} {kd:Int} {ns:List S44} {ks:List S32} (hJ:J s .val b m kd ns ks) (hA:After s m) (hP:Prd s b) :
 Calls Tryz.prog 62 #[.string s,.int .i64 b,.bool true] w fun r w'=>∃ rs:Rs,r = .returned (.tuple #[.int .i64 m,resV rs.k rs.raw rs.str rs.num rs.idx,.bool true])∧lJ s ⟨kd,b,m,ns,ks⟩ rs∧Below w.heap.size w w':=by
 have hb:=hJ.bound
 have key:∀ (rs:Rs),rs.raw=s.extract b m→rs.k=gjk kd→(kd=4→∃ q,m=q+1∧b < q∧Says s (b+1) q rs.str)→lJ s ⟨kd,b,m,ns,ks⟩ rs:=fun rs h1 h2 h3 =>
  ⟨⟨b,m,rfl,rfl,hb.1,hb.2,h1,h3⟩,h2,HY hb.1 hb.2 rs h1⟩
 have hsc:=hJ.scan
 cases hJ with
 | null _ h =>
   refine (Ez w s hs b h hA).mono ?_
   rintro r w' ⟨rfl,hB⟩
   exact ⟨⟨0,s.extract b (b+4),⟨#[]⟩,0,0⟩,rfl,key _ rfl rfl (fun h=>absurd h (by decide)),hB⟩
 | fals _ h =>
   refine (AZ w s hs b h hA).mono ?_
   rintro r w' ⟨rfl,hB⟩
   exact ⟨⟨1,s.extract b (b+5),⟨#[]⟩,0,0⟩,rfl,key _ rfl rfl (fun h=>absurd h (by decide)),hB⟩
 | tru _ h =>
   refine (DD w s hs b h hA).mono ?_
   rintro r w' ⟨rfl,hB⟩
   exact ⟨⟨4,s.extract b (b+4),⟨#[]⟩,0,0⟩,rfl,key _ rfl rfl (fun h=>absurd h (by decide)),hB⟩
 | num _ _ h0 h1 h2 h3 =>
   refine (yJ w B s hs b m h1 h2 h3 h0 hA hT).mono ?_
   rintro r w' ⟨⟨x,rfl⟩,hB⟩
   exact ⟨⟨2,s.extract b m,⟨#[]⟩,x,0⟩,rfl,key _ rfl rfl (fun h=>absurd h (by decide)),hB⟩
 | str _ q h0 h1 h2 =>
   obtain ⟨hP1,v,hv⟩:=jL (lb hs) h2 (gm.prd (lb hs) h0 h1 h2 hP).1
   have hqb:=h2.bound
   refine (yY w s hs b q h0 h1 h2 v hv).mono ?_
   rintro r w' ⟨rfl,hB⟩
   exact ⟨⟨3,s.extract b (q+1),v,0,0⟩,rfl,key _ rfl rfl (fun _=>⟨q,rfl,by omega,hv⟩),hB⟩
 | arr0 _ j h0 h1 h2 h3 h4 =>
   refine (lK w B s hs b _ h0 (.inr h1) (hsc.2 (by decide)) hT).mono ?_
   rintro r w' ⟨rfl,hB⟩
   exact ⟨⟨5,s.extract b (j+1),⟨#[]⟩,0,b⟩,rfl,key _ rfl rfl (fun h=>absurd h (by decide)),hB⟩
 | arr _ j _ _ h0 h1 h2 h3 =>
   refine (lK w B s hs b _ h0 (.inr h1) (hsc.2 (by decide)) hT).mono ?_
   rintro r w' ⟨rfl,hB⟩
   exact ⟨⟨5,s.extract b m,⟨#[]⟩,0,b⟩,rfl,key _ rfl rfl (fun h=>absurd h (by decide)),hB⟩
 | obj0 _ j h0 h1 h2 h3 h4 =>
   refine (lK w B s hs b _ h0 (.inl h1) (hsc.2 (by decide)) hT).mono ?_
   rintro r w' ⟨rfl,hB⟩
   exact ⟨⟨5,s.extract b (j+1),⟨#[]⟩,0,b⟩,rfl,key _ rfl rfl (fun h=>absurd h (by decide)),hB⟩
 | obj _ j _ _ _ h0 h1 h2 h3 =>
   refine (lK w B s hs b _ h0 (.inl h1) (hsc.2 (by decide)) hT).mono ?_
   rintro r w' ⟨rfl,hB⟩
   exact ⟨⟨5,s.extract b m,⟨#[]⟩,0,b⟩,rfl,key _ rfl rfl (fun h=>absurd h (by decide)),hB⟩
def gX (s:ByteArray):List S32→List (Rs × Rs)→Prop
 | [],[]=>True
 | p :: ps,r :: rs=>lJ s p r.2∧gX s ps rs
 | _,_=>False
def gI (s:ByteArray):List S44→List (Rs × Rs)→Prop
 | [],[]=>True
 | p :: ps,r :: rs=>qE s p r.1∧gI s ps rs
 | _,_=>False
theorem gX.length {s:ByteArray}:∀ {ks:List S32} {ps:List (Rs × Rs)},gX s ks ps→ks.length=ps.length
 | [],[],_=>rfl
 | _ :: _,_ :: _,h=>by simp [gX.length h.2]
 | [],_ :: _,h=>h.elim
 | _ :: _,[],h=>h.elim
theorem gX.snoc {s:ByteArray} {p:S32} {r:Rs × Rs} (hp:lJ s p r.2):∀ {ks:List S32} {ps:List (Rs × Rs)},gX s ks ps→gX s (ks ++ [p]) (ps ++ [r])
 | [],[],_=>⟨hp,trivial⟩
 | _ :: _,_ :: _,h=>⟨h.1,gX.snoc hp h.2⟩
 | [],_ :: _,h=>h.elim
 | _ :: _,[],h=>h.elim
theorem gI.snoc {s:ByteArray} {p:S44} {r:Rs × Rs} (hp:qE s p r.1):∀ {ks:List S44} {ps:List (Rs × Rs)},gI s ks ps→gI s (ks ++ [p]) (ps ++ [r])
 | [],[],_=>⟨hp,trivial⟩
 | _ :: _,_ :: _,h=>⟨h.1,gI.snoc hp h.2⟩
 | [],_ :: _,h=>h.elim
 | _ :: _,[],h=>h.elim
theorem gI.length {s:ByteArray}:∀ {ks:List S44} {ps:List (Rs × Rs)},gI s ks ps→ks.length=ps.length
 | [],[],_=>rfl
 | _ :: _,_ :: _,h=>by simp [gI.length h.2]
 | [],_ :: _,h=>h.elim
 | _ :: _,[],h=>h.elim
theorem gX.next {s:ByteArray} {done l ks:List S32} {p:S32} {ps:List (Rs × Rs)} (h:done ++ p :: l=ks) (hk:gX s done ps):ks[ps.length]?=some p:=by
 subst h
 rw [← hk.length,List.getElem?_append_right (Nat.le_refl _)]
 simp
theorem gI.next {s:ByteArray} {done l ns:List S44} {p:S44} {ps:List (Rs × Rs)} (h:done ++ p :: l=ns) (hk:gI s done ps):ns[ps.length]?=some p:=by
 subst h
 rw [← hk.length,List.getElem?_append_right (Nat.le_refl _)]
 simp
theorem Ew (w:World) (s:ByteArray) (hs:s.size≤65536) (i:Nat) (hi:i≤s.size) (h:∀ p:Nat,i≤p→p < s.size→bt s p=93∨Scan.blank (bt s p)) :
 Calls Tryz.prog 62 #[.string s,.int .i64 i,.bool true] w fun r w'=>r = .returned (.tuple #[.int .i64 s.size,resV 0 ⟨#[]⟩ ⟨#[]⟩ 0 0,.bool false])∧Below w.heap.size w w':=by
 replace h:=ae.mk h
 go_enter Tryz.func62,Tryz.ntmps62
 go_wp2
 go_loopg [1] (s.size - i) (fun kq v1 w'=>∃ p:Nat,v1 = .int .i64 p∧ae (p+kq=s.size∧i≤p)∧w'=(w.alloc (.cells #[.int .i64 0,.string ⟨#[]⟩,.string ⟨#[]⟩,.float .f64 0,.int .i64 0,.slice none 0 0] 67)).alloc (.cells #[.int .i64 0,.string ⟨#[]⟩,.string ⟨#[]⟩,.float .f64 0,.int .i64 0,.slice none 0 0] 67))
 case atStart=>exact ⟨i,rfl,⟨⟨by omega,Nat.le_refl _⟩⟩,rfl⟩
 case round =>
  obtain ⟨p,rfl,hp,rfl⟩:=hrel
  have hp1:=hp.out
  by_cases hlt:p < s.size
  ·have hx:=jc s p
   have p0:(0≤(p:Int))=True:=eq_true (by omega)
   have p1:((p:Int) < (s.size:Int))=True:=eq_true (by omega)
   have hh:=h.out p hp1.2 hlt
   clear hp1
   unfold Scan.blank at hh
   cases gk with
   | zero=>exact absurd hp.out (by omega)
   | succ gk =>
   rcases hh with hh | hh
   ·rw [hh] at hx
    clear hh
    go_wp2
    go_roundg gk
    case measure=>omega
    case rel=>exact ⟨p+1,by first | rfl | (congr 1;omega),⟨⟨by have:=hp.out;omega,by have:=hp.out;omega⟩⟩,rfl⟩
   ·generalize bt s p=c at *
    have b1:(c == 123)=false:=beq_eq_false_iff_ne.mpr (by omega)
    have b2:(c == 91)=false:=beq_eq_false_iff_ne.mpr (by omega)
    have b3:decide (c≤32)=true:=decide_eq_true (by omega)
    clear hh
    go_wp2
    go_roundg gk
    case measure=>omega
    case rel=>exact ⟨p+1,by first | rfl | (congr 1;omega),⟨⟨by have:=hp.out;omega,by have:=hp.out;omega⟩⟩,rfl⟩
  ·have hpe:p=s.size:=by omega
   subst hpe
   have p1:((s.size:Int) < (s.size:Int))=False:=eq_false (by omega)
   clear hp1 hlt
   go_wp2
   go_region
   all_goals (try go_wp2)
   all_goals (try simp only [Exit.inBlock,Exit.then])
   refine bodyPost_ret (v:=.tuple #[.int .i64 s.size,resV 0 ⟨#[]⟩ ⟨#[]⟩ 0 0,.bool false]) ?_ rfl ?_
   ·simp [results,go_sem]
    try omega
   ·exact ⟨rfl,(by repeat (with_reducible first | exact Below.refl _ _ | apply ai | apply dm | apply ag | (refine Below.setCell ?_ (by first | exact Nat.le_refl _ | exact Nat.le_succ _) _)))⟩
def rG (c:Int):Prop:=Go.Proofs.YtpgfjbimodnkeaaGreatDoor.Scan.blank c∨c=44∨c=58
structure AtEnd (s:ByteArray) (c:Int) (i:Nat):Prop where
 way:s.size≤i∨(i < s.size∧∃ j,gJ s rG i j∧j≤s.size∧(j=s.size∨(bt s j=c∧j < s.size∧Blanks s (j+1) s.size)))
def Ht (s:ByteArray) (e:Nat) (rest:List S32) (i:Nat):Prop:=(∃ j,gJ s rG i j∧J s .els j e 0 [] rest)∨(rest=[]∧AtEnd s 93 i)
def BJ (s:ByteArray) (e:Nat) (nrest:List S44) (rest:List S32) (i:Nat):Prop:=(∃ j,gJ s rG i j∧J s .mems j e 0 nrest rest)∨(nrest=[]∧rest=[]∧AtEnd s 125 i)
theorem gu {s:ByteArray} {i j:Nat} (h:Blanks s i j):gJ s rG i j:=⟨h.le,fun m h1 h2 => .inl (h.all m h1 h2)⟩
theorem pW {s:ByteArray} {P:Int→Prop} {i:Nat} (h:P (bt s i)):gJ s P i (i+1):=⟨by omega,fun m h1 h2=>by
 have e:m=i:=by omega
 rw [e];exact h⟩
theorem mg {s:ByteArray} {P:Int→Prop} {i j:Nat} (h:gJ s P i j) (hlt:i < j):gJ s P (i+1) j:=⟨hlt,fun m h1 h2=>h.all m (by omega) h2⟩
theorem uS {s:ByteArray} {j m:Nat} {kd:Int} {ns:List S44} {ks:List S32} (h:J s .val j m kd ns ks):32 < bt s j∧bt s j≠44∧bt s j≠58∧bt s j≠92:=by
 cases h with
 | null _ h=>have:=h.at 0 (by decide);rw [Nat.add_zero] at this;rw [this];decide
 | fals _ h=>have:=h.at 0 (by decide);rw [Nat.add_zero] at this;rw [this];decide
 | tru _ h=>have:=h.at 0 (by decide);rw [Nat.add_zero] at this;rw [this];decide
 | num _ _ h0 h1 h2 h3=>omega
 | str _ q h0 h1 h2=>omega
 | arr0 _ j h0 h1 h2 h3 h4=>omega
 | arr _ j e ks h0 h1 h2 h3=>omega
 | obj0 _ j h0 h1 h2 h3 h4=>omega
 | obj _ j e ns ks h0 h1 h2 h3=>omega
theorem oK {c:Int} (h:rG c):c≤32∨(¬ c≤32∧c=44)∨(¬ c≤32∧c=58):=by unfold rG Scan.blank at h;omega
theorem EZ (t:TypeId) (x y:Nat) (W:World):(binOp .add t (.float .f64 x) (.float .f64 y)).run Tryz.prog W = .ok (.float .f64 (fl2 .add x y W)) (W.drewN (fln .add x y)):=by
 cases h:floatBits .add .f64 x y with
 | some r =>
   rw [run_float_arith W .add t .f64 x y r h]
   simp only [fl2,fln,h]
   rfl
 | none =>
   have h':FloatKind.f64.format.add x y=none:=h
   simp only [fl2,fln,h]
   by_cases hf:(Question.nanBits .f64 x y).forced
   ·simp [binOp,Op.floatArith,h',hf];rfl
   ·simp [binOp,Op.floatArith,h',hf];rfl
theorem yu {s:ByteArray} {md:Md} {i e:Nat} {kd:Int} {ns:List S44} {ks:List S32} (h:J s md i e kd ns ks):ks.length+i≤e:=by
 induction h with
 | null i h=>simp
 | fals i h=>simp
 | tru i h=>simp
 | num i e h0 h1 h2 h3=>simp;omega
 | str i q h0 h1 h2=>have:=h2.bound;simp;omega
 | arr0 i j h0 h1 h2 h3 h4=>have:=h2.le;simp;omega
 | arr i j e ks h0 h1 h2 h3 ih=>have:=h2.le;omega
 | obj0 i j h0 h1 h2 h3 h4=>have:=h2.le;simp;omega
 | obj i j e ns ks h0 h1 h2 h3 ih=>have:=h2.le;omega
 | el1 i m e kd ns ks h0 h1 h2 h3 ih=>have:=h0.bound;have:=h1.le;simp;omega
 | els i m c n e kd ns ks l h0 h1 h2 h3 h4 h5 ih ih2=>have:=h0.bound;have:=h1.le;have:=h4.le;simp;omega
 | mem1 i q c b m e kd ns ks h0 h1 h2 h3 h4 h5 h6 h7 h8 h9 h10 ih=>have:=h2.bound;have:=h3.le;have:=h6.le;have:=h7.bound;have:=h8.le;simp;omega
 | mems i q c b m d n e kd ns nl ks l h0 h1 h2 h3 h4 h5 h6 h7 h8 h9 h10 h11 h12 ih ih2=>have:=h2.bound;have:=h3.le;have:=h6.le;have:=h7.bound;have:=h8.le;have:=h11.le;simp;omega
theorem mf {α:Type} {a l ks:List α} {x:α} (h:a ++ x :: l=ks):ks.take (a.length+1)=a ++ [x]∧a.length+1≤ks.length:=by
 subst h
 refine ⟨?_,by simp⟩
 rw [show a ++ x :: l=(a ++ [x]) ++ l by simp,List.take_left' (by simp)]
theorem at_end {s:ByteArray} {m e:Nat} {c:Int} (h1:Blanks s m e) (h2:e < s.size) (h3:bt s e=c) (hE:Blanks s (e+1) s.size):AtEnd s c (m+1):=by
 have hle:=h1.le
 refine ⟨?_⟩
 by_cases hs:s.size≤m+1
 ·exact .inl hs
 ·refine .inr ⟨by omega,?_⟩
  by_cases he:m=e
  ·subst he
   exact ⟨s.size,gu hE,Nat.le_refl _,.inl rfl⟩
  ·exact ⟨e,mg (gu h1) (by omega),by omega,.inr ⟨h3,h2,hE⟩⟩
theorem Aa {s:ByteArray} {i j:Nat} {c:Int} (h2:Blanks s i j) (h3:j < s.size) (h4:bt s j=c) (hE:Blanks s (j+1) s.size):AtEnd s c i :=
 ⟨.inr ⟨by have:=h2.le;omega,j,gu h2,by omega,.inr ⟨h4,h3,hE⟩⟩⟩
theorem Eh {s:ByteArray} {e j:Nat} {rest:List S32} (h:J s .els j e 0 [] rest) (hE:Blanks s e s.size):∃ (m:Nat) (kd:Int) (ns:List S44) (ks l:List S32),rest=⟨kd,(j:Nat),(m:Nat),ns,ks⟩ :: l∧J s .val j m kd ns ks∧After s m∧Ht s e l (m+1)∧m < s.size:=by
 have hes:=h.bound.2
 cases h with
 | el1 _ m e kd ns ks h0 h1 h2 h3 =>
   have hle:=h1.le
   refine ⟨m,kd,ns,ks,[],rfl,h0,.inr ⟨by omega,?_⟩,.inr ⟨rfl,at_end h1 h2 h3 hE⟩,by omega⟩
   by_cases he:m=e
   ·subst he;exact .inr (.inr (.inl h3))
   ·exact .inl (h1.all m (Nat.le_refl _) (by omega))
 | els _ m c n e kd ns ks l h0 h1 h2 h3 h4 h5 =>
   have hle:=h1.le
   have hle2:=h4.le
   refine ⟨m,kd,ns,ks,l,rfl,h0,.inr ⟨by omega,?_⟩,.inl ⟨n,?_,h5⟩,by omega⟩
   ·by_cases he:m=c
    ·subst he;exact .inr (.inl h3)
    ·exact .inl (h1.all m (Nat.le_refl _) (by omega))
   ·exact mg (((gu h1).trans (pW (.inr (.inl h3)))).trans (gu h4)) (by omega)
theorem Bi {s:ByteArray} (hS:s.size≤65536) {e j:Nat} {nrest:List S44} {rest:List S32} (h:J s .mems j e 0 nrest rest) (hE:Blanks s e s.size):∃ (q b m:Nat) (kd:Int) (ns nl:List S44) (ks l:List S32),nrest=⟨(j:Nat),(q+1:Nat)⟩ :: nl∧rest=⟨kd,(b:Nat),(m:Nat),ns,ks⟩ :: l ∧
 j < s.size∧bt s j=34∧gm s (j+1) q∧gJ s rG (q+1) b∧J s .val b m kd ns ks∧After s m∧BJ s e nl l (m+1)∧m < s.size∧(Prd s j→Prd s b):=by
 have hes:=h.bound.2
 cases h with
 | mem1 _ q c b m e kd ns ks h0 h1 h2 h3 h4 h5 h6 h7 h8 h9 h10 =>
   have hle:=h8.le
   have hq:=h2.bound
   have hc:=h3.le
   have hb:=h6.le
   have hv:=h7.bound
   refine ⟨q,b,m,kd,ns,[],ks,[],rfl,rfl,by omega,h1,h2,((gu h3).trans (pW (.inr (.inr h5)))).trans (gu h6),h7,.inr ⟨by omega,?_⟩,.inr ⟨rfl,rfl,at_end h8 h9 h10 hE⟩,by omega,fun hp=>?_⟩
   ·by_cases he:m=e
    ·subst he;exact .inr (.inr (.inr h10))
    ·exact .inl (h8.all m (Nat.le_refl _) (by omega))
   ·exact h6.prd (lb hS) (by omega) (Prd.plain (lb hS) (h3.prd (lb hS) (by omega) (gm.prd (lb hS) h0 h1 h2 hp).2) h4 (by omega))
 | mems _ q c b m d n e kd ns nl ks l h0 h1 h2 h3 h4 h5 h6 h7 h8 h9 h10 h11 h12 =>
   have hle:=h8.le
   have hq:=h2.bound
   have hc:=h3.le
   have hb:=h6.le
   have hv:=h7.bound
   have hn:=h11.le
   refine ⟨q,b,m,kd,ns,nl,ks,l,rfl,rfl,by omega,h1,h2,((gu h3).trans (pW (.inr (.inr h5)))).trans (gu h6),h7,.inr ⟨by omega,?_⟩,.inl ⟨n,?_,h12⟩,by omega,fun hp=>?_⟩
   ·by_cases he:m=d
    ·subst he;exact .inr (.inl h10)
    ·exact .inl (h8.all m (Nat.le_refl _) (by omega))
   ·exact mg (((gu h8).trans (pW (.inr (.inl h10)))).trans (gu h11)) (by omega)
   ·exact h6.prd (lb hS) (by omega) (Prd.plain (lb hS) (h3.prd (lb hS) (by omega) (gm.prd (lb hS) h0 h1 h2 hp).2) h4 (by omega))
theorem BD {s:ByteArray} {e:Nat} {ns:List S44} {ks:List S32} (h:J s .val 0 e 6 ns ks) (hE:Blanks s e s.size):bt s ((0:Nat):Int)=123∧BJ s e ns ks 1:=by
 generalize hi:(0:Nat)=i at h
 generalize hk:(6:Int)=kd at h
 cases h with
 | obj0 _ j h0 h1 h2 h3 h4 =>
   subst hi
   exact ⟨h1,.inr ⟨rfl,rfl,Aa h2 h3 h4 hE⟩⟩
 | obj _ j e _ _ h0 h1 h2 h3 =>
   subst hi
   exact ⟨h1,.inl ⟨j,gu h2,h3⟩⟩
 | null=>exact absurd hk (by decide)
 | fals=>exact absurd hk (by decide)
 | tru=>exact absurd hk (by decide)
 | num=>exact absurd hk (by decide)
 | str=>exact absurd hk (by decide)
 | arr0=>exact absurd hk (by decide)
 | arr=>exact absurd hk (by decide)
theorem AC {s:ByteArray} {e:Nat} {ks:List S32} (h:J s .val 0 e 5 [] ks) (hE:Blanks s e s.size):bt s ((0:Nat):Int)=91∧Ht s e ks 1:=by
 generalize hi:(0:Nat)=i at h
 generalize hk:(5:Int)=kd at h
 generalize hn:([]:List S44)=ns at h
 cases h with
 | arr0 _ j h0 h1 h2 h3 h4 =>
   subst hi
   exact ⟨h1,.inr ⟨rfl,Aa h2 h3 h4 hE⟩⟩
 | arr _ j e _ h0 h1 h2 h3 =>
   subst hi
   exact ⟨h1,.inl ⟨j,gu h2,h3⟩⟩
 | null=>exact absurd hk (by decide)
 | fals=>exact absurd hk (by decide)
 | tru=>exact absurd hk (by decide)
 | num=>exact absurd hk (by decide)
 | str=>exact absurd hk (by decide)
 | obj0=>exact absurd hk (by decide)
 | obj=>exact absurd hk (by decide)
abbrev jg (r:Rs):Array Value:=#[.int .i64 r.k,.string r.raw,.string r.str,.float .f64 r.num,.int .i64 r.idx,.slice none 0 0]
theorem lJ.idx {s:ByteArray} {p:S32} {r:Rs} (h:lJ s p r) (x:Int):lJ s p { r with idx:=x }:=⟨h.at_,h.kind,h.ex⟩
theorem ET (s:ByteArray):s.extract 0 s.size=s:=by simp
end Go.Proofs.YtpgfjbimodnkeaaGreatDoor.Dec
