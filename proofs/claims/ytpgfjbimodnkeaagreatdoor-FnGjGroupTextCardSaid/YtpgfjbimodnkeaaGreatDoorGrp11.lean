/- FnGjGroupText: whatever text comes in, the law returns true and the text reads afterwards as before; with the fourteen package-level variables that its row lists as the text of the program lays them (the tied card) (part 11 of 33: lemmas for its last part) -/
import Derived.WalkMore
import Derived.Test.YtpgfjbimodnkeaaGreatDoorGrp2
import Derived.Test.YtpgfjbimodnkeaaGreatDoorGrp6
import Derived.Test.YtpgfjbimodnkeaaGreatDoorGrp9
set_option maxHeartbeats 16000000
set_option maxRecDepth 100000
set_option linter.unusedVariables false
set_option linter.unusedSimpArgs false
namespace Go.Proofs.YtpgfjbimodnkeaaGreatDoor.Dec
open Go Go.RowKit Go.Proofs.YtpgfjbimodnkeaaGreatDoorW.PrintWords Go.Proofs.YtpgfjbimodnkeaaGreatDoorW.PrintLast Go.Proofs.YtpgfjbimodnkeaaGreatDoorW.PrintMore Go.Proofs.YtpgfjbimodnkeaaGreatDoor.Scan
theorem zn {n:Nat} (t:List Value) (h:t.length=n):t=(List.range n).map (fun i=>t.getD i undef):=by
 subst h
 apply List.ext_getElem
 ·simp
 ·intro i h1 h2
  simp [List.getD_eq_getElem?_getD,h1]
theorem G8 {s:ByteArray} {j d e:Nat} (h:Sq s j d e) (h2:vch (bt s j)=0):Sq s (j+1) d e:=by
 cases h with
 | last _ g0 g1=>omega
 | skip _ _ _ g0 g1 g2=>exact g2
 | opens _ _ _ g g0 g1 g2=>omega
 | close _ _ _ g0 g1 g2=>omega
 | str _ _ _ _ g0 g1 g2 g3=>omega
theorem EM {s:ByteArray} {j e:Nat} (h:Sq s j 1 e) (h2:vch (bt s j)=1):e=j+1:=by
 cases h with
 | last _ g0 g1=>rfl
 | skip _ _ _ g0 g1 g2=>omega
 | opens _ _ _ g g0 g1 g2=>omega
 | str _ _ _ _ g0 g1 g2 g3=>omega
theorem Eo {s:ByteArray} {j d e:Nat} (h:Sq s j d e) (h2:vch (bt s j)=1) (hd:¬ d=1):Sq s (j+1) (d - 1) e:=by
 cases h with
 | last _ g0 g1=>omega
 | skip _ _ _ g0 g1 g2=>omega
 | opens _ _ _ g g0 g1 g2=>omega
 | close _ _ _ g0 g1 g2=>exact g2
 | str _ _ _ _ g0 g1 g2 g3=>omega
theorem EH {s:ByteArray} {j d e:Nat} (h:Sq s j d e) (h2:vch (bt s j)=3):Sq s (j+1) (d+1) e:=by
 cases h with
 | last _ g0 g1=>omega
 | skip _ _ _ g0 g1 g2=>omega
 | opens _ _ _ g g0 g1 g2=>exact g2
 | close _ _ _ g0 g1 g2=>omega
 | str _ _ _ _ g0 g1 g2 g3=>omega
theorem Hf {s:ByteArray} {j d e:Nat} (h:Sq s j d e) (h2:vch (bt s j)=2):∃ q,Quo s (j+1) q∧Sq s (q+1) d e:=by
 cases h with
 | last _ g0 g1=>omega
 | skip _ _ _ g0 g1 g2=>omega
 | opens _ _ _ g g0 g1 g2=>omega
 | close _ _ _ g0 g1 g2=>omega
 | str _ q _ _ g0 g1 g2 g3=>exact ⟨q,g2,g3⟩
theorem ww {a b c d e:Value} (h:[a,b,c,d]=[e,e,e,e]):a=e∧b=e∧c=e∧d=e:=by simpa using h
structure SqL (s:ByteArray) (i0 e:Nat) (w:World) (kq i d:Nat) (w':World):Prop where
 lo:i0 < i
 sq:Sq s i d e
 kq:kq=s.size - i
 dr:aj w w'
def SqJ (s:ByteArray) (i0 e:Nat) (w:World) (top:Nat) (f:Act) (W:World):Prop :=
 ∃ (i d:Nat) (c:Int) (v1 u4 u5 u9 u10 u11 u12 u13:Value) (t:List Value),f=⟨(.string s :: v1 :: undef :: undef :: u4 :: u5 :: .int .i64 i0 :: .int .i64 d :: .int .u8 c :: u9 :: u10 :: u11 :: u12 :: u13 :: .int .i64 i0 :: .int .i64 i0 :: .int .i64 ((i0:Int)+1) :: t).toArray,[]⟩∧t.length=213∧t.drop 209=[undef,undef,undef,undef]∧v1 = .int .i64 i ∧
  c=vch (bt s i)∧c≠0∧Sq s i d e∧aj w W∧top≤i
structure Hz (s x:ByteArray) (i:Nat) (c:Nat→Nat):Prop where
 size:x.size=8
 at_:∀ k,∀ h:k < x.size,(x[k]'h).toNat=c k
 byte:∀ k,k < 8→bt s ((i+k:Nat):Int)=c k
 lt:∀ k,c k < 256
theorem Iq (s:ByteArray) (i:Nat) (h:i+8≤s.size):∃ (x:ByteArray) (c:Nat→Nat),x=s.extract i (i+8)∧Hz s x i c:=by
 refine ⟨_,fun k=>(bt (s.extract i (i+8)) k).toNat,rfl,by rw [ByteArray.size_extract];omega,fun k hk=>?_,fun k hk=>?_,fun k=>?_⟩
 ·have:=cZ (s.extract i (i+8)) k (by simpa using hk)
  simp only [Int.toNat_natCast] at this
  omega
 ·have:=eG (s.extract i (i+8)) k
  rw [← ji s i (i+8) k (by omega) h]
  omega
 ·have:=eG (s.extract i (i+8)) k
  omega
theorem je (c:Nat):((qh c:Nat):Int)=vch c:=by
 unfold qh vch
 by_cases h1:c=34
 ·subst h1;rfl
 by_cases h2:c=40∨c=91∨c=123
 ·rcases h2 with rfl | rfl | rfl <;> rfl
 by_cases h3:c=41∨c=93∨c=125
 ·rcases h3 with rfl | rfl | rfl <;> rfl
 have e1:¬ ((c:Int)=34):=by omega
 have e2:¬ ((c:Int)=123∨(c:Int)=91∨(c:Int)=40):=by omega
 have e3:¬ ((c:Int)=125∨(c:Int)=93∨(c:Int)=41):=by omega
 rw [if_neg h1,if_neg h2,if_neg h3,if_neg e1,if_neg e2,if_neg e3];rfl
theorem kL {s x:ByteArray} {p a q:Nat} {c:Nat→Nat} (hC:Hz s x p c) (hQ:Quo s a q) (hpq:p≤q):∀ k,k≤8→(∀ m,m < k→(((c m:Nat):Int) == 34)=false)→p+k≤q
 | 0,_,_=>hpq
 | k+1,hk,hz=>by
   have h1:=kL hC hQ hpq k (by omega) (fun m hm=>hz m (by omega))
   by_cases he:p+k=q
   ·have h2:=hQ.mark
    rw [← he,hC.byte k (by omega)] at h2
    exact absurd h2 (beq_eq_false_iff_ne.mp (hz k (by omega)))
   ·omega
def SqK (s:ByteArray) (i0 d a q:Nat) (w:World) (n l:Nat) (f:Act) (W:World):Prop :=
 ∃ (j:Nat) (vj va u4 u5 u9 u11 u12 u13:Value) (t:List Value),f=⟨(.string s :: vj :: undef :: undef :: u4 :: u5 :: .int .i64 i0 :: .int .i64 d :: .int .u8 2 :: u9 :: va :: u11 :: u12 :: u13 :: .int .i64 i0 :: .int .i64 i0 :: .int .i64 ((i0:Int)+1) :: t).toArray,[]⟩∧t.length=213∧t.drop 209=[undef,undef,undef,undef] ∧
  vj = .int .i64 j∧va = .int .i64 a∧a≤j∧j≤q∧aj w W∧n=2*(s.size - j)+(if l=2 then 1 else 0)∧((l=1∧bt s j=34)∨l=2∨l=3)
structure Cnt (s:ByteArray) (a p':Nat) (w:World) (kq r y:Nat) (w':World):Prop where
 kq:kq=y
 ry:y+r+1=p'
 lo:a≤y+1
 cnt:slashes s a (y+1)+r=slashes s a p'
 dr:aj w w'
structure Dp (s:ByteArray) (q j:Nat) (w:World) (kq p:Nat) (w':World):Prop where
 kq:kq=s.size - p
 lo:j≤p
 hi:p≤q
 dr:aj w w'
theorem lZ {s x:ByteArray} {j d e:Nat} {c:Nat→Nat} (hC:Hz s x j c) (h:Sq s j d e):∀ k,k≤8→(∀ m,m < k→(((qh (c m):Nat):Int) != 0)=false)→Sq s (j+k) d e
 | 0,_,_=>h
 | k+1,hk,hz=>by
   have h1:=lZ hC h k (by omega) (fun m hm=>hz m (by omega))
   have h2:vch (bt s ((j+k:Nat):Int))=0:=by
    rw [hC.byte k (by omega),← je]
    have:=hz k (by omega)
    simpa using this
   cases h1 with
   | last _ g0 g1=>omega
   | skip _ _ _ g0 g1 g2=>exact g2
   | opens _ _ _ g g0 g1 g2=>omega
   | close _ _ _ g0 g1 g2=>omega
   | str _ _ _ _ g0 g1 g2 g3=>omega
theorem wZ (w:World) (B:Nat) (s:ByteArray) (hs:s.size≤65536) (i0 e:Nat) (h0:i0 < s.size) (hsq:Sq s (i0+1) 1 e) (hT:Tabs B w) :
 Calls Tryz.prog 84 #[.string s,.int .i64 i0] w fun r w'=>r = .returned (.tuple #[.int .i64 e,.string (s.extract i0 e)])∧aj w w':=by
 have hsq':=ae.mk hsq
 have hT':=ae.mk hT
 clear hsq hT
 go_enter Tryz.func84,Tryz.ntmps84
 go_wp2
 go_loopg [1,7,8,9,10,11,12,13] (s.size - (i0+1)) (fun kq v1 v7 v8 v9 v10 v11 v12 v13 w'=>∃ i d:Nat,v1 = .int .i64 i∧v7 = .int .i64 d∧ae (SqL s i0 e w kq i d w'))
 case atStart=>exact ⟨i0+1,1,by simp,rfl,⟨⟨by omega,hsq'.out,rfl,aj.refl _⟩⟩⟩
 case round =>
  obtain ⟨i,d,rfl,rfl,hL⟩:=hrel
  obtain ⟨hlo,hq,hk,hd⟩:=hL.out
  clear hL
  have hb:=hq.bound
  replace hq:=ae.mk hq
  replace hk:=ae.mk hk
  replace hd:=ae.mk hd
  have hi:i < s.size:=hb.1
  clear hb
  go_wp2
  refine uz 0 (SqJ s i0 e w i) rfl ?rest ?first
  case rest =>
   rintro K a W ⟨i1,d1,c1,v1,u4',u5',u9',u10',u11',u12',u13',t,rfl,ht,htd,rfl,hcv,hc0,hq1,hd1,hle⟩
   obtain ⟨v,rfl⟩:∃ v:Nat→Value,t=[v 0,v 1,v 2,v 3,v 4,v 5,v 6,v 7,v 8,v 9,v 10,v 11,v 12,v 13,v 14,v 15,v 16,v 17,v 18,v 19,v 20,v 21,v 22,v 23,v 24,v 25,v 26,v 27,v 28,v 29,v 30,v 31,v 32,v 33,v 34,v 35,v 36,v 37,v 38,v 39,v 40,v 41,v 42,v 43,v 44,v 45,v 46,v 47,v 48,v 49,v 50,v 51,v 52,v 53,v 54,v 55,v 56,v 57,v 58,v 59,v 60,v 61,v 62,v 63,v 64,v 65,v 66,v 67,v 68,v 69,v 70,v 71,v 72,v 73,v 74,v 75,v 76,v 77,v 78,v 79,v 80,v 81,v 82,v 83,v 84,v 85,v 86,v 87,v 88,v 89,v 90,v 91,v 92,v 93,v 94,v 95,v 96,v 97,v 98,v 99,v 100,v 101,v 102,v 103,v 104,v 105,v 106,v 107,v 108,v 109,v 110,v 111,v 112,v 113,v 114,v 115,v 116,v 117,v 118,v 119,v 120,v 121,v 122,v 123,v 124,v 125,v 126,v 127,v 128,v 129,v 130,v 131,v 132,v 133,v 134,v 135,v 136,v 137,v 138,v 139,v 140,v 141,v 142,v 143,v 144,v 145,v 146,v 147,v 148,v 149,v 150,v 151,v 152,v 153,v 154,v 155,v 156,v 157,v 158,v 159,v 160,v 161,v 162,v 163,v 164,v 165,v 166,v 167,v 168,v 169,v 170,v 171,v 172,v 173,v 174,v 175,v 176,v 177,v 178,v 179,v 180,v 181,v 182,v 183,v 184,v 185,v 186,v 187,v 188,v 189,v 190,v 191,v 192,v 193,v 194,v 195,v 196,v 197,v 198,v 199,v 200,v 201,v 202,v 203,v 204,v 205,v 206,v 207,v 208,v 209,v 210,v 211,v 212]:=⟨fun i=>t.getD i undef,zn t ht⟩
   clear ht
   obtain ⟨y0,y1,y2,y3⟩:=ww (show [v 209,v 210,v 211,v 212]=[undef,undef,undef,undef] from htd)
   clear htd
   rw [y0,y1,y2,y3]
   clear y0 y1 y2 y3
   have hb:=hq1.bound
   have hi1:i1 < s.size:=hb.1
   have hds:d1+i1≤s.size:=hb.2.2.2.2
   have hd0:1≤d1:=hb.2.2.2.1
   by_cases c2:c1=2
   ·subst c2
    obtain ⟨q,hQ,hq2⟩:=Hf hq1 hcv.symm
    have hql:q < s.size:=hQ.lt
    replace hq1:=ae.mk hq1
    replace hcv:=ae.mk hcv
    replace hQ:=ae.mk hQ
    replace hq2:=ae.mk hq2
    go_wp2
    refine ui 2 (SqK s i0 d1 (i1+1) q w) rfl ?head2 ?pass2 ?first2
    case head2 =>
     rintro n f W2 ⟨j,vj,va,u4x,u5x,u9x,u11x,u12x,u13x,t,rfl,ht,htd,rfl,rfl,haj,hjq,hd2,hn,hl⟩
     have hn2:n=2*(s.size - j)+1:=hn
     clear hn hl
     obtain ⟨v,rfl⟩:∃ v:Nat→Value,t=[v 0,v 1,v 2,v 3,v 4,v 5,v 6,v 7,v 8,v 9,v 10,v 11,v 12,v 13,v 14,v 15,v 16,v 17,v 18,v 19,v 20,v 21,v 22,v 23,v 24,v 25,v 26,v 27,v 28,v 29,v 30,v 31,v 32,v 33,v 34,v 35,v 36,v 37,v 38,v 39,v 40,v 41,v 42,v 43,v 44,v 45,v 46,v 47,v 48,v 49,v 50,v 51,v 52,v 53,v 54,v 55,v 56,v 57,v 58,v 59,v 60,v 61,v 62,v 63,v 64,v 65,v 66,v 67,v 68,v 69,v 70,v 71,v 72,v 73,v 74,v 75,v 76,v 77,v 78,v 79,v 80,v 81,v 82,v 83,v 84,v 85,v 86,v 87,v 88,v 89,v 90,v 91,v 92,v 93,v 94,v 95,v 96,v 97,v 98,v 99,v 100,v 101,v 102,v 103,v 104,v 105,v 106,v 107,v 108,v 109,v 110,v 111,v 112,v 113,v 114,v 115,v 116,v 117,v 118,v 119,v 120,v 121,v 122,v 123,v 124,v 125,v 126,v 127,v 128,v 129,v 130,v 131,v 132,v 133,v 134,v 135,v 136,v 137,v 138,v 139,v 140,v 141,v 142,v 143,v 144,v 145,v 146,v 147,v 148,v 149,v 150,v 151,v 152,v 153,v 154,v 155,v 156,v 157,v 158,v 159,v 160,v 161,v 162,v 163,v 164,v 165,v 166,v 167,v 168,v 169,v 170,v 171,v 172,v 173,v 174,v 175,v 176,v 177,v 178,v 179,v 180,v 181,v 182,v 183,v 184,v 185,v 186,v 187,v 188,v 189,v 190,v 191,v 192,v 193,v 194,v 195,v 196,v 197,v 198,v 199,v 200,v 201,v 202,v 203,v 204,v 205,v 206,v 207,v 208,v 209,v 210,v 211,v 212]:=⟨fun i=>t.getD i undef,zn t ht⟩
     clear ht
     obtain ⟨y0,y1,y2,y3⟩:=ww (show [v 209,v 210,v 211,v 212]=[undef,undef,undef,undef] from htd)
     clear htd
     rw [y0,y1,y2,y3]
     clear y0 y1 y2 y3
     replace hd2:=ae.mk hd2
     go_wp2
     go_loopg [1,11] (s.size - j) (fun kq v1 v11 w'=>∃ p:Nat,v1 = .int .i64 p∧ae (Dp s q j w kq p w'))
     case atStart=>exact ⟨j,rfl,⟨⟨rfl,Nat.le_refl _,hjq,hd2.out⟩⟩⟩
     case round =>
      clear hd2
      obtain ⟨p,rfl,hL⟩:=hrel
      obtain ⟨hkp,hjp,hpq,hd3⟩:=hL.out
      clear hL
      replace hkp:=ae.mk hkp
      replace hd3:=ae.mk hd3
      by_cases h8:p+8 < s.size
      ·obtain ⟨x,c,hx,hC⟩:=Iq s p (by omega)
       have hsl:∀ wx:World,(Instr.slice 9 (.string s) (some (.int .i64 (p:Int))) (some (.int .i64 ((p:Int)+8))) none).run Tryz.prog wx = .ok (.string x) wx:=fun wx=>by
        have h:=run_slice_string (P:=Tryz.prog) wx 9 s .i64 .i64 (p:Int) ((p:Int)+8) Tryz.underlying9 (by omega) (by omega) (by omega)
        rwa [Int.toNat_natCast,show ((p:Int)+8).toNat=p+8 by omega,← hx] at h
       have z:=hC.size
       have a0:=hC.at_ 0
       have a1:=hC.at_ 1
       have a2:=hC.at_ 2
       have a3:=hC.at_ 3
       have a4:=hC.at_ 4
       have a5:=hC.at_ 5
       have a6:=hC.at_ 6
       have a7:=hC.at_ 7
       replace hC:=ae.mk hC
       clear hx
       have h8':(p:Int) < (s.size:Int) - 8:=by omega
       go_wp2
       ·have hkq:=kL hC.out hQ.out hpq 0 (by omega) (fun m hm=>absurd hm (by omega))
        have hb34:bt s ((p+0:Nat):Int)=34:=by rw [hC.out.byte 0 (by omega)];exact beq_iff_eq.mp (by assumption)
        go_step3
        simp only [Exit.then,Exit.inBlock]
        refine (show ∃ n',n' < n∧SqK s i0 d1 (i1+1) q w n' 1 _ _ from ⟨2*(s.size - (p+0))+0,by omega,p+0,_,_,_,_,_,_,_,_,_,rfl,rfl,rfl,by first | rfl | (congr 1;omega),rfl,by omega,hkq,hd3.out,rfl,.inl ⟨rfl,hb34⟩⟩)
       ·have hkq:=kL hC.out hQ.out hpq 1 (by omega) (fun m hm=>by rcases (by omega:m=0) with rfl <;> assumption)
        have hb34:bt s ((p+1:Nat):Int)=34:=by rw [hC.out.byte 1 (by omega)];exact beq_iff_eq.mp (by assumption)
        go_step3
        simp only [Exit.then,Exit.inBlock]
        refine (show ∃ n',n' < n∧SqK s i0 d1 (i1+1) q w n' 1 _ _ from ⟨2*(s.size - (p+1))+0,by omega,p+1,_,_,_,_,_,_,_,_,_,rfl,rfl,rfl,by first | rfl | (congr 1;omega),rfl,by omega,hkq,hd3.out,rfl,.inl ⟨rfl,hb34⟩⟩)
       ·have hkq:=kL hC.out hQ.out hpq 2 (by omega) (fun m hm=>by rcases (by omega:m=0∨m=1) with rfl | rfl <;> assumption)
        have hb34:bt s ((p+2:Nat):Int)=34:=by rw [hC.out.byte 2 (by omega)];exact beq_iff_eq.mp (by assumption)
        go_step3
        simp only [Exit.then,Exit.inBlock]
        refine (show ∃ n',n' < n∧SqK s i0 d1 (i1+1) q w n' 1 _ _ from ⟨2*(s.size - (p+2))+0,by omega,p+2,_,_,_,_,_,_,_,_,_,rfl,rfl,rfl,by first | rfl | (congr 1;omega),rfl,by omega,hkq,hd3.out,rfl,.inl ⟨rfl,hb34⟩⟩)
       ·have hkq:=kL hC.out hQ.out hpq 3 (by omega) (fun m hm=>by rcases (by omega:m=0∨m=1∨m=2) with rfl | rfl | rfl <;> assumption)
        have hb34:bt s ((p+3:Nat):Int)=34:=by rw [hC.out.byte 3 (by omega)];exact beq_iff_eq.mp (by assumption)
        go_step3
        simp only [Exit.then,Exit.inBlock]
        refine (show ∃ n',n' < n∧SqK s i0 d1 (i1+1) q w n' 1 _ _ from ⟨2*(s.size - (p+3))+0,by omega,p+3,_,_,_,_,_,_,_,_,_,rfl,rfl,rfl,by first | rfl | (congr 1;omega),rfl,by omega,hkq,hd3.out,rfl,.inl ⟨rfl,hb34⟩⟩)
       ·have hkq:=kL hC.out hQ.out hpq 4 (by omega) (fun m hm=>by rcases (by omega:m=0∨m=1∨m=2∨m=3) with rfl | rfl | rfl | rfl <;> assumption)
        have hb34:bt s ((p+4:Nat):Int)=34:=by rw [hC.out.byte 4 (by omega)];exact beq_iff_eq.mp (by assumption)
        go_step3
        simp only [Exit.then,Exit.inBlock]
        refine (show ∃ n',n' < n∧SqK s i0 d1 (i1+1) q w n' 1 _ _ from ⟨2*(s.size - (p+4))+0,by omega,p+4,_,_,_,_,_,_,_,_,_,rfl,rfl,rfl,by first | rfl | (congr 1;omega),rfl,by omega,hkq,hd3.out,rfl,.inl ⟨rfl,hb34⟩⟩)
       ·have hkq:=kL hC.out hQ.out hpq 5 (by omega) (fun m hm=>by rcases (by omega:m=0∨m=1∨m=2∨m=3∨m=4) with rfl | rfl | rfl | rfl | rfl <;> assumption)
        have hb34:bt s ((p+5:Nat):Int)=34:=by rw [hC.out.byte 5 (by omega)];exact beq_iff_eq.mp (by assumption)
        go_step3
        simp only [Exit.then,Exit.inBlock]
        refine (show ∃ n',n' < n∧SqK s i0 d1 (i1+1) q w n' 1 _ _ from ⟨2*(s.size - (p+5))+0,by omega,p+5,_,_,_,_,_,_,_,_,_,rfl,rfl,rfl,by first | rfl | (congr 1;omega),rfl,by omega,hkq,hd3.out,rfl,.inl ⟨rfl,hb34⟩⟩)
       ·have hkq:=kL hC.out hQ.out hpq 6 (by omega) (fun m hm=>by rcases (by omega:m=0∨m=1∨m=2∨m=3∨m=4∨m=5) with rfl | rfl | rfl | rfl | rfl | rfl <;> assumption)
        have hb34:bt s ((p+6:Nat):Int)=34:=by rw [hC.out.byte 6 (by omega)];exact beq_iff_eq.mp (by assumption)
        go_step3
        simp only [Exit.then,Exit.inBlock]
        refine (show ∃ n',n' < n∧SqK s i0 d1 (i1+1) q w n' 1 _ _ from ⟨2*(s.size - (p+6))+0,by omega,p+6,_,_,_,_,_,_,_,_,_,rfl,rfl,rfl,by first | rfl | (congr 1;omega),rfl,by omega,hkq,hd3.out,rfl,.inl ⟨rfl,hb34⟩⟩)
       ·have hkq:=kL hC.out hQ.out hpq 7 (by omega) (fun m hm=>by rcases (by omega:m=0∨m=1∨m=2∨m=3∨m=4∨m=5∨m=6) with rfl | rfl | rfl | rfl | rfl | rfl | rfl <;> assumption)
        have hb34:bt s ((p+7:Nat):Int)=34:=by rw [hC.out.byte 7 (by omega)];exact beq_iff_eq.mp (by assumption)
        go_step3
        simp only [Exit.then,Exit.inBlock]
        refine (show ∃ n',n' < n∧SqK s i0 d1 (i1+1) q w n' 1 _ _ from ⟨2*(s.size - (p+7))+0,by omega,p+7,_,_,_,_,_,_,_,_,_,rfl,rfl,rfl,by first | rfl | (congr 1;omega),rfl,by omega,hkq,hd3.out,rfl,.inl ⟨rfl,hb34⟩⟩)
       ·have hkq:=kL hC.out hQ.out hpq 8 (by omega) (fun m hm=>by rcases (by omega:m=0∨m=1∨m=2∨m=3∨m=4∨m=5∨m=6∨m=7) with rfl | rfl | rfl | rfl | rfl | rfl | rfl | rfl <;> assumption)
        go_roundg (s.size - (p+8))
        case measure=>have:=hkp.out;omega
        case rel=>exact ⟨p+8,by first | rfl | (congr 1;omega),⟨⟨rfl,by omega,hkq,hd3.out⟩⟩⟩
      ·have h8':¬ ((p:Int) < (s.size:Int) - 8):=by omega
       go_wp2
       go_step3
       simp only [Exit.then,Exit.inBlock]
       refine (show ∃ n',n' < n∧SqK s i0 d1 (i1+1) q w n' 3 _ _ from ⟨2*(s.size - p)+0,by omega,p,_,_,_,_,_,_,_,_,_,rfl,rfl,rfl,rfl,rfl,by omega,hpq,hd3.out,rfl,.inr (.inr rfl)⟩)
    case first2 =>
     intro hr
     replace hr:=ae.mk hr
     go_wp2
     go_step3
     simp only [Exit.then,Exit.inBlock]
     apply_assumption
     refine hr.out (2*(s.size - (i1+1))+1) _ _ ?_
     exact ⟨i1+1,_,_,_,_,_,_,_,_,_,rfl,rfl,rfl,by first | rfl | (congr 1;omega),by first | rfl | (congr 1;omega),Nat.le_refl _,hQ.out.le,hd1,rfl,.inr (.inl rfl)⟩
    case pass2 =>
     rintro n l f W2 hl2 ⟨j,vj,va,u4x,u5x,u9x,u11x,u12x,u13x,t,rfl,ht,htd,rfl,rfl,haj,hjq,hd2,hn,hl⟩
     obtain ⟨v,rfl⟩:∃ v:Nat→Value,t=[v 0,v 1,v 2,v 3,v 4,v 5,v 6,v 7,v 8,v 9,v 10,v 11,v 12,v 13,v 14,v 15,v 16,v 17,v 18,v 19,v 20,v 21,v 22,v 23,v 24,v 25,v 26,v 27,v 28,v 29,v 30,v 31,v 32,v 33,v 34,v 35,v 36,v 37,v 38,v 39,v 40,v 41,v 42,v 43,v 44,v 45,v 46,v 47,v 48,v 49,v 50,v 51,v 52,v 53,v 54,v 55,v 56,v 57,v 58,v 59,v 60,v 61,v 62,v 63,v 64,v 65,v 66,v 67,v 68,v 69,v 70,v 71,v 72,v 73,v 74,v 75,v 76,v 77,v 78,v 79,v 80,v 81,v 82,v 83,v 84,v 85,v 86,v 87,v 88,v 89,v 90,v 91,v 92,v 93,v 94,v 95,v 96,v 97,v 98,v 99,v 100,v 101,v 102,v 103,v 104,v 105,v 106,v 107,v 108,v 109,v 110,v 111,v 112,v 113,v 114,v 115,v 116,v 117,v 118,v 119,v 120,v 121,v 122,v 123,v 124,v 125,v 126,v 127,v 128,v 129,v 130,v 131,v 132,v 133,v 134,v 135,v 136,v 137,v 138,v 139,v 140,v 141,v 142,v 143,v 144,v 145,v 146,v 147,v 148,v 149,v 150,v 151,v 152,v 153,v 154,v 155,v 156,v 157,v 158,v 159,v 160,v 161,v 162,v 163,v 164,v 165,v 166,v 167,v 168,v 169,v 170,v 171,v 172,v 173,v 174,v 175,v 176,v 177,v 178,v 179,v 180,v 181,v 182,v 183,v 184,v 185,v 186,v 187,v 188,v 189,v 190,v 191,v 192,v 193,v 194,v 195,v 196,v 197,v 198,v 199,v 200,v 201,v 202,v 203,v 204,v 205,v 206,v 207,v 208,v 209,v 210,v 211,v 212]:=⟨fun i=>t.getD i undef,zn t ht⟩
     clear ht
     obtain ⟨y0,y1,y2,y3⟩:=ww (show [v 209,v 210,v 211,v 212]=[undef,undef,undef,undef] from htd)
     clear htd
     rw [y0,y1,y2,y3]
     clear y0 y1 y2 y3
     replace hd2:=ae.mk hd2
     rcases hl with ⟨rfl,h34⟩ | rfl | rfl
     ·have hn2:n=2*(s.size - j):=hn
      clear hn
      subst hn2
      refine ⟨_,rfl,?_⟩
      obtain ⟨j',rfl⟩:∃ j',j=j'+1:=⟨j - 1,by omega⟩
      have hj's:j' < s.size:=by omega
      obtain ⟨c,hc⟩:∃ c:Nat,bt s j'=c:=⟨(bt s j').toNat,by have:=eG s j';omega⟩
      have ac:∀ h:j' < s.size,(s[j']'h).toNat=c:=fun h=>by
       have:=cZ s j' (by simpa using h)
       simp only [Int.toNat_natCast] at this
       omega
      have p0:(0≤(j':Int))=True:=eq_true (by omega)
      have p1:((j':Int) < (s.size:Int))=True:=eq_true (by omega)
      by_cases h92:c=92
      ·have e92:((c:Int) != 92)=false:=by rw [h92];rfl
       replace h92:=ae.mk h92
       replace hc:=ae.mk hc
       replace h34:=ae.mk h34
       go_wp2
       go_step3
       simp only [Exit.then,Exit.inBlock]
       apply_assumption
       go_wp2
       go_loopg [1,12,13] (s.size - (j'+1)) (fun kq v1 v12 v13 w'=>∃ p:Nat,v1 = .int .i64 p∧ae (Dp s q (j'+1) w kq p w'))
       case atStart=>exact ⟨j'+1,by first | rfl | (congr 1;omega),⟨⟨rfl,Nat.le_refl _,hjq,hd2.out⟩⟩⟩
       case round =>
        clear hd2
        obtain ⟨p,rfl,hL⟩:=hrel
        obtain ⟨hkp,hjp,hpq,hd3⟩:=hL.out
        clear hL
        replace hkp:=ae.mk hkp
        have hd4:=hd3
        replace hd3:=ae.mk hd3
        have hps:p < s.size:=by omega
        obtain ⟨b,hb⟩:∃ b:Nat,bt s p=b:=⟨(bt s p).toNat,by have:=eG s p;omega⟩
        have ab:∀ h:p < s.size,(s[p]'h).toNat=b:=fun h=>by
         have:=cZ s p (by simpa using h)
         simp only [Int.toNat_natCast] at this
         omega
        have r0:(0≤(p:Int))=True:=eq_true (by omega)
        have r1:((p:Int) < (s.size:Int))=True:=eq_true (by omega)
        by_cases hb34:b=34
        ·subst hb34
         obtain ⟨p',rfl⟩:∃ p',p=p'+1:=⟨p - 1,by omega⟩
         have hp's:p' < s.size:=by omega
         obtain ⟨b2,hb2⟩:∃ b2:Nat,bt s p'=b2:=⟨(bt s p').toNat,by have:=eG s p';omega⟩
         have ab2:∀ h:p' < s.size,(s[p']'h).toNat=b2:=fun h=>by
          have:=cZ s p' (by simpa using h)
          simp only [Int.toNat_natCast] at this
          omega
         have r2:(0≤(p':Int))=True:=eq_true (by omega)
         have r3:((p':Int) < (s.size:Int))=True:=eq_true (by omega)
         by_cases h92:b2=92
         ·subst h92
          have hap:i1+1≤p':=by
           rcases Nat.lt_or_ge p' (i1+1) with hl | hl
           ·have hpe:p'=i1:=by omega
            have:=hQ.out.open_
            rw [Nat.add_sub_cancel,← hpe,hb2] at this
            exact absurd this (by decide)
           ·exact hl
          have hs92:slashes s (i1+1) (p'+1)=slashes s (i1+1) p'+1:=by
           rw [slashes,if_pos ⟨hap,hb2⟩]
          replace hb:=ae.mk hb
          replace hb2:=ae.mk hb2
          replace hs92:=ae.mk hs92
          go_wp2
          go_loopg [12,13] (p' - 1) (fun kq v12 v13 w'=>∃ r y:Nat,v12 = .int .i64 r∧v13 = .int .i64 y∧ae (Cnt s (i1+1) p' w kq r y w'))
          case atStart=>exact ⟨0,p' - 1,rfl,by first | rfl | (congr 1;omega),⟨⟨rfl,by omega,by omega,by rw [show p' - 1+1=p' by omega];rfl,by repeat (first | exact hd4 | apply aj.step)⟩⟩⟩
          case round =>
           clear hd3 hd4
           obtain ⟨r,y,rfl,rfl,hL⟩:=hrel
           obtain ⟨hky,hry,hiy,hcnt,hd5⟩:=hL.out
           clear hL
           have hd6:=hd5
           replace hd5:=ae.mk hd5
           replace hcnt:=ae.mk hcnt
           replace hky:=ae.mk hky
           have hys:y < s.size:=by omega
           have s0:(0≤(y:Int))=True:=eq_true (by omega)
           have s1:((y:Int) < (s.size:Int))=True:=eq_true (by omega)
           by_cases hiy2:i1 < y
           ·have hiy3:(i1:Int) < (y:Int):=by omega
            obtain ⟨b3,hb3⟩:∃ b3:Nat,bt s y=b3:=⟨(bt s y).toNat,by have:=eG s y;omega⟩
            have ab3:∀ h:y < s.size,(s[y]'h).toNat=b3:=fun h=>by
             have:=cZ s y (by simpa using h)
             simp only [Int.toNat_natCast] at this
             omega
            by_cases h92b:b3=92
            ·have e92b:((b3:Int) != 92)=false:=by rw [h92b];rfl
             have hcn2:slashes s (i1+1) y+(r+1)=slashes s (i1+1) p':=by
              have h:=hcnt.out
              rw [slashes,if_pos ⟨by omega,by rw [hb3,h92b];rfl⟩] at h
              omega
             replace hb3:=ae.mk hb3
             replace hcn2:=ae.mk hcn2
             go_wp2
             go_roundg (y - 1)
             case measure=>have:=hky.out;omega
             case rel=>exact ⟨r+1,y - 1,by first | rfl | (congr 1;omega),by first | rfl | (congr 1;omega),⟨⟨rfl,by omega,by omega,by rw [show y - 1+1=y by omega];exact hcn2.out,hd6⟩⟩⟩
            ·have e92b:((b3:Int) != 92)=true:=bne_iff_ne.mpr (by omega)
             have hcn2:r=slashes s (i1+1) p':=by
              have h:=hcnt.out
              rw [slashes,if_neg (fun hh=>h92b (by have:=hh.2;omega))] at h
              omega
             replace hb3:=ae.mk hb3
             replace hcn2:=ae.mk hcn2
             go_wp2
             ·have hpar:r % 2=0:=by
               have:=beq_iff_eq.mp (by assumption:((r:Int) % 2 == 0)=true)
               omega
              have hodd:slashes s (i1+1) (p'+1) % 2=1:=by rw [hs92.out,← hcn2.out];omega
              have hlt2:p'+2≤q:=by
               rcases Nat.lt_or_ge (p'+1) q with hl | hl
               ·omega
               ·have hpe:p'+1=q:=by omega
                have:=hQ.out.even
                rw [← hpe] at this
                omega
              go_step3
              simp only [Exit.then,Exit.inBlock]
              refine (show ∃ n',n' < 2*(s.size - (j'+1))∧SqK s i0 d1 (i1+1) q w n' 2 _ _ from ⟨2*(s.size - (p'+2))+1,by omega,p'+2,_,_,_,_,_,_,_,_,_,rfl,rfl,rfl,by first | rfl | (congr 1;omega),by first | rfl | (congr 1;omega),by omega,hlt2,by repeat (first | exact hd6 | apply aj.step),rfl,.inr (.inl rfl)⟩)
             ·have hpar:r % 2=1:=by
               have:=beq_eq_false_iff_ne.mp (by assumption:((r:Int) % 2 == 0)=false)
               omega
              have hq':p'+1=q:=hQ.out.same (by omega) hpq hb.out (by rw [hs92.out,← hcn2.out];omega)
              subst hq'
              rw [eU]
              simp only [Exit.then]
              apply_assumption
              go_wp2
              rw [eU]
              simp only [Exit.then,Exit.inBlock]
              apply_assumption
              go_roundg (s.size - (p'+1+1))
              case measure=>have:=hk.out;omega
              case rel=>exact ⟨p'+1+1,d1,by first | rfl | (congr 1;omega),by first | rfl | (congr 1;omega),⟨⟨by omega,hq2.out,rfl,by repeat (first | exact hd6 | apply aj.step)⟩⟩⟩
           ·have hiy3:¬ (i1:Int) < (y:Int):=by omega
            have hcn2:r=slashes s (i1+1) p':=by
             have h:=hcnt.out
             rw [kw s (i1+1) (y+1) (by omega)] at h
             omega
            replace hcn2:=ae.mk hcn2
            go_wp2
            ·have hpar:r % 2=0:=by
              have:=beq_iff_eq.mp (by assumption:((r:Int) % 2 == 0)=true)
              omega
             have hodd:slashes s (i1+1) (p'+1) % 2=1:=by rw [hs92.out,← hcn2.out];omega
             have hlt2:p'+2≤q:=by
              rcases Nat.lt_or_ge (p'+1) q with hl | hl
              ·omega
              ·have hpe:p'+1=q:=by omega
               have:=hQ.out.even
               rw [← hpe] at this
               omega
             go_step3
             simp only [Exit.then,Exit.inBlock]
             refine (show ∃ n',n' < 2*(s.size - (j'+1))∧SqK s i0 d1 (i1+1) q w n' 2 _ _ from ⟨2*(s.size - (p'+2))+1,by omega,p'+2,_,_,_,_,_,_,_,_,_,rfl,rfl,rfl,by first | rfl | (congr 1;omega),by first | rfl | (congr 1;omega),by omega,hlt2,by repeat (first | exact hd6 | apply aj.step),rfl,.inr (.inl rfl)⟩)
            ·have hpar:r % 2=1:=by
              have:=beq_eq_false_iff_ne.mp (by assumption:((r:Int) % 2 == 0)=false)
              omega
             have hq':p'+1=q:=hQ.out.same (by omega) hpq hb.out (by rw [hs92.out,← hcn2.out];omega)
             subst hq'
             rw [eU]
             simp only [Exit.then]
             apply_assumption
             go_wp2
             rw [eU]
             simp only [Exit.then,Exit.inBlock]
             apply_assumption
             go_roundg (s.size - (p'+1+1))
             case measure=>have:=hk.out;omega
             case rel=>exact ⟨p'+1+1,d1,by first | rfl | (congr 1;omega),by first | rfl | (congr 1;omega),⟨⟨by omega,hq2.out,rfl,by repeat (first | exact hd6 | apply aj.step)⟩⟩⟩
         ·have e92:((b2:Int) == 92)=false:=beq_eq_false_iff_ne.mpr (by omega)
          have hq':p'+1=q:=hQ.out.same (by omega) hpq hb (by
           rw [slashes,if_neg (fun hh=>h92 (by have:=hh.2;omega))])
          replace hb:=ae.mk hb
          replace hb2:=ae.mk hb2
          subst hq'
          go_wp2
          rw [eU]
          simp only [Exit.then]
          apply_assumption
          go_wp2
          rw [eU]
          simp only [Exit.then,Exit.inBlock]
          apply_assumption
          go_roundg (s.size - (p'+1+1))
          case measure=>have:=hk.out;omega
          case rel=>exact ⟨p'+1+1,d1,by first | rfl | (congr 1;omega),by first | rfl | (congr 1;omega),⟨⟨by omega,hq2.out,rfl,by repeat (first | exact hd4 | apply aj.step)⟩⟩⟩
        ·have e34:((b:Int) != 34)=true:=bne_iff_ne.mpr (by omega)
         have hltq:p+1≤q:=by
          rcases Nat.lt_or_ge p q with hlt | hge
          ·exact hlt
          ·have hpe:p=q:=by omega
           have:=hQ.out.mark
           rw [← hpe,hb] at this
           omega
         replace hb:=ae.mk hb
         by_cases h93:92 < b
         ·have e93:decide ((92:Int) < (b:Int))=true:=decide_eq_true (by omega)
          go_wp2
          go_roundg (s.size - (p+1))
          case measure=>have:=hkp.out;omega
          case rel=>exact ⟨p+1,by first | rfl | (congr 1;omega),⟨⟨rfl,by omega,hltq,by repeat (first | exact hd4 | apply aj.step)⟩⟩⟩
         ·have e93:decide ((92:Int) < (b:Int))=false:=decide_eq_false (by omega)
          go_wp2
          go_roundg (s.size - (p+1))
          case measure=>have:=hkp.out;omega
          case rel=>exact ⟨p+1,by first | rfl | (congr 1;omega),⟨⟨rfl,by omega,hltq,by repeat (first | exact hd4 | apply aj.step)⟩⟩⟩
      ·have e92:((c:Int) != 92)=true:=bne_iff_ne.mpr (by omega)
       have hq':j'+1=q:=hQ.out.same haj hjq h34 (by
        rw [slashes,if_neg (fun hh=>h92 (by have:=hh.2;omega))])
       replace hc:=ae.mk hc
       replace h34:=ae.mk h34
       subst hq'
       go_wp2
       rw [mZ]
       simp only [Exit.then]
       rw [mZ]
       simp only [Exit.then,Exit.inBlock,if_true]
       apply_assumption
       go_roundg (s.size - (j'+1+1))
       case measure=>have:=hk.out;omega
       case rel=>exact ⟨j'+1+1,d1,by first | rfl | (congr 1;omega),by first | rfl | (congr 1;omega),⟨⟨by omega,hq2.out,rfl,hd2.out⟩⟩⟩
     ·exact absurd rfl hl2
     ·have hn2:n=2*(s.size - j):=hn
      clear hn
      subst hn2
      refine ⟨_,rfl,?_⟩
      go_wp2
      go_loopg [1,12,13] (s.size - (j)) (fun kq v1 v12 v13 w'=>∃ p:Nat,v1 = .int .i64 p∧ae (Dp s q (j) w kq p w'))
      case atStart=>exact ⟨j,by first | rfl | (congr 1;omega),⟨⟨rfl,Nat.le_refl _,hjq,hd2.out⟩⟩⟩
      case round =>
       clear hd2
       obtain ⟨p,rfl,hL⟩:=hrel
       obtain ⟨hkp,hjp,hpq,hd3⟩:=hL.out
       clear hL
       replace hkp:=ae.mk hkp
       have hd4:=hd3
       replace hd3:=ae.mk hd3
       have hps:p < s.size:=by omega
       obtain ⟨b,hb⟩:∃ b:Nat,bt s p=b:=⟨(bt s p).toNat,by have:=eG s p;omega⟩
       have ab:∀ h:p < s.size,(s[p]'h).toNat=b:=fun h=>by
        have:=cZ s p (by simpa using h)
        simp only [Int.toNat_natCast] at this
        omega
       have r0:(0≤(p:Int))=True:=eq_true (by omega)
       have r1:((p:Int) < (s.size:Int))=True:=eq_true (by omega)
       by_cases hb34:b=34
       ·subst hb34
        obtain ⟨p',rfl⟩:∃ p',p=p'+1:=⟨p - 1,by omega⟩
        have hp's:p' < s.size:=by omega
        obtain ⟨b2,hb2⟩:∃ b2:Nat,bt s p'=b2:=⟨(bt s p').toNat,by have:=eG s p';omega⟩
        have ab2:∀ h:p' < s.size,(s[p']'h).toNat=b2:=fun h=>by
         have:=cZ s p' (by simpa using h)
         simp only [Int.toNat_natCast] at this
         omega
        have r2:(0≤(p':Int))=True:=eq_true (by omega)
        have r3:((p':Int) < (s.size:Int))=True:=eq_true (by omega)
        by_cases h92:b2=92
        ·subst h92
         have hap:i1+1≤p':=by
          rcases Nat.lt_or_ge p' (i1+1) with hl | hl
          ·have hpe:p'=i1:=by omega
           have:=hQ.out.open_
           rw [Nat.add_sub_cancel,← hpe,hb2] at this
           exact absurd this (by decide)
          ·exact hl
         have hs92:slashes s (i1+1) (p'+1)=slashes s (i1+1) p'+1:=by
          rw [slashes,if_pos ⟨hap,hb2⟩]
         replace hb:=ae.mk hb
         replace hb2:=ae.mk hb2
         replace hs92:=ae.mk hs92
         go_wp2
         go_loopg [12,13] (p' - 1) (fun kq v12 v13 w'=>∃ r y:Nat,v12 = .int .i64 r∧v13 = .int .i64 y∧ae (Cnt s (i1+1) p' w kq r y w'))
         case atStart=>exact ⟨0,p' - 1,rfl,by first | rfl | (congr 1;omega),⟨⟨rfl,by omega,by omega,by rw [show p' - 1+1=p' by omega];rfl,by repeat (first | exact hd4 | apply aj.step)⟩⟩⟩
         case round =>
          clear hd3 hd4
          obtain ⟨r,y,rfl,rfl,hL⟩:=hrel
          obtain ⟨hky,hry,hiy,hcnt,hd5⟩:=hL.out
          clear hL
          have hd6:=hd5
          replace hd5:=ae.mk hd5
          replace hcnt:=ae.mk hcnt
          replace hky:=ae.mk hky
          have hys:y < s.size:=by omega
          have s0:(0≤(y:Int))=True:=eq_true (by omega)
          have s1:((y:Int) < (s.size:Int))=True:=eq_true (by omega)
          by_cases hiy2:i1 < y
          ·have hiy3:(i1:Int) < (y:Int):=by omega
           obtain ⟨b3,hb3⟩:∃ b3:Nat,bt s y=b3:=⟨(bt s y).toNat,by have:=eG s y;omega⟩
           have ab3:∀ h:y < s.size,(s[y]'h).toNat=b3:=fun h=>by
            have:=cZ s y (by simpa using h)
            simp only [Int.toNat_natCast] at this
            omega
           by_cases h92b:b3=92
           ·have e92b:((b3:Int) != 92)=false:=by rw [h92b];rfl
            have hcn2:slashes s (i1+1) y+(r+1)=slashes s (i1+1) p':=by
             have h:=hcnt.out
             rw [slashes,if_pos ⟨by omega,by rw [hb3,h92b];rfl⟩] at h
             omega
            replace hb3:=ae.mk hb3
            replace hcn2:=ae.mk hcn2
            go_wp2
            go_roundg (y - 1)
            case measure=>have:=hky.out;omega
            case rel=>exact ⟨r+1,y - 1,by first | rfl | (congr 1;omega),by first | rfl | (congr 1;omega),⟨⟨rfl,by omega,by omega,by rw [show y - 1+1=y by omega];exact hcn2.out,hd6⟩⟩⟩
           ·have e92b:((b3:Int) != 92)=true:=bne_iff_ne.mpr (by omega)
            have hcn2:r=slashes s (i1+1) p':=by
             have h:=hcnt.out
             rw [slashes,if_neg (fun hh=>h92b (by have:=hh.2;omega))] at h
             omega
            replace hb3:=ae.mk hb3
            replace hcn2:=ae.mk hcn2
            go_wp2
            ·have hpar:r % 2=0:=by
              have:=beq_iff_eq.mp (by assumption:((r:Int) % 2 == 0)=true)
              omega
             have hodd:slashes s (i1+1) (p'+1) % 2=1:=by rw [hs92.out,← hcn2.out];omega
             have hlt2:p'+2≤q:=by
              rcases Nat.lt_or_ge (p'+1) q with hl | hl
              ·omega
              ·have hpe:p'+1=q:=by omega
               have:=hQ.out.even
               rw [← hpe] at this
               omega
             go_step3
             simp only [Exit.then,Exit.inBlock]
             refine (show ∃ n',n' < 2*(s.size - (j))∧SqK s i0 d1 (i1+1) q w n' 2 _ _ from ⟨2*(s.size - (p'+2))+1,by omega,p'+2,_,_,_,_,_,_,_,_,_,rfl,rfl,rfl,by first | rfl | (congr 1;omega),by first | rfl | (congr 1;omega),by omega,hlt2,by repeat (first | exact hd6 | apply aj.step),rfl,.inr (.inl rfl)⟩)
            ·have hpar:r % 2=1:=by
              have:=beq_eq_false_iff_ne.mp (by assumption:((r:Int) % 2 == 0)=false)
              omega
             have hq':p'+1=q:=hQ.out.same (by omega) hpq hb.out (by rw [hs92.out,← hcn2.out];omega)
             subst hq'
             rw [eU]
             simp only [Exit.then]
             apply_assumption
             go_wp2
             rw [eU]
             simp only [Exit.then,Exit.inBlock]
             apply_assumption
             go_roundg (s.size - (p'+1+1))
             case measure=>have:=hk.out;omega
             case rel=>exact ⟨p'+1+1,d1,by first | rfl | (congr 1;omega),by first | rfl | (congr 1;omega),⟨⟨by omega,hq2.out,rfl,by repeat (first | exact hd6 | apply aj.step)⟩⟩⟩
          ·have hiy3:¬ (i1:Int) < (y:Int):=by omega
           have hcn2:r=slashes s (i1+1) p':=by
            have h:=hcnt.out
            rw [kw s (i1+1) (y+1) (by omega)] at h
            omega
           replace hcn2:=ae.mk hcn2
           go_wp2
           ·have hpar:r % 2=0:=by
             have:=beq_iff_eq.mp (by assumption:((r:Int) % 2 == 0)=true)
             omega
            have hodd:slashes s (i1+1) (p'+1) % 2=1:=by rw [hs92.out,← hcn2.out];omega
            have hlt2:p'+2≤q:=by
             rcases Nat.lt_or_ge (p'+1) q with hl | hl
             ·omega
             ·have hpe:p'+1=q:=by omega
              have:=hQ.out.even
              rw [← hpe] at this
              omega
            go_step3
            simp only [Exit.then,Exit.inBlock]
            refine (show ∃ n',n' < 2*(s.size - (j))∧SqK s i0 d1 (i1+1) q w n' 2 _ _ from ⟨2*(s.size - (p'+2))+1,by omega,p'+2,_,_,_,_,_,_,_,_,_,rfl,rfl,rfl,by first | rfl | (congr 1;omega),by first | rfl | (congr 1;omega),by omega,hlt2,by repeat (first | exact hd6 | apply aj.step),rfl,.inr (.inl rfl)⟩)
           ·have hpar:r % 2=1:=by
             have:=beq_eq_false_iff_ne.mp (by assumption:((r:Int) % 2 == 0)=false)
             omega
            have hq':p'+1=q:=hQ.out.same (by omega) hpq hb.out (by rw [hs92.out,← hcn2.out];omega)
            subst hq'
            rw [eU]
            simp only [Exit.then]
            apply_assumption
            go_wp2
            rw [eU]
            simp only [Exit.then,Exit.inBlock]
            apply_assumption
            go_roundg (s.size - (p'+1+1))
            case measure=>have:=hk.out;omega
            case rel=>exact ⟨p'+1+1,d1,by first | rfl | (congr 1;omega),by first | rfl | (congr 1;omega),⟨⟨by omega,hq2.out,rfl,by repeat (first | exact hd6 | apply aj.step)⟩⟩⟩
        ·have e92:((b2:Int) == 92)=false:=beq_eq_false_iff_ne.mpr (by omega)
         have hq':p'+1=q:=hQ.out.same (by omega) hpq hb (by
          rw [slashes,if_neg (fun hh=>h92 (by have:=hh.2;omega))])
         replace hb:=ae.mk hb
         replace hb2:=ae.mk hb2
         subst hq'
         go_wp2
         rw [eU]
         simp only [Exit.then]
         apply_assumption
         go_wp2
         rw [eU]
         simp only [Exit.then,Exit.inBlock]
         apply_assumption
         go_roundg (s.size - (p'+1+1))
         case measure=>have:=hk.out;omega
         case rel=>exact ⟨p'+1+1,d1,by first | rfl | (congr 1;omega),by first | rfl | (congr 1;omega),⟨⟨by omega,hq2.out,rfl,by repeat (first | exact hd4 | apply aj.step)⟩⟩⟩
       ·have e34:((b:Int) != 34)=true:=bne_iff_ne.mpr (by omega)
        have hltq:p+1≤q:=by
         rcases Nat.lt_or_ge p q with hlt | hge
         ·exact hlt
         ·have hpe:p=q:=by omega
          have:=hQ.out.mark
          rw [← hpe,hb] at this
          omega
        replace hb:=ae.mk hb
        by_cases h93:92 < b
        ·have e93:decide ((92:Int) < (b:Int))=true:=decide_eq_true (by omega)
         go_wp2
         go_roundg (s.size - (p+1))
         case measure=>have:=hkp.out;omega
         case rel=>exact ⟨p+1,by first | rfl | (congr 1;omega),⟨⟨rfl,by omega,hltq,by repeat (first | exact hd4 | apply aj.step)⟩⟩⟩
        ·have e93:decide ((92:Int) < (b:Int))=false:=decide_eq_false (by omega)
         go_wp2
         go_roundg (s.size - (p+1))
         case measure=>have:=hkp.out;omega
         case rel=>exact ⟨p+1,by first | rfl | (congr 1;omega),⟨⟨rfl,by omega,hltq,by repeat (first | exact hd4 | apply aj.step)⟩⟩⟩
   ·have hc13:c1=1∨c1=3:=by unfold vch at hcv;split at hcv <;> (try split at hcv) <;> (try split at hcv) <;> omega
    have c2b:(c1 == 2)=false:=beq_eq_false_iff_ne.mpr c2
    rcases hc13 with rfl | rfl
    ·by_cases hd2:d1=1
     ·subst hd2
      have he:e=i1+1:=EM hq1 hcv.symm
      subst he
      replace hq1:=ae.mk hq1
      replace hcv:=ae.mk hcv
      have hsl:∀ wx:World,(Instr.slice 9 (.string s) (some (.int .i64 (i0:Int))) (some (.int .i64 ((i1:Int)+1))) none).run Tryz.prog wx = .ok (.string (s.extract i0 (i1+1))) wx:=fun wx=>by
       have h:=run_slice_string (P:=Tryz.prog) wx 9 s .i64 .i64 (i0:Int) ((i1:Int)+1) Tryz.underlying9 (by omega) (by omega) (by omega)
       rwa [Int.toNat_natCast,show ((i1:Int)+1).toNat=i1+1 by omega] at h
      go_wp2
      go_quiet (fail)
      try go_wp2
      all_goals rw [oh]
      all_goals go_ret2
      all_goals exact ⟨by first | rfl | (congr 1),by repeat (first | exact hd1 | apply aj.step)⟩
     ·have hq2:=Eo hq1 hcv.symm hd2
      replace hq1:=ae.mk hq1
      replace hcv:=ae.mk hcv
      have e1:((d1:Int)+-1 == 0)=false:=beq_eq_false_iff_ne.mpr (by omega)
      go_wp2
      rw [eU]
      simp only [Exit.then,Exit.inBlock]
      apply_assumption
      go_roundg (s.size - (i1+1))
      case measure=>have:=hk.out;omega
      case rel=>exact ⟨i1+1,d1 - 1,by first | rfl | (congr 1;omega),by first | rfl | (congr 1;omega),⟨⟨by omega,hq2,rfl,hd1⟩⟩⟩
    ·have hq2:=EH hq1 hcv.symm
     replace hq1:=ae.mk hq1
     replace hcv:=ae.mk hcv
     have e1:((d1:Int)+1 == 0)=false:=beq_eq_false_iff_ne.mpr (by omega)
     go_wp2
     rw [eU]
     simp only [Exit.then,Exit.inBlock]
     apply_assumption
     go_roundg (s.size - (i1+1))
     case measure=>have:=hk.out;omega
     case rel=>exact ⟨i1+1,d1+1,by first | rfl | (congr 1;omega),by first | rfl | (congr 1;omega),⟨⟨by omega,hq2,rfl,hd1⟩⟩⟩
  case first =>
   intro hr
   replace hr:=ae.mk hr
   go_wp2
   go_loopg [1,8,9] (s.size - i) (fun kq v1 v8 v9 w'=>∃ j:Nat,v1 = .int .i64 j∧ae (SqL s i0 e w kq j d w'∧i≤j))
   case atStart=>exact ⟨i,rfl,⟨⟨⟨hlo,hq.out,rfl,hd.out⟩,Nat.le_refl _⟩⟩⟩
   case round =>
    have hkO:=hk
    clear hq hk hd
    obtain ⟨j,rfl,hL⟩:=hrel
    obtain ⟨⟨hlo,hq,hk,hd⟩,hij⟩:=hL.out
    clear hL
    have hb:=hq.bound
    replace hq:=ae.mk hq
    replace hk:=ae.mk hk
    have hiO:=hi
    have hi:j < s.size:=hb.1
    have hT1:=(hT'.out.below (B:=B) (eX hd.below hT'.out.size)).vch
    replace hd:=ae.mk hd
    clear hb
    by_cases h8:j+8 < s.size
    ·obtain ⟨x,c,hx,hC⟩:=Iq s j (by omega)
     have hsl:∀ wx:World,(Instr.slice 9 (.string s) (some (.int .i64 (j:Int))) (some (.int .i64 ((j:Int)+8))) none).run Tryz.prog wx = .ok (.string x) wx:=fun wx=>by
      have h:=run_slice_string (P:=Tryz.prog) wx 9 s .i64 .i64 (j:Int) ((j:Int)+8) Tryz.underlying9 (by omega) (by omega) (by omega)
      rwa [Int.toNat_natCast,show ((j:Int)+8).toNat=j+8 by omega,← hx] at h
     have z:=hC.size
     have a0:=hC.at_ 0
     have a1:=hC.at_ 1
     have a2:=hC.at_ 2
     have a3:=hC.at_ 3
     have a4:=hC.at_ 4
     have a5:=hC.at_ 5
     have a6:=hC.at_ 6
     have a7:=hC.at_ 7
     have t0:=hT1 (c 0) (hC.lt 0)
     have t1:=hT1 (c 1) (hC.lt 1)
     have t2:=hT1 (c 2) (hC.lt 2)
     have t3:=hT1 (c 3) (hC.lt 3)
     have t4:=hT1 (c 4) (hC.lt 4)
     have t5:=hT1 (c 5) (hC.lt 5)
     have t6:=hT1 (c 6) (hC.lt 6)
     have t7:=hT1 (c 7) (hC.lt 7)
     have l0:=hC.lt 0
     have l1:=hC.lt 1
     have l2:=hC.lt 2
     have l3:=hC.lt 3
     have l4:=hC.lt 4
     have l5:=hC.lt 5
     have l6:=hC.lt 6
     have l7:=hC.lt 7
     replace hC:=ae.mk hC
     replace hT1:=ae.mk hT1
     clear hx
     have h8':(j:Int) < (s.size:Int) - 8:=by omega
     go_wp2
     ·go_step3
      simp only [Exit.then,Exit.inBlock]
      refine (show (0:Nat)=0∧SqJ s i0 e w i _ _ from ⟨rfl,j+0,d,_,_,_,_,_,_,_,_,_,_,rfl,rfl,rfl,by first | rfl | (congr 1;omega),?_,?_,?_,hd.out,by omega⟩)
      ·rw [hC.out.byte 0 (by omega),← je]
      ·exact bne_iff_ne.mp (by assumption)
      ·exact lZ hC.out hq.out 0 (by omega) (fun m hm=>absurd hm (by omega))
     ·go_step3
      simp only [Exit.then,Exit.inBlock]
      refine (show (0:Nat)=0∧SqJ s i0 e w i _ _ from ⟨rfl,j+1,d,_,_,_,_,_,_,_,_,_,_,rfl,rfl,rfl,by first | rfl | (congr 1;omega),?_,?_,?_,hd.out,by omega⟩)
      ·rw [hC.out.byte 1 (by omega),← je]
      ·exact bne_iff_ne.mp (by assumption)
      ·exact lZ hC.out hq.out 1 (by omega) (fun m hm=>by rcases (by omega:m=0) with rfl <;> assumption)
     ·go_step3
      simp only [Exit.then,Exit.inBlock]
      refine (show (0:Nat)=0∧SqJ s i0 e w i _ _ from ⟨rfl,j+2,d,_,_,_,_,_,_,_,_,_,_,rfl,rfl,rfl,by first | rfl | (congr 1;omega),?_,?_,?_,hd.out,by omega⟩)
      ·rw [hC.out.byte 2 (by omega),← je]
      ·exact bne_iff_ne.mp (by assumption)
      ·exact lZ hC.out hq.out 2 (by omega) (fun m hm=>by rcases (by omega:m=0∨m=1) with rfl | rfl <;> assumption)
     ·go_step3
      simp only [Exit.then,Exit.inBlock]
      refine (show (0:Nat)=0∧SqJ s i0 e w i _ _ from ⟨rfl,j+3,d,_,_,_,_,_,_,_,_,_,_,rfl,rfl,rfl,by first | rfl | (congr 1;omega),?_,?_,?_,hd.out,by omega⟩)
      ·rw [hC.out.byte 3 (by omega),← je]
      ·exact bne_iff_ne.mp (by assumption)
      ·exact lZ hC.out hq.out 3 (by omega) (fun m hm=>by rcases (by omega:m=0∨m=1∨m=2) with rfl | rfl | rfl <;> assumption)
     ·go_step3
      simp only [Exit.then,Exit.inBlock]
      refine (show (0:Nat)=0∧SqJ s i0 e w i _ _ from ⟨rfl,j+4,d,_,_,_,_,_,_,_,_,_,_,rfl,rfl,rfl,by first | rfl | (congr 1;omega),?_,?_,?_,hd.out,by omega⟩)
      ·rw [hC.out.byte 4 (by omega),← je]
      ·exact bne_iff_ne.mp (by assumption)
      ·exact lZ hC.out hq.out 4 (by omega) (fun m hm=>by rcases (by omega:m=0∨m=1∨m=2∨m=3) with rfl | rfl | rfl | rfl <;> assumption)
     ·go_step3
      simp only [Exit.then,Exit.inBlock]
      refine (show (0:Nat)=0∧SqJ s i0 e w i _ _ from ⟨rfl,j+5,d,_,_,_,_,_,_,_,_,_,_,rfl,rfl,rfl,by first | rfl | (congr 1;omega),?_,?_,?_,hd.out,by omega⟩)
      ·rw [hC.out.byte 5 (by omega),← je]
      ·exact bne_iff_ne.mp (by assumption)
      ·exact lZ hC.out hq.out 5 (by omega) (fun m hm=>by rcases (by omega:m=0∨m=1∨m=2∨m=3∨m=4) with rfl | rfl | rfl | rfl | rfl <;> assumption)
     ·go_step3
      simp only [Exit.then,Exit.inBlock]
      refine (show (0:Nat)=0∧SqJ s i0 e w i _ _ from ⟨rfl,j+6,d,_,_,_,_,_,_,_,_,_,_,rfl,rfl,rfl,by first | rfl | (congr 1;omega),?_,?_,?_,hd.out,by omega⟩)
      ·rw [hC.out.byte 6 (by omega),← je]
      ·exact bne_iff_ne.mp (by assumption)
      ·exact lZ hC.out hq.out 6 (by omega) (fun m hm=>by rcases (by omega:m=0∨m=1∨m=2∨m=3∨m=4∨m=5) with rfl | rfl | rfl | rfl | rfl | rfl <;> assumption)
     ·go_step3
      simp only [Exit.then,Exit.inBlock]
      refine (show (0:Nat)=0∧SqJ s i0 e w i _ _ from ⟨rfl,j+7,d,_,_,_,_,_,_,_,_,_,_,rfl,rfl,rfl,by first | rfl | (congr 1;omega),?_,?_,?_,hd.out,by omega⟩)
      ·rw [hC.out.byte 7 (by omega),← je]
      ·exact bne_iff_ne.mp (by assumption)
      ·exact lZ hC.out hq.out 7 (by omega) (fun m hm=>by rcases (by omega:m=0∨m=1∨m=2∨m=3∨m=4∨m=5∨m=6) with rfl | rfl | rfl | rfl | rfl | rfl | rfl <;> assumption)
     ·have hq8:=lZ hC.out hq.out 8 (by omega) (fun m hm=>by rcases (by omega:m=0∨m=1∨m=2∨m=3∨m=4∨m=5∨m=6∨m=7) with rfl | rfl | rfl | rfl | rfl | rfl | rfl | rfl <;> assumption)
      go_roundg (s.size - (j+8))
      case measure=>have:=hk.out;omega
      case rel=>exact ⟨j+8,by first | rfl | (congr 1;omega),⟨⟨by omega,hq8,rfl,hd.out⟩,by omega⟩⟩
    ·obtain ⟨c,hc⟩:∃ c:Nat,bt s j=c:=⟨(bt s j).toNat,by have:=eG s j;omega⟩
     have hcl:c < 256:=by have:=eG s j;omega
     have a0:∀ h:j < s.size,(s[j]'h).toNat=c:=fun h=>by
      have:=cZ s j (by simpa using h)
      simp only [Int.toNat_natCast] at this
      omega
     have t0:=hT1 c hcl
     have h8':¬ ((j:Int) < (s.size:Int) - 8):=by omega
     have p0:(0≤(j:Int))=True:=eq_true (by omega)
     have p1:((j:Int) < (s.size:Int))=True:=eq_true (by omega)
     replace hc:=ae.mk hc
     replace hT1:=ae.mk hT1
     go_wp2
     ·rw [mZ]
      have hz:qh c=0:=by have:=beq_iff_eq.mp (by assumption:(((qh c:Nat):Int) == 0)=true);omega
      have hq1:Sq s (j+1) d e:=G8 hq.out (by rw [hc.out,← je,hz];rfl)
      simp only [Exit.then,Exit.inBlock,if_true]
      apply_assumption
      go_roundg (s.size - (j+1))
      case measure=>have:=hkO.out;omega
      case rel=>exact ⟨j+1,d,by first | rfl | (congr 1;omega),rfl,⟨⟨by omega,hq1,rfl,hd.out⟩⟩⟩
     ·go_step3
      simp only [Exit.then,Exit.inBlock]
      apply_assumption
      refine hr.out _ _ _ ?_
      refine ⟨j,d,_,_,_,_,_,_,_,_,_,_,rfl,rfl,rfl,rfl,?_,?_,hq.out,hd.out,hij⟩
      ·rw [hc.out,← je]
      ·have h:=(by assumption:(((qh c:Nat):Int) == 0)=false)
       exact beq_eq_false_iff_ne.mp h
end Go.Proofs.YtpgfjbimodnkeaaGreatDoor.Dec
