/- FnGjMap: whatever text comes in, the law returns true and the text reads afterwards as before; with the thirteen package-level variables that its row lists as the program's own text lays them (the tied card) (part 16 of 19: lemmas for its last part) -/
import Derived.WalkSpells
import Derived.IntWalk
import Derived.Test.YtpgfjbimodnkeaaGreatDoorMpd11
import Derived.Test.YtpgfjbimodnkeaaGreatDoorMpd12
import Derived.Test.YtpgfjbimodnkeaaGreatDoorMpd15
set_option maxHeartbeats 16000000
set_option maxRecDepth 100000
set_option linter.unusedVariables false
set_option linter.unusedSimpArgs false
namespace Go.Proofs.YtpgfjbimodnkeaaGreatDoor.Dec
open Go Go.RowKit Go.Proofs.YtpgfjbimodnkeaaGreatDoorW.PrintWords Go.Proofs.YtpgfjbimodnkeaaGreatDoorW.PrintLast Go.Proofs.YtpgfjbimodnkeaaGreatDoorW.PrintMore Go.Proofs.YtpgfjbimodnkeaaGreatDoor.Scan Go.Proofs.YtpgfjbimodnkeaaGreatDoor.Q
theorem Be {s:ByteArray} {i d e:Nat} (h:Sq s i d e):(vch (bt s i)=1∧d=1∧e=i+1)∨(vch (bt s i)=0∧Sq s (i+1) d e)∨(vch (bt s i)=3∧Sq s (i+1) (d+1) e)∨(vch (bt s i)=1∧2≤d∧Sq s (i+1) (d - 1) e)∨(vch (bt s i)=2∧∃ q,Quo s (i+1) q∧Sq s (q+1) d e):=by
 cases h with
 | last _ h0 h1=>exact .inl ⟨h1,rfl,rfl⟩
 | skip _ _ _ h0 h1 h2=>exact .inr (.inl ⟨h1,h2⟩)
 | opens _ _ _ h0 h1 h2 h3=>exact .inr (.inr (.inl ⟨h2,h3⟩))
 | close _ d _ h0 h1 h2=>exact .inr (.inr (.inr (.inl ⟨h1,by omega,h2⟩)))
 | str _ q _ _ h0 h1 h2 h3=>exact .inr (.inr (.inr (.inr ⟨h1,q,h2,h3⟩)))
theorem wU {c:Int} (h:vch c=1):c=125∨c=93∨c=41:=by unfold vch at h;omega
theorem yJ {c:Int} (h:vch c=3):c=123∨c=91∨c=40:=by unfold vch at h;omega
theorem BC {c:Int} (h:vch c=2):c=34:=by unfold vch at h;omega
theorem zt {c:Int} (h:vch c=0):c≠34∧c≠123∧c≠91∧c≠40∧c≠125∧c≠93∧c≠41:=by unfold vch at h;omega
theorem qE (w:World) (s:ByteArray) (hs:s.size≤65536) (e:Nat) (h0:0 < s.size) (hc0:bt s (0:Nat)=123∨bt s (0:Nat)=91) (hsq:Sq s 1 1 e) :
 Calls Tryz.prog 95 #[.string s] w fun r w'=>r = .returned (.string (s.extract 0 e))∧w'=w:=by
 have i0:((0:Int) < (s.size:Int))=True:=eq_true (by omega)
 have i1:(0 < s.size)=True:=eq_true h0
 have hx:((s[0]'h0).toNat:Int)=bt s (0:Nat):=dI s 0 (by simpa using h0)
 generalize bt s (0:Nat)=c0 at hx hc0
 have e0:(c0 != 34)=true:=bne_iff_ne.mpr (by omega)
 replace hsq:=ae.mk hsq
 clear hc0
 go_enter Tryz.func95,Tryz.ntmps95
 go_wp2_with (fail)
 clear hx e0 i0 i1
 go_loopg [3,4] (s.size - 1) (fun kq v3 v4 W=>∃ i d:Nat,v3 = .int .i64 i∧v4 = .int .i64 d∧ae (Sq s i d e)∧ae (kq=s.size - i∧1≤i∧w=W))
 case atStart=>exact ⟨1,1,rfl,rfl,hsq,⟨rfl,Nat.le_refl _,rfl⟩⟩
 case round =>
  clear hsq
  obtain ⟨i,d,rfl,rfl,hq,hL⟩:=hrel
  obtain ⟨hkq,hi1,rfl⟩:=hL.out
  clear hL
  obtain ⟨hi,_,_,hd1,hds⟩:=hq.out.bound
  have hst:=Be hq.out
  clear hq
  have j0:((0:Int)≤(i:Int))=True:=eq_true (by omega)
  have j1:((i:Int) < (s.size:Int))=True:=eq_true (by omega)
  have j2:(i < s.size)=True:=eq_true hi
  have j3:decide ((i:Int) < (s.size:Int))=true:=decide_eq_true (by omega)
  have t0:((s[i]'hi).toNat:Int)=bt s i:=by simpa using dI s i (by simpa using hi)
  have hdz:((d:Int) == 0)=false:=beq_eq_false_iff_ne.mpr (by omega)
  replace hkq:=ae.mk hkq
  rcases hst with ⟨hv,rfl,rfl⟩ | ⟨hv,hn⟩ | ⟨hv,hn⟩ | ⟨hv,hd2,hn⟩ | ⟨hv,q,hQ,hn⟩
  ·have sl1:((0:Int)≤(i:Int)+1)=True:=eq_true (by omega)
   have sl2:((i:Int)+1≤(s.size:Int))=True:=eq_true (by omega)
   have sl5:((i:Int)+1).toNat=i+1:=by omega
   rcases wU hv with h | h | h
   all_goals
    rw [h] at t0
    clear hv h
    go_wp2_with (fail)
    go_ret
    exact ⟨rfl,rfl⟩
  ·have hnn:=zt hv
   clear hv
   generalize bt s i=c at *
   obtain ⟨n1,n2,n3,n4,n5,n6,n7⟩:=hnn
   have f1:(c == 34)=false:=beq_eq_false_iff_ne.mpr n1
   have f2:(c == 123)=false:=beq_eq_false_iff_ne.mpr n2
   have f3:(c == 91)=false:=beq_eq_false_iff_ne.mpr n3
   have f4:(c == 40)=false:=beq_eq_false_iff_ne.mpr n4
   have f5:(c == 125)=false:=beq_eq_false_iff_ne.mpr n5
   have f6:(c == 93)=false:=beq_eq_false_iff_ne.mpr n6
   have f7:(c == 41)=false:=beq_eq_false_iff_ne.mpr n7
   replace hn:=ae.mk hn
   clear n1 n2 n3 n4 n5 n6 n7
   rcases (show c < 34∨(34≤c∧c≤125)∨125 < c by omega) with h | ⟨h,h'⟩ | h
   ·have g1:decide (34≤c)=false:=decide_eq_false (by omega)
    clear h
    go_wp2_with (fail)
    go_roundg (s.size - (i+1))
    case measure=>have:=hkq.out;omega
    case rel=>exact ⟨i+1,d,by first | rfl | (congr 1;omega),rfl,hn,⟨rfl,by omega,rfl⟩⟩
   ·have g1:decide (34≤c)=true:=decide_eq_true h
    have g2:decide (c≤125)=true:=decide_eq_true h'
    clear h h'
    go_wp2_with (fail)
    go_roundg (s.size - (i+1))
    case measure=>have:=hkq.out;omega
    case rel=>exact ⟨i+1,d,by first | rfl | (congr 1;omega),rfl,hn,⟨rfl,by omega,rfl⟩⟩
   ·have g1:decide (34≤c)=true:=decide_eq_true (by omega)
    have g2:decide (c≤125)=false:=decide_eq_false (by omega)
    clear h
    go_wp2_with (fail)
    go_roundg (s.size - (i+1))
    case measure=>have:=hkq.out;omega
    case rel=>exact ⟨i+1,d,by first | rfl | (congr 1;omega),rfl,hn,⟨rfl,by omega,rfl⟩⟩
  ·replace hn:=ae.mk hn
   rcases yJ hv with h | h | h
   all_goals
    rw [h] at t0
    clear hv h
    go_wp2_with (fail)
    go_roundg (s.size - (i+1))
    case measure=>have:=hkq.out;omega
    case rel=>exact ⟨i+1,d+1,by first | rfl | (congr 1;omega),by first | rfl | (congr 1;omega),hn,⟨rfl,by omega,rfl⟩⟩
  ·replace hn:=ae.mk hn
   have hdn:((d:Int) - 1 == 0)=false:=beq_eq_false_iff_ne.mpr (by omega)
   rcases wU hv with h | h | h
   all_goals
    rw [h] at t0
    clear hv h
    go_wp2_with (fail)
    go_roundg (s.size - (i+1))
    case measure=>have:=hkq.out;omega
    case rel=>exact ⟨i+1,d - 1,by first | rfl | (congr 1;omega),by first | rfl | (congr 1;omega),hn,⟨rfl,by omega,rfl⟩⟩
  ·rw [BC hv] at t0
   clear hv
   have hlt:=hQ.lt
   have hle:=hQ.le
   have hmark:=hQ.mark
   have hopen:=hQ.open_
   replace hQ:=ae.mk hQ
   replace hn:=ae.mk hn
   replace hmark:=ae.mk hmark
   replace hopen:=ae.mk hopen
   go_wp2_with (fail)
   clear j0 j1 j2 j3 t0
   go_loopg [3,6,7] (q - (i+1)) (fun kq v3 v6 v7 W=>∃ p:Nat,v3 = .int .i64 p∧ae (kq=q - p∧i+1≤p∧p≤q∧w=W))
   case atStart=>exact ⟨i+1,by first | rfl | (congr 1;omega),⟨rfl,Nat.le_refl _,hle,rfl⟩⟩
   case round =>
    obtain ⟨p,rfl,hL⟩:=hrel
    obtain ⟨hkq2,hip,hpq,rfl⟩:=hL.out
    clear hL
    have his:p < s.size:=by omega
    have j0:((0:Int)≤(p:Int))=True:=eq_true (by omega)
    have j1:((p:Int) < (s.size:Int))=True:=eq_true (by omega)
    have j2:(p < s.size)=True:=eq_true his
    have j3:decide ((p:Int) < (s.size:Int))=true:=decide_eq_true (by omega)
    have t0:((s[p]'his).toNat:Int)=bt s p:=by simpa using dI s p (by simpa using his)
    replace hkq2:=ae.mk hkq2
    have hm:=hmark.out
    have hp1:p - 1 < s.size:=by omega
    have ht:((p:Int) - 1).toNat=p - 1:=by omega
    have k0:((0:Int)≤(p:Int) - 1)=True:=eq_true (by omega)
    have k1:((p:Int) - 1 < (s.size:Int))=True:=eq_true (by omega)
    have k2:(p - 1 < s.size)=True:=eq_true hp1
    have t1:((s[p - 1]'hp1).toNat:Int)=bt s ((p - 1:Nat):Int):=by simpa using dI s ((p - 1:Nat):Int) (by simpa using hp1)
    have hsl:slashes s (i+1) p=if bt s ((p - 1:Nat):Int)=92 then slashes s (i+1) (p - 1)+1 else 0:=by
     obtain ⟨p',rfl⟩:∃ p',p=p'+1:=⟨p - 1,by omega⟩
     rw [Nat.add_sub_cancel,slashes]
     by_cases h:bt s (p':Nat)=92
     ·rw [if_pos h,if_pos ⟨by
       rcases Nat.lt_or_ge p' (i+1) with hl | hl
       ·have hpe:p'=i:=by omega
        have h9:=hopen.out
        rw [Nat.add_sub_cancel,← hpe,h] at h9
        exact absurd h9 (by decide)
       ·exact hl,h⟩]
     ·rw [if_neg h,if_neg (fun hh=>h hh.2)]
    by_cases hci:bt s p=34
    ·have hodd:p≠q→slashes s (i+1) p % 2=1:=fun h=>hQ.out.odd p hip (by omega) hci
     have hsame:slashes s (i+1) p % 2=0→p=q:=fun h=>hQ.out.same hip hpq hci h
     have heven:=hQ.out.even
     rw [hci] at t0
     clear hm
     by_cases hb:bt s ((p - 1:Nat):Int)=92
     ·rw [if_pos hb] at hsl
      rw [hb] at t1
      replace hci:=ae.mk hci
      replace hb:=ae.mk hb
      replace hsl:=ae.mk hsl
      go_wp2_with (fail)
      go_loopg [6,7] p (fun kq v6 v7 W=>∃ n j:Nat,v6 = .int .i64 n∧v7 = .int .i64 j∧ae (slashes s (i+1) (j+1)+n=slashes s (i+1) (p - 1)∧j+2≤p∧kq=j+2∧i≤j∧w=W))
      case atStart=>exact ⟨0,p - 2,rfl,by first | rfl | (congr 1;omega),⟨by rw [show p - 2+1=p - 1 by omega];rfl,by omega,by omega,by
       have h9:=hb.out
       have h8:=hopen.out
       rcases Nat.lt_or_ge (i+1) p with hl | hl
       ·omega
       ·have hpe:p - 1=i+1 - 1:=by omega
        rw [hpe] at h9
        rw [h8] at h9
        exact absurd h9 (by decide),rfl⟩⟩
      case round =>
       obtain ⟨n,j,rfl,rfl,hR⟩:=hrel
       obtain ⟨hR1,hR2,hR3,hR5,rfl⟩:=hR.out
       clear hR t0 t1 ht k0 k1 k2 j0 j1 j2 j3
       have hjs:j < s.size:=by omega
       have g0:((0:Int)≤(j:Int))=True:=eq_true (by omega)
       have g1:((j:Int) < (s.size:Int))=True:=eq_true (by omega)
       have g2:(j < s.size)=True:=eq_true hjs
       have t2:((s[j]'hjs).toNat:Int)=bt s j:=by simpa using dI s j (by simpa using hjs)
       by_cases hgo:i < j∧bt s j=92
       ·obtain ⟨hj0,hj9⟩:=hgo
        have f0:decide ((i:Int) < (j:Int))=true:=decide_eq_true (by omega)
        have f1:decide (i < j)=true:=decide_eq_true hj0
        rw [hj9] at t2
        have hsj:slashes s (i+1) (j+1)=slashes s (i+1) j+1:=by rw [slashes,if_pos ⟨by omega,hj9⟩]
        have hnb:n≤s.size:=by have:=lJ s (i+1) (p - 1);omega
        replace hj9:=ae.mk hj9
        replace hsj:=ae.mk hsj
        replace hR1:=ae.mk hR1
        cases gk with
        | zero=>exact absurd hR3 (by omega)
        | succ gk =>
        go_wp2_with (fail)
        go_roundg gk
        case measure=>omega
        case rel=>exact ⟨n+1,j - 1,by first | rfl | (congr 1;omega),by first | rfl | (congr 1;omega),⟨by rw [show j - 1+1=j by omega];have:=hR1.out;have:=hsj.out;omega,by omega,by omega,by omega,rfl⟩⟩
       ·have hsj:slashes s (i+1) (j+1)=0:=by rw [slashes,if_neg (fun h=>hgo ⟨by omega,h.2⟩)]
        have hn9:slashes s (i+1) p=n+1:=by have:=hsl.out;omega
        have hnb:n≤s.size:=by have:=lJ s (i+1) (p - 1);omega
        have hmod:Int.tmod (n:Int) 2=((n % 2:Nat):Int):=by rw [Int.tmod_eq_emod_of_nonneg (by omega)];omega
        replace hsj:=ae.mk hsj
        replace hR1:=ae.mk hR1
        replace hn9:=ae.mk hn9
        rcases (show j=i∨i < j∧bt s j≠92 by omega) with rfl | ⟨hj0,hj9⟩
        all_goals
         try (have f1:decide (i < j)=true:=decide_eq_true hj0)
         try (have f0:decide ((i:Int) < (j:Int))=true:=decide_eq_true (by omega))
         try (generalize bt s j=b at *;have f2:(b != 92)=true:=bne_iff_ne.mpr hj9)
         try (replace hj9:=ae.mk hj9)
         rcases Nat.mod_two_eq_zero_or_one n with hev | hev
         ·have hm2:Int.tmod (n:Int) 2=0:=by rw [hmod,hev];rfl
          have hne:p≠q:=fun h=>by have h1:=heven;rw [← h,hn9.out] at h1;omega
          clear hmod hodd hsame heven
          go_wp2_with (fail)
          go_roundg (q - (p+1))
          case measure=>have:=hkq2.out;omega
          case rel=>exact ⟨p+1,by first | rfl | (congr 1;omega),⟨rfl,by omega,by omega,rfl⟩⟩
         ·have hm2:Int.tmod (n:Int) 2=1:=by rw [hmod,hev];rfl
          obtain rfl:=hsame (by rw [hn9.out];omega)
          clear hmod hodd heven
          replace hsame:=ae.mk True.intro
          go_wp2_with (fail)
          go_roundg (s.size - (p+1))
          case measure=>have:=hkq.out;omega
          case rel=>exact ⟨p+1,d,by first | rfl | (congr 1;omega),rfl,hn,⟨rfl,by omega,rfl⟩⟩
     ·rw [if_neg hb] at hsl
      obtain rfl:=hsame (by rw [hsl])
      generalize bt s ((p - 1:Nat):Int)=b at *
      have e1:(b == 92)=false:=beq_eq_false_iff_ne.mpr hb
      replace hci:=ae.mk hci
      replace hb:=ae.mk hb
      replace hsl:=ae.mk hsl
      clear hodd hsame heven
      go_wp2_with (fail)
      go_roundg (s.size - (p+1))
      case measure=>have:=hkq.out;omega
      case rel=>exact ⟨p+1,d,by first | rfl | (congr 1;omega),rfl,hn,⟨rfl,by omega,rfl⟩⟩
    ·generalize hcj:bt s p=c at *
     have hiq2:p≠q:=fun h=>hci (by rw [← hcj,h];exact hm)
     replace hcj:=ae.mk hcj
     clear hm hsl ht k0 k1 k2 t1
     have e2:(c == 34)=false:=beq_eq_false_iff_ne.mpr hci
     by_cases hc9:92 < c
     ·have e1:decide (92 < c)=true:=decide_eq_true hc9
      go_wp2_with (fail)
      go_roundg (q - (p+1))
      case measure=>have:=hkq2.out;omega
      case rel=>exact ⟨p+1,by first | rfl | (congr 1;omega),⟨rfl,by omega,by omega,rfl⟩⟩
     ·have e1:decide (92 < c)=false:=decide_eq_false hc9
      go_wp2_with (fail)
      go_roundg (q - (p+1))
      case measure=>have:=hkq2.out;omega
      case rel=>exact ⟨p+1,by first | rfl | (congr 1;omega),⟨rfl,by omega,by omega,rfl⟩⟩
open Go Go.RowKit Go.Proofs.YtpgfjbimodnkeaaGreatDoorW.PrintWords Go.Proofs.YtpgfjbimodnkeaaGreatDoor.Scan Go.Proofs.YtpgfjbimodnkeaaGreatDoor.Q
section
variable {s:ByteArray} {p m:Nat}
theorem jr:(s.extract p s.size).size=s.size - p:=by rw [ByteArray.size_extract];omega
theorem uu (j:Nat) (h:p+j < s.size):bt (s.extract p s.size) (j:Nat)=bt s ((p+j:Nat):Int):=jg s p s.size j h (Nat.le_refl _)
theorem pV (h1:p≤m) (h2:m≤s.size):(s.extract p s.size).extract 0 (m - p)=s.extract p m:=by
 rw [qw s p s.size 0 (m - p) (by omega) (by omega),Nat.add_zero,show p+(m - p)=m by omega]
theorem yZ {kd:Int} {ns:List S44} {ks:List S32} (h:J s .val p m kd ns ks):∃ ns' ks',J (s.extract p s.size) .val 0 (m - p) kd ns' ks':=by
 have hb:=h.bound
 have hJ:=h.move (nV (show p≤s.size by omega) (Nat.le_refl _)) (Nat.le_refl _) (by omega)
 rw [show p - p+0=0 by omega,show m - p+0=m - p by omega] at hJ
 exact ⟨_,_,hJ⟩
theorem rX (h1:p≤m) (h:After s m):m - p=(s.extract p s.size).size∨bt (s.extract p s.size) ((m - p:Nat):Int)≤32∨bt (s.extract p s.size) ((m - p:Nat):Int)=44∨bt (s.extract p s.size) ((m - p:Nat):Int)=93∨bt (s.extract p s.size) ((m - p:Nat):Int)=125:=by
 rcases h with h | ⟨h,h2⟩
 ·exact .inl (by rw [jr,h])
 ·rw [uu (m - p) (by omega),show p+(m - p)=m by omega]
  refine .inr ?_
  unfold Scan.blank at h2
  omega
end
section
theorem mP {s:ByteArray} (hs:s.size≤65536) {p m:Nat} {kd:Int} {ns:List S44} {ks:List S32} (h:J s .val p m kd ns ks) (hk:kd=0∨kd=1∨kd=2) (hA:After s m) (W:World) :
 Calls Tryz.prog 70 #[.string (s.extract p s.size)] W fun e w'=>e = .returned (.string (s.extract p m))∧Below W.heap.size W w':=by
 have hb:=h.bound
 obtain ⟨ns',ks',hJ⟩:=yZ h
 have hall:∀ j:Nat,1≤j→j < m - p→97≤bt (s.extract p s.size) (j:Nat)∧bt (s.extract p s.size) (j:Nat)≤122:=by
  generalize h0:(0:Nat)=z at hJ
  generalize h9:m - p=y at hJ
  intro j g1 g2
  cases hJ with
  | null _ g =>
    have:=g.at j (by have:ni.size=4:=rfl;omega)
    rw [← h0,Nat.zero_add] at this
    rw [this]
    exact lK j (by show j < 4;omega)
  | fals _ g =>
    have:=g.at j (by have:lY.size=5:=rfl;omega)
    rw [← h0,Nat.zero_add] at this
    rw [this]
    exact kM j (by show j < 5;omega)
  | tru _ g =>
    have:=g.at j (by have:qU.size=4:=rfl;omega)
    rw [← h0,Nat.zero_add] at this
    rw [this]
    exact lV j (by show j < 4;omega)
  | num=>omega
  | str=>omega
  | arr0=>omega
  | arr=>omega
  | obj0=>omega
  | obj=>omega
 have hend:bt (s.extract p s.size) ((m - p:Nat):Int) < 97∨122 < bt (s.extract p s.size) ((m - p:Nat):Int):=by
  rcases rX (p:=p) (m:=m) (by omega) hA with h | h
  ·rw [lL (s.extract p s.size) (m - p) (by omega)]
   omega
  ·omega
 have hc:=uy W (s.extract p s.size) (by rw [jr];omega) (m - p) (by omega) (by rw [jr];omega) hall hend
 rw [pV (by omega) hb.2] at hc
 exact hc
theorem xG {s:ByteArray} (hs:s.size≤65536) {p m:Nat} {ns:List S44} {ks:List S32} (h:J s .val p m 3 ns ks) (hA:After s m) (B:Nat) (W:World) (hT:Tabs B W) :
 Calls Tryz.prog 69 #[.string (s.extract p s.size)] W fun e w'=>(∃ b,e = .returned (.tuple #[.string (s.extract p m),.float .f64 b]))∧Below W.heap.size W w':=by
 have hb:=h.bound
 obtain ⟨ns',ks',hJ⟩:=yZ h
 have hsp:gY (s.extract p s.size) kz 0 (m - p):=by
  generalize h3:(3:Int)=k at hJ
  generalize h9:m - p=y at hJ ⊢
  cases hJ with
  | num _ _ g0 g1 g2 g3=>exact g3
  | null=>exact absurd h3 (by decide)
  | fals=>exact absurd h3 (by decide)
  | tru=>exact absurd h3 (by decide)
  | str=>exact absurd h3 (by decide)
  | arr0=>exact absurd h3 (by decide)
  | arr=>exact absurd h3 (by decide)
  | obj0=>exact absurd h3 (by decide)
  | obj=>exact absurd h3 (by decide)
 have hc:=vz W B (s.extract p s.size) (by rw [jr];omega) (m - p) (by omega) (by rw [jr];omega) hsp (rX (p:=p) (m:=m) (by omega) hA) hT
 rw [pV (by omega) hb.2] at hc
 exact hc
theorem xh {s:ByteArray} (hs:s.size≤65536) {p m:Nat} {ns:List S44} {ks:List S32} (h:J s .val p m 4 ns ks) (hp:Prd s p):∃ (q:Nat) (v:ByteArray),m=q+1∧p < q∧Says s (p+1) q v ∧
 ∀ W,Calls Tryz.prog 71 #[.string (s.extract p s.size)] W fun e w'=>e = .returned (.tuple #[.string (s.extract p m),.string v])∧Below W.heap.size W w':=by
 have hb:=h.bound
 have P:=nV (show p≤s.size by omega) (Nat.le_refl s.size)
 generalize h4:(4:Int)=k at h
 cases h with
 | str _ q g0 g1 g2 =>
   have hqb:=g2.bound
   obtain ⟨_,v,hv⟩:=jB (lb hs) g2 (gp.prd (lb hs) g0 g1 g2 hp).1
   refine ⟨q,v,rfl,by omega,hv,fun W=>?_⟩
   have hq:=P.CB g2 (by omega) (by omega)
   have hw:=P.says hv (by omega) (by omega) (by omega)
   rw [show p+1 - p+0=1 by omega,show q - p+0=q - p by omega] at hq hw
   have h34:bt (s.extract p s.size) (0:Nat)=34:=by rw [uu 0 (by omega),Nat.add_zero];exact g1
   have hc:=uS W (s.extract p s.size) (by rw [jr];omega) (q - p) h34 hq v hw
   rw [show q - p+1=q+1 - p by omega,pV (by omega) (by omega)] at hc
   exact hc
 | null=>exact absurd h4 (by decide)
 | fals=>exact absurd h4 (by decide)
 | tru=>exact absurd h4 (by decide)
 | num=>exact absurd h4 (by decide)
 | arr0=>exact absurd h4 (by decide)
 | arr=>exact absurd h4 (by decide)
 | obj0=>exact absurd h4 (by decide)
 | obj=>exact absurd h4 (by decide)
theorem yF {s:ByteArray} {p m:Nat} {kd:Int} {ns:List S44} {ks:List S32} (h:J s .val p m kd ns ks) (hk:kd=5∨kd=6):bt s p=123∨bt s p=91:=by
 cases h with
 | arr0 _ _ _ h1=>exact .inr h1
 | arr _ _ _ _ _ h1=>exact .inr h1
 | obj0 _ _ _ h1=>exact .inl h1
 | obj _ _ _ _ _ _ h1=>exact .inl h1
 | null=>exact absurd hk (by decide)
 | fals=>exact absurd hk (by decide)
 | tru=>exact absurd hk (by decide)
 | num=>exact absurd hk (by decide)
 | str=>exact absurd hk (by decide)
theorem zX {s:ByteArray} (hs:s.size≤65536) {p m:Nat} {kd:Int} {ns:List S44} {ks:List S32} (h:J s .val p m kd ns ks) (hk:kd=5∨kd=6) (W:World) :
 Calls Tryz.prog 95 #[.string (s.extract p s.size)] W fun e w'=>e = .returned (.string (s.extract p m))∧w'=W:=by
 have hb:=h.bound
 obtain ⟨ns',ks',hJ⟩:=yZ h
 have hsq:=hJ.scan.2 (by omega)
 have hc:=qE W (s.extract p s.size) (by rw [jr];omega) (m - p) (by rw [jr];omega) (yF hJ hk) hsq
 rw [pV (by omega) hb.2] at hc
 exact hc
end
structure PV (w:World) (r:Rs) (W:World):Prop where
 z:W.heap[w.heap.size]?=some (.cells (gW ⟨0,⟨#[]⟩,⟨#[]⟩,0,0⟩) 67 (0,0))
 v:W.heap[w.heap.size+1]?=some (.cells (gW r) 67 (0,0))
 bel:Below w.heap.size w W
theorem PV.below {w W W':World} {r:Rs} (h:PV w r W) (hb:Below W.heap.size W W'):PV w r W':=⟨df h.z hb,df h.v hb,bz h.bel hb⟩
theorem PV.set {w W:World} {r:Rs} (h:PV w r W) (r':Rs) (j:Nat) (u:Value) (hr:(gW r).setIfInBounds j u=gW r'):PV w r' (W.setCell ⟨w.heap.size+1,j,none⟩ u) :=
 ⟨dW h.z (by simp) _,bU h.v j _ hr,h.bel.setCell (Nat.le_succ _) u⟩
theorem Am (w:World):PV w ⟨0,⟨#[]⟩,⟨#[]⟩,0,0⟩ ((w.alloc (.cells #[.int .i64 0,.string ⟨#[]⟩,.string ⟨#[]⟩,.float .f64 0,.int .i64 0,.slice none 0 0] 67)).alloc (.cells #[.int .i64 0,.string ⟨#[]⟩,.string ⟨#[]⟩,.float .f64 0,.int .i64 0,.slice none 0 0] 67)) :=
 ⟨(oz w _ _ 67 67).1,(oz w _ _ 67 67).2,ah (ah (Below.refl _ _) _) _⟩
structure DT (w:World) (r:Rs) (W:World):Prop where
 c0:W.cell? ⟨w.heap.size+1,0,none⟩=some (.int .i64 r.k)
 c1:W.cell? ⟨w.heap.size+1,1,none⟩=some (.string r.raw)
 c2:W.cell? ⟨w.heap.size+1,2,none⟩=some (.string r.str)
 c3:W.cell? ⟨w.heap.size+1,3,none⟩=some (.float .f64 r.num)
 c4:W.cell? ⟨w.heap.size+1,4,none⟩=some (.int .i64 r.idx)
 c5:W.cell? ⟨w.heap.size+1,5,none⟩=some (.slice none 0 0)
 f:∀ j,W.frozen? ⟨w.heap.size+1,j,none⟩=false
theorem PV.cells {w W:World} {r:Rs} (h:PV w r W):DT w r W :=
 ⟨(ak h.v 0).trans rfl,(ak h.v 1).trans rfl,(ak h.v 2).trans rfl,(ak h.v 3).trans rfl,(ak h.v 4).trans rfl,(ak h.v 5).trans rfl,fun j=>ax h.v j⟩
structure DL (w W:World):Prop where
 c0:W.cell? ⟨w.heap.size,0,none⟩=some (.int .i64 0)
 c1:W.cell? ⟨w.heap.size,1,none⟩=some (.string ⟨#[]⟩)
 c2:W.cell? ⟨w.heap.size,2,none⟩=some (.string ⟨#[]⟩)
 c3:W.cell? ⟨w.heap.size,3,none⟩=some (.float .f64 0)
 c4:W.cell? ⟨w.heap.size,4,none⟩=some (.int .i64 0)
 c5:W.cell? ⟨w.heap.size,5,none⟩=some (.slice none 0 0)
 f:∀ j,W.frozen? ⟨w.heap.size,j,none⟩=false
theorem PV.nG {w W:World} {r:Rs} (h:PV w r W):DL w W :=
 ⟨(ak h.z 0).trans rfl,(ak h.z 1).trans rfl,(ak h.z 2).trans rfl,(ak h.z 3).trans rfl,(ak h.z 4).trans rfl,(ak h.z 5).trans rfl,fun j=>ax h.z j⟩
theorem iT (r:Rs) (h:r.k≠0∨r.raw.size≠0) (W:World):Calls Tryz.prog 59 #[resV r.k r.raw r.str r.num r.idx] W fun e w'=>e = .returned (.bool true)∧Below W.heap.size W w':=by
 refine Q.eF.calls r.k r.raw r.str r.num r.idx none 0 [] true W (Kd.Dj _ _) (Nat.le_refl _) ?_
 unfold Q.eF.f
 by_cases h0:r.k=0
 ·rw [if_pos h0]
  have h1:=h.resolve_left (fun hh=>hh h0)
  rw [show ((r.raw.size:Int) != 0)=true from bne_iff_ne.mpr (by omega)]
 ·rw [if_neg h0]
theorem PV.put {w W:World} {r:Rs} (h:PV w r W):((((((W.setCell ⟨w.heap.size,0,none⟩ (.int .i64 r.k)).setCell ⟨w.heap.size,1,none⟩ (.string r.raw)).setCell ⟨w.heap.size,2,none⟩ (.string r.str)).setCell ⟨w.heap.size,3,none⟩ (.float .f64 r.num)).setCell ⟨w.heap.size,4,none⟩ (.int .i64 r.idx)).setCell ⟨w.heap.size,5,none⟩ (.slice none 0 0)).heap[w.heap.size]?=some (.cells (gW r) 67 (0,0)) :=
 bU (bU (bU (bU (bU (bU h.z 0 _ rfl) 1 _ rfl) 2 _ rfl) 3 _ rfl) 4 _ rfl) 5 _ rfl
theorem PV.lC {w W:World} {r:Rs} (h:PV w r W) (a b c d e f:Value):Below w.heap.size w ((((((W.setCell ⟨w.heap.size,0,none⟩ a).setCell ⟨w.heap.size,1,none⟩ b).setCell ⟨w.heap.size,2,none⟩ c).setCell ⟨w.heap.size,3,none⟩ d).setCell ⟨w.heap.size,4,none⟩ e).setCell ⟨w.heap.size,5,none⟩ f):=by
 have hl:=Nat.le_refl w.heap.size
 exact (((((h.bel.setCell hl a).setCell hl b).setCell hl c).setCell hl d).setCell hl e).setCell hl f
theorem l9 {s:ByteArray} {p m:Nat} {kd:Int} {ns:List S44} {ks:List S32} (h:J s .val p m kd ns ks) :
 (kd=0∧bt s p=110)∨(kd=1∧bt s p=102)∨(kd=2∧bt s p=116)∨(kd=3∧(bt s p=45∨(48≤bt s p∧bt s p≤57)))∨(kd=4∧bt s p=34)∨(kd=5∧bt s p=91)∨(kd=6∧bt s p=123):=by
 cases h with
 | null _ g=>exact .inl ⟨rfl,(g.at 0 (by decide)).trans rfl⟩
 | fals _ g=>exact .inr (.inl ⟨rfl,(g.at 0 (by decide)).trans rfl⟩)
 | tru _ g=>exact .inr (.inr (.inl ⟨rfl,(g.at 0 (by decide)).trans rfl⟩))
 | num _ _ g=>exact .inr (.inr (.inr (.inl ⟨rfl,g⟩)))
 | str _ _ _ g=>exact .inr (.inr (.inr (.inr (.inl ⟨rfl,g⟩))))
 | arr0 _ _ _ g=>exact .inr (.inr (.inr (.inr (.inr (.inl ⟨rfl,g⟩)))))
 | arr _ _ _ _ _ g=>exact .inr (.inr (.inr (.inr (.inr (.inl ⟨rfl,g⟩)))))
 | obj0 _ _ _ g=>exact .inr (.inr (.inr (.inr (.inr (.inr ⟨rfl,g⟩)))))
 | obj _ _ _ _ _ _ g=>exact .inr (.inr (.inr (.inr (.inr (.inr ⟨rfl,g⟩)))))
theorem DX {s:ByteArray} {p m:Nat} {ns:List S44} {ks:List S32} (h:J s .val p m 0 ns ks):p+1 < s.size∧bt s (p+1:Nat)=117:=by
 generalize h0:(0:Int)=kd at h
 cases h with
 | null _ g=>exact ⟨by have:=g.le;have:ni.size=4:=rfl;omega,(g.at 1 (by decide)).trans rfl⟩
 | fals=>exact absurd h0 (by decide)
 | tru=>exact absurd h0 (by decide)
 | num=>exact absurd h0 (by decide)
 | str=>exact absurd h0 (by decide)
 | arr0=>exact absurd h0 (by decide)
 | arr=>exact absurd h0 (by decide)
 | obj0=>exact absurd h0 (by decide)
 | obj=>exact absurd h0 (by decide)
theorem yj {s:ByteArray} {m:Nat} (hE:Blanks s m s.size):After s m:=by
 have hle:=hE.le
 rcases Nat.lt_or_ge m s.size with h | h
 ·exact .inr ⟨h,.inl (hE.all m (Nat.le_refl _) h)⟩
 ·exact .inl (by omega)
structure pW (s:ByteArray) (i:Nat) (kd:Int) (r:Rs):Prop where
 is:(kd=5∨kd=6)∧r=⟨5,s.extract i s.size,⟨#[]⟩,0,i⟩∨kd≠5∧kd≠6∧r.k≠5
theorem yh (w:World) (B:Nat) (s:ByteArray) (hs:s.size≤65536) (i m:Nat) (kd:Int) (ns:List S44) (ks:List S32) (hb:Blanks s 0 i) (hJ:J s .val i m kd ns ks) (hE:Blanks s m s.size) (hP:Prd s i) (hT:Tabs B w) :
 Calls Tryz.prog 44 #[.string s] w fun e w'=>∃ r:Rs,e = .returned (resV r.k r.raw r.str r.num r.idx)∧pW s i kd r∧Below w.heap.size w w':=by
 have hbd:=hJ.bound
 have hA:=yj hE
 have hne:=hJ.first.1
 replace hE:=ae.mk hE
 replace hA:=ae.mk hA
 replace hP:=ae.mk hP
 replace hT:=ae.mk hT
 replace hb:=ae.mk hb
 replace hJ:=ae.mk hJ
 replace hne:=ae.mk hne
 go_enter Tryz.func44,Tryz.ntmps44
 go_wp2_with (fail)
 go_loopg [4] i (fun kq v4 W=>∃ p:Nat,v4 = .int .i64 p∧ae (p+kq=i)∧ae (PV w ⟨0,⟨#[]⟩,⟨#[]⟩,0,0⟩ W))
 case atStart=>exact ⟨0,rfl,⟨by omega⟩,⟨Am w⟩⟩
 case round =>
  obtain ⟨p,rfl,hp,hV⟩:=hrel
  have hpi:=hp.out
  have hps:p < s.size:=by omega
  have j0:((0:Int)≤(p:Int))=True:=eq_true (by omega)
  have j1:((p:Int) < (s.size:Int))=True:=eq_true (by omega)
  have j2:(p < s.size)=True:=eq_true hps
  have j3:decide ((p:Int) < (s.size:Int))=true:=decide_eq_true (by omega)
  have j4:((p:Int)≤(s.size:Int))=True:=eq_true (by omega)
  have t0:((s[p]'hps).toNat:Int)=bt s p:=by simpa using dI s p (by simpa using hps)
  obtain ⟨a0,a1,a2,a3,a4,a5,af⟩:=hV.out.cells
  by_cases he:p=i
  ·subst he
   clear hpi
   have hc7:=l9 hJ.out
   rcases hc7 with ⟨hk,hc⟩ | ⟨hk,hc⟩ | ⟨hk,hc⟩ | ⟨hk,hc⟩ | ⟨hk,hc⟩ | ⟨hk,hc⟩ | ⟨hk,hc⟩
   ·subst hk
    have hlit:=fun W=>mP hs hJ.out (.inl rfl) hA.out W
    obtain ⟨hz,hu⟩:=DX hJ.out
    have i2:((p:Int)+1 < (s.size:Int))=True:=eq_true (by omega)
    have i3:(p+1 < s.size)=True:=eq_true hz
    have i4:decide ((p:Int)+1 < (s.size:Int))=true:=decide_eq_true (by omega)
    have i5:decide (p+1 < s.size)=true:=decide_eq_true hz
    have i6:((0:Int)≤(p:Int)+1)=True:=eq_true (by omega)
    have i7:IntKind.i64.wrap ((p:Int)+1)=(p:Int)+1:=IntWalk.i64_in _ (by omega)
    have i8:((p:Int)+1).toNat=p+1:=by omega
    have t1:((s[p+1]'hz).toNat:Int)=117:=(show ((s[p+1]'hz).toNat:Int)=bt s (p+1:Nat) by simpa using dI s (p+1:Nat) (by simpa using hz)).trans hu
    replace hu:=ae.mk hu
    rw [hc] at t0
    clear hc
    go_wp2_with (fail)
    with_reducible refine (hlit _).mono ?_
    rintro e w4 ⟨rfl,hB4⟩
    have hV2:=(hV.out.set ⟨0,⟨#[]⟩,⟨#[]⟩,0,0⟩ 0 _ rfl).below hB4
    clear hB4 a0 a1 a2 a3 a4 a5 af
    obtain ⟨a0,a1,a2,a3,a4,a5,af⟩:=hV2.cells
    replace hV2:=ae.mk hV2
    go_wp2_with (fail)
    have hV3:=hV2.out.set ⟨0,s.extract p m,⟨#[]⟩,0,0⟩ 1 _ rfl
    have hex:=iT (⟨0,s.extract p m,⟨#[]⟩,0,0⟩:Rs) (by exact .inr (by rw [ByteArray.size_extract];omega))
    with_reducible refine (hex _).mono ?_
    rintro e w5 ⟨rfl,hB5⟩
    have hV4:=hV3.below hB5
    clear hB5 hV3 a0 a1 a2 a3 a4 a5 af
    obtain ⟨a0,a1,a2,a3,a4,a5,af⟩:=hV4.cells
    obtain ⟨z0,z1,z2,z3,z4,z5,zf⟩:=hV4.nG
    replace hV4:=ae.mk hV4
    go_wp2_with (fail)
    have hV6:=hV4.out.set { (⟨0,s.extract p m,⟨#[]⟩,0,0⟩:Rs) with idx:=p } 4 (.int .i64 p) rfl
    exact bodyPost_ret (results_cell_row rfl _ _ w.heap.size 67 (gW { (⟨0,s.extract p m,⟨#[]⟩,0,0⟩:Rs) with idx:=p }) (0,0) _ rfl hV6.put Tryz.underlying67 rfl (by kernel_rfl)) rfl ⟨{ (⟨0,s.extract p m,⟨#[]⟩,0,0⟩:Rs) with idx:=p },rfl,⟨.inr ⟨by decide,by decide,by show (0:Int)≠5;decide⟩⟩,hV6.lC _ _ _ _ _ _⟩
   ·subst hk
    have hlit:=fun W=>mP hs hJ.out (.inr (.inl rfl)) hA.out W
    rw [hc] at t0
    clear hc
    go_wp2_with (fail)
    with_reducible refine (hlit _).mono ?_
    rintro e w4 ⟨rfl,hB4⟩
    have hV2:=(hV.out.set ⟨1,⟨#[]⟩,⟨#[]⟩,0,0⟩ 0 _ rfl).below hB4
    clear hB4 a0 a1 a2 a3 a4 a5 af
    obtain ⟨a0,a1,a2,a3,a4,a5,af⟩:=hV2.cells
    replace hV2:=ae.mk hV2
    go_wp2_with (fail)
    have hV3:=hV2.out.set ⟨1,s.extract p m,⟨#[]⟩,0,0⟩ 1 _ rfl
    have hex:=iT (⟨1,s.extract p m,⟨#[]⟩,0,0⟩:Rs) (by exact .inl (fun h=>absurd h (by show ¬ ((1:Int)=0);decide)))
    with_reducible refine (hex _).mono ?_
    rintro e w5 ⟨rfl,hB5⟩
    have hV4:=hV3.below hB5
    clear hB5 hV3 a0 a1 a2 a3 a4 a5 af
    obtain ⟨a0,a1,a2,a3,a4,a5,af⟩:=hV4.cells
    obtain ⟨z0,z1,z2,z3,z4,z5,zf⟩:=hV4.nG
    replace hV4:=ae.mk hV4
    go_wp2_with (fail)
    have hV6:=hV4.out.set { (⟨1,s.extract p m,⟨#[]⟩,0,0⟩:Rs) with idx:=p } 4 (.int .i64 p) rfl
    exact bodyPost_ret (results_cell_row rfl _ _ w.heap.size 67 (gW { (⟨1,s.extract p m,⟨#[]⟩,0,0⟩:Rs) with idx:=p }) (0,0) _ rfl hV6.put Tryz.underlying67 rfl (by kernel_rfl)) rfl ⟨{ (⟨1,s.extract p m,⟨#[]⟩,0,0⟩:Rs) with idx:=p },rfl,⟨.inr ⟨by decide,by decide,by show (1:Int)≠5;decide⟩⟩,hV6.lC _ _ _ _ _ _⟩
   ·subst hk
    have hlit:=fun W=>mP hs hJ.out (.inr (.inr rfl)) hA.out W
    rw [hc] at t0
    clear hc
    go_wp2_with (fail)
    with_reducible refine (hlit _).mono ?_
    rintro e w4 ⟨rfl,hB4⟩
    have hV2:=(hV.out.set ⟨4,⟨#[]⟩,⟨#[]⟩,0,0⟩ 0 _ rfl).below hB4
    clear hB4 a0 a1 a2 a3 a4 a5 af
    obtain ⟨a0,a1,a2,a3,a4,a5,af⟩:=hV2.cells
    replace hV2:=ae.mk hV2
    go_wp2_with (fail)
    have hV3:=hV2.out.set ⟨4,s.extract p m,⟨#[]⟩,0,0⟩ 1 _ rfl
    have hex:=iT (⟨4,s.extract p m,⟨#[]⟩,0,0⟩:Rs) (by exact .inl (fun h=>absurd h (by show ¬ ((4:Int)=0);decide)))
    with_reducible refine (hex _).mono ?_
    rintro e w5 ⟨rfl,hB5⟩
    have hV4:=hV3.below hB5
    clear hB5 hV3 a0 a1 a2 a3 a4 a5 af
    obtain ⟨a0,a1,a2,a3,a4,a5,af⟩:=hV4.cells
    obtain ⟨z0,z1,z2,z3,z4,z5,zf⟩:=hV4.nG
    replace hV4:=ae.mk hV4
    go_wp2_with (fail)
    have hV6:=hV4.out.set { (⟨4,s.extract p m,⟨#[]⟩,0,0⟩:Rs) with idx:=p } 4 (.int .i64 p) rfl
    exact bodyPost_ret (results_cell_row rfl _ _ w.heap.size 67 (gW { (⟨4,s.extract p m,⟨#[]⟩,0,0⟩:Rs) with idx:=p }) (0,0) _ rfl hV6.put Tryz.underlying67 rfl (by kernel_rfl)) rfl ⟨{ (⟨4,s.extract p m,⟨#[]⟩,0,0⟩:Rs) with idx:=p },rfl,⟨.inr ⟨by decide,by decide,by show (4:Int)≠5;decide⟩⟩,hV6.lC _ _ _ _ _ _⟩
   ·subst hk
    have hnum:=fun W hT=>xG hs hJ.out hA.out B W hT
    have hcv:bt s p=45∨bt s p=48∨bt s p=49∨bt s p=50∨bt s p=51∨bt s p=52∨bt s p=53∨bt s p=54∨bt s p=55∨bt s p=56∨bt s p=57:=by omega
    clear hc
    rcases hcv with hc | hc | hc | hc | hc | hc | hc | hc | hc | hc | hc
    all_goals
     rw [hc] at t0
     clear hc
     go_wp2_with (fail)
     with_reducible refine (hnum _ (hT.out.below (iy (hV.out.set ⟨2,⟨#[]⟩,⟨#[]⟩,0,0⟩ 0 (.int .i64 2) rfl).bel hT.out.size))).mono ?_
     rintro e w4 ⟨⟨b,rfl⟩,hB4⟩
     have hV2:=(hV.out.set ⟨2,⟨#[]⟩,⟨#[]⟩,0,0⟩ 0 _ rfl).below hB4
     clear hB4 a0 a1 a2 a3 a4 a5 af
     obtain ⟨a0,a1,a2,a3,a4,a5,af⟩:=hV2.cells
     replace hV2:=ae.mk hV2
     go_wp2_with (fail)
     have hV3:=(hV2.out.set ⟨2,s.extract p m,⟨#[]⟩,0,0⟩ 1 _ rfl).set ⟨2,s.extract p m,⟨#[]⟩,b,0⟩ 3 _ rfl
     have hex:=iT (⟨2,s.extract p m,⟨#[]⟩,b,0⟩:Rs) (by exact .inl (fun h=>absurd h (by show ¬ ((2:Int)=0);decide)))
     with_reducible refine (hex _).mono ?_
     rintro e w5 ⟨rfl,hB5⟩
     have hV4:=hV3.below hB5
     clear hB5 hV3 a0 a1 a2 a3 a4 a5 af
     obtain ⟨a0,a1,a2,a3,a4,a5,af⟩:=hV4.cells
     obtain ⟨z0,z1,z2,z3,z4,z5,zf⟩:=hV4.nG
     replace hV4:=ae.mk hV4
     go_wp2_with (fail)
     have hV6:=hV4.out.set { (⟨2,s.extract p m,⟨#[]⟩,b,0⟩:Rs) with idx:=p } 4 (.int .i64 p) rfl
     exact bodyPost_ret (results_cell_row rfl _ _ w.heap.size 67 (gW { (⟨2,s.extract p m,⟨#[]⟩,b,0⟩:Rs) with idx:=p }) (0,0) _ rfl hV6.put Tryz.underlying67 rfl (by kernel_rfl)) rfl ⟨{ (⟨2,s.extract p m,⟨#[]⟩,b,0⟩:Rs) with idx:=p },rfl,⟨.inr ⟨by decide,by decide,by show (2:Int)≠5;decide⟩⟩,hV6.lC _ _ _ _ _ _⟩
   ·subst hk
    obtain ⟨q,v,hq1,hq2,hsay,hstr⟩:=xh hs hJ.out hP.out
    replace hq1:=ae.mk hq1
    replace hsay:=ae.mk hsay
    rw [hc] at t0
    clear hc
    go_wp2_with (fail)
    with_reducible refine (hstr _).mono ?_
    rintro e w4 ⟨rfl,hB4⟩
    have hV2:=(hV.out.set ⟨3,⟨#[]⟩,⟨#[]⟩,0,0⟩ 0 _ rfl).below hB4
    clear hB4 a0 a1 a2 a3 a4 a5 af
    obtain ⟨a0,a1,a2,a3,a4,a5,af⟩:=hV2.cells
    replace hV2:=ae.mk hV2
    go_wp2_with (fail)
    have hV3:=(hV2.out.set ⟨3,s.extract p m,⟨#[]⟩,0,0⟩ 1 _ rfl).set ⟨3,s.extract p m,v,0,0⟩ 2 _ rfl
    have hex:=iT (⟨3,s.extract p m,v,0,0⟩:Rs) (by exact .inl (fun h=>absurd h (by show ¬ ((3:Int)=0);decide)))
    with_reducible refine (hex _).mono ?_
    rintro e w5 ⟨rfl,hB5⟩
    have hV4:=hV3.below hB5
    clear hB5 hV3 a0 a1 a2 a3 a4 a5 af
    obtain ⟨a0,a1,a2,a3,a4,a5,af⟩:=hV4.cells
    obtain ⟨z0,z1,z2,z3,z4,z5,zf⟩:=hV4.nG
    replace hV4:=ae.mk hV4
    go_wp2_with (fail)
    have hV6:=hV4.out.set { (⟨3,s.extract p m,v,0,0⟩:Rs) with idx:=p } 4 (.int .i64 p) rfl
    exact bodyPost_ret (results_cell_row rfl _ _ w.heap.size 67 (gW { (⟨3,s.extract p m,v,0,0⟩:Rs) with idx:=p }) (0,0) _ rfl hV6.put Tryz.underlying67 rfl (by kernel_rfl)) rfl ⟨{ (⟨3,s.extract p m,v,0,0⟩:Rs) with idx:=p },rfl,⟨.inr ⟨by decide,by decide,by show (3:Int)≠5;decide⟩⟩,hV6.lC _ _ _ _ _ _⟩
   ·subst hk
    rw [hc] at t0
    clear hc
    go_wp2_with (fail)
    have hV3:=(hV.out.set ⟨5,⟨#[]⟩,⟨#[]⟩,0,0⟩ 0 _ rfl).set ⟨5,s.extract p s.size,⟨#[]⟩,0,0⟩ 1 _ rfl
    have hex:=iT (⟨5,s.extract p s.size,⟨#[]⟩,0,0⟩:Rs) (by exact .inl (fun h=>absurd h (by show ¬ ((5:Int)=0);decide)))
    with_reducible refine (hex _).mono ?_
    rintro e w5 ⟨rfl,hB5⟩
    have hV4:=hV3.below hB5
    clear hB5 hV3 a0 a1 a2 a3 a4 a5 af
    obtain ⟨a0,a1,a2,a3,a4,a5,af⟩:=hV4.cells
    obtain ⟨z0,z1,z2,z3,z4,z5,zf⟩:=hV4.nG
    replace hV4:=ae.mk hV4
    go_wp2_with (fail)
    have hV6:=hV4.out.set { (⟨5,s.extract p s.size,⟨#[]⟩,0,0⟩:Rs) with idx:=p } 4 (.int .i64 p) rfl
    exact bodyPost_ret (results_cell_row rfl _ _ w.heap.size 67 (gW { (⟨5,s.extract p s.size,⟨#[]⟩,0,0⟩:Rs) with idx:=p }) (0,0) _ rfl hV6.put Tryz.underlying67 rfl (by kernel_rfl)) rfl ⟨{ (⟨5,s.extract p s.size,⟨#[]⟩,0,0⟩:Rs) with idx:=p },rfl,⟨.inl ⟨by decide,rfl⟩⟩,hV6.lC _ _ _ _ _ _⟩
   ·subst hk
    rw [hc] at t0
    clear hc
    go_wp2_with (fail)
    have hV3:=(hV.out.set ⟨5,⟨#[]⟩,⟨#[]⟩,0,0⟩ 0 _ rfl).set ⟨5,s.extract p s.size,⟨#[]⟩,0,0⟩ 1 _ rfl
    have hex:=iT (⟨5,s.extract p s.size,⟨#[]⟩,0,0⟩:Rs) (by exact .inl (fun h=>absurd h (by show ¬ ((5:Int)=0);decide)))
    with_reducible refine (hex _).mono ?_
    rintro e w5 ⟨rfl,hB5⟩
    have hV4:=hV3.below hB5
    clear hB5 hV3 a0 a1 a2 a3 a4 a5 af
    obtain ⟨a0,a1,a2,a3,a4,a5,af⟩:=hV4.cells
    obtain ⟨z0,z1,z2,z3,z4,z5,zf⟩:=hV4.nG
    replace hV4:=ae.mk hV4
    go_wp2_with (fail)
    have hV6:=hV4.out.set { (⟨5,s.extract p s.size,⟨#[]⟩,0,0⟩:Rs) with idx:=p } 4 (.int .i64 p) rfl
    exact bodyPost_ret (results_cell_row rfl _ _ w.heap.size 67 (gW { (⟨5,s.extract p s.size,⟨#[]⟩,0,0⟩:Rs) with idx:=p }) (0,0) _ rfl hV6.put Tryz.underlying67 rfl (by kernel_rfl)) rfl ⟨{ (⟨5,s.extract p s.size,⟨#[]⟩,0,0⟩:Rs) with idx:=p },rfl,⟨.inl ⟨by decide,rfl⟩⟩,hV6.lC _ _ _ _ _ _⟩
  ·have hbl:=hb.out.all p (by omega) (by omega)
   unfold Scan.blank at hbl
   generalize bt s p=c at *
   have b1:(c == 123)=false:=beq_eq_false_iff_ne.mpr (by omega)
   have b2:(c == 91)=false:=beq_eq_false_iff_ne.mpr (by omega)
   have b3:decide (c≤32)=true:=decide_eq_true (by omega)
   clear hbl hpi
   cases gk with
   | zero=>exact absurd hp.out (by omega)
   | succ gk =>
   go_wp2_with (fail)
   go_roundg gk
   case measure=>omega
   case rel=>exact ⟨p+1,by first | rfl | (congr 1;omega),⟨by have:=hp.out;omega⟩,hV⟩
structure AM (w:World) (s:ByteArray) (D:DataW Value) (n:Nat) (kr vr:Rs) (W:World):Prop where
 kt:W.heap[w.heap.size]?=some (.cells (gW ⟨5,s,⟨#[]⟩,0,0⟩) 67 (0,0))
 ko:W.heap[w.heap.size+1]?=some (.cells #[.slice none 0 0,.slice none 0 0,.map (some (w.heap.size+4)),.map none,.int .u8 123] 107 (0,0))
 kv:W.heap[w.heap.size+2]?=some (.cells (gW vr) 67 (0,0))
 kk:W.heap[w.heap.size+3]?=some (.cells (gW kr) 67 (0,0))
 mp:W.ownsMap Tryz.prog 9 RV (w.heap.size+4) n D
 bel:Below w.heap.size w W
theorem qK (W:World) (g j:Nat) (u:Value):W.grownBy (W.setCell ⟨g,j,none⟩ u) (some g):=⟨rfl,rfl,rfl,by simp,fun k _ hk=>heap_setCell_other W ⟨g,j,none⟩ k u (fun e=>hk (by simp [e]))⟩
section
variable {w W W':World} {s:ByteArray} {D:DataW Value} {n:Nat} {kr vr:Rs}
theorem AM.below (h:AM w s D n kr vr W) (hb:Below W.heap.size W W'):AM w s D n kr vr W' :=
 ⟨df h.kt hb,df h.ko hb,df h.kv hb,df h.kk hb,h.mp.kept (jJ hb none) (by simp),bz h.bel hb⟩
theorem AM.jq (h:AM w s D n kr vr W) (vr':Rs) (j:Nat) (u:Value) (hr:(gW vr).setIfInBounds j u=gW vr'):AM w s D n kr vr' (W.setCell ⟨w.heap.size+2,j,none⟩ u) :=
 ⟨dW h.kt (by simp) _,dW h.ko (by simp) _,bU h.kv j u hr,dW h.kk (by simp) _,h.mp.kept (qK _ _ _ _) (by simp),aA h.bel (by simp)⟩
theorem AM.xM (h:AM w s D n kr vr W) (kr':Rs) (j:Nat) (u:Value) (hr:(gW kr).setIfInBounds j u=gW kr'):AM w s D n kr' vr (W.setCell ⟨w.heap.size+3,j,none⟩ u) :=
 ⟨dW h.kt (by simp) _,dW h.ko (by simp) _,dW h.kv (by simp) _,bU h.kk j u hr,h.mp.kept (qK _ _ _ _) (by simp),aA h.bel (by simp)⟩
structure zZ (g:Nat) (r:Rs) (W:World):Prop where
 c0:W.cell? ⟨g,0,none⟩=some (.int .i64 r.k)
 c1:W.cell? ⟨g,1,none⟩=some (.string r.raw)
 c2:W.cell? ⟨g,2,none⟩=some (.string r.str)
 c3:W.cell? ⟨g,3,none⟩=some (.float .f64 r.num)
 c4:W.cell? ⟨g,4,none⟩=some (.int .i64 r.idx)
 c5:W.cell? ⟨g,5,none⟩=some (.slice none 0 0)
 f:∀ j,W.frozen? ⟨g,j,none⟩=false
theorem AM.ja (h:AM w s D n kr vr W):zZ (w.heap.size+1+1) vr W :=
 ⟨(ak h.kv 0).trans rfl,(ak h.kv 1).trans rfl,(ak h.kv 2).trans rfl,(ak h.kv 3).trans rfl,(ak h.kv 4).trans rfl,(ak h.kv 5).trans rfl,fun j=>ax h.kv j⟩
theorem AM.zu (h:AM w s D n kr vr W):zZ (w.heap.size+1+1+1) kr W :=
 ⟨(ak h.kk 0).trans rfl,(ak h.kk 1).trans rfl,(ak h.kk 2).trans rfl,(ak h.kk 3).trans rfl,(ak h.kk 4).trans rfl,(ak h.kk 5).trans rfl,fun j=>ax h.kk j⟩
theorem AM.copy (h:AM w s D n kr vr W):AM w s D n vr vr ((((((W.setCell ⟨w.heap.size+3,0,none⟩ (.int .i64 vr.k)).setCell ⟨w.heap.size+3,1,none⟩ (.string vr.raw)).setCell ⟨w.heap.size+3,2,none⟩ (.string vr.str)).setCell ⟨w.heap.size+3,3,none⟩ (.float .f64 vr.num)).setCell ⟨w.heap.size+3,4,none⟩ (.int .i64 vr.idx)).setCell ⟨w.heap.size+3,5,none⟩ (.slice none 0 0)) :=
 (((((h.xM ⟨vr.k,kr.raw,kr.str,kr.num,kr.idx⟩ 0 _ rfl).xM ⟨vr.k,vr.raw,kr.str,kr.num,kr.idx⟩ 1 _ rfl).xM ⟨vr.k,vr.raw,vr.str,kr.num,kr.idx⟩ 2 _ rfl).xM ⟨vr.k,vr.raw,vr.str,vr.num,kr.idx⟩ 3 _ rfl).xM vr 4 _ rfl).xM vr 5 _ rfl
theorem AM.put (h:AM w s D n kr vr W) (hg:W.grownBy W' (some (w.heap.size+4))) {D':DataW Value} {n':Nat} (hm:W'.ownsMap Tryz.prog 9 RV (w.heap.size+4) n' D'):AM w s D' n' kr vr W' :=
 ⟨iI h.kt hg (by simp),iI h.ko hg (by simp),iI h.kv hg (by simp),iI h.kk hg (by simp),hm,h.bel.grown hg h.bel.size (fun j hj=>by cases hj;omega)⟩
theorem AM.alloc (h:AM w s D n kr vr W) (o:Obj):AM w s D n kr vr (W.alloc o):=h.below (ah (Below.refl _ _) o)
theorem AM.more (h:AM w s D n kr vr W):AM w s D (n+1) kr vr W:=⟨h.kt,h.ko,h.kv,h.kk,h.mp.mono (Nat.le_succ n),h.bel⟩
end
def vT (b:Bool) (ns:List S44) (ks:List S32):List S32:=if b then (toks ns ks).drop 1 else toks ns ks
structure ML (w:World) (s:ByteArray) (ns:List S44) (ks:List S32) (kq p j:Nat) (b:Bool) (ps:List (Rs × Rs)) (kr vr:Rs) (W:World):Prop where
 rest:lH s p (vT b (ns.drop j) (ks.drop j))
 kq:kq=s.size - p
 len:ps.length=j
 nok:fH s (ns.take j) ps
 kok:gX s (ks.take j) ps
 key:b=true→∃ n,ns[j]?=some n∧oZ s n kr
 am:AM w s (mapD ps) j kr vr W
structure Tk (s:ByteArray) (p m:Nat) (kd:Int) (r:Rs):Prop where
 raw:r.raw=s.extract p m
 kind:r.k=gjk kd
 str:kd=4→∃ q,m=q+1∧p < q∧Says s (p+1) q r.str
theorem zY (w:World) (s:ByteArray):AM w s (mapD []) 0 rs0 rs0 (((((w.alloc (.cells (gW ⟨5,s,⟨#[]⟩,0,0⟩) 67)).alloc (.cells #[.slice none 0 0,.slice none 0 0,.map (some (w.heap.size+1+1+1+1)),.map none,.int .u8 123] 107)).alloc (.cells (gW rs0) 67)).alloc (.cells (gW rs0) 67)).alloc (.map #[] 0)):=by
 obtain ⟨w1,h1⟩:∃ x,w.alloc (.cells (gW ⟨5,s,⟨#[]⟩,0,0⟩) 67)=x:=⟨_,rfl⟩
 obtain ⟨w2,h2⟩:∃ x,w1.alloc (.cells #[.slice none 0 0,.slice none 0 0,.map (some (w.heap.size+1+1+1+1)),.map none,.int .u8 123] 107)=x:=⟨_,rfl⟩
 obtain ⟨w3,h3⟩:∃ x,w2.alloc (.cells (gW rs0) 67)=x:=⟨_,rfl⟩
 obtain ⟨w4,h4⟩:∃ x,w3.alloc (.cells (gW rs0) 67)=x:=⟨_,rfl⟩
 have z1:w1.heap.size=w.heap.size+1:=by rw [← h1];simp
 have z2:w2.heap.size=w.heap.size+2:=by rw [← h2];simp [z1]
 have z3:w3.heap.size=w.heap.size+3:=by rw [← h3];simp [z2]
 have z4:w4.heap.size=w.heap.size+4:=by rw [← h4];simp [z3]
 rw [h1,h2,h3,h4]
 have k1:=fM w (.cells (gW ⟨5,s,⟨#[]⟩,0,0⟩) 67)
 have k2:=fM w1 (.cells #[.slice none 0 0,.slice none 0 0,.map (some (w.heap.size+1+1+1+1)),.map none,.int .u8 123] 107)
 have k3:=fM w2 (.cells (gW rs0) 67)
 have k4:=fM w3 (.cells (gW rs0) 67)
 have k5:=World.ownsMap_made (H:=Value) w4 Tryz.prog 9 RV
 rw [h1] at k1
 rw [h2,z1] at k2
 rw [h3,z2] at k3
 rw [h4,z3] at k4
 rw [z4] at k5
 have k1':=aJ (aJ k1 (.cells #[.slice none 0 0,.slice none 0 0,.map (some (w.heap.size+1+1+1+1)),.map none,.int .u8 123] 107)) (.cells (gW rs0) 67)
 rw [h2,h3] at k1'
 have k2':=aJ k2 (.cells (gW rs0) 67)
 rw [h3] at k2'
 have k1'':=aJ k1' (.cells (gW rs0) 67)
 rw [h4] at k1''
 have k2'':=aJ k2' (.cells (gW rs0) 67)
 rw [h4] at k2''
 have k3'':=aJ k3 (.cells (gW rs0) 67)
 rw [h4] at k3''
 refine ⟨aJ k1'' _,aJ k2'' _,aJ k3'' _,aJ k4 _,k5,?_⟩
 rw [← h4,← h3,← h2,← h1]
 exact ah (ah (ah (ah (ah (Below.refl _ _) _) _) _) _) _
theorem yQ {s:ByteArray} {a q:Nat} {v:ByteArray} (h:Says s a q v):v.size≤s.size:=by
 obtain ⟨l,h1,rfl⟩:=h
 have h2:=h1.size
 have h3:(strOfNums l).size=l.length:=by
  show (strOfNums l).data.size=_
  rw [← Array.length_toList,strOfNums_data,List.length_map]
 rw [ByteArray.size_extract] at h2
 omega
theorem rZ {N:List S44} {K:List S32} {t:S32} {l:List S32} (h:toks N K=t :: l):∃ n N' k K',N=n :: N'∧K=k :: K'∧t=⟨4,n.f0,n.f1,[],[]⟩∧l=k :: toks N' K':=by
 cases N with
 | nil=>simp [toks] at h
 | cons n N' =>
   cases K with
   | nil=>simp [toks] at h
   | cons k K' =>
     unfold toks at h
     injection h with h1 h2
     exact ⟨n,N',k,K',rfl,rfl,h1.symm,h2.symm⟩
theorem yR {N:List S44} {K:List S32} {t:S32} {l:List S32} (h:(toks N K).drop 1=t :: l):∃ n N' K',N=n :: N'∧K=t :: K'∧l=toks N' K':=by
 cases hT:toks N K with
 | nil=>rw [hT] at h;simp at h
 | cons a r =>
   obtain ⟨n,N',k,K',e1,e2,e3,e4⟩:=rZ hT
   rw [hT,List.drop_one,List.tail_cons,e4] at h
   injection h with h1 h2
   exact ⟨n,N',K',e1,by rw [e2,h1],h2.symm⟩
theorem drop_cons {α:Type} {l l':List α} {j:Nat} {x:α} (h:l.drop j=x :: l'):l[j]?=some x∧l.drop (j+1)=l'∧l.take (j+1)=l.take j ++ [x]:=by
 have h1:l[j]?=some x:=by
  have:=congrArg (·[0]?) h
  simpa [List.getElem?_drop] using this
 refine ⟨h1,?_,?_⟩
 ·have:=congrArg (List.drop 1) h
  rw [List.drop_drop] at this
  simpa using this
 ·rw [List.take_add_one,h1]
  rfl
section
variable {w W W':World} {s:ByteArray} {ns:List S44} {ks:List S32} {kq p j m:Nat} {b:Bool} {ps:List (Rs × Rs)} {kr vr vq:Rs} {kd:Int} {nsx:List S44} {ksx l:List S32}
theorem ML.name (h:ML w s ns ks kq p j false ps kr vr W) (hs:m≤s.size) (ht:lH s m l) (hl:vT false (ns.drop j) (ks.drop j)=⟨kd,(p:Nat),(m:Nat),nsx,ksx⟩ :: l) (hT:Tk s p m kd vq) (hA:AM w s (mapD ps) j vq vq W') :
 ML w s ns ks (s.size - m) m j true ps vq vq W':=by
 obtain ⟨n,N',k,K',e1,e2,e3,e4⟩:=rZ (show toks (ns.drop j) (ks.drop j)=_ from hl)
 injection e3 with f0 f1 f2 f3 f4
 obtain ⟨q,g1,g2,g3⟩:=hT.str f0
 have hn:oZ s n vq:=⟨⟨p,q,f1.symm,by rw [← f2,g1],g2,by omega,by rw [hT.raw,g1],g3⟩,by rw [hT.kind,f0];rfl⟩
 refine ⟨?_,rfl,h.len,h.nok,h.kok,fun _=>⟨n,(drop_cons e1).1,hn⟩,hA⟩
 unfold vT
 rw [if_pos rfl,e1,e2,toks,List.drop_one,List.tail_cons,← e4]
 exact ht
theorem ML.value (h:ML w s ns ks kq p j true ps kr vr W) (hs:m≤s.size) (hpm:p < m) (ht:lH s m l) (hl:vT true (ns.drop j) (ks.drop j)=⟨kd,(p:Nat),(m:Nat),nsx,ksx⟩ :: l) (hT:Tk s p m kd vq) (hA:AM w s (mapD (ps ++ [(kr,vq)])) (j+1) kr vq W') :
 ML w s ns ks (s.size - m) m (j+1) false (ps ++ [(kr,vq)]) kr vq W':=by
 obtain ⟨n,N',K',e1,e2,e3⟩:=yR (show (toks (ns.drop j) (ks.drop j)).drop 1=_ from hl)
 obtain ⟨n1,n2,n3⟩:=drop_cons e1
 obtain ⟨k1,k2,k3⟩:=drop_cons e2
 obtain ⟨n',h1,h2⟩:=h.key rfl
 obtain rfl:n=n':=by rw [n1] at h1;exact Option.some.inj h1
 have hk:wP s ⟨kd,(p:Nat),(m:Nat),nsx,ksx⟩ vq:=⟨⟨p,m,rfl,rfl,hpm,hs,hT.raw,hT.str⟩,hT.kind,DZ hpm hs vq hT.raw⟩
 refine ⟨?_,rfl,by rw [List.length_append,h.len];rfl,by rw [n3];exact fH.snoc h2 h.nok,by rw [k3];exact gX.snoc hk h.kok,(fun h=>absurd h (by decide)),hA⟩
 show lH s m (toks (ns.drop (j+1)) (ks.drop (j+1)))
 rw [n2,k2,← e3]
 exact ht
theorem ML.small (h:ML w s ns ks kq p j b ps kr vr W) (hns:ns.length≤65536):j≤65536:=by
 have h1:=fH.length h.nok
 rw [List.length_take,h.len] at h1
 omega
theorem ML.full (h:ML w s ns ks kq p j b ps kr vr W) (hlen:ns.length=ks.length) (hl:vT b (ns.drop j) (ks.drop j)=[]):fH s ns ps∧gX s ks ps:=by
 have h1:=fH.length h.nok
 rw [List.length_take,h.len] at h1
 have key:ns.length≤j:=by
  rcases Nat.lt_or_ge j ns.length with hj | hj
  ·exfalso
   have e1:ns.drop j=ns[j] :: ns.drop (j+1):=List.drop_eq_getElem_cons hj
   have e2:ks.drop j=ks[j]'(by omega) :: ks.drop (j+1):=List.drop_eq_getElem_cons (by omega)
   unfold vT at hl
   rw [e1,e2,toks] at hl
   cases b <;> simp at hl
  ·exact hj
 have h2:=h.nok
 have h3:=h.kok
 rw [List.take_of_length_le key] at h2
 rw [List.take_of_length_le (by omega)] at h3
 exact ⟨h2,h3⟩
end
def o9 (k:Nat):Code→Option Code
 | .block n c=>if n=k then some (.block n c) else o9 k c
 | .seq a b=>match o9 k a with
   | some r=>some r
   | none=>o9 k b
 | .cond _ a b=>match o9 k a with
   | some r=>some r
   | none=>o9 k b
 | .loop c=>o9 k c
 | .scope c=>o9 k c
 | _=>none
def AU (f:Func) (k:Nat):Option Code:=f.body.bind (o9 k)
theorem Ac {w wr:World} {B:Nat} {s:ByteArray} (hs:s.size≤65536) (hT:ae (Tabs B w)) {p m:Nat} {kd:Int} {nsx:List S44} {ksx:List S32} (g1:J s .val p m kd nsx ksx) (g2:Prd s p) (g3:kd=4∨After s m) (hps:p < s.size) {D:DataW Value} {j:Nat} {kr vr:Rs} (hA:AM w s D j kr vr wr)
 (c:Code) (hcd:AU Tryz.f67 6=some c) {x0 x1 x2 x3 x4 x5 x6 x10 x11 x12 x13 x14 x15 x16 x17 x18 x19 x20 x21 x22 x23 x24 x25 x26 x27 x28 x29 x30 x31 x32 x33 x34 x35 x36 x37 x38 x39 x40 x41 x42 x43 x44 x45 x46 x47 x48 x49 x50 x51 x52 x53 x54 x55 x56 x57 x58 x59 x60 x61 x62 x63 x64 x65 x66 x67 x68 x69 x70 x71 x72 x73 x74 x75 x76 x77 x78 x79 x80 x81 x82 x83 x84 x85 x86 x87 x88 x89 x90 x91 x92 x93 x94 x95 x96 x97 x98 x99 x100 x101 x103 x104 x105 x106 x107 x108 x109 x110 x111 x112 x113 x114 x115 x116 x117 x118 x119 x120 x121 x122 x123 x124 x125 x126 x127 x128 x129 x130 x131 x132 x133 x134 x135 x136 x137 x138 x139 x140 x141 x142 x143 x144 x145 x146 x147 x148 x149 x150 x151 x152 x153 x154 x155 x156 x157 x158 x159 x160 x161 x162 x163 x164 x165 x166 x167 x168 x169 x170 x171 x172 x173 x174 x175 x176 x177 x178 x179 x180 x181 x182 x183 x184 x185 x186 x187 x188 x189 x190 x191 x192 x193 x194 x195 x196 x197 x198 x199 x200 x201 x202 x203 x204 x205 x206 x207 x208 x209 x210 x211 x212 x213 x214 x215 x216 x217 x218 x219 x220 x221 x222 x223 x224 x225 x226 x227 x228 x229 x230 x231 x232 x233 x234 x235 x236 x237 x238 x239 x240 x241 x242 x243 x244 x245 x246 x247 x248 x249 x250 x251 x252 x253 x254 x255 x256 x257 x258 x259 x260 x261 x262 x263 x264 x265 x266 x267 x268 x269 x270 x271 x272 x273 x274 x275 x276 x277 x278 x279 x280 x281 x282 x283 x284 x285 x286 x287 x288:Value} (K:Act→World→Prop) (Q:Exit→Act→World→Prop)
 (hK:∀ {y103 y104 y105 y106 y107 y108 y109 y110 y111 y112 y113 y114 y115 y116 y117 y118 y119 y120 y121 y122 y123 y124 y125 y126 y127 y128 y129 y130 y131 y132 y133 y134 y135 y136 y137 y138 y139 y140 y141 y142 y143 y144 y145 y146 y147 y148 y149 y150 y151 y152 y153 y154 y155 y156 y157 y158 y159 y160 y161 y162 y163 y164 y165 y166 y167 y168 y169 y170 y171 y172 y173 y174 y175 y176 y177 y178 y179 y180 y181 y182 y183:Value} {vr':Rs} {wc:World},Tk s p m kd vr'→AM w s D j kr vr' wc→K ⟨#[x0,x1,x2,x3,x4,x5,x6,.string s,.int .i64 (p:Int),.pointer (some ⟨w.heap.size+1+1,0,none⟩),x10,x11,x12,x13,x14,x15,x16,x17,x18,x19,x20,x21,x22,x23,x24,x25,x26,x27,x28,x29,x30,x31,x32,x33,x34,x35,x36,x37,x38,x39,x40,x41,x42,x43,x44,x45,x46,x47,x48,x49,x50,x51,x52,x53,x54,x55,x56,x57,x58,x59,x60,x61,x62,x63,x64,x65,x66,x67,x68,x69,x70,x71,x72,x73,x74,x75,x76,x77,x78,x79,x80,x81,x82,x83,x84,x85,x86,x87,x88,x89,x90,x91,x92,x93,x94,x95,x96,x97,x98,x99,x100,x101,.int .u8 (bt s p),y103,y104,y105,y106,y107,y108,y109,y110,y111,y112,y113,y114,y115,y116,y117,y118,y119,y120,y121,y122,y123,y124,y125,y126,y127,y128,y129,y130,y131,y132,y133,y134,y135,y136,y137,y138,y139,y140,y141,y142,y143,y144,y145,y146,y147,y148,y149,y150,y151,y152,y153,y154,y155,y156,y157,y158,y159,y160,y161,y162,y163,y164,y165,y166,y167,y168,y169,y170,y171,y172,y173,y174,y175,y176,y177,y178,y179,y180,y181,y182,y183,x184,x185,x186,x187,x188,x189,x190,x191,x192,x193,x194,x195,x196,x197,x198,x199,x200,x201,x202,x203,x204,x205,x206,x207,x208,x209,x210,x211,x212,x213,x214,x215,x216,x217,x218,x219,x220,x221,x222,x223,x224,x225,x226,x227,x228,x229,x230,x231,x232,x233,x234,x235,x236,x237,x238,x239,x240,x241,x242,x243,x244,x245,x246,x247,x248,x249,x250,x251,x252,x253,x254,x255,x256,x257,x258,x259,x260,x261,x262,x263,x264,x265,x266,x267,x268,x269,x270,x271,x272,x273,x274,x275,x276,x277,x278,x279,x280,x281,x282,x283,x284,x285,x286,x287,x288],[]⟩ wc) :
 c.wp Tryz.prog (Exit.then K Q) ⟨#[x0,x1,x2,x3,x4,x5,x6,.string s,.int .i64 (p:Int),.pointer (some ⟨w.heap.size+1+1,0,none⟩),x10,x11,x12,x13,x14,x15,x16,x17,x18,x19,x20,x21,x22,x23,x24,x25,x26,x27,x28,x29,x30,x31,x32,x33,x34,x35,x36,x37,x38,x39,x40,x41,x42,x43,x44,x45,x46,x47,x48,x49,x50,x51,x52,x53,x54,x55,x56,x57,x58,x59,x60,x61,x62,x63,x64,x65,x66,x67,x68,x69,x70,x71,x72,x73,x74,x75,x76,x77,x78,x79,x80,x81,x82,x83,x84,x85,x86,x87,x88,x89,x90,x91,x92,x93,x94,x95,x96,x97,x98,x99,x100,x101,.int .u8 (bt s p),x103,x104,x105,x106,x107,x108,x109,x110,x111,x112,x113,x114,x115,x116,x117,x118,x119,x120,x121,x122,x123,x124,x125,x126,x127,x128,x129,x130,x131,x132,x133,x134,x135,x136,x137,x138,x139,x140,x141,x142,x143,x144,x145,x146,x147,x148,x149,x150,x151,x152,x153,x154,x155,x156,x157,x158,x159,x160,x161,x162,x163,x164,x165,x166,x167,x168,x169,x170,x171,x172,x173,x174,x175,x176,x177,x178,x179,x180,x181,x182,x183,x184,x185,x186,x187,x188,x189,x190,x191,x192,x193,x194,x195,x196,x197,x198,x199,x200,x201,x202,x203,x204,x205,x206,x207,x208,x209,x210,x211,x212,x213,x214,x215,x216,x217,x218,x219,x220,x221,x222,x223,x224,x225,x226,x227,x228,x229,x230,x231,x232,x233,x234,x235,x236,x237,x238,x239,x240,x241,x242,x243,x244,x245,x246,x247,x248,x249,x250,x251,x252,x253,x254,x255,x256,x257,x258,x259,x260,x261,x262,x263,x264,x265,x266,x267,x268,x269,x270,x271,x272,x273,x274,x275,x276,x277,x278,x279,x280,x281,x282,x283,x284,x285,x286,x287,x288],[]⟩ wr:=by
 have j0:((0:Int)≤(p:Int))=True:=eq_true (by omega)
 have j1:((p:Int) < (s.size:Int))=True:=eq_true (by omega)
 have j2:(p < s.size)=True:=eq_true hps
 have sl1:((p:Int)≤(s.size:Int))=True:=eq_true (by omega)
 have t0:((s[p]'hps).toNat:Int)=bt s p:=by simpa using dI s p (by simpa using hps)
 obtain ⟨c',hc',hcc⟩:∃ c',AU Tryz.f67 6=some c'∧c=c':=⟨c,hcd,rfl⟩
 have h6:AU Tryz.f67 6=some _:=rfl
 rw [h6] at hc'
 obtain rfl:=Option.some.inj hc'
 subst hcc
 clear hcd h6
 rcases l9 g1 with ⟨hk,hc⟩ | ⟨hk,hc⟩ | ⟨hk,hc⟩ | ⟨hk,hc⟩ | ⟨hk,hc⟩ | ⟨hk,hc⟩ | ⟨hk,hc⟩
 ·subst hk
  have hlit:=fun W=>mP hs g1 (.inl rfl) (g3.resolve_left (by decide)) W
  rw [hc] at t0 hK ⊢
  clear g3
  replace g1:=ae.mk g1
  obtain ⟨a0,a1,a2,a3,a4,a5,af⟩:=hA.ja
  replace hA:=ae.mk hA
  go_wp2_with (fail)
  with_reducible refine (hlit _).mono ?_
  rintro e w4 ⟨rfl,hB4⟩
  have hA2:=(hA.out.jq { vr with k:=0 } 0 _ rfl).below hB4
  clear hB4 a0 a1 a2 a3 a4 a5 af
  obtain ⟨a0,a1,a2,a3,a4,a5,af⟩:=hA2.ja
  replace hA2:=ae.mk hA2
  go_wp2_with (fail)
  exact hK (vr':={ vr with k:=0,raw:=s.extract p m,str:=⟨#[]⟩,num:=0 }) ⟨rfl,rfl,fun h=>absurd h (by decide)⟩ (((hA2.out.jq { vr with k:=0,raw:=s.extract p m } 1 _ rfl).jq { vr with k:=0,raw:=s.extract p m,str:=⟨#[]⟩ } 2 _ rfl).jq _ 3 _ rfl)
 ·subst hk
  have hlit:=fun W=>mP hs g1 (.inr (.inl rfl)) (g3.resolve_left (by decide)) W
  rw [hc] at t0 hK ⊢
  clear g3
  replace g1:=ae.mk g1
  obtain ⟨a0,a1,a2,a3,a4,a5,af⟩:=hA.ja
  replace hA:=ae.mk hA
  go_wp2_with (fail)
  with_reducible refine (hlit _).mono ?_
  rintro e w4 ⟨rfl,hB4⟩
  have hA2:=(hA.out.jq { vr with k:=1 } 0 _ rfl).below hB4
  clear hB4 a0 a1 a2 a3 a4 a5 af
  obtain ⟨a0,a1,a2,a3,a4,a5,af⟩:=hA2.ja
  replace hA2:=ae.mk hA2
  go_wp2_with (fail)
  exact hK (vr':={ vr with k:=1,raw:=s.extract p m,str:=⟨#[]⟩,num:=0 }) ⟨rfl,rfl,fun h=>absurd h (by decide)⟩ (((hA2.out.jq { vr with k:=1,raw:=s.extract p m } 1 _ rfl).jq { vr with k:=1,raw:=s.extract p m,str:=⟨#[]⟩ } 2 _ rfl).jq _ 3 _ rfl)
 ·subst hk
  have hlit:=fun W=>mP hs g1 (.inr (.inr rfl)) (g3.resolve_left (by decide)) W
  rw [hc] at t0 hK ⊢
  clear g3
  replace g1:=ae.mk g1
  obtain ⟨a0,a1,a2,a3,a4,a5,af⟩:=hA.ja
  replace hA:=ae.mk hA
  go_wp2_with (fail)
  with_reducible refine (hlit _).mono ?_
  rintro e w4 ⟨rfl,hB4⟩
  have hA2:=(hA.out.jq { vr with k:=4 } 0 _ rfl).below hB4
  clear hB4 a0 a1 a2 a3 a4 a5 af
  obtain ⟨a0,a1,a2,a3,a4,a5,af⟩:=hA2.ja
  replace hA2:=ae.mk hA2
  go_wp2_with (fail)
  exact hK (vr':={ vr with k:=4,raw:=s.extract p m,str:=⟨#[]⟩,num:=0 }) ⟨rfl,rfl,fun h=>absurd h (by decide)⟩ (((hA2.out.jq { vr with k:=4,raw:=s.extract p m } 1 _ rfl).jq { vr with k:=4,raw:=s.extract p m,str:=⟨#[]⟩ } 2 _ rfl).jq _ 3 _ rfl)
 ·subst hk
  have hnum:=fun W hT=>xG hs g1 (g3.resolve_left (by decide)) B W hT
  have hTW:=hT.out
  clear g3
  replace g1:=ae.mk g1
  have hr:bt s p≤57:=by omega
  have n1:(bt s p == 123)=false:=beq_eq_false_iff_ne.mpr (by omega)
  have n2:(bt s p == 91)=false:=beq_eq_false_iff_ne.mpr (by omega)
  have n3:(bt s p == 110)=false:=beq_eq_false_iff_ne.mpr (by omega)
  have n4:(bt s p == 116)=false:=beq_eq_false_iff_ne.mpr (by omega)
  have n5:(bt s p == 102)=false:=beq_eq_false_iff_ne.mpr (by omega)
  have n6:(bt s p == 34)=false:=beq_eq_false_iff_ne.mpr (by omega)
  have n7:(bt s p≤57)=True:=eq_true hr
  obtain ⟨a0,a1,a2,a3,a4,a5,af⟩:=hA.ja
  replace hA:=ae.mk hA
  have hW1:=hA.out.jq { vr with k:=2 } 0 _ rfl
  have hTW:=hT.out.below (iy hW1.bel hT.out.size)
  have hnum:=hnum _ hTW
  replace hTW:=ae.mk hTW
  replace hW1:=ae.mk hW1
  by_cases h45:bt s p=45
  ·have n8:(48≤bt s p)=False:=eq_false (by omega)
   have n9:(bt s p == 45)=true:=beq_iff_eq.mpr h45
   clear h45 hc hr
   go_wp2_with (fail)
   with_reducible refine hnum.mono ?_
   rintro e w4 ⟨⟨fb,rfl⟩,hB4⟩
   have hA2:=hW1.out.below hB4
   clear hB4 a0 a1 a2 a3 a4 a5 af
   obtain ⟨a0,a1,a2,a3,a4,a5,af⟩:=hA2.ja
   replace hA2:=ae.mk hA2
   go_wp2_with (fail)
   exact hK (vr':={ vr with k:=2,raw:=s.extract p m,num:=fb,str:=⟨#[]⟩ }) ⟨rfl,rfl,fun h=>absurd h (by decide)⟩ (((hA2.out.jq { vr with k:=2,raw:=s.extract p m } 1 _ rfl).jq { vr with k:=2,raw:=s.extract p m,num:=fb } 3 _ rfl).jq _ 2 _ rfl)
  ·have n8:(48≤bt s p)=True:=eq_true (by omega)
   have n9:(bt s p == 45)=false:=beq_eq_false_iff_ne.mpr h45
   clear h45 hc hr
   go_wp2_with (fail)
   with_reducible refine hnum.mono ?_
   rintro e w4 ⟨⟨fb,rfl⟩,hB4⟩
   have hA2:=hW1.out.below hB4
   clear hB4 a0 a1 a2 a3 a4 a5 af
   obtain ⟨a0,a1,a2,a3,a4,a5,af⟩:=hA2.ja
   replace hA2:=ae.mk hA2
   go_wp2_with (fail)
   exact hK (vr':={ vr with k:=2,raw:=s.extract p m,num:=fb,str:=⟨#[]⟩ }) ⟨rfl,rfl,fun h=>absurd h (by decide)⟩ (((hA2.out.jq { vr with k:=2,raw:=s.extract p m } 1 _ rfl).jq { vr with k:=2,raw:=s.extract p m,num:=fb } 3 _ rfl).jq _ 2 _ rfl)
 ·subst hk
  obtain ⟨q,v,hq1,hq2,hsay,hstr⟩:=xh hs g1 g2
  rw [hc] at t0 hK ⊢
  clear g3
  replace g1:=ae.mk g1
  replace hq1:=ae.mk hq1
  replace hsay:=ae.mk hsay
  obtain ⟨a0,a1,a2,a3,a4,a5,af⟩:=hA.ja
  replace hA:=ae.mk hA
  go_wp2_with (fail)
  with_reducible refine (hstr _).mono ?_
  rintro e w4 ⟨rfl,hB4⟩
  have hA2:=(hA.out.jq { vr with k:=3 } 0 _ rfl).below hB4
  clear hB4 a0 a1 a2 a3 a4 a5 af
  obtain ⟨a0,a1,a2,a3,a4,a5,af⟩:=hA2.ja
  replace hA2:=ae.mk hA2
  go_wp2_with (fail)
  exact hK (vr':={ vr with k:=3,raw:=s.extract p m,str:=v,num:=0 }) ⟨rfl,rfl,fun _=>⟨q,hq1.out,hq2,hsay.out⟩⟩ (((hA2.out.jq { vr with k:=3,raw:=s.extract p m } 1 _ rfl).jq { vr with k:=3,raw:=s.extract p m,str:=v } 2 _ rfl).jq _ 3 _ rfl)
 ·subst hk
  have hbr:=fun W=>zX hs g1 (.inl rfl) W
  rw [hc] at t0 hK ⊢
  clear g3
  replace g1:=ae.mk g1
  obtain ⟨a0,a1,a2,a3,a4,a5,af⟩:=hA.ja
  replace hA:=ae.mk hA
  go_wp2_with (fail)
  with_reducible refine (hbr _).mono ?_
  rintro e w4 ⟨rfl,rfl⟩
  have hA2:=hA.out.jq { vr with k:=5 } 0 _ rfl
  clear a0 a1 a2 a3 a4 a5 af
  obtain ⟨a0,a1,a2,a3,a4,a5,af⟩:=hA2.ja
  replace hA2:=ae.mk hA2
  go_wp2_with (fail)
  exact hK (vr':={ vr with k:=5,raw:=s.extract p m,str:=⟨#[]⟩,num:=0 }) ⟨rfl,rfl,fun h=>absurd h (by decide)⟩ (((hA2.out.jq { vr with k:=5,raw:=s.extract p m } 1 _ rfl).jq { vr with k:=5,raw:=s.extract p m,str:=⟨#[]⟩ } 2 _ rfl).jq _ 3 _ rfl)
 ·subst hk
  have hbr:=fun W=>zX hs g1 (.inr rfl) W
  rw [hc] at t0 hK ⊢
  clear g3
  replace g1:=ae.mk g1
  obtain ⟨a0,a1,a2,a3,a4,a5,af⟩:=hA.ja
  replace hA:=ae.mk hA
  go_wp2_with (fail)
  with_reducible refine (hbr _).mono ?_
  rintro e w4 ⟨rfl,rfl⟩
  have hA2:=hA.out.jq { vr with k:=5 } 0 _ rfl
  clear a0 a1 a2 a3 a4 a5 af
  obtain ⟨a0,a1,a2,a3,a4,a5,af⟩:=hA2.ja
  replace hA2:=ae.mk hA2
  go_wp2_with (fail)
  exact hK (vr':={ vr with k:=5,raw:=s.extract p m,str:=⟨#[]⟩,num:=0 }) ⟨rfl,rfl,fun h=>absurd h (by decide)⟩ (((hA2.out.jq { vr with k:=5,raw:=s.extract p m } 1 _ rfl).jq { vr with k:=5,raw:=s.extract p m,str:=⟨#[]⟩ } 2 _ rfl).jq _ 3 _ rfl)
end Go.Proofs.YtpgfjbimodnkeaaGreatDoor.Dec
