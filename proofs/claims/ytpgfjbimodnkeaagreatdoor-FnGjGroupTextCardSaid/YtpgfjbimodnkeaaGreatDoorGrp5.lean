/- FnGjGroupText: whatever text comes in, the law returns true and the text reads afterwards as before; with the fourteen package-level variables that its row lists as the text of the program lays them (the tied card) (part 5 of 33: lemmas for its last part) -/
import GoSem.PinnedTables
import Derived.WalkMore
import Derived.Test.YtpgfjbimodnkeaaGreatDoorGrp1
import Derived.Test.YtpgfjbimodnkeaaGreatDoorGrp2
set_option maxHeartbeats 16000000
set_option maxRecDepth 100000
set_option linter.unusedVariables false
set_option linter.unusedSimpArgs false
namespace Go.Proofs.YtpgfjbimodnkeaaGreatDoor.Dec
open Go
def fZ (k:Nat):Nat × List UInt8:=Go.Pinned.cheatRows.getD k (0,[])
def jv (k:Nat) (j:Nat):Nat:=((fZ k).2.getD j 0).toNat
def jb (k:Nat):Nat:=(fZ k).2.length
def zX (k:Nat):Bool :=
 (List.range (jb k)).all (fun j=>decide (48≤jv k j) && decide (jv k j≤57)) && (decide (jv k (jb k - 1)≠48)) &&
 decide (10 ^ ((fZ k).1 - 1)≤2 ^ k) && decide (2 ^ k < 10 ^ (fZ k).1) && decide (val (jv k) 0 (jb k)*2 ^ k=10 ^ (jb k+(fZ k).1 - 1)) && decide (0 < (fZ k).1) && decide ((fZ k).1≤19) && decide (jb k≤42)
theorem BO:∀ k,k < 61→0 < k→zX k=true:=by decide +kernel
theorem DN {k:Nat} (hk:k < 61) (h0:0 < k):GK k (fZ k).1 (jb k) (jv k)∧(fZ k).1≤19∧jb k≤42:=by
 have h:=BO k hk h0
 simp only [zX,Bool.and_eq_true,decide_eq_true_eq,List.all_eq_true,List.mem_range] at h
 obtain ⟨⟨⟨⟨⟨⟨⟨h1,h2⟩,h3⟩,h4⟩,h5⟩,h6⟩,h7⟩,h8⟩:=h
 exact ⟨⟨h1,fun _=>h2,h3,h4,h5,h6⟩,h7,h8⟩
open Go Go.RowKit Go.Proofs.YtpgfjbimodnkeaaGreatDoorW.PrintWords
def dn (a:Nat→Int):Nat→Nat:=fun j=>(a j).toNat
def cn (s:ByteArray):Nat→Nat:=fun j=>(bt s j).toNat
def jr (k:Nat):ByteArray:=⟨(fZ k).2.toArray⟩
theorem lU (k:Nat):(jr k).size=jb k:=by
 simp [jr,jb,ByteArray.size]
theorem xZ (k:Nat):cn (jr k)=jv k:=by
 funext j
 have hb:(jr k).size=(fZ k).2.length:=lU k
 by_cases h:j < (jr k).size
 ·simp only [cn,bt,Int.toNat_natCast,jv,dif_pos h]
  have h':j < (fZ k).2.length:=by omega
  simp [jr,ByteArray.getElem_eq_getElem_data,List.getD_eq_getElem?_getD,h']
 ·simp only [cn,bt,Int.toNat_natCast,jv,dif_neg h]
  have h':(fZ k).2.length≤j:=by omega
  simp [List.getD_eq_getElem?_getD,h']
def wO (w:World):Prop :=
 ∃ (b:Addr) (cc:Nat),w.cell? ⟨10,0,none⟩=some (.slice (some b) 61 cc)∧∀ k,k < 61 →
  w.cell? (b.add (k*2))=some (.int .i64 ((fZ k).1:Nat))∧w.cell? ⟨(b.add (k*2)).block,(b.add (k*2)).off+1,none⟩=some (.string (jr k))
open Go Go.RowKit Go.Proofs.YtpgfjbimodnkeaaGreatDoorW.PrintWords Go.Proofs.YtpgfjbimodnkeaaGreatDoorW.PrintLast Go.Proofs.YtpgfjbimodnkeaaGreatDoorW.PrintMore
attribute [local go_sem] add0
theorem yK (w:World) (g n:Nat) (a:Nat→Int) (nd dp:Int) (neg tr:Bool) (s:ByteArray) (hD:dI w g a nd dp neg tr) (h:Good a n) (hs:s.size≤1000) :
 Calls Tryz.prog 181 #[.slice (some ⟨g,0,none⟩) n 800,.string s] w fun e w'=>e = .returned (.bool (less (dn a) (cn s) 0 n 0 s.size))∧aj w w':=by
 go_enter Tryz.func181,Tryz.ntmps181
 go_wp2
 repeat (go_quiet (fail);try go_wp2)
 go_loopg [5] s.size (fun kq v5 w'=>∃ (i:Nat),v5 = .int .i64 (i:Int)∧kq=s.size - i∧i≤s.size∧i≤n∧less (dn a) (cn s) 0 n 0 s.size=less (dn a) (cn s) i (n - i) i (s.size - i)∧aj w w')
 case atStart=>exact ⟨0,rfl,rfl,by omega,by omega,rfl,aj.refl _⟩
 case round =>
  obtain ⟨i,rfl,hk,hi,hin,he,hW⟩:=hrel
  obtain ⟨m,rfl⟩:=hW
  have hn:=h.high
  have wi:IntKind.i64.wrap ((i:Int)+1)=((i+1:Nat):Int):=by rw [bf];unfold wrap64;omega
  by_cases c1:i < s.size
  ·have c1b:decide ((i:Int) < (s.size:Int))=true:=decide_eq_true (by omega)
   obtain ⟨L,hL⟩:∃ L,s.size - i=L+1:=⟨s.size - i - 1,by omega⟩
   by_cases c2:n≤i
   ·have c2b:decide ((n:Int)≤(i:Int))=true:=decide_eq_true (by omega)
    have hz:n - i=0:=by omega
    go_wp2
    repeat (go_quiet (fail);try go_wp2)
    go_ret
    refine ⟨?_,by repeat (first | exact aj.refl _ | apply aj.step)⟩
    rw [he,hL,hz];rfl
   ·have c2b:decide ((n:Int)≤(i:Int))=false:=decide_eq_false (by omega)
    obtain ⟨N,hN⟩:∃ N,n - i=N+1:=⟨n - i - 1,by omega⟩
    have e3:=hD.dig (i:=i) (by omega)
    have p1:0≤(i:Int):=by omega
    have q1:(i:Int) < (n:Int):=by omega
    have q2:(i:Int) < (s.size:Int):=by omega
    have hx:((s[i]'c1).toNat:Int)=bt s (i:Int):=cZ s (i:Int) (by simpa using c1)
    have r1:=eG s (i:Int)
    have r2:=h.dig i (by omega)
    have r2:=h.dig i (by omega)
    replace p1:=eq_true p1
    replace q1:=eq_true q1
    replace q2:=eq_true q2
    by_cases c3:a i=bt s i
    ·have c3b:(a i != bt s i)=false:=bne_eq_false_iff_eq.mpr c3
     go_wp2
     repeat (go_quiet (fail);try go_wp2)
     go_roundg (s.size - (i+1))
     case measure=>omega
     case rel =>
      refine ⟨i+1,rfl,rfl,by omega,by omega,?_,by repeat (first | exact aj.refl _ | apply aj.step)⟩
      rw [he,hL,hN]
      have:dn a i=cn s i:=by simp [dn,cn,c3]
      simp only [less,this,if_true]
      congr 1 <;> omega
    ·have c3b:(a i != bt s i)=true:=bne_iff_ne.mpr c3
     go_wp2
     repeat (go_quiet (fail);try go_wp2)
     go_ret
     refine ⟨?_,by repeat (first | exact aj.refl _ | apply aj.step)⟩
     rw [he,hL,hN]
     have:dn a i≠cn s i:=by simp only [dn,cn];omega
     simp only [less,this,if_false]
     have:(decide (a i < bt s i))=decide (dn a i < cn s i):=by
      simp only [dn,cn]
      congr 1
      exact propext (by omega)
     first | (rw [this];rfl) | (simp [this];done) | (rw [this];simp)
  ·have c1b:decide ((i:Int) < (s.size:Int))=false:=decide_eq_false (by omega)
   have hz:s.size - i=0:=by omega
   go_wp2
   repeat (go_quiet (fail);try go_wp2)
   go_ret
   refine ⟨?_,by repeat (first | exact aj.refl _ | apply aj.step)⟩
   rw [he,hz];simp [less]
attribute [local go_sem] add0
theorem pJ (w:World) (g:Nat) (a:Nat→Int) (nd dp:Int) (neg tr:Bool) (hD:dI w g a nd dp neg tr) (h:Good a nd) :
 Calls Tryz.prog 182 #[.pointer (some ⟨g,0,none⟩)] w fun e w'=>e = .returned (.tuple #[])∧∃ nd' dp',dI w' g a nd' dp' neg tr∧Good a nd'∧nd'≤nd∧(0 < nd→0 < nd'∧dp'=dp)∧(dp'=dp∨dp'=0)∧Below g w w':=by
 have HB:=Below.refl g w
 go_enter Tryz.func182,Tryz.ntmps182
 go_wp2
 repeat (go_quiet (fail);try go_wp2)
 go_loopg [] nd.toNat (fun kq w'=>∃ (n:Int),kq=n.toNat∧dI w' g a n dp neg tr∧Good a n∧n≤nd∧(0 < nd→0 < n)∧Below g w w')
 case atStart=>exact ⟨nd,rfl,hD,h,Int.le_refl _,id,HB⟩
 case round =>
  obtain ⟨n,hn,hD,hG,hle,hpos,HB⟩:=hrel
  have e1:=hD.jH
  have e2:=hD.frozen
  have e4:=hD.jV
  by_cases c:0 < n
  ·have c1:decide (0 < n)=true:=decide_eq_true c
   obtain ⟨m,rfl⟩:∃ m:Nat,n=(m:Int)+1:=⟨(n - 1).toNat,by omega⟩
   have hm:=hG.high
   have hw:IntKind.i64.wrap ((m:Int)+1 - 1)=(m:Int):=by rw [bf];unfold wrap64;omega
   have e3:=hD.dig (i:=m) (by omega)
   have p1:0≤(m:Int):=by omega
   have q1:(m:Int) < 800:=by omega
   replace p1:=eq_true p1
   replace q1:=eq_true q1
   by_cases c2:a m=48
   ·have c2b:(a m == 48)=true:=beq_iff_eq.mpr c2
    have hm0:0 < m:=by
     refine Nat.pos_of_ne_zero (fun h0=>?_)
     subst h0
     exact hG.first (by omega) c2
    go_wp2
    repeat (go_quiet (fail);try go_wp2)
    go_roundg m
    case measure=>omega
    case rel=>exact ⟨(m:Int),by omega,(hD.drewN' _).pF _,hG.less (by omega) (by omega),by omega,fun _=>by omega,(ag HB _).setCell (Nat.le_refl _) _⟩
   ·have c2b:(a m == 48)=false:=beq_eq_false_iff_ne.mpr c2
    have c3:((m:Int)+1 == 0)=false:=beq_eq_false_iff_ne.mpr (by omega)
    go_wp2
    repeat (go_quiet (fail);try go_wp2)
    first | go_end0 | ((try simp only [Exit.inBlock,Exit.then]);refine bodyPost_ret (results_none rfl _ _ _) rfl ?_)
    exact ⟨by first | rfl | simp,_,_,hD.drewN' _,hG,hle,fun hp=>⟨hpos hp,rfl⟩,.inl rfl,ag HB _⟩
  ·have c1:decide (0 < n)=false:=decide_eq_false c
   have hz:n=0:=by have:=hG.low;omega
   subst hz
   have c3:((0:Int) == 0)=true:=rfl
   go_wp2
   repeat (go_quiet (fail);try go_wp2)
   first | go_end0 | ((try simp only [Exit.inBlock,Exit.then]);refine bodyPost_ret (results_none rfl _ _ _) rfl ?_)
   exact ⟨by first | rfl | simp,_,_,(hD.drewN' _).qN _,hG,hle,fun hp=>absurd (hpos hp) (by omega),.inr rfl,(ag HB _).setCell (Nat.le_refl _) _⟩
attribute [local go_sem] add0
theorem lW {x:Int} (h0:0≤x) (h1:x < 18446744073709551616):IntKind.u64.wrap x=x:=by
 simp [IntKind.wrap,IntKind.bits,IntKind.signed];omega
structure Ho (a a1:Nat→Int) (nd R δ k:Nat):Prop where
 same:∀ j,j < R+δ→a1 j=a j
 dig:∀ j,R+δ≤j→j < nd+δ→j < 800→48≤a1 j∧a1 j≤57
 last:R < nd→R+δ < 800→a1 (R+δ)=48+((val (dn a) R (nd - R)*2 ^ k / 10 ^ (nd - R - 1) % 10:Nat):Int)
theorem yX (w:World) (g k:Nat) (a:Nat→Int) (nd dp:Int) (neg tr:Bool) (hD:dI w g a nd dp neg tr) (h:Good a nd) (hnd:0 < nd) (hk0:0 < k) (hk:k < 61)
 (hdp:-1000000000≤dp∧dp≤1000000000) (hT:wO w) :
 Calls Tryz.prog 174 #[.pointer (some ⟨g,0,none⟩),.int .u64 k] w fun e w'=>e = .returned (.tuple #[])∧∃ a' nd' dp' tr',dI w' g a' nd' dp' neg tr'∧Good a' nd'∧0 < nd' ∧
  dp≤dp'∧dp'≤dp+19∧(dp'=dp→a 0 < a' 0)∧Below g w w':=by
 have HB:=Below.refl g w
 obtain ⟨b,cc,t1,t2⟩:=hT
 obtain ⟨N,rfl⟩:∃ N:Nat,nd=N:=⟨nd.toNat,by omega⟩
 have t3:=(t2 k hk).1
 have t4:=(t2 k hk).2
 have e1:=hD.jH
 have e2:=hD.frozen
 have e4:=hD.jV
 have hN:=h.high
 have q1:((k:Int) < 61):=by omega
 have p1:(0≤(k:Int)):=by omega
 have p2:(0≤(N:Int)):=by omega
 have q2:((N:Int)≤800):=by omega
 replace p1:=eq_true p1
 replace q1:=eq_true q1
 replace p2:=eq_true p2
 replace q2:=eq_true q2
 obtain ⟨hC,hC1,hC2⟩:=DN hk hk0
 have hless:=yK (n:=N) (s:=jr k) (g:=g) (a:=a) (nd:=N) (dp:=dp) (neg:=neg) (tr:=tr)
 go_enter Tryz.func174,Tryz.ntmps174
 go_wp2
 go_quiet (first | (go_at_call 181;refine (hless _ (hD.drewN _) h (by rw [lU];omega)).mono ?_;rintro e w' ⟨rfl,⟨m,rfl⟩⟩;first | exact ⟨rfl,_,rfl⟩ | exact ⟨rfl,_,World.drewN_drewN _ _ _⟩))
 rw [xZ,lU]
 have hA:∀ j,j < N→kZ (dn a j):=fun j hj=>by have:=h.dig j (by omega);unfold kZ dn;omega
 have hA0:dn a 0≠48:=by have:=h.dig 0 (by omega);have:=h.first hnd;unfold dn;omega
 have hsb:=wE hC (by omega:0 < N) hA hA0
 obtain ⟨δ,hδ⟩:∃ δ,(if less (dn a) (jv k) 0 N 0 (jb k) then (fZ k).1 - 1 else (fZ k).1)=δ:=⟨_,rfl⟩
 simp only [hδ] at hsb
 obtain ⟨hs1,hs2⟩:=hsb
 have hC3:=hC.pos
 have hδ19:δ≤19:=by rw [← hδ];split <;> omega
 have hl:(less (dn a) (jv k) 0 N 0 (jb k)=true∧(fZ k).1=δ+1)∨(less (dn a) (jv k) 0 N 0 (jb k)=false∧δ=(fZ k).1):=by
  cases hq:less (dn a) (jv k) 0 N 0 (jb k)
  ·right;refine ⟨rfl,?_⟩;rw [hq] at hδ;simp at hδ;omega
  ·left;refine ⟨rfl,?_⟩;rw [hq] at hδ;simp at hδ;omega
 clear hδ hless t2
 have w1:IntKind.i64.wrap ((N:Int)+δ)=(N:Int)+δ:=by rw [bf];unfold wrap64;omega
 clear hC hC1 hC2 t4 t1
 generalize (fZ k).1=D at *
 have hlast:δ=0→a 0 - 48 < ((val (dn a) 0 N*2 ^ k / 10 ^ (N - 1) % 10:Nat):Int):=by
  intro h0
  subst h0
  obtain ⟨M,rfl⟩:∃ M,N=M+1:=⟨N - 1,by omega⟩
  have hp:0 < 10 ^ M:=Nat.pow_pos (by decide)
  have g1:val (dn a) 0 (M+1)*2 ^ k / 10 ^ M < 10:=by
   rw [Nat.div_lt_iff_lt_mul hp]
   have:=(Nat.div_lt_iff_lt_mul (Nat.pow_pos (by decide):0 < 10 ^ (M+1))).mp hs1
   rw [Nat.pow_zero,Nat.one_mul,Nat.pow_succ,Nat.mul_comm (10 ^ M)] at this
   exact this
  have g2:(dn a 0 - 48)*2 ^ k≤val (dn a) 0 (M+1)*2 ^ k / 10 ^ M:=by
   rw [← uI (dn a) 0 M (2 ^ k)]
   exact Nat.le_add_right _ _
  have g3:(dn a 0 - 48)*2≤(dn a 0 - 48)*2 ^ k:=Nat.mul_le_mul_left _ (by
   have:=Nat.pow_le_pow_right (show 0 < 2 by decide) hk0
   simpa using this)
  have g4:=h.dig 0 (by omega)
  have g5:=h.first hnd
  rw [Nat.add_sub_cancel,Nat.mod_eq_of_lt g1]
  have g6:(dn a 0:Int)=a 0:=by unfold dn;omega
  omega
 rcases hl with ⟨hl,rfl⟩ | ⟨hl,rfl⟩
 all_goals rw [hl]
 all_goals clear hl t3
 all_goals go_wp2
 all_goals
  go_loopg [5,6,7] N (fun kq v5 v6 v7 w'=>∃ (R n:Nat) (a1:Nat→Int) (tr1:Bool),v5 = .int .i64 ((R:Int) - 1)∧v6 = .int .i64 ((R+δ:Nat):Int)∧v7 = .int .u64 (n:Int)∧n=val (dn a) R (N - R)*2 ^ k / 10 ^ (N - R)∧kq=R∧R≤N∧dI w' g a1 N dp neg tr1∧Ho a a1 N R δ k∧Below g w w')
  case atStart=>exact ⟨N,0,a,tr,rfl,by first | rfl | (congr 1;omega),rfl,by simp [val],rfl,Nat.le_refl _,hD.drewN' _,⟨fun _ _=>rfl,fun j h1 h2=>by omega,fun h1=>by omega⟩,ag HB _⟩
  case round =>
   obtain ⟨R,n,a1,tr1,h5,h6,h7,hn,hkq,hR,hD,hL,HB⟩:=hrel
   have e1:=hD.jH
   have e2:=hD.frozen
   have e4:=hD.jV
   have e5:=hD.kQ
   cases R with
   | zero =>
     rw [show ((0:Nat):Int) - 1=(-1:Int) by omega] at h5
     rw [Nat.zero_add] at h6
     rw [Nat.sub_zero] at hn
     have hdig:∀ j,δ≤j→j < N+δ→j < 800→48≤a1 j∧a1 j≤57:=fun j h1 h2 h3=>hL.dig j (by omega) h2 h3
     have hfirst:δ=0→a 0 < a1 0:=fun h0=>by
      have h1:=hL.last (by omega) (by omega)
      have h2:=hlast h0
      simp only [h0,Nat.sub_zero,Nat.add_zero] at h1
      generalize (val (dn a) 0 N*2 ^ k / 10 ^ (N - 1) % 10)=X at h1 h2
      omega
     rw [← hn] at hs1 hs2
     have AA:=ae.mk (And.intro hn hdig)
     clear hn hL hdig hlast
     subst h5 h6 h7
     have c1:decide (0≤(-1:Int))=false:=rfl
     go_wp2
     go_loopg [6,7] δ (fun kq v6 v7 w'=>∃ (W n:Nat) (a1:Nat→Int) (tr1:Bool),v6 = .int .i64 (W:Int)∧v7 = .int .u64 (n:Int)∧kq=W∧W≤δ∧n < 10 ^ W∧(0 < W→10 ^ (W - 1)≤n)∧dI w' g a1 N dp neg tr1 ∧
      (∀ j,W≤j→j < N+δ→j < 800→48≤a1 j∧a1 j≤57)∧(δ=0→a 0 < a1 0)∧(0 < δ→W=0→a1 0≠48)∧Below g w w')
     case atStart=>exact ⟨δ,n,a1,tr1,rfl,rfl,rfl,Nat.le_refl _,hs1,hs2,hD,AA.out.2,hfirst,fun h1 h2=>by omega,HB⟩
     case round =>
      clear AA hfirst hs1 hs2
      obtain ⟨W,n,a1,tr1,h6,h7,hkq,hWδ,hn1,hn2,hD,hdig,hfirst,hne,HB⟩:=hrel
      have e1:=hD.jH
      have e2:=hD.frozen
      have e4:=hD.jV
      have e5:=hD.kQ
      have h10:10 ^ W≤10 ^ 19:=Nat.pow_le_pow_right (by decide) (by omega)
      cases W with
      | zero =>
        have hn0:n=0:=by simpa using hn1
        subst hn0
        rw [show ((0:Nat):Int)=0 from rfl] at h6 h7
        subst h6 h7
        have c2:decide (0 < (0:Int))=false:=rfl
        have w2:IntKind.i64.wrap (dp+δ)=dp+δ:=by rw [bf];unfold wrap64;omega
        have hG1:∀ i:Nat,(i:Int) < (N:Int)+δ→(i:Int) < 800→48≤a1 i∧a1 i≤57:=fun i h1 h2=>hdig i (by omega) (by omega) (by omega)
        have hne0:a1 0≠48:=by
         by_cases hd:δ=0
         ·have:=hfirst hd;have:=h.dig 0 (by omega);omega
         ·exact hne (by omega) rfl
        have htrim:=fun (W:World) (n':Int) (hW:dI W g a1 n' (dp+δ) neg tr1) (hG:Good a1 n')=>pJ W g a1 n' (dp+δ) neg tr1 hW hG
        by_cases c3:800≤(N:Int)+δ
        ·have c3b:decide (800≤(N:Int)+δ)=true:=decide_eq_true c3
         have hG:Good a1 800:=⟨by omega,by omega,fun i hi=>hG1 i (by omega) hi,fun _=>hne0⟩
         go_wp2_with (first | (go_at_call 182;refine (htrim _ _ (((hD.pF _).pF _).qN _) hG).mono ?_;rintro e w4 ⟨rfl,nd',dp',hD',hG',hle',hpos',hdp',HB'⟩))
         first | go_end0 | ((try simp only [Exit.inBlock,Exit.then]);refine bodyPost_ret (results_none rfl _ _ _) rfl ?_)
         have hpp:=hpos' (by omega)
         exact ⟨by first | rfl | simp,a1,nd',dp',tr1,hD',hG',hpp.1,by omega,by omega,fun he=>hfirst (by omega),((((HB.setCell (Nat.le_refl _) _).setCell (Nat.le_refl _) _).setCell (Nat.le_refl _) _)).trans HB'⟩
        ·have c3b:decide (800≤(N:Int)+δ)=false:=decide_eq_false c3
         have hG:Good a1 ((N:Int)+δ):=⟨by omega,by omega,fun i hi=>hG1 i hi (by omega),fun _=>hne0⟩
         go_wp2_with (first | (go_at_call 182;refine (htrim _ _ ((hD.pF _).qN _) hG).mono ?_;rintro e w4 ⟨rfl,nd',dp',hD',hG',hle',hpos',hdp',HB'⟩))
         first | go_end0 | ((try simp only [Exit.inBlock,Exit.then]);refine bodyPost_ret (results_none rfl _ _ _) rfl ?_)
         have hpp:=hpos' (by omega)
         exact ⟨by first | rfl | simp,a1,nd',dp',tr1,hD',hG',hpp.1,by omega,by omega,fun he=>hfirst (by omega),(((HB.setCell (Nat.le_refl _) _).setCell (Nat.le_refl _) _)).trans HB'⟩
      | succ W =>
        have hnp:0 < n:=Nat.lt_of_lt_of_le (Nat.pow_pos (by decide)) (hn2 (by omega))
        rw [show ((W+1:Nat):Int)=(W:Int)+1 by omega] at h6
        subst h6 h7
        have c2:decide (0 < (n:Int))=true:=decide_eq_true (by omega)
        have hm1:n / 10 < 10 ^ W:=by
         rw [Nat.div_lt_iff_lt_mul (by decide)];rwa [Nat.pow_succ] at hn1
        have hm2:0 < W→10 ^ (W - 1)≤n / 10:=fun hW=>by
         rw [Nat.le_div_iff_mul_le (by decide)]
         have:=hn2 (by omega)
         rw [Nat.add_sub_cancel] at this
         first | (rwa [← Nat.pow_succ,show (W - 1).succ=W by omega]) | (rw [← Nat.pow_succ,show (W - 1).succ=W by omega];exact this)
        have hm3:W=0→n < 10:=fun hW=>by subst hW;simpa using hn1
        have hnb:n < 18446744073709551616:=by omega
        have AA:=ae.mk (And.intro hm1 (And.intro hm2 hm3))
        clear hm1 hm2 hm3 hn1 hn2
        by_cases c3:W < 800
        ·have c3b:decide ((W:Int) < 800)=true:=decide_eq_true (by omega)
         have e7:=hD.dig (i:=W) c3
         have p4:(0≤(W:Int)):=by omega
         have q4:((W:Int) < 800):=by omega
         replace p4:=eq_true p4
         replace q4:=eq_true q4
         go_wp2
         go_roundg W
         case measure=>omega
         case rel =>
          obtain ⟨hm1,hm2,hm3⟩:=AA.out
          refine ⟨W,n / 10,upd a1 W (((n % 10:Nat):Int)+48),tr1,by first | rfl | (congr 1;omega),by first | rfl | (congr 1;omega),rfl,by omega,hm1,hm2,?_,fun j h1 h2 h3=>?_,fun h0=>by omega,fun h1 h2=>?_,HB.setCell (Nat.le_refl _) _⟩
          ·have:=hD.nC c3 (((n % 10:Nat):Int)+48)
           first | exact this | (rw [show (n:Int) - 10*((n:Int) / 10)+48=((n % 10:Nat):Int)+48 by omega];exact this)
          ·by_cases hj:j=W
           ·simp only [upd,if_pos hj];omega
           ·rw [upd,if_neg hj];exact hdig j (by omega) h2 h3
          ·subst h2
           simp only [upd,if_true]
           have:=hm3 rfl
           omega
        ·omega
   | succ r =>
     rw [show ((r+1:Nat):Int) - 1=(r:Int) by omega] at h5
     rw [show ((r+1+δ:Nat):Int)=((r+δ:Nat):Int)+1 by omega] at h6
     have hnk:n < 2 ^ k:=by
      rw [hn,Nat.div_lt_iff_lt_mul (Nat.pow_pos (by decide)),Nat.mul_comm (2 ^ k)]
      exact Nat.mul_lt_mul_of_pos_right (sD _ _ (fun j _ hj=>hA j (by omega))) (Nat.pow_pos (by decide))
     obtain ⟨c,hc⟩:∃ c,dn a r=c+48:=⟨dn a r - 48,by have:=hA r (by omega);unfold kZ at this;omega⟩
     have hc9:c≤9:=by have:=hA r (by omega);unfold kZ at this;omega
     have hac:a r=(c:Int)+48:=by have:=hA r (by omega);unfold kZ at this;unfold dn at hc this;omega
     have hstep:=yI (dn a) r (N - (r+1)) (2 ^ k)
     have hpre:=uI (dn a) r (N - (r+1)) (2 ^ k)
     rw [← hn,hc,Nat.add_sub_cancel,show N - (r+1)+1=N - r by omega] at hstep hpre
     have hk60:2 ^ k≤2 ^ 60:=Nat.pow_le_pow_right (by decide) (by omega)
     obtain ⟨x,hx⟩:∃ x,c*2 ^ k+n=x:=⟨_,rfl⟩
     have hxb:x < 18446744073709551616:=by
      have:c*2 ^ k≤9*2 ^ 60:=Nat.mul_le_mul hc9 hk60
      omega
     rw [hx] at hstep
     obtain ⟨W,hW⟩:∃ W,r+δ=W:=⟨_,rfl⟩
     rw [hW] at h6
     have hWb:W≤900:=by omega
     subst h5 h6 h7
     have c1:decide (0≤(r:Int))=true:=decide_eq_true (by omega)
     have e6:=hD.dig (i:=r) (by omega)
     rw [hL.same r (by omega),hac] at e6
     have p3:(0≤(r:Int)):=by omega
     have q3:((r:Int) < 800):=by omega
     replace p3:=eq_true p3
     replace q3:=eq_true q3
     have u1:IntKind.u64.wrap ((c:Int)+48)=(c:Int)+48:=lW (by omega) (by omega)
     have u2:IntKind.u64.wrap (c:Int)=(c:Int):=lW (by omega) (by omega)
     have u3:IntKind.u64.wrap ((c:Int)*2 ^ k)=(c:Int)*2 ^ k:=by
      rw [show (c:Int)*2 ^ k=((c*2 ^ k:Nat):Int) by simp]
      exact lW (by omega) (by omega)
     have u4:IntKind.u64.wrap ((n:Int)+(c:Int)*2 ^ k)=(x:Int):=by
      rw [show (c:Int)*2 ^ k=((c*2 ^ k:Nat):Int) by simp]
      rw [show (n:Int)+((c*2 ^ k:Nat):Int)=(x:Int) by omega]
      exact lW (by omega) (by omega)
     have u5:IntKind.u64.wrap ((x:Int).tdiv 10)=((x / 10:Nat):Int):=by
      rw [Int.tdiv_eq_ediv_of_nonneg (by omega)]
      rw [lW (by omega) (by omega)];omega
     have u6:IntKind.u64.wrap (10*((x / 10:Nat):Int))=10*((x / 10:Nat):Int):=by
      rw [lW (by omega) (by omega)]
     have u7:IntKind.u64.wrap ((x:Int) - 10*((x / 10:Nat):Int))=((x % 10:Nat):Int):=by
      rw [lW (by omega) (by omega)];omega
     have hd10:x % 10 < 10:=Nat.mod_lt _ (by decide)
     have u8:IntKind.u64.wrap (((x % 10:Nat):Int)+48)=((x % 10:Nat):Int)+48:=lW (by omega) (by omega)
     have u9:(((x % 10:Nat):Int)+48) % 256=((x % 10:Nat):Int)+48:=by omega
     generalize hxd:x / 10=y at *
     generalize hxm:x % 10=z at *
     have AA:=ae.mk (And.intro hn (And.intro hstep (And.intro hpre (And.intro hx (And.intro hxd (And.intro hxm (And.intro hW (And.intro hc hac))))))))
     clear hn hstep hpre hx hxd hxm hW hc hac
     by_cases c2:W < 800
     ·have c2b:decide ((W:Int) < 800)=true:=decide_eq_true (by omega)
      have e7:=hD.dig (i:=W) c2
      have p4:(0≤(W:Int)):=by omega
      have q4:((W:Int) < 800):=by omega
      replace p4:=eq_true p4
      replace q4:=eq_true q4
      go_wp2
      go_roundg r
      case measure=>omega
      case rel =>
       obtain ⟨hn,hstep,hpre,hx,hxd,hxm,hW,hc,hac⟩:=AA.out
       refine ⟨r,y,upd a1 W ((z:Int)+48),tr1,by first | rfl | (congr 1;omega),by first | rfl | (congr 1;omega),by first | rfl | (congr 1;omega),hstep,rfl,by omega,?_,⟨fun j hj=>?_,fun j h1 h2 h3=>?_,fun h1 h2=>?_⟩,HB.setCell (Nat.le_refl _) _⟩
       ·have:=hD.nC c2 ((z:Int)+48)
        first | exact this | (rw [show (x:Int) - 10*((x:Int) / 10)+48=(z:Int)+48 by omega];exact this)
       ·rw [upd,if_neg (by omega)];exact hL.same j (by omega)
       ·by_cases hj:j=W
        ·simp only [upd,if_pos hj];omega
        ·rw [upd,if_neg hj];exact hL.dig j (by omega) h2 h3
       ·rw [hW]
        simp only [upd,if_true]
        rw [show N - r - 1=N - (r+1) by omega,← hpre,hx,hxm];omega
     ·have c2b:decide ((W:Int) < 800)=false:=decide_eq_false (by omega)
      by_cases c3:z=0
      ·have c3b:(((x:Int) - 10*((x:Int) / 10)) != 0)=false:=bne_eq_false_iff_eq.mpr (by have:=AA.out;omega)
       go_wp2
       go_roundg r
       case measure=>omega
       case rel =>
        obtain ⟨hn,hstep,hpre,hx,hxd,hxm,hW,hc,hac⟩:=AA.out
        exact ⟨r,y,a1,tr1,by first | rfl | (congr 1;omega),by first | rfl | (congr 1;omega),by first | rfl | (congr 1;omega),hstep,rfl,by omega,hD,⟨fun j hj=>hL.same j (by omega),fun j h1 h2 h3=>hL.dig j (by omega) h2 h3,fun h1 h2=>by omega⟩,HB⟩
      ·have c3b:(((x:Int) - 10*((x:Int) / 10)) != 0)=true:=bne_iff_ne.mpr (by have:=AA.out;omega)
       go_wp2
       go_roundg r
       case measure=>omega
       case rel =>
        obtain ⟨hn,hstep,hpre,hx,hxd,hxm,hW,hc,hac⟩:=AA.out
        exact ⟨r,y,a1,true,by first | rfl | (congr 1;omega),by first | rfl | (congr 1;omega),by first | rfl | (congr 1;omega),hstep,rfl,by omega,hD.wI _,⟨fun j hj=>hL.same j (by omega),fun j h1 h2 h3=>hL.dig j (by omega) h2 h3,fun h1 h2=>by omega⟩,HB.setCell (Nat.le_refl _) _⟩
end Go.Proofs.YtpgfjbimodnkeaaGreatDoor.Dec
