/- FnGjMap: whatever text comes in, the law returns true and the text reads afterwards as before; with the thirteen package-level variables that its row lists as the program's own text lays them (the tied card) (part 8 of 19: lemmas for its last part) -/
import Derived.Test.YtpgfjbimodnkeaaGreatDoorMpd2
import Derived.Test.YtpgfjbimodnkeaaGreatDoorMpd7
set_option maxHeartbeats 16000000
set_option maxRecDepth 100000
set_option linter.unusedVariables false
set_option linter.unusedSimpArgs false
namespace Go.Proofs.YtpgfjbimodnkeaaGreatDoor.Q
open Go.RowKit Go.Proofs.YtpgfjbimodnkeaaGreatDoorW.PrintWords Go.Proofs.YtpgfjbimodnkeaaGreatDoorW.PrintLast Go.Proofs.YtpgfjbimodnkeaaGreatDoorW.PrintMore
attribute [local go_sem] dm di dL dK cu bZ dD dC
def au (w0 W:World) (g:Nat) (f0:ByteArray) (f1:Int):Prop:=W.heap[g]?=some (.cells #[.string f0,.int .i64 f1] 62 (0,0))∧w0.heap.size≤g
theorem au.grown {w0 W:World} {g:Nat} {f0:ByteArray} {f1:Int} {W1:World} {row:Option Nat} (h:au w0 W g f0 f1) (hw:W.grownBy W1 row) (hne:some g≠row):au w0 W1 g f0 f1:=by
 obtain ⟨hb,hg⟩:=h
 exact ⟨iI hb hw hne,hg⟩
theorem au.below {w0 W:World} {g:Nat} {f0:ByteArray} {f1:Int} {W1:World} (h:au w0 W g f0 f1) (hw:Below W.heap.size W W1):au w0 W1 g f0 f1:=h.grown (jJ hw none) (by simp)
theorem au.alloc {w0 W:World} {g:Nat} {f0:ByteArray} {f1:Int} (h:au w0 W g f0 f1) (o:Obj):au w0 (W.alloc o) g f0 f1:=h.below (ah (Below.refl _ _) o)
theorem au.drewN {w0 W:World} {g:Nat} {f0:ByteArray} {f1:Int} (h:au w0 W g f0 f1) (m:Nat):au w0 (W.drewN m) g f0 f1:=h
theorem au.apart {w0 W:World} {g:Nat} {f0:ByteArray} {f1:Int} {α:Type} {d:Kd α} {e:Nat} {base:Nat} {ok:Nat→Prop} {v:Value} {xs:List α} (h:au w0 W g f0 f1) (ho:d.R e W base ok v xs) (ht:∀ q,q ∈ e :: d.E→q≠62):d.R e W base (fun k=>ok k∧k≠g) v xs:=by
 obtain ⟨hb,hg⟩:=h
 exact Kd.nX ho hb ht
theorem au.own_ne {w0 W:World} {g:Nat} {f0:ByteArray} {f1:Int} {α:Type} {d:Kd α} {e:Nat} {base:Nat} {ok:Nat→Prop} {v:Value} {xs:List α} (h:au w0 W g f0 f1) (ho:d.R e W base ok v xs) (ht:e≠62):some g≠v.ownBlock:=by
 obtain ⟨hb,hg⟩:=h
 exact Kd.uJ ho hb ht
theorem au.lt {w0 W:World} {g:Nat} {f0:ByteArray} {f1:Int} (h:au w0 W g f0 f1):g < W.heap.size:=by
 obtain ⟨hb,hg⟩:=h
 exact jy hb
theorem au.ge {w0 W:World} {g:Nat} {f0:ByteArray} {f1:Int} (h:au w0 W g f0 f1):w0.heap.size≤g:=by
 obtain ⟨hb,hg⟩:=h
 exact hg
theorem au.mf {w0 W:World} {g:Nat} {f0:ByteArray} {f1:Int} {a:Nat} {cs:Array Value} {t:TypeId} {fr:Nat × Nat} (h:au w0 W g f0 f1) (hb2:W.heap[a]?=some (.cells cs t fr)) (ht:t≠62):g≠a:=by
 obtain ⟨hb,hg⟩:=h
 rintro rfl
 rw [hb] at hb2
 injection hb2 with hb2
 injection hb2 with _ ht2
 exact ht ht2.symm
theorem au.far {w0 W:World} {g:Nat} {f0:ByteArray} {f1:Int} {p:Addr} (h:au w0 W g f0 f1) (hne:g≠p.block) (u:Value):au w0 (W.setCell p u) g f0 f1:=by
 obtain ⟨hb,hg⟩:=h
 exact ⟨dW hb hne u,hg⟩
theorem dQ {W:World} {g:Nat} {f0:ByteArray} {f1:Int} (h:W.heap[g]?=some (.cells #[.string f0,.int .i64 f1] 62 (0,0))):W.cell? ⟨g,0,none⟩=some (.string f0):=(ak h 0).trans rfl
theorem au.eG {w0 W:World} {g:Nat} {f0:ByteArray} {f1:Int} (h:au w0 W g f0 f1) (x:ByteArray):au w0 (W.setCell ⟨g,0,none⟩ (.string x)) g x f1:=by
 obtain ⟨hb,hg⟩:=h
 exact ⟨by simpa using jP hb 0 (.string x),hg⟩
theorem dF {W:World} {g:Nat} {f0:ByteArray} {f1:Int} (h:W.heap[g]?=some (.cells #[.string f0,.int .i64 f1] 62 (0,0))):W.cell? ⟨g,1,none⟩=some (.int .i64 f1):=(ak h 1).trans rfl
theorem au.eu {w0 W:World} {g:Nat} {f0:ByteArray} {f1:Int} (h:au w0 W g f0 f1) (x:Int):au w0 (W.setCell ⟨g,1,none⟩ (.int .i64 x)) g f0 x:=by
 obtain ⟨hb,hg⟩:=h
 exact ⟨by simpa using jP hb 1 (.int .i64 x),hg⟩
def bg.l0:Nat→ByteArray→Int→Option (ByteArray × Int)
 | 0,_,_=>none
 | k+1,x1000,x1001=>if x1001 < (x1000.size:Int) then (if 0≤x1001 then ((gJ.f (bt x1000 x1001)).bind fun t115=>(if t115=true then (bg.l0 k x1000 (wrap64 (x1001+1))) else (some (x1000,x1001)))) else (none)) else (some (x1000,x1001))
def bg.f (k:Nat) (s0_0:ByteArray) (s0_1:Int):Option (ByteArray × Int):=bg.l0 k s0_0 s0_1
theorem bg.calls (k:Nat) (g:Nat) (s0_0:ByteArray) (s0_1:Int) (r1:ByteArray) (r2:Int) (w0 w:World) (hI:au w0 w g s0_0 s0_1) (hB:Below w0.heap.size w0 w) (h:bg.f k s0_0 s0_1=some (r1,r2)) :
 Calls Tryz.prog 29 #[.pointer (some ⟨g,0,none⟩)] w fun e w'=>e = .returned (.tuple #[])∧au w0 w' g r1 r2∧Below w0.heap.size w0 w'∧aQ w w' g none:=by
 have HI0:=ae.mk hI
 have HK:=ae.mk (aQ.refl w g none)
 have HL:=ae.mk hB.size
 clear hI
 have HW0:=ae.mk hB.size
 have HB:=ae.mk hB
 clear hB
 have H:(bg.l0 k s0_0 s0_1)=some (r1,r2):=h
 clear h
 have H':=ae.mk H
 clear H
 go_enter Tryz.func29,Tryz.ntmps29
 go_wp2
 repeat (go_quiet (fail);try go_wp2)
 go_loopg [] k (fun kq w'=>∃ (x1001_1:Int),ae (bg.l0 kq s0_0 x1001_1=some (r1,r2))∧ae (kq≤k)∧ae (au w0 w' g s0_0 x1001_1)∧ae (aQ w w' g none)∧ae (Below w0.heap.size w0 w'))
 case atStart=>exact ⟨(s0_1),H',⟨Nat.le_refl _⟩,⟨by repeat (first | (with_reducible first | exact HI0.out | apply au.alloc | apply au.drewN | apply au.drew | apply au.eG | apply au.eu) | exact HI0.out)⟩,⟨by repeat (first | (with_reducible first | exact HK.out | apply aQ.gq | apply bK | apply bT | apply bG) | exact HK.out)⟩,⟨by repeat (first | (with_reducible first | exact HB.out | apply ah | apply ag | apply aj | refine aA ?_ (au.ge HI0.out)) | exact HB.out)⟩⟩
 case round =>
  clear H'
  obtain ⟨x1001_1,HA,HK1,HI0,HK,HB⟩:=hrel
  cases gk with
  | zero=>exact absurd HA.out (by simp [bg.l0])
  | succ k1 =>
    have H:=HA.out
    clear HA
    simp only [bg.l0] at H
    by_cases c2:x1001_1 < (s0_0.size:Int)
    ·rw [if_pos c2] at H
     have c2b0:decide (x1001_1 < (s0_0.size:Int))=true:=decide_eq_true c2
     clear c2
     by_cases c3:0≤x1001_1
     ·rw [if_pos c3] at H
      have c3b0:decide (0≤x1001_1)=true:=decide_eq_true c3
      clear c3
      replace H:=Option.bind_eq_some_iff.mp H
      obtain ⟨t115,A50,H⟩:=H
      replace H:(if t115=true then (bg.l0 k1 s0_0 (wrap64 (x1001_1+1))) else (some (s0_0,x1001_1)))=some (r1,r2):=H
      have A5:=ae.mk A50
      clear A50
      by_cases c6:t115=true
      ·subst c6
       have H1:(bg.l0 k1 s0_0 (wrap64 (x1001_1+1)))=some (r1,r2):=by rw [if_pos rfl] at H;exact H
       clear H
       have H:=H1
       clear H1
       have H':=ae.mk H
       clear H
       obtain ⟨HGz7,hgz7⟩:=HI0.out
       have hcz7_0:=dQ HGz7
       have hcz7_1:=dF HGz7
       have hfz7_0:=ax HGz7 0
       have hfz7_1:=ax HGz7 1
       clear HGz7 hgz7
       have p4:0≤(x1001_1:Int):=of_decide_eq_true (by first | (with_reducible assumption) | assumption)
       have q4:x1001_1 < (s0_0.size:Int):=of_decide_eq_true (by first | (with_reducible assumption) | assumption)
       have hx4:=dI s0_0 x1001_1
       replace p4:=eq_true p4
       replace q4:=eq_true q4
       go_wp2_with (first | (go_at_call 9;(with_reducible refine (gJ.calls (bt s0_0 x1001_1) true _ A5.out).mono ?_);rintro e w' ⟨rfl,⟨nd,rfl⟩⟩;(try first | exact ⟨rfl,_,World.drewN_drewN _ _ _⟩ | exact ⟨rfl,_,Eq.trans (World.drewN_drewN _ _ _) (congrArg (World.drewN _) (Nat.add_assoc _ _ _))⟩)))
       repeat (go_quiet (first | (go_at_call 9;(with_reducible refine (gJ.calls (bt s0_0 x1001_1) true _ A5.out).mono ?_);rintro e w' ⟨rfl,⟨nd,rfl⟩⟩;(try first | exact ⟨rfl,_,World.drewN_drewN _ _ _⟩ | exact ⟨rfl,_,Eq.trans (World.drewN_drewN _ _ _) (congrArg (World.drewN _) (Nat.add_assoc _ _ _))⟩)));try go_wp2_with (first | (go_at_call 9;(with_reducible refine (gJ.calls (bt s0_0 x1001_1) true _ A5.out).mono ?_);rintro e w' ⟨rfl,⟨nd,rfl⟩⟩;(try first | exact ⟨rfl,_,World.drewN_drewN _ _ _⟩ | exact ⟨rfl,_,Eq.trans (World.drewN_drewN _ _ _) (congrArg (World.drewN _) (Nat.add_assoc _ _ _))⟩))))
       go_roundg k1
       case measure=>have:=HK1.out;omega
       case rel=>exact ⟨(wrap64 (x1001_1+1)),H',⟨by have:=HK1.out;omega⟩,⟨by repeat (first | (with_reducible first | exact HI0.out | apply au.alloc | apply au.drewN | apply au.drew | apply au.eG | apply au.eu) | exact HI0.out)⟩,⟨by repeat (first | (with_reducible first | exact HK.out | apply aQ.gq | apply bK | apply bT | apply bG) | exact HK.out)⟩,⟨by repeat (first | (with_reducible first | exact HB.out | apply ah | apply ag | apply aj | refine aA ?_ (au.ge HI0.out)) | exact HB.out)⟩⟩
      ·replace c6:=Bool.eq_false_iff.mpr c6
       subst c6
       have H1:(some (s0_0,x1001_1))=some (r1,r2):=by rw [if_neg (show ¬ (false=true) by decide)] at H;exact H
       clear H
       have H:=H1
       clear H1
       simp only [Option.some.injEq,Prod.mk.injEq] at H
       obtain ⟨rfl,rfl⟩:=H
       obtain ⟨HGz8,hgz8⟩:=HI0.out
       have hcz8_0:=dQ HGz8
       have hcz8_1:=dF HGz8
       have hfz8_0:=ax HGz8 0
       have hfz8_1:=ax HGz8 1
       clear HGz8 hgz8
       have p4:0≤(x1001_1:Int):=of_decide_eq_true (by first | (with_reducible assumption) | assumption)
       have q4:x1001_1 < (s0_0.size:Int):=of_decide_eq_true (by first | (with_reducible assumption) | assumption)
       have hx4:=dI s0_0 x1001_1
       replace p4:=eq_true p4
       replace q4:=eq_true q4
       go_wp2_with (first | (go_at_call 9;(with_reducible refine (gJ.calls (bt s0_0 x1001_1) false _ A5.out).mono ?_);rintro e w' ⟨rfl,⟨nd,rfl⟩⟩;(try first | exact ⟨rfl,_,World.drewN_drewN _ _ _⟩ | exact ⟨rfl,_,Eq.trans (World.drewN_drewN _ _ _) (congrArg (World.drewN _) (Nat.add_assoc _ _ _))⟩)))
       repeat (go_quiet (first | (go_at_call 9;(with_reducible refine (gJ.calls (bt s0_0 x1001_1) false _ A5.out).mono ?_);rintro e w' ⟨rfl,⟨nd,rfl⟩⟩;(try first | exact ⟨rfl,_,World.drewN_drewN _ _ _⟩ | exact ⟨rfl,_,Eq.trans (World.drewN_drewN _ _ _) (congrArg (World.drewN _) (Nat.add_assoc _ _ _))⟩)));try go_wp2_with (first | (go_at_call 9;(with_reducible refine (gJ.calls (bt s0_0 x1001_1) false _ A5.out).mono ?_);rintro e w' ⟨rfl,⟨nd,rfl⟩⟩;(try first | exact ⟨rfl,_,World.drewN_drewN _ _ _⟩ | exact ⟨rfl,_,Eq.trans (World.drewN_drewN _ _ _) (congrArg (World.drewN _) (Nat.add_assoc _ _ _))⟩))))
       first | go_end0 | ((try simp only [Exit.inBlock,Exit.then]);refine bodyPost_ret (results_none rfl _ _ _) rfl ?_)
       exact ⟨by first | rfl | (simp [aZ,bf] <;> rfl) | (simp [*,aZ,bf] <;> rfl),by repeat (first | (with_reducible first | exact HI0.out | apply au.alloc | apply au.drewN | apply au.drew | apply au.eG | apply au.eu) | exact HI0.out),by repeat (first | (with_reducible first | exact HB.out | apply ah | apply ag | apply aj | refine aA ?_ (au.ge HI0.out)) | exact HB.out),by repeat (first | (with_reducible first | exact HK.out | apply aQ.gq | apply bK | apply bT | apply bG) | exact HK.out)⟩
     ·rw [if_neg c3] at H
      exact absurd H (by simp)
    ·rw [if_neg c2] at H
     have c2b0:decide (x1001_1 < (s0_0.size:Int))=false:=decide_eq_false c2
     clear c2
     simp only [Option.some.injEq,Prod.mk.injEq] at H
     obtain ⟨rfl,rfl⟩:=H
     obtain ⟨HGz9,hgz9⟩:=HI0.out
     have hcz9_0:=dQ HGz9
     have hcz9_1:=dF HGz9
     have hfz9_0:=ax HGz9 0
     have hfz9_1:=ax HGz9 1
     clear HGz9 hgz9
     go_wp2
     repeat (go_quiet (fail);try go_wp2)
     first | go_end0 | ((try simp only [Exit.inBlock,Exit.then]);refine bodyPost_ret (results_none rfl _ _ _) rfl ?_)
     exact ⟨by first | rfl | (simp [aZ,bf] <;> rfl) | (simp [*,aZ,bf] <;> rfl),by repeat (first | (with_reducible first | exact HI0.out | apply au.alloc | apply au.drewN | apply au.drew | apply au.eG | apply au.eu) | exact HI0.out),by repeat (first | (with_reducible first | exact HB.out | apply ah | apply ag | apply aj | refine aA ?_ (au.ge HI0.out)) | exact HB.out),by repeat (first | (with_reducible first | exact HK.out | apply aQ.gq | apply bK | apply bT | apply bG) | exact HK.out)⟩
attribute [local go_sem] dm di dL dK cu bZ dD dC
def bV.f (s0_0:ByteArray) (s0_1:Int):Option (Int × ByteArray × Int):=if s0_1 < (s0_0.size:Int) then (if 0≤s0_1 then (some (bt s0_0 s0_1,s0_0,s0_1)) else (none)) else (some (0,s0_0,s0_1))
theorem bV.calls (g:Nat) (s0_0:ByteArray) (s0_1:Int) (r1:Int) (r2:ByteArray) (r3:Int) (w0 w:World) (hI:au w0 w g s0_0 s0_1) (hB:Below w0.heap.size w0 w) (h:bV.f s0_0 s0_1=some (r1,r2,r3)) :
 Calls Tryz.prog 53 #[.pointer (some ⟨g,0,none⟩)] w fun e w'=>e = .returned (.int .u8 r1)∧au w0 w' g r2 r3∧Below w0.heap.size w0 w'∧aQ w w' g none:=by
 have HI0:=ae.mk hI
 have HK:=ae.mk (aQ.refl w g none)
 have HL:=ae.mk hB.size
 clear hI
 have HW0:=ae.mk hB.size
 have HB:=ae.mk hB
 clear hB
 have H:(if s0_1 < (s0_0.size:Int) then (if 0≤s0_1 then (some (bt s0_0 s0_1,s0_0,s0_1)) else (none)) else (some (0,s0_0,s0_1)))=some (r1,r2,r3):=h
 clear h
 by_cases c2:s0_1 < (s0_0.size:Int)
 ·rw [if_pos c2] at H
  have c2b0:decide (s0_1 < (s0_0.size:Int))=true:=decide_eq_true c2
  clear c2
  by_cases c3:0≤s0_1
  ·rw [if_pos c3] at H
   have c3b0:decide (0≤s0_1)=true:=decide_eq_true c3
   clear c3
   simp only [Option.some.injEq,Prod.mk.injEq] at H
   obtain ⟨rfl,rfl,rfl⟩:=H
   obtain ⟨HGz5,hgz5⟩:=HI0.out
   have hcz5_0:=dQ HGz5
   have hcz5_1:=dF HGz5
   have hfz5_0:=ax HGz5 0
   have hfz5_1:=ax HGz5 1
   clear HGz5 hgz5
   have p4:0≤(s0_1:Int):=of_decide_eq_true (by first | (with_reducible assumption) | assumption)
   have q4:s0_1 < (s0_0.size:Int):=of_decide_eq_true (by first | (with_reducible assumption) | assumption)
   have hx4:=dI s0_0 s0_1
   replace p4:=eq_true p4
   replace q4:=eq_true q4
   go_enter Tryz.func53,Tryz.ntmps53
   go_wp2
   repeat (go_quiet (fail);try go_wp2)
   go_ret
   exact ⟨by first | rfl | (simp [aZ,bf] <;> rfl) | (simp [*,aZ,bf] <;> rfl),by repeat (first | (with_reducible first | exact HI0.out | apply au.alloc | apply au.drewN | apply au.drew | apply au.eG | apply au.eu) | exact HI0.out),by repeat (first | (with_reducible first | exact HB.out | apply ah | apply ag | apply aj | refine aA ?_ (au.ge HI0.out)) | exact HB.out),by repeat (first | (with_reducible first | exact HK.out | apply aQ.gq | apply bK | apply bT | apply bG) | exact HK.out)⟩
  ·rw [if_neg c3] at H
   exact absurd H (by simp)
 ·rw [if_neg c2] at H
  have c2b0:decide (s0_1 < (s0_0.size:Int))=false:=decide_eq_false c2
  clear c2
  simp only [Option.some.injEq,Prod.mk.injEq] at H
  obtain ⟨rfl,rfl,rfl⟩:=H
  obtain ⟨HGz6,hgz6⟩:=HI0.out
  have hcz6_0:=dQ HGz6
  have hcz6_1:=dF HGz6
  have hfz6_0:=ax HGz6 0
  have hfz6_1:=ax HGz6 1
  clear HGz6 hgz6
  go_enter Tryz.func53,Tryz.ntmps53
  go_wp2
  repeat (go_quiet (fail);try go_wp2)
  go_ret
  exact ⟨by first | rfl | (simp [aZ,bf] <;> rfl) | (simp [*,aZ,bf] <;> rfl),by repeat (first | (with_reducible first | exact HI0.out | apply au.alloc | apply au.drewN | apply au.drew | apply au.eG | apply au.eu) | exact HI0.out),by repeat (first | (with_reducible first | exact HB.out | apply ah | apply ag | apply aj | refine aA ?_ (au.ge HI0.out)) | exact HB.out),by repeat (first | (with_reducible first | exact HK.out | apply aQ.gq | apply bK | apply bT | apply bG) | exact HK.out)⟩
attribute [local go_sem] dm di dL dK cu bZ dD dC
mutual
def bM.j0:Nat→Int→Bool→Option (Int × Bool)
 | 0,_,_=>none
 | k+1,x0,x4=>if x4=true then (some ((x0 - 48) % 256,true)) else (if 97≤x0 then (bM.j1 k x0 (decide (x0≤102))) else (bM.j1 k x0 false))
def bM.j1:Nat→Int→Bool→Option (Int × Bool)
 | 0,_,_=>none
 | k+1,x0,x14=>if x14=true then (some (((x0 - 97) % 256)+10,true)) else (if 65≤x0 then (if x0≤70 then (some (((x0 - 65) % 256)+10,true)) else (some (0,false))) else (some (0,false)))
end
def bM.f (k:Nat) (a0:Int):Option (Int × Bool):=if 48≤a0 then (bM.j0 k a0 (decide (a0≤57))) else (bM.j0 k a0 false)
theorem bM.calls (k:Nat) (a0:Int) (r1:Int) (r2:Bool) (w:World) (h:bM.f k a0=some (r1,r2)) :
 Calls Tryz.prog 76 #[.int .u8 a0] w fun e w'=>e = .returned (.tuple #[.int .i64 r1,.bool r2])∧ai w w':=by
 have H:(if 48≤a0 then (bM.j0 k a0 (decide (a0≤57))) else (bM.j0 k a0 false))=some (r1,r2):=h
 clear h
 have HC2:=ae.mk H
 clear H
 go_enter Tryz.func76,Tryz.ntmps76
 go_upto_region 1 with (fail)
 go_cut [4] (fun v4 wc=>∃ (kq:Nat) (x4_1:Bool),v4 = .bool x4_1∧ae (bM.j0 kq a0 x4_1=some (r1,r2))∧ae (kq≤k)∧ai w wc)
 case first =>
  have H:=HC2.out
  clear HC2
  by_cases c3:48≤a0
  ·rw [if_pos c3] at H
   have c3b0:decide (48≤a0)=true:=decide_eq_true c3
   clear c3
   (first | rw [c3b0] | (simp only [bW,cZ];rw [c3b0]) | skip)
   have H':=ae.mk H
   clear H
   go_wp2
   go_meet
   case rel=>exact ⟨_,(decide (a0≤57)),(by first | rfl | (simp;done) | (simp [*];done)),H',⟨by first | omega | exact Nat.le_refl _⟩,by repeat (first | exact ai.refl _ | apply ai.step)⟩
  ·rw [if_neg c3] at H
   have c3b0:decide (48≤a0)=false:=decide_eq_false c3
   clear c3
   (first | rw [c3b0] | (simp only [bW,cZ];rw [c3b0]) | skip)
   have H':=ae.mk H
   clear H
   go_wp2
   go_meet
   case rel=>exact ⟨_,(false),(by first | rfl | (simp;done) | (simp [*];done)),H',⟨by first | omega | exact Nat.le_refl _⟩,by repeat (first | exact ai.refl _ | apply ai.step)⟩
 case rest =>
  clear HC2
  try clear p2
  try clear c3
  try clear c3b0
  obtain ⟨kq,x4_1,rfl,HA,HJ1,⟨mc1,rfl⟩⟩:=hcut
  cases kq with
  | zero=>exact absurd HA.out (by simp [bM.j0])
  | succ kj1 =>
    have H:=HA.out
    clear HA
    simp only [bM.j0] at H
    by_cases c4:x4_1=true
    ·subst c4
     have H1:(some ((a0 - 48) % 256,true))=some (r1,r2):=by rw [if_pos rfl] at H;exact H
     clear H
     have H:=H1
     clear H1
     simp only [Option.some.injEq,Prod.mk.injEq] at H
     obtain ⟨rfl,rfl⟩:=H
     go_wp2
     go_ret2
     exact ⟨by first | rfl | (simp;done) | (simp [*];done),by repeat (first | exact ai.refl _ | apply ai.step)⟩
    ·replace c4:=Bool.eq_false_iff.mpr c4
     subst c4
     have H1:(if 97≤a0 then (bM.j1 kj1 a0 (decide (a0≤102))) else (bM.j1 kj1 a0 false))=some (r1,r2):=by rw [if_neg (show ¬ (false=true) by decide)] at H;exact H
     clear H
     have H:=H1
     clear H1
     have HC5:=ae.mk H
     clear H
     go_upto_region 3 with (fail)
     go_cut [14] (fun v14 wc=>∃ (kq:Nat) (x14_4:Bool),v14 = .bool x14_4∧ae (bM.j1 kq a0 x14_4=some (r1,r2))∧ae (kq≤kj1)∧ai w wc)
     case first =>
      have H:=HC5.out
      clear HC5
      by_cases c6:97≤a0
      ·rw [if_pos c6] at H
       have c6b0:decide (97≤a0)=true:=decide_eq_true c6
       clear c6
       (first | rw [c6b0] | (simp only [bW,cZ];rw [c6b0]) | skip)
       have H':=ae.mk H
       clear H
       go_wp2
       go_meet
       case rel=>exact ⟨_,(decide (a0≤102)),(by first | rfl | (simp;done) | (simp [*];done)),H',⟨by have:=HJ1.out;first | omega | exact Nat.le_refl _⟩,by repeat (first | exact ai.refl _ | apply ai.step)⟩
      ·rw [if_neg c6] at H
       have c6b0:decide (97≤a0)=false:=decide_eq_false c6
       clear c6
       (first | rw [c6b0] | (simp only [bW,cZ];rw [c6b0]) | skip)
       have H':=ae.mk H
       clear H
       go_wp2
       go_meet
       case rel=>exact ⟨_,(false),(by first | rfl | (simp;done) | (simp [*];done)),H',⟨by have:=HJ1.out;first | omega | exact Nat.le_refl _⟩,by repeat (first | exact ai.refl _ | apply ai.step)⟩
     case rest =>
      clear HC5
      try clear c1
      try clear p2
      try clear c3
      try clear c3b0
      try clear c4
      try clear c6
      try clear c6b0
      try clear p2
      obtain ⟨kq,x14_4,rfl,HA,HJ4,⟨mc4,rfl⟩⟩:=hcut
      cases kq with
      | zero=>exact absurd HA.out (by simp [bM.j1])
      | succ kj4 =>
        have H:=HA.out
        clear HA
        simp only [bM.j1] at H
        by_cases c7:x14_4=true
        ·subst c7
         have H1:(some (((a0 - 97) % 256)+10,true))=some (r1,r2):=by rw [if_pos rfl] at H;exact H
         clear H
         have H:=H1
         clear H1
         simp only [Option.some.injEq,Prod.mk.injEq] at H
         obtain ⟨rfl,rfl⟩:=H
         go_wp2
         go_ret2
         exact ⟨by first | rfl | (simp;done) | (simp [*];done),by repeat (first | exact ai.refl _ | apply ai.step)⟩
        ·replace c7:=Bool.eq_false_iff.mpr c7
         subst c7
         have H1:(if 65≤a0 then (if a0≤70 then (some (((a0 - 65) % 256)+10,true)) else (some (0,false))) else (some (0,false)))=some (r1,r2):=by rw [if_neg (show ¬ (false=true) by decide)] at H;exact H
         clear H
         have H:=H1
         clear H1
         by_cases c8:65≤a0
         ·rw [if_pos c8] at H
          have c8b0:decide (65≤a0)=true:=decide_eq_true c8
          clear c8
          by_cases c9:a0≤70
          ·rw [if_pos c9] at H
           have c9b0:decide (a0≤70)=true:=decide_eq_true c9
           clear c9
           simp only [Option.some.injEq,Prod.mk.injEq] at H
           obtain ⟨rfl,rfl⟩:=H
           go_wp2
           go_ret2
           exact ⟨by first | rfl | (simp;done) | (simp [*];done),by repeat (first | exact ai.refl _ | apply ai.step)⟩
          ·rw [if_neg c9] at H
           have c9b0:decide (a0≤70)=false:=decide_eq_false c9
           clear c9
           simp only [Option.some.injEq,Prod.mk.injEq] at H
           obtain ⟨rfl,rfl⟩:=H
           go_wp2
           go_ret2
           exact ⟨by first | rfl | (simp;done) | (simp [*];done),by repeat (first | exact ai.refl _ | apply ai.step)⟩
         ·rw [if_neg c8] at H
          have c8b0:decide (65≤a0)=false:=decide_eq_false c8
          clear c8
          simp only [Option.some.injEq,Prod.mk.injEq] at H
          obtain ⟨rfl,rfl⟩:=H
          go_wp2
          go_ret2
          exact ⟨by first | rfl | (simp;done) | (simp [*];done),by repeat (first | exact ai.refl _ | apply ai.step)⟩
attribute [local go_sem] dm di dL dK cu bZ dD dC
mutual
def ay.j0:Nat→Int→Bool→ByteArray→Int→Option (Bool × ByteArray × Int)
 | 0,_,_,_,_=>none
 | k+1,x7,x8,x1000,x1001=>if x8=true then (some (true,x1000,wrap64 (x1001+1))) else (if x7=117 then (ay.l0 k 0 x1000 (wrap64 (x1001+1))) else (some (false,x1000,x1001)))
def ay.l0:Nat→Int→ByteArray→Int→Option (Bool × ByteArray × Int)
 | 0,_,_,_=>none
 | k+1,x3,x1000,x1001=>if x3 < 4 then ((bV.f x1000 x1001).bind fun bt119=>((bM.f k bt119.1).bind fun bt122=>(if bt122.2=true then (ay.l0 k (wrap64 (x3+1)) bt119.2.1 (wrap64 (bt119.2.2+1))) else (some (false,bt119.2.1,bt119.2.2))))) else (some (true,x1000,x1001))
end
def ay.f (k:Nat) (s0_0:ByteArray) (s0_1:Int):Option (Bool × ByteArray × Int):=(bV.f s0_0 s0_1).bind fun bt116=>(if bt116.1=34 then (ay.j0 k bt116.1 (bt116.1 == 34) bt116.2.1 bt116.2.2) else (if bt116.1=92 then (ay.j0 k bt116.1 (bt116.1 == 92) bt116.2.1 bt116.2.2) else (if bt116.1=47 then (ay.j0 k bt116.1 (bt116.1 == 47) bt116.2.1 bt116.2.2) else (if bt116.1=98 then (ay.j0 k bt116.1 (bt116.1 == 98) bt116.2.1 bt116.2.2) else (if bt116.1=102 then (ay.j0 k bt116.1 (bt116.1 == 102) bt116.2.1 bt116.2.2) else (if bt116.1=110 then (ay.j0 k bt116.1 (bt116.1 == 110) bt116.2.1 bt116.2.2) else (if bt116.1=114 then (ay.j0 k bt116.1 (bt116.1 == 114) bt116.2.1 bt116.2.2) else (ay.j0 k bt116.1 (bt116.1 == 116) bt116.2.1 bt116.2.2))))))))
theorem ay.calls (k:Nat) (g:Nat) (s0_0:ByteArray) (s0_1:Int) (r1:Bool) (r2:ByteArray) (r3:Int) (w0 w:World) (hI:au w0 w g s0_0 s0_1) (hB:Below w0.heap.size w0 w) (h:ay.f k s0_0 s0_1=some (r1,r2,r3)) :
 Calls Tryz.prog 78 #[.pointer (some ⟨g,0,none⟩)] w fun e w'=>e = .returned (.bool r1)∧au w0 w' g r2 r3∧Below w0.heap.size w0 w'∧aQ w w' g none:=by
 have HI0:=ae.mk hI
 have HK:=ae.mk (aQ.refl w g none)
 have HL:=ae.mk hB.size
 clear hI
 have HW0:=ae.mk hB.size
 have HB:=ae.mk hB
 clear hB
 have H:((bV.f s0_0 s0_1).bind fun bt116=>(if bt116.1=34 then (ay.j0 k bt116.1 (bt116.1 == 34) bt116.2.1 bt116.2.2) else (if bt116.1=92 then (ay.j0 k bt116.1 (bt116.1 == 92) bt116.2.1 bt116.2.2) else (if bt116.1=47 then (ay.j0 k bt116.1 (bt116.1 == 47) bt116.2.1 bt116.2.2) else (if bt116.1=98 then (ay.j0 k bt116.1 (bt116.1 == 98) bt116.2.1 bt116.2.2) else (if bt116.1=102 then (ay.j0 k bt116.1 (bt116.1 == 102) bt116.2.1 bt116.2.2) else (if bt116.1=110 then (ay.j0 k bt116.1 (bt116.1 == 110) bt116.2.1 bt116.2.2) else (if bt116.1=114 then (ay.j0 k bt116.1 (bt116.1 == 114) bt116.2.1 bt116.2.2) else (ay.j0 k bt116.1 (bt116.1 == 116) bt116.2.1 bt116.2.2)))))))))=some (r1,r2,r3):=h
 clear h
 replace H:=Option.bind_eq_some_iff.mp H
 obtain ⟨⟨t116,t117,t118⟩,A20,H⟩:=H
 replace H:(if t116=34 then (ay.j0 k t116 (t116 == 34) t117 t118) else (if t116=92 then (ay.j0 k t116 (t116 == 92) t117 t118) else (if t116=47 then (ay.j0 k t116 (t116 == 47) t117 t118) else (if t116=98 then (ay.j0 k t116 (t116 == 98) t117 t118) else (if t116=102 then (ay.j0 k t116 (t116 == 102) t117 t118) else (if t116=110 then (ay.j0 k t116 (t116 == 110) t117 t118) else (if t116=114 then (ay.j0 k t116 (t116 == 114) t117 t118) else (ay.j0 k t116 (t116 == 116) t117 t118))))))))=some (r1,r2,r3):=H
 have A2:=ae.mk A20
 clear A20
 have HC3:=ae.mk H
 clear H
 go_enter Tryz.func78,Tryz.ntmps78
 go_upto_if 8 with (first | ((with_reducible refine bD (f:=53) rfl ?_);refine dS (some 7) rfl rfl Tryz.func53 (by kernel_rfl) rfl #[.pointer (some ⟨g,0,none⟩)] rfl (by (try simp only [List.map_toArray,List.map_cons,List.map_nil]);first | done | rfl | (simp only [List.length_drop,List.length_take];rfl)) ?_;(with_reducible refine (bV.calls g s0_0 s0_1 t116 t117 t118 w0 _ ?side1 ?side2 A2.out).mono ?_);(case side1=>repeat (first | (with_reducible first | exact HI0.out | apply au.alloc | apply au.drewN | apply au.drew | apply au.eG | apply au.eu) | exact HI0.out));(case side2=>repeat (first | (with_reducible first | exact HB.out | apply ah | apply ag | apply aj | refine aA ?_ (au.ge HI0.out)) | exact HB.out));rintro e w4 ⟨rfl,hi,hb,hk⟩;refine ⟨_,rfl,?_⟩;have n0_:=ae.mk (aQ.trans (by repeat (first | (with_reducible first | exact HK.out | apply aQ.gq | apply bK | apply bT | apply bG) | exact HK.out)) hk (.inl rfl));have n1_:=ae.mk (hb);have n2_:=ae.mk (hi);clear HK;clear HB;clear HI0;have HK:=n0_;have HB:=n1_;have HI0:=n2_;clear n0_ n1_ n2_;(try clear hb);(try clear hb2);(try clear hk);(try clear hi)))
 (try simp only [Act.put,List.setIfInBounds_toArray,List.set_cons_zero,List.set_cons_succ])
 go_cut [8] (fun v8 wc=>∃ (kq:Nat) (x8_2:Bool),v8 = .bool x8_2∧ae (ay.j0 kq t116 x8_2 t117 t118=some (r1,r2,r3))∧ae (kq≤k)∧ae (au w0 wc g t117 t118)∧ae (aQ w wc g none)∧ae (Below w0.heap.size w0 wc))
 case first =>
  have H:=HC3.out
  clear HC3
  by_cases c5:t116=34
  ·rw [if_pos c5] at H
   have c5b0:(t116 == 34)=true:=beq_iff_eq.mpr c5
   have c5b1:(t116 != 34)=false:=bne_eq_false_iff_eq.mpr c5
   clear c5
   (first | rw [c5b0] | (simp only [bW,cZ];rw [c5b0]) | skip)
   have H':=ae.mk H
   clear H
   go_wp2
   go_meet
   case rel=>exact ⟨_,((t116 == 34)),(by first | rfl | (simp;done) | (simp [*];done)),H',⟨by first | omega | exact Nat.le_refl _⟩,⟨by repeat (first | (with_reducible first | exact HI0.out | apply au.alloc | apply au.drewN | apply au.drew | apply au.eG | apply au.eu) | exact HI0.out)⟩,⟨by repeat (first | (with_reducible first | exact HK.out | apply aQ.gq | apply bK | apply bT | apply bG) | exact HK.out)⟩,⟨by repeat (first | (with_reducible first | exact HB.out | apply ah | apply ag | apply aj | refine aA ?_ (au.ge HI0.out)) | exact HB.out)⟩⟩
  ·rw [if_neg c5] at H
   have c5b0:(t116 == 34)=false:=beq_eq_false_iff_ne.mpr c5
   have c5b1:(t116 != 34)=true:=bne_iff_ne.mpr c5
   (first | rw [c5b0] | (simp only [bW,cZ];rw [c5b0]) | skip)
   by_cases c6:t116=92
   ·rw [if_pos c6] at H
    have c6b0:(t116 == 92)=true:=beq_iff_eq.mpr c6
    have c6b1:(t116 != 92)=false:=bne_eq_false_iff_eq.mpr c6
    clear c6
    have H':=ae.mk H
    clear H
    go_wp2
    go_meet
    case rel=>exact ⟨_,((t116 == 92)),(by first | rfl | (simp;done) | (simp [*];done)),H',⟨by first | omega | exact Nat.le_refl _⟩,⟨by repeat (first | (with_reducible first | exact HI0.out | apply au.alloc | apply au.drewN | apply au.drew | apply au.eG | apply au.eu) | exact HI0.out)⟩,⟨by repeat (first | (with_reducible first | exact HK.out | apply aQ.gq | apply bK | apply bT | apply bG) | exact HK.out)⟩,⟨by repeat (first | (with_reducible first | exact HB.out | apply ah | apply ag | apply aj | refine aA ?_ (au.ge HI0.out)) | exact HB.out)⟩⟩
   ·rw [if_neg c6] at H
    have c6b0:(t116 == 92)=false:=beq_eq_false_iff_ne.mpr c6
    have c6b1:(t116 != 92)=true:=bne_iff_ne.mpr c6
    by_cases c7:t116=47
    ·rw [if_pos c7] at H
     have c7b0:(t116 == 47)=true:=beq_iff_eq.mpr c7
     have c7b1:(t116 != 47)=false:=bne_eq_false_iff_eq.mpr c7
     clear c7
     have H':=ae.mk H
     clear H
     go_wp2
     go_meet
     case rel=>exact ⟨_,((t116 == 47)),(by first | rfl | (simp;done) | (simp [*];done)),H',⟨by first | omega | exact Nat.le_refl _⟩,⟨by repeat (first | (with_reducible first | exact HI0.out | apply au.alloc | apply au.drewN | apply au.drew | apply au.eG | apply au.eu) | exact HI0.out)⟩,⟨by repeat (first | (with_reducible first | exact HK.out | apply aQ.gq | apply bK | apply bT | apply bG) | exact HK.out)⟩,⟨by repeat (first | (with_reducible first | exact HB.out | apply ah | apply ag | apply aj | refine aA ?_ (au.ge HI0.out)) | exact HB.out)⟩⟩
    ·rw [if_neg c7] at H
     have c7b0:(t116 == 47)=false:=beq_eq_false_iff_ne.mpr c7
     have c7b1:(t116 != 47)=true:=bne_iff_ne.mpr c7
     by_cases c8:t116=98
     ·rw [if_pos c8] at H
      have c8b0:(t116 == 98)=true:=beq_iff_eq.mpr c8
      have c8b1:(t116 != 98)=false:=bne_eq_false_iff_eq.mpr c8
      clear c8
      have H':=ae.mk H
      clear H
      go_wp2
      go_meet
      case rel=>exact ⟨_,((t116 == 98)),(by first | rfl | (simp;done) | (simp [*];done)),H',⟨by first | omega | exact Nat.le_refl _⟩,⟨by repeat (first | (with_reducible first | exact HI0.out | apply au.alloc | apply au.drewN | apply au.drew | apply au.eG | apply au.eu) | exact HI0.out)⟩,⟨by repeat (first | (with_reducible first | exact HK.out | apply aQ.gq | apply bK | apply bT | apply bG) | exact HK.out)⟩,⟨by repeat (first | (with_reducible first | exact HB.out | apply ah | apply ag | apply aj | refine aA ?_ (au.ge HI0.out)) | exact HB.out)⟩⟩
     ·rw [if_neg c8] at H
      have c8b0:(t116 == 98)=false:=beq_eq_false_iff_ne.mpr c8
      have c8b1:(t116 != 98)=true:=bne_iff_ne.mpr c8
      by_cases c9:t116=102
      ·rw [if_pos c9] at H
       have c9b0:(t116 == 102)=true:=beq_iff_eq.mpr c9
       have c9b1:(t116 != 102)=false:=bne_eq_false_iff_eq.mpr c9
       clear c9
       have H':=ae.mk H
       clear H
       go_wp2
       go_meet
       case rel=>exact ⟨_,((t116 == 102)),(by first | rfl | (simp;done) | (simp [*];done)),H',⟨by first | omega | exact Nat.le_refl _⟩,⟨by repeat (first | (with_reducible first | exact HI0.out | apply au.alloc | apply au.drewN | apply au.drew | apply au.eG | apply au.eu) | exact HI0.out)⟩,⟨by repeat (first | (with_reducible first | exact HK.out | apply aQ.gq | apply bK | apply bT | apply bG) | exact HK.out)⟩,⟨by repeat (first | (with_reducible first | exact HB.out | apply ah | apply ag | apply aj | refine aA ?_ (au.ge HI0.out)) | exact HB.out)⟩⟩
      ·rw [if_neg c9] at H
       have c9b0:(t116 == 102)=false:=beq_eq_false_iff_ne.mpr c9
       have c9b1:(t116 != 102)=true:=bne_iff_ne.mpr c9
       by_cases c10:t116=110
       ·rw [if_pos c10] at H
        have c10b0:(t116 == 110)=true:=beq_iff_eq.mpr c10
        have c10b1:(t116 != 110)=false:=bne_eq_false_iff_eq.mpr c10
        clear c10
        have H':=ae.mk H
        clear H
        go_wp2
        go_meet
        case rel=>exact ⟨_,((t116 == 110)),(by first | rfl | (simp;done) | (simp [*];done)),H',⟨by first | omega | exact Nat.le_refl _⟩,⟨by repeat (first | (with_reducible first | exact HI0.out | apply au.alloc | apply au.drewN | apply au.drew | apply au.eG | apply au.eu) | exact HI0.out)⟩,⟨by repeat (first | (with_reducible first | exact HK.out | apply aQ.gq | apply bK | apply bT | apply bG) | exact HK.out)⟩,⟨by repeat (first | (with_reducible first | exact HB.out | apply ah | apply ag | apply aj | refine aA ?_ (au.ge HI0.out)) | exact HB.out)⟩⟩
       ·rw [if_neg c10] at H
        have c10b0:(t116 == 110)=false:=beq_eq_false_iff_ne.mpr c10
        have c10b1:(t116 != 110)=true:=bne_iff_ne.mpr c10
        by_cases c11:t116=114
        ·rw [if_pos c11] at H
         have c11b0:(t116 == 114)=true:=beq_iff_eq.mpr c11
         have c11b1:(t116 != 114)=false:=bne_eq_false_iff_eq.mpr c11
         clear c11
         have H':=ae.mk H
         clear H
         go_wp2
         go_meet
         case rel=>exact ⟨_,((t116 == 114)),(by first | rfl | (simp;done) | (simp [*];done)),H',⟨by first | omega | exact Nat.le_refl _⟩,⟨by repeat (first | (with_reducible first | exact HI0.out | apply au.alloc | apply au.drewN | apply au.drew | apply au.eG | apply au.eu) | exact HI0.out)⟩,⟨by repeat (first | (with_reducible first | exact HK.out | apply aQ.gq | apply bK | apply bT | apply bG) | exact HK.out)⟩,⟨by repeat (first | (with_reducible first | exact HB.out | apply ah | apply ag | apply aj | refine aA ?_ (au.ge HI0.out)) | exact HB.out)⟩⟩
        ·rw [if_neg c11] at H
         have c11b0:(t116 == 114)=false:=beq_eq_false_iff_ne.mpr c11
         have c11b1:(t116 != 114)=true:=bne_iff_ne.mpr c11
         have H':=ae.mk H
         clear H
         go_wp2
         go_meet
         case rel=>exact ⟨_,((t116 == 116)),(by first | rfl | (simp;done) | (simp [*];done)),H',⟨by first | omega | exact Nat.le_refl _⟩,⟨by repeat (first | (with_reducible first | exact HI0.out | apply au.alloc | apply au.drewN | apply au.drew | apply au.eG | apply au.eu) | exact HI0.out)⟩,⟨by repeat (first | (with_reducible first | exact HK.out | apply aQ.gq | apply bK | apply bT | apply bG) | exact HK.out)⟩,⟨by repeat (first | (with_reducible first | exact HB.out | apply ah | apply ag | apply aj | refine aA ?_ (au.ge HI0.out)) | exact HB.out)⟩⟩
 case rest =>
  clear HC3
  try clear c1
  try clear p2
  try clear c5
  try clear c5b0
  try clear c5b1
  try clear c6
  try clear c6b0
  try clear c6b1
  try clear c7
  try clear c7b0
  try clear c7b1
  try clear c8
  try clear c8b0
  try clear c8b1
  try clear c9
  try clear c9b0
  try clear c9b1
  try clear c10
  try clear c10b0
  try clear c10b1
  try clear c11
  try clear c11b0
  try clear c11b1
  obtain ⟨kq,x8_2,rfl,HA,HJ2,HI0,HK,HB⟩:=hcut
  cases kq with
  | zero=>exact absurd HA.out (by simp [ay.j0])
  | succ kj2 =>
    have H:=HA.out
    clear HA
    simp only [ay.j0] at H
    by_cases c12:x8_2=true
    ·subst c12
     have H1:(some (true,t117,wrap64 (t118+1)))=some (r1,r2,r3):=by rw [if_pos rfl] at H;exact H
     clear H
     have H:=H1
     clear H1
     simp only [Option.some.injEq,Prod.mk.injEq] at H
     obtain ⟨rfl,rfl,rfl⟩:=H
     obtain ⟨HGz13,hgz13⟩:=HI0.out
     have hcz13_0:=dQ HGz13
     have hcz13_1:=dF HGz13
     have hfz13_0:=ax HGz13 0
     have hfz13_1:=ax HGz13 1
     clear HGz13 hgz13
     go_wp2
     go_ret
     exact ⟨by first | rfl | (simp [aZ,bf] <;> rfl) | (simp [*,aZ,bf] <;> rfl),by repeat (first | (with_reducible first | exact HI0.out | apply au.alloc | apply au.drewN | apply au.drew | apply au.eG | apply au.eu) | exact HI0.out),by repeat (first | (with_reducible first | exact HB.out | apply ah | apply ag | apply aj | refine aA ?_ (au.ge HI0.out)) | exact HB.out),by repeat (first | (with_reducible first | exact HK.out | apply aQ.gq | apply bK | apply bT | apply bG) | exact HK.out)⟩
    ·replace c12:=Bool.eq_false_iff.mpr c12
     subst c12
     have H1:(if t116=117 then (ay.l0 kj2 0 t117 (wrap64 (t118+1))) else (some (false,t117,t118)))=some (r1,r2,r3):=by rw [if_neg (show ¬ (false=true) by decide)] at H;exact H
     clear H
     have H:=H1
     clear H1
     by_cases c14:t116=117
     ·rw [if_pos c14] at H
      have c14b0:(t116 == 117)=true:=beq_iff_eq.mpr c14
      have c14b1:(t116 != 117)=false:=bne_eq_false_iff_eq.mpr c14
      clear c14
      have H':=ae.mk H
      clear H
      obtain ⟨HGz15,hgz15⟩:=HI0.out
      have hcz15_0:=dQ HGz15
      have hcz15_1:=dF HGz15
      have hfz15_0:=ax HGz15 0
      have hfz15_1:=ax HGz15 1
      clear HGz15 hgz15
      go_wp2
      go_loopg [3] kj2 (fun kq v3 w'=>∃ (x3_2:Int) (x1000_2:ByteArray) (x1001_2:Int),v3 = .int .i64 x3_2∧ae (ay.l0 kq x3_2 x1000_2 x1001_2=some (r1,r2,r3))∧ae (kq≤kj2)∧ae (au w0 w' g x1000_2 x1001_2)∧ae (aQ w w' g none)∧ae (Below w0.heap.size w0 w'))
      case atStart=>exact ⟨(0),(t117),(wrap64 (t118+1)),(by first | rfl | (simp;done) | (simp [*];done)),H',⟨Nat.le_refl _⟩,⟨by repeat (first | (with_reducible first | exact HI0.out | apply au.alloc | apply au.drewN | apply au.drew | apply au.eG | apply au.eu) | exact HI0.out)⟩,⟨by repeat (first | (with_reducible first | exact HK.out | apply aQ.gq | apply bK | apply bT | apply bG) | exact HK.out)⟩,⟨by repeat (first | (with_reducible first | exact HB.out | apply ah | apply ag | apply aj | refine aA ?_ (au.ge HI0.out)) | exact HB.out)⟩⟩
      case round =>
       clear H'
       try clear c1
       try clear p2
       try clear c5
       try clear c5b0
       try clear c5b1
       try clear c6
       try clear c6b0
       try clear c6b1
       try clear p6
       try clear c7
       try clear c7b0
       try clear c7b1
       try clear c8
       try clear c8b0
       try clear c8b1
       try clear c9
       try clear c9b0
       try clear c9b1
       try clear c10
       try clear c10b0
       try clear c10b1
       try clear c11
       try clear c11b0
       try clear c11b1
       try clear c12
       try clear c14
       try clear c14b0
       try clear c14b1
       try clear hcz13_0
       try clear hcz13_1
       try clear hcz15_0
       try clear hcz15_1
       try clear hfz13_0
       try clear hfz13_1
       try clear hfz15_0
       try clear hfz15_1
       try clear p2
       obtain ⟨x3_2,x1000_2,x1001_2,rfl,HA,HK2,HI0,HK,HB⟩:=hrel
       cases gk with
       | zero=>exact absurd HA.out (by simp [ay.l0])
       | succ k2 =>
         have H:=HA.out
         clear HA
         simp only [ay.l0] at H
         by_cases c16:x3_2 < 4
         ·rw [if_pos c16] at H
          have c16b0:decide (x3_2 < 4)=true:=decide_eq_true c16
          clear c16
          replace H:=Option.bind_eq_some_iff.mp H
          obtain ⟨⟨t119,t120,t121⟩,A170,H⟩:=H
          replace H:((bM.f k2 t119).bind fun bt122=>(if bt122.2=true then (ay.l0 k2 (wrap64 (x3_2+1)) t120 (wrap64 (t121+1))) else (some (false,t120,t121))))=some (r1,r2,r3):=H
          have A17:=ae.mk A170
          clear A170
          replace H:=Option.bind_eq_some_iff.mp H
          obtain ⟨⟨t122,t123⟩,A180,H⟩:=H
          replace H:(if t123=true then (ay.l0 k2 (wrap64 (x3_2+1)) t120 (wrap64 (t121+1))) else (some (false,t120,t121)))=some (r1,r2,r3):=H
          have A18:=ae.mk A180
          clear A180
          by_cases c19:t123=true
          ·subst c19
           have H1:(ay.l0 k2 (wrap64 (x3_2+1)) t120 (wrap64 (t121+1)))=some (r1,r2,r3):=by rw [if_pos rfl] at H;exact H
           clear H
           have H:=H1
           clear H1
           have H':=ae.mk H
           clear H
           go_wp2_with (first | ((with_reducible refine bD (f:=53) rfl ?_);refine dS (some 39) rfl rfl Tryz.func53 (by kernel_rfl) rfl #[.pointer (some ⟨g,0,none⟩)] rfl (by (try simp only [List.map_toArray,List.map_cons,List.map_nil]);first | done | rfl | (simp only [List.length_drop,List.length_take];rfl)) ?_;(with_reducible refine (bV.calls g x1000_2 x1001_2 t119 t120 t121 w0 _ ?side1 ?side2 A17.out).mono ?_);(case side1=>repeat (first | (with_reducible first | exact HI0.out | apply au.alloc | apply au.drewN | apply au.drew | apply au.eG | apply au.eu) | exact HI0.out));(case side2=>repeat (first | (with_reducible first | exact HB.out | apply ah | apply ag | apply aj | refine aA ?_ (au.ge HI0.out)) | exact HB.out));rintro e w20 ⟨rfl,hi,hb,hk⟩;refine ⟨_,rfl,?_⟩;have n0_:=ae.mk (aQ.trans (by repeat (first | (with_reducible first | exact HK.out | apply aQ.gq | apply bK | apply bT | apply bG) | exact HK.out)) hk (.inl rfl));have n1_:=ae.mk (hb);have n2_:=ae.mk (hi);clear HK;clear HB;clear HI0;have HK:=n0_;have HB:=n1_;have HI0:=n2_;clear n0_ n1_ n2_;(try clear hb);(try clear hb2);(try clear hk);(try clear hi)) | ((with_reducible refine bD (f:=76) rfl ?_);refine dS (some 40) rfl rfl Tryz.func76 (by kernel_rfl) rfl #[.int .u8 t119] rfl (by (try simp only [List.map_toArray,List.map_cons,List.map_nil]);first | done | rfl | (simp only [List.length_drop,List.length_take];rfl)) ?_;(with_reducible refine (bM.calls k2 t119 t122 true _ A18.out).mono ?_);rintro e w' ⟨rfl,⟨nd,rfl⟩⟩;refine ⟨_,rfl,?_⟩;(try (rw [jR w20];generalize hq_:World.drewN w20 _=w20;have n0_:ae (au w0 w20 g t120 t121):=⟨by rw [← hq_];exact (by repeat (first | (with_reducible first | exact HI0.out | apply au.alloc | apply au.drewN | apply au.drew | apply au.eG | apply au.eu) | exact HI0.out))⟩;have n1_:ae (aQ w w20 g none):=⟨by rw [← hq_];exact (by repeat (first | (with_reducible first | exact HK.out | apply aQ.gq | apply bK | apply bT | apply bG) | exact HK.out))⟩;have n2_:ae (Below w0.heap.size w0 w20):=⟨by rw [← hq_];exact (by repeat (first | (with_reducible first | exact HB.out | apply ah | apply ag | apply aj | refine aA ?_ (au.ge HI0.out)) | exact HB.out))⟩;clear HI0 HK HB hq_;have HI0:=n0_;have HK:=n1_;have HB:=n2_;clear n0_ n1_ n2_));obtain ⟨HGz21,hgz21⟩:=HI0.out;have hcz21_0:=dQ HGz21;have hcz21_1:=dF HGz21;have hfz21_0:=ax HGz21 0;have hfz21_1:=ax HGz21 1;clear HGz21 hgz21))
           go_roundg k2
           case measure=>have:=HJ2.out;have:=HK2.out;omega
           case rel=>exact ⟨(wrap64 (x3_2+1)),(t120),(wrap64 (t121+1)),(by first | rfl | (simp;done) | (simp [*];done)),H',⟨by have:=HJ2.out;have:=HK2.out;omega⟩,⟨by repeat (first | (with_reducible first | exact HI0.out | apply au.alloc | apply au.drewN | apply au.drew | apply au.eG | apply au.eu) | exact HI0.out)⟩,⟨by repeat (first | (with_reducible first | exact HK.out | apply aQ.gq | apply bK | apply bT | apply bG) | exact HK.out)⟩,⟨by repeat (first | (with_reducible first | exact HB.out | apply ah | apply ag | apply aj | refine aA ?_ (au.ge HI0.out)) | exact HB.out)⟩⟩
          ·replace c19:=Bool.eq_false_iff.mpr c19
           subst c19
           have H1:(some (false,t120,t121))=some (r1,r2,r3):=by rw [if_neg (show ¬ (false=true) by decide)] at H;exact H
           clear H
           have H:=H1
           clear H1
           simp only [Option.some.injEq,Prod.mk.injEq] at H
           obtain ⟨rfl,rfl,rfl⟩:=H
           go_wp2_with (first | ((with_reducible refine bD (f:=53) rfl ?_);refine dS (some 39) rfl rfl Tryz.func53 (by kernel_rfl) rfl #[.pointer (some ⟨g,0,none⟩)] rfl (by (try simp only [List.map_toArray,List.map_cons,List.map_nil]);first | done | rfl | (simp only [List.length_drop,List.length_take];rfl)) ?_;(with_reducible refine (bV.calls g x1000_2 x1001_2 t119 t120 t121 w0 _ ?side1 ?side2 A17.out).mono ?_);(case side1=>repeat (first | (with_reducible first | exact HI0.out | apply au.alloc | apply au.drewN | apply au.drew | apply au.eG | apply au.eu) | exact HI0.out));(case side2=>repeat (first | (with_reducible first | exact HB.out | apply ah | apply ag | apply aj | refine aA ?_ (au.ge HI0.out)) | exact HB.out));rintro e w22 ⟨rfl,hi,hb,hk⟩;refine ⟨_,rfl,?_⟩;have n0_:=ae.mk (aQ.trans (by repeat (first | (with_reducible first | exact HK.out | apply aQ.gq | apply bK | apply bT | apply bG) | exact HK.out)) hk (.inl rfl));have n1_:=ae.mk (hb);have n2_:=ae.mk (hi);clear HK;clear HB;clear HI0;have HK:=n0_;have HB:=n1_;have HI0:=n2_;clear n0_ n1_ n2_;(try clear hb);(try clear hb2);(try clear hk);(try clear hi)) | ((with_reducible refine bD (f:=76) rfl ?_);refine dS (some 40) rfl rfl Tryz.func76 (by kernel_rfl) rfl #[.int .u8 t119] rfl (by (try simp only [List.map_toArray,List.map_cons,List.map_nil]);first | done | rfl | (simp only [List.length_drop,List.length_take];rfl)) ?_;(with_reducible refine (bM.calls k2 t119 t122 false _ A18.out).mono ?_);rintro e w' ⟨rfl,⟨nd,rfl⟩⟩;refine ⟨_,rfl,?_⟩))
           go_ret
           exact ⟨by first | rfl | (simp [aZ,bf] <;> rfl) | (simp [*,aZ,bf] <;> rfl),by repeat (first | (with_reducible first | exact HI0.out | apply au.alloc | apply au.drewN | apply au.drew | apply au.eG | apply au.eu) | exact HI0.out),by repeat (first | (with_reducible first | exact HB.out | apply ah | apply ag | apply aj | refine aA ?_ (au.ge HI0.out)) | exact HB.out),by repeat (first | (with_reducible first | exact HK.out | apply aQ.gq | apply bK | apply bT | apply bG) | exact HK.out)⟩
         ·rw [if_neg c16] at H
          have c16b0:decide (x3_2 < 4)=false:=decide_eq_false c16
          clear c16
          simp only [Option.some.injEq,Prod.mk.injEq] at H
          obtain ⟨rfl,rfl,rfl⟩:=H
          go_wp2
          go_ret
          exact ⟨by first | rfl | (simp [aZ,bf] <;> rfl) | (simp [*,aZ,bf] <;> rfl),by repeat (first | (with_reducible first | exact HI0.out | apply au.alloc | apply au.drewN | apply au.drew | apply au.eG | apply au.eu) | exact HI0.out),by repeat (first | (with_reducible first | exact HB.out | apply ah | apply ag | apply aj | refine aA ?_ (au.ge HI0.out)) | exact HB.out),by repeat (first | (with_reducible first | exact HK.out | apply aQ.gq | apply bK | apply bT | apply bG) | exact HK.out)⟩
     ·rw [if_neg c14] at H
      have c14b0:(t116 == 117)=false:=beq_eq_false_iff_ne.mpr c14
      have c14b1:(t116 != 117)=true:=bne_iff_ne.mpr c14
      simp only [Option.some.injEq,Prod.mk.injEq] at H
      obtain ⟨rfl,rfl,rfl⟩:=H
      go_wp2
      go_ret
      exact ⟨by first | rfl | (simp [aZ,bf] <;> rfl) | (simp [*,aZ,bf] <;> rfl),by repeat (first | (with_reducible first | exact HI0.out | apply au.alloc | apply au.drewN | apply au.drew | apply au.eG | apply au.eu) | exact HI0.out),by repeat (first | (with_reducible first | exact HB.out | apply ah | apply ag | apply aj | refine aA ?_ (au.ge HI0.out)) | exact HB.out),by repeat (first | (with_reducible first | exact HK.out | apply aQ.gq | apply bK | apply bT | apply bG) | exact HK.out)⟩
attribute [local go_sem] dm di dL dK cu bZ dD dC
def aV.l0:Nat→ByteArray→Int→Option (Bool × ByteArray × Int)
 | 0,_,_=>none
 | k+1,x1000,x1001=>if x1001 < (x1000.size:Int) then (if 0≤x1001 then (if (bt x1000 x1001)=34 then (some (true,x1000,wrap64 (x1001+1))) else (if (bt x1000 x1001) < 32 then (some (false,x1000,wrap64 (x1001+1))) else (if (bt x1000 x1001)=92 then ((ay.f k x1000 (wrap64 (x1001+1))).bind fun bt124=>(if bt124.1=true then (aV.l0 k bt124.2.1 bt124.2.2) else (some (false,bt124.2.1,bt124.2.2)))) else (aV.l0 k x1000 (wrap64 (x1001+1)))))) else (none)) else (some (false,x1000,x1001))
def aV.f (k:Nat) (s0_0:ByteArray) (s0_1:Int):Option (Bool × ByteArray × Int):=aV.l0 k s0_0 (wrap64 (s0_1+1))
theorem aV.calls (k:Nat) (g:Nat) (s0_0:ByteArray) (s0_1:Int) (r1:Bool) (r2:ByteArray) (r3:Int) (w0 w:World) (hI:au w0 w g s0_0 s0_1) (hB:Below w0.heap.size w0 w) (h:aV.f k s0_0 s0_1=some (r1,r2,r3)) :
 Calls Tryz.prog 56 #[.pointer (some ⟨g,0,none⟩)] w fun e w'=>e = .returned (.bool r1)∧au w0 w' g r2 r3∧Below w0.heap.size w0 w'∧aQ w w' g none:=by
 have HI0:=ae.mk hI
 have HK:=ae.mk (aQ.refl w g none)
 have HL:=ae.mk hB.size
 clear hI
 have HW0:=ae.mk hB.size
 have HB:=ae.mk hB
 clear hB
 have H:(aV.l0 k s0_0 (wrap64 (s0_1+1)))=some (r1,r2,r3):=h
 clear h
 have H':=ae.mk H
 clear H
 obtain ⟨HGz2,hgz2⟩:=HI0.out
 have hcz2_0:=dQ HGz2
 have hcz2_1:=dF HGz2
 have hfz2_0:=ax HGz2 0
 have hfz2_1:=ax HGz2 1
 clear HGz2 hgz2
 go_enter Tryz.func56,Tryz.ntmps56
 go_wp2
 repeat (go_quiet (fail);try go_wp2)
 go_loopg [] k (fun kq w'=>∃ (x1000_1:ByteArray) (x1001_1:Int),ae (aV.l0 kq x1000_1 x1001_1=some (r1,r2,r3))∧ae (kq≤k)∧ae (au w0 w' g x1000_1 x1001_1)∧ae (aQ w w' g none)∧ae (Below w0.heap.size w0 w'))
 case atStart=>exact ⟨(s0_0),(wrap64 (s0_1+1)),H',⟨Nat.le_refl _⟩,⟨by repeat (first | (with_reducible first | exact HI0.out | apply au.alloc | apply au.drewN | apply au.drew | apply au.eG | apply au.eu) | exact HI0.out)⟩,⟨by repeat (first | (with_reducible first | exact HK.out | apply aQ.gq | apply bK | apply bT | apply bG) | exact HK.out)⟩,⟨by repeat (first | (with_reducible first | exact HB.out | apply ah | apply ag | apply aj | refine aA ?_ (au.ge HI0.out)) | exact HB.out)⟩⟩
 case round =>
  clear H'
  try clear p2
  try clear hcz2_0
  try clear hcz2_1
  try clear hfz2_0
  try clear hfz2_1
  obtain ⟨x1000_1,x1001_1,HA,HK1,HI0,HK,HB⟩:=hrel
  cases gk with
  | zero=>exact absurd HA.out (by simp [aV.l0])
  | succ k1 =>
    have H:=HA.out
    clear HA
    simp only [aV.l0] at H
    by_cases c3:x1001_1 < (x1000_1.size:Int)
    ·rw [if_pos c3] at H
     have c3b0:decide (x1001_1 < (x1000_1.size:Int))=true:=decide_eq_true c3
     clear c3
     by_cases c4:0≤x1001_1
     ·rw [if_pos c4] at H
      have c4b0:decide (0≤x1001_1)=true:=decide_eq_true c4
      clear c4
      by_cases c6:(bt x1000_1 x1001_1)=34
      ·rw [if_pos c6] at H
       have c6b0:((bt x1000_1 x1001_1) == 34)=true:=beq_iff_eq.mpr c6
       have c6b1:((bt x1000_1 x1001_1) != 34)=false:=bne_eq_false_iff_eq.mpr c6
       clear c6
       simp only [Option.some.injEq,Prod.mk.injEq] at H
       obtain ⟨rfl,rfl,rfl⟩:=H
       obtain ⟨HGz7,hgz7⟩:=HI0.out
       have hcz7_0:=dQ HGz7
       have hcz7_1:=dF HGz7
       have hfz7_0:=ax HGz7 0
       have hfz7_1:=ax HGz7 1
       clear HGz7 hgz7
       have p5:0≤(x1001_1:Int):=of_decide_eq_true (by first | (with_reducible assumption) | assumption)
       have q5:x1001_1 < (x1000_1.size:Int):=of_decide_eq_true (by first | (with_reducible assumption) | assumption)
       have hx5:=dI x1000_1 x1001_1
       replace p5:=eq_true p5
       replace q5:=eq_true q5
       go_wp2
       repeat (go_quiet (fail);try go_wp2)
       go_ret
       exact ⟨by first | rfl | (simp [aZ,bf] <;> rfl) | (simp [*,aZ,bf] <;> rfl),by repeat (first | (with_reducible first | exact HI0.out | apply au.alloc | apply au.drewN | apply au.drew | apply au.eG | apply au.eu) | exact HI0.out),by repeat (first | (with_reducible first | exact HB.out | apply ah | apply ag | apply aj | refine aA ?_ (au.ge HI0.out)) | exact HB.out),by repeat (first | (with_reducible first | exact HK.out | apply aQ.gq | apply bK | apply bT | apply bG) | exact HK.out)⟩
      ·rw [if_neg c6] at H
       have c6b0:((bt x1000_1 x1001_1) == 34)=false:=beq_eq_false_iff_ne.mpr c6
       have c6b1:((bt x1000_1 x1001_1) != 34)=true:=bne_iff_ne.mpr c6
       by_cases c8:(bt x1000_1 x1001_1) < 32
       ·rw [if_pos c8] at H
        have c8b0:decide ((bt x1000_1 x1001_1) < 32)=true:=decide_eq_true c8
        clear c8
        simp only [Option.some.injEq,Prod.mk.injEq] at H
        obtain ⟨rfl,rfl,rfl⟩:=H
        obtain ⟨HGz9,hgz9⟩:=HI0.out
        have hcz9_0:=dQ HGz9
        have hcz9_1:=dF HGz9
        have hfz9_0:=ax HGz9 0
        have hfz9_1:=ax HGz9 1
        clear HGz9 hgz9
        have p5:0≤(x1001_1:Int):=of_decide_eq_true (by first | (with_reducible assumption) | assumption)
        have q5:x1001_1 < (x1000_1.size:Int):=of_decide_eq_true (by first | (with_reducible assumption) | assumption)
        have hx5:=dI x1000_1 x1001_1
        replace p5:=eq_true p5
        replace q5:=eq_true q5
        go_wp2
        repeat (go_quiet (fail);try go_wp2)
        go_ret
        exact ⟨by first | rfl | (simp [aZ,bf] <;> rfl) | (simp [*,aZ,bf] <;> rfl),by repeat (first | (with_reducible first | exact HI0.out | apply au.alloc | apply au.drewN | apply au.drew | apply au.eG | apply au.eu) | exact HI0.out),by repeat (first | (with_reducible first | exact HB.out | apply ah | apply ag | apply aj | refine aA ?_ (au.ge HI0.out)) | exact HB.out),by repeat (first | (with_reducible first | exact HK.out | apply aQ.gq | apply bK | apply bT | apply bG) | exact HK.out)⟩
       ·rw [if_neg c8] at H
        have c8b0:decide ((bt x1000_1 x1001_1) < 32)=false:=decide_eq_false c8
        clear c8
        by_cases c10:(bt x1000_1 x1001_1)=92
        ·rw [if_pos c10] at H
         have c10b0:((bt x1000_1 x1001_1) == 92)=true:=beq_iff_eq.mpr c10
         have c10b1:((bt x1000_1 x1001_1) != 92)=false:=bne_eq_false_iff_eq.mpr c10
         clear c10
         replace H:=Option.bind_eq_some_iff.mp H
         obtain ⟨⟨t124,t125,t126⟩,A110,H⟩:=H
         replace H:(if t124=true then (aV.l0 k1 t125 t126) else (some (false,t125,t126)))=some (r1,r2,r3):=H
         have A11:=ae.mk A110
         clear A110
         by_cases c12:t124=true
         ·subst c12
          have H1:(aV.l0 k1 t125 t126)=some (r1,r2,r3):=by rw [if_pos rfl] at H;exact H
          clear H
          have H:=H1
          clear H1
          have H':=ae.mk H
          clear H
          obtain ⟨HGz13,hgz13⟩:=HI0.out
          have hcz13_0:=dQ HGz13
          have hcz13_1:=dF HGz13
          have hfz13_0:=ax HGz13 0
          have hfz13_1:=ax HGz13 1
          clear HGz13 hgz13
          have p5:0≤(x1001_1:Int):=of_decide_eq_true (by first | (with_reducible assumption) | assumption)
          have q5:x1001_1 < (x1000_1.size:Int):=of_decide_eq_true (by first | (with_reducible assumption) | assumption)
          have hx5:=dI x1000_1 x1001_1
          replace p5:=eq_true p5
          replace q5:=eq_true q5
          go_wp2_with (first | (go_at_call 78;(with_reducible refine (ay.calls k1 g x1000_1 (wrap64 (x1001_1+1)) true t125 t126 w0 _ ?side1 ?side2 A11.out).mono ?_);(case side1=>repeat (first | (with_reducible first | exact HI0.out | apply au.alloc | apply au.drewN | apply au.drew | apply au.eG | apply au.eu) | exact HI0.out));(case side2=>repeat (first | (with_reducible first | exact HB.out | apply ah | apply ag | apply aj | refine aA ?_ (au.ge HI0.out)) | exact HB.out));rintro e w14 ⟨rfl,hi,hb,hk⟩;have n0_:=ae.mk (aQ.trans (by repeat (first | (with_reducible first | exact HK.out | apply aQ.gq | apply bK | apply bT | apply bG) | exact HK.out)) hk (.inl rfl));have n1_:=ae.mk (hb);have n2_:=ae.mk (hi);clear HK;clear HB;clear HI0;have HK:=n0_;have HB:=n1_;have HI0:=n2_;clear n0_ n1_ n2_;(try clear hb);(try clear hb2);(try clear hk);(try clear hi)))
          repeat (go_quiet (first | (go_at_call 78;(with_reducible refine (ay.calls k1 g x1000_1 (wrap64 (x1001_1+1)) true t125 t126 w0 _ ?side1 ?side2 A11.out).mono ?_);(case side1=>repeat (first | (with_reducible first | exact HI0.out | apply au.alloc | apply au.drewN | apply au.drew | apply au.eG | apply au.eu) | exact HI0.out));(case side2=>repeat (first | (with_reducible first | exact HB.out | apply ah | apply ag | apply aj | refine aA ?_ (au.ge HI0.out)) | exact HB.out));rintro e w14 ⟨rfl,hi,hb,hk⟩;have n0_:=ae.mk (aQ.trans (by repeat (first | (with_reducible first | exact HK.out | apply aQ.gq | apply bK | apply bT | apply bG) | exact HK.out)) hk (.inl rfl));have n1_:=ae.mk (hb);have n2_:=ae.mk (hi);clear HK;clear HB;clear HI0;have HK:=n0_;have HB:=n1_;have HI0:=n2_;clear n0_ n1_ n2_;(try clear hb);(try clear hb2);(try clear hk);(try clear hi)));try go_wp2_with (first | (go_at_call 78;(with_reducible refine (ay.calls k1 g x1000_1 (wrap64 (x1001_1+1)) true t125 t126 w0 _ ?side1 ?side2 A11.out).mono ?_);(case side1=>repeat (first | (with_reducible first | exact HI0.out | apply au.alloc | apply au.drewN | apply au.drew | apply au.eG | apply au.eu) | exact HI0.out));(case side2=>repeat (first | (with_reducible first | exact HB.out | apply ah | apply ag | apply aj | refine aA ?_ (au.ge HI0.out)) | exact HB.out));rintro e w14 ⟨rfl,hi,hb,hk⟩;have n0_:=ae.mk (aQ.trans (by repeat (first | (with_reducible first | exact HK.out | apply aQ.gq | apply bK | apply bT | apply bG) | exact HK.out)) hk (.inl rfl));have n1_:=ae.mk (hb);have n2_:=ae.mk (hi);clear HK;clear HB;clear HI0;have HK:=n0_;have HB:=n1_;have HI0:=n2_;clear n0_ n1_ n2_;(try clear hb);(try clear hb2);(try clear hk);(try clear hi))))
          go_roundg k1
          case measure=>have:=HK1.out;omega
          case rel=>exact ⟨(t125),(t126),H',⟨by have:=HK1.out;omega⟩,⟨by repeat (first | (with_reducible first | exact HI0.out | apply au.alloc | apply au.drewN | apply au.drew | apply au.eG | apply au.eu) | exact HI0.out)⟩,⟨by repeat (first | (with_reducible first | exact HK.out | apply aQ.gq | apply bK | apply bT | apply bG) | exact HK.out)⟩,⟨by repeat (first | (with_reducible first | exact HB.out | apply ah | apply ag | apply aj | refine aA ?_ (au.ge HI0.out)) | exact HB.out)⟩⟩
         ·replace c12:=Bool.eq_false_iff.mpr c12
          subst c12
          have H1:(some (false,t125,t126))=some (r1,r2,r3):=by rw [if_neg (show ¬ (false=true) by decide)] at H;exact H
          clear H
          have H:=H1
          clear H1
          simp only [Option.some.injEq,Prod.mk.injEq] at H
          obtain ⟨rfl,rfl,rfl⟩:=H
          obtain ⟨HGz15,hgz15⟩:=HI0.out
          have hcz15_0:=dQ HGz15
          have hcz15_1:=dF HGz15
          have hfz15_0:=ax HGz15 0
          have hfz15_1:=ax HGz15 1
          clear HGz15 hgz15
          have p5:0≤(x1001_1:Int):=of_decide_eq_true (by first | (with_reducible assumption) | assumption)
          have q5:x1001_1 < (x1000_1.size:Int):=of_decide_eq_true (by first | (with_reducible assumption) | assumption)
          have hx5:=dI x1000_1 x1001_1
          replace p5:=eq_true p5
          replace q5:=eq_true q5
          go_wp2_with (first | (go_at_call 78;(with_reducible refine (ay.calls k1 g x1000_1 (wrap64 (x1001_1+1)) false t125 t126 w0 _ ?side1 ?side2 A11.out).mono ?_);(case side1=>repeat (first | (with_reducible first | exact HI0.out | apply au.alloc | apply au.drewN | apply au.drew | apply au.eG | apply au.eu) | exact HI0.out));(case side2=>repeat (first | (with_reducible first | exact HB.out | apply ah | apply ag | apply aj | refine aA ?_ (au.ge HI0.out)) | exact HB.out));rintro e w16 ⟨rfl,hi,hb,hk⟩;have n0_:=ae.mk (aQ.trans (by repeat (first | (with_reducible first | exact HK.out | apply aQ.gq | apply bK | apply bT | apply bG) | exact HK.out)) hk (.inl rfl));have n1_:=ae.mk (hb);have n2_:=ae.mk (hi);clear HK;clear HB;clear HI0;have HK:=n0_;have HB:=n1_;have HI0:=n2_;clear n0_ n1_ n2_;(try clear hb);(try clear hb2);(try clear hk);(try clear hi)))
          repeat (go_quiet (first | (go_at_call 78;(with_reducible refine (ay.calls k1 g x1000_1 (wrap64 (x1001_1+1)) false t125 t126 w0 _ ?side1 ?side2 A11.out).mono ?_);(case side1=>repeat (first | (with_reducible first | exact HI0.out | apply au.alloc | apply au.drewN | apply au.drew | apply au.eG | apply au.eu) | exact HI0.out));(case side2=>repeat (first | (with_reducible first | exact HB.out | apply ah | apply ag | apply aj | refine aA ?_ (au.ge HI0.out)) | exact HB.out));rintro e w16 ⟨rfl,hi,hb,hk⟩;have n0_:=ae.mk (aQ.trans (by repeat (first | (with_reducible first | exact HK.out | apply aQ.gq | apply bK | apply bT | apply bG) | exact HK.out)) hk (.inl rfl));have n1_:=ae.mk (hb);have n2_:=ae.mk (hi);clear HK;clear HB;clear HI0;have HK:=n0_;have HB:=n1_;have HI0:=n2_;clear n0_ n1_ n2_;(try clear hb);(try clear hb2);(try clear hk);(try clear hi)));try go_wp2_with (first | (go_at_call 78;(with_reducible refine (ay.calls k1 g x1000_1 (wrap64 (x1001_1+1)) false t125 t126 w0 _ ?side1 ?side2 A11.out).mono ?_);(case side1=>repeat (first | (with_reducible first | exact HI0.out | apply au.alloc | apply au.drewN | apply au.drew | apply au.eG | apply au.eu) | exact HI0.out));(case side2=>repeat (first | (with_reducible first | exact HB.out | apply ah | apply ag | apply aj | refine aA ?_ (au.ge HI0.out)) | exact HB.out));rintro e w16 ⟨rfl,hi,hb,hk⟩;have n0_:=ae.mk (aQ.trans (by repeat (first | (with_reducible first | exact HK.out | apply aQ.gq | apply bK | apply bT | apply bG) | exact HK.out)) hk (.inl rfl));have n1_:=ae.mk (hb);have n2_:=ae.mk (hi);clear HK;clear HB;clear HI0;have HK:=n0_;have HB:=n1_;have HI0:=n2_;clear n0_ n1_ n2_;(try clear hb);(try clear hb2);(try clear hk);(try clear hi))))
          go_ret
          exact ⟨by first | rfl | (simp [aZ,bf] <;> rfl) | (simp [*,aZ,bf] <;> rfl),by repeat (first | (with_reducible first | exact HI0.out | apply au.alloc | apply au.drewN | apply au.drew | apply au.eG | apply au.eu) | exact HI0.out),by repeat (first | (with_reducible first | exact HB.out | apply ah | apply ag | apply aj | refine aA ?_ (au.ge HI0.out)) | exact HB.out),by repeat (first | (with_reducible first | exact HK.out | apply aQ.gq | apply bK | apply bT | apply bG) | exact HK.out)⟩
        ·rw [if_neg c10] at H
         have c10b0:((bt x1000_1 x1001_1) == 92)=false:=beq_eq_false_iff_ne.mpr c10
         have c10b1:((bt x1000_1 x1001_1) != 92)=true:=bne_iff_ne.mpr c10
         have H':=ae.mk H
         clear H
         obtain ⟨HGz17,hgz17⟩:=HI0.out
         have hcz17_0:=dQ HGz17
         have hcz17_1:=dF HGz17
         have hfz17_0:=ax HGz17 0
         have hfz17_1:=ax HGz17 1
         clear HGz17 hgz17
         have p5:0≤(x1001_1:Int):=of_decide_eq_true (by first | (with_reducible assumption) | assumption)
         have q5:x1001_1 < (x1000_1.size:Int):=of_decide_eq_true (by first | (with_reducible assumption) | assumption)
         have hx5:=dI x1000_1 x1001_1
         replace p5:=eq_true p5
         replace q5:=eq_true q5
         go_wp2
         repeat (go_quiet (fail);try go_wp2)
         go_roundg k1
         case measure=>have:=HK1.out;omega
         case rel=>exact ⟨(x1000_1),(wrap64 (x1001_1+1)),H',⟨by have:=HK1.out;omega⟩,⟨by repeat (first | (with_reducible first | exact HI0.out | apply au.alloc | apply au.drewN | apply au.drew | apply au.eG | apply au.eu) | exact HI0.out)⟩,⟨by repeat (first | (with_reducible first | exact HK.out | apply aQ.gq | apply bK | apply bT | apply bG) | exact HK.out)⟩,⟨by repeat (first | (with_reducible first | exact HB.out | apply ah | apply ag | apply aj | refine aA ?_ (au.ge HI0.out)) | exact HB.out)⟩⟩
     ·rw [if_neg c4] at H
      exact absurd H (by simp)
    ·rw [if_neg c3] at H
     have c3b0:decide (x1001_1 < (x1000_1.size:Int))=false:=decide_eq_false c3
     clear c3
     simp only [Option.some.injEq,Prod.mk.injEq] at H
     obtain ⟨rfl,rfl,rfl⟩:=H
     obtain ⟨HGz18,hgz18⟩:=HI0.out
     have hcz18_0:=dQ HGz18
     have hcz18_1:=dF HGz18
     have hfz18_0:=ax HGz18 0
     have hfz18_1:=ax HGz18 1
     clear HGz18 hgz18
     go_wp2
     repeat (go_quiet (fail);try go_wp2)
     go_ret
     exact ⟨by first | rfl | (simp [aZ,bf] <;> rfl) | (simp [*,aZ,bf] <;> rfl),by repeat (first | (with_reducible first | exact HI0.out | apply au.alloc | apply au.drewN | apply au.drew | apply au.eG | apply au.eu) | exact HI0.out),by repeat (first | (with_reducible first | exact HB.out | apply ah | apply ag | apply aj | refine aA ?_ (au.ge HI0.out)) | exact HB.out),by repeat (first | (with_reducible first | exact HK.out | apply aQ.gq | apply bK | apply bT | apply bG) | exact HK.out)⟩
attribute [local go_sem] dm di dL dK cu bZ dD dC
def bP.f (s0_0:ByteArray) (s0_1:Int) (a1:Int):Option (Bool × ByteArray × Int):=if s0_1 < (s0_0.size:Int) then (if 0≤s0_1 then (if (bt s0_0 s0_1)=a1 then (some (true,s0_0,wrap64 (s0_1+1))) else (some (false,s0_0,s0_1))) else (none)) else (some (false,s0_0,s0_1))
theorem bP.calls (g:Nat) (s0_0:ByteArray) (s0_1:Int) (a1:Int) (r1:Bool) (r2:ByteArray) (r3:Int) (w0 w:World) (hI:au w0 w g s0_0 s0_1) (hB:Below w0.heap.size w0 w) (h:bP.f s0_0 s0_1 a1=some (r1,r2,r3)) :
 Calls Tryz.prog 77 #[.pointer (some ⟨g,0,none⟩),.int .u8 a1] w fun e w'=>e = .returned (.bool r1)∧au w0 w' g r2 r3∧Below w0.heap.size w0 w'∧aQ w w' g none:=by
 have HI0:=ae.mk hI
 have HK:=ae.mk (aQ.refl w g none)
 have HL:=ae.mk hB.size
 clear hI
 have HW0:=ae.mk hB.size
 have HB:=ae.mk hB
 clear hB
 have H:(if s0_1 < (s0_0.size:Int) then (if 0≤s0_1 then (if (bt s0_0 s0_1)=a1 then (some (true,s0_0,wrap64 (s0_1+1))) else (some (false,s0_0,s0_1))) else (none)) else (some (false,s0_0,s0_1)))=some (r1,r2,r3):=h
 clear h
 by_cases c3:s0_1 < (s0_0.size:Int)
 ·rw [if_pos c3] at H
  have c3b0:decide (s0_1 < (s0_0.size:Int))=true:=decide_eq_true c3
  clear c3
  by_cases c4:0≤s0_1
  ·rw [if_pos c4] at H
   have c4b0:decide (0≤s0_1)=true:=decide_eq_true c4
   clear c4
   by_cases c6:(bt s0_0 s0_1)=a1
   ·rw [if_pos c6] at H
    have c6b0:((bt s0_0 s0_1) == a1)=true:=beq_iff_eq.mpr c6
    have c6b1:((bt s0_0 s0_1) != a1)=false:=bne_eq_false_iff_eq.mpr c6
    clear c6
    simp only [Option.some.injEq,Prod.mk.injEq] at H
    obtain ⟨rfl,rfl,rfl⟩:=H
    obtain ⟨HGz7,hgz7⟩:=HI0.out
    have hcz7_0:=dQ HGz7
    have hcz7_1:=dF HGz7
    have hfz7_0:=ax HGz7 0
    have hfz7_1:=ax HGz7 1
    clear HGz7 hgz7
    have p5:0≤(s0_1:Int):=of_decide_eq_true (by first | (with_reducible assumption) | assumption)
    have q5:s0_1 < (s0_0.size:Int):=of_decide_eq_true (by first | (with_reducible assumption) | assumption)
    have hx5:=dI s0_0 s0_1
    replace p5:=eq_true p5
    replace q5:=eq_true q5
    go_enter Tryz.func77,Tryz.ntmps77
    go_wp2
    repeat (go_quiet (fail);try go_wp2)
    go_ret
    exact ⟨by first | rfl | (simp [aZ,bf] <;> rfl) | (simp [*,aZ,bf] <;> rfl),by repeat (first | (with_reducible first | exact HI0.out | apply au.alloc | apply au.drewN | apply au.drew | apply au.eG | apply au.eu) | exact HI0.out),by repeat (first | (with_reducible first | exact HB.out | apply ah | apply ag | apply aj | refine aA ?_ (au.ge HI0.out)) | exact HB.out),by repeat (first | (with_reducible first | exact HK.out | apply aQ.gq | apply bK | apply bT | apply bG) | exact HK.out)⟩
   ·rw [if_neg c6] at H
    have c6b0:((bt s0_0 s0_1) == a1)=false:=beq_eq_false_iff_ne.mpr c6
    have c6b1:((bt s0_0 s0_1) != a1)=true:=bne_iff_ne.mpr c6
    simp only [Option.some.injEq,Prod.mk.injEq] at H
    obtain ⟨rfl,rfl,rfl⟩:=H
    obtain ⟨HGz8,hgz8⟩:=HI0.out
    have hcz8_0:=dQ HGz8
    have hcz8_1:=dF HGz8
    have hfz8_0:=ax HGz8 0
    have hfz8_1:=ax HGz8 1
    clear HGz8 hgz8
    have p5:0≤(s0_1:Int):=of_decide_eq_true (by first | (with_reducible assumption) | assumption)
    have q5:s0_1 < (s0_0.size:Int):=of_decide_eq_true (by first | (with_reducible assumption) | assumption)
    have hx5:=dI s0_0 s0_1
    replace p5:=eq_true p5
    replace q5:=eq_true q5
    go_enter Tryz.func77,Tryz.ntmps77
    go_wp2
    repeat (go_quiet (fail);try go_wp2)
    go_ret
    exact ⟨by first | rfl | (simp [aZ,bf] <;> rfl) | (simp [*,aZ,bf] <;> rfl),by repeat (first | (with_reducible first | exact HI0.out | apply au.alloc | apply au.drewN | apply au.drew | apply au.eG | apply au.eu) | exact HI0.out),by repeat (first | (with_reducible first | exact HB.out | apply ah | apply ag | apply aj | refine aA ?_ (au.ge HI0.out)) | exact HB.out),by repeat (first | (with_reducible first | exact HK.out | apply aQ.gq | apply bK | apply bT | apply bG) | exact HK.out)⟩
  ·rw [if_neg c4] at H
   exact absurd H (by simp)
 ·rw [if_neg c3] at H
  have c3b0:decide (s0_1 < (s0_0.size:Int))=false:=decide_eq_false c3
  clear c3
  simp only [Option.some.injEq,Prod.mk.injEq] at H
  obtain ⟨rfl,rfl,rfl⟩:=H
  obtain ⟨HGz9,hgz9⟩:=HI0.out
  have hcz9_0:=dQ HGz9
  have hcz9_1:=dF HGz9
  have hfz9_0:=ax HGz9 0
  have hfz9_1:=ax HGz9 1
  clear HGz9 hgz9
  go_enter Tryz.func77,Tryz.ntmps77
  go_wp2
  repeat (go_quiet (fail);try go_wp2)
  go_ret
  exact ⟨by first | rfl | (simp [aZ,bf] <;> rfl) | (simp [*,aZ,bf] <;> rfl),by repeat (first | (with_reducible first | exact HI0.out | apply au.alloc | apply au.drewN | apply au.drew | apply au.eG | apply au.eu) | exact HI0.out),by repeat (first | (with_reducible first | exact HB.out | apply ah | apply ag | apply aj | refine aA ?_ (au.ge HI0.out)) | exact HB.out),by repeat (first | (with_reducible first | exact HK.out | apply aQ.gq | apply bK | apply bT | apply bG) | exact HK.out)⟩
attribute [local go_sem] dm di dL dK cu bZ dD dC
def bH.l0:Nat→Int→Int→ByteArray→Int→Option (Bool × ByteArray × Int)
 | 0,_,_,_,_=>none
 | k+1,x3,x4,x1000,x1001=>if 48≤x4 then (if x4≤57 then ((bV.f x1000 (wrap64 (x1001+1))).bind fun bt130=>(bH.l0 k x3 bt130.1 bt130.2.1 bt130.2.2)) else (some (decide (x1001 > x3),x1000,x1001))) else (some (decide (x1001 > x3),x1000,x1001))
def bH.f (k:Nat) (s0_0:ByteArray) (s0_1:Int):Option (Bool × ByteArray × Int):=(bV.f s0_0 s0_1).bind fun bt127=>(bH.l0 k s0_1 bt127.1 bt127.2.1 bt127.2.2)
theorem bH.calls (k:Nat) (g:Nat) (s0_0:ByteArray) (s0_1:Int) (r1:Bool) (r2:ByteArray) (r3:Int) (w0 w:World) (hI:au w0 w g s0_0 s0_1) (hB:Below w0.heap.size w0 w) (h:bH.f k s0_0 s0_1=some (r1,r2,r3)) :
 Calls Tryz.prog 79 #[.pointer (some ⟨g,0,none⟩)] w fun e w'=>e = .returned (.bool r1)∧au w0 w' g r2 r3∧Below w0.heap.size w0 w'∧aQ w w' g none:=by
 have HI0:=ae.mk hI
 have HK:=ae.mk (aQ.refl w g none)
 have HL:=ae.mk hB.size
 clear hI
 have HW0:=ae.mk hB.size
 have HB:=ae.mk hB
 clear hB
 have H:((bV.f s0_0 s0_1).bind fun bt127=>(bH.l0 k s0_1 bt127.1 bt127.2.1 bt127.2.2))=some (r1,r2,r3):=h
 clear h
 replace H:=Option.bind_eq_some_iff.mp H
 obtain ⟨⟨t127,t128,t129⟩,A20,H⟩:=H
 replace H:(bH.l0 k s0_1 t127 t128 t129)=some (r1,r2,r3):=H
 have A2:=ae.mk A20
 clear A20
 have H':=ae.mk H
 clear H
 obtain ⟨HGz3,hgz3⟩:=HI0.out
 have hcz3_0:=dQ HGz3
 have hcz3_1:=dF HGz3
 have hfz3_0:=ax HGz3 0
 have hfz3_1:=ax HGz3 1
 clear HGz3 hgz3
 go_enter Tryz.func79,Tryz.ntmps79
 go_wp2_with (first | ((with_reducible refine bD (f:=53) rfl ?_);refine dS (some 10) rfl rfl Tryz.func53 (by kernel_rfl) rfl #[.pointer (some ⟨g,0,none⟩)] rfl (by (try simp only [List.map_toArray,List.map_cons,List.map_nil]);first | done | rfl | (simp only [List.length_drop,List.length_take];rfl)) ?_;(with_reducible refine (bV.calls g s0_0 s0_1 t127 t128 t129 w0 _ ?side1 ?side2 A2.out).mono ?_);(case side1=>repeat (first | (with_reducible first | exact HI0.out | apply au.alloc | apply au.drewN | apply au.drew | apply au.eG | apply au.eu) | exact HI0.out));(case side2=>repeat (first | (with_reducible first | exact HB.out | apply ah | apply ag | apply aj | refine aA ?_ (au.ge HI0.out)) | exact HB.out));rintro e w4 ⟨rfl,hi,hb,hk⟩;refine ⟨_,rfl,?_⟩;have n0_:=ae.mk (aQ.trans (by repeat (first | (with_reducible first | exact HK.out | apply aQ.gq | apply bK | apply bT | apply bG) | exact HK.out)) hk (.inl rfl));have n1_:=ae.mk (hb);have n2_:=ae.mk (hi);clear HK;clear HB;clear HI0;have HK:=n0_;have HB:=n1_;have HI0:=n2_;clear n0_ n1_ n2_;(try clear hb);(try clear hb2);(try clear hk);(try clear hi)))
 go_loopg [4] k (fun kq v4 w'=>∃ (x4_1:Int) (x1000_1:ByteArray) (x1001_1:Int),v4 = .int .u8 x4_1∧ae (bH.l0 kq s0_1 x4_1 x1000_1 x1001_1=some (r1,r2,r3))∧ae (kq≤k)∧ae (au w0 w' g x1000_1 x1001_1)∧ae (aQ w w' g none)∧ae (Below w0.heap.size w0 w'))
 case atStart=>exact ⟨(t127),(t128),(t129),(by first | rfl | (simp;done) | (simp [*];done)),H',⟨Nat.le_refl _⟩,⟨by repeat (first | (with_reducible first | exact HI0.out | apply au.alloc | apply au.drewN | apply au.drew | apply au.eG | apply au.eu) | exact HI0.out)⟩,⟨by repeat (first | (with_reducible first | exact HK.out | apply aQ.gq | apply bK | apply bT | apply bG) | exact HK.out)⟩,⟨by repeat (first | (with_reducible first | exact HB.out | apply ah | apply ag | apply aj | refine aA ?_ (au.ge HI0.out)) | exact HB.out)⟩⟩
 case round =>
  clear H'
  try clear p2
  try clear hcz3_0
  try clear hcz3_1
  try clear hfz3_0
  try clear hfz3_1
  obtain ⟨x4_1,x1000_1,x1001_1,rfl,HA,HK1,HI0,HK,HB⟩:=hrel
  cases gk with
  | zero=>exact absurd HA.out (by simp [bH.l0])
  | succ k1 =>
    have H:=HA.out
    clear HA
    simp only [bH.l0] at H
    by_cases c5:48≤x4_1
    ·rw [if_pos c5] at H
     have c5b0:decide (48≤x4_1)=true:=decide_eq_true c5
     clear c5
     by_cases c6:x4_1≤57
     ·rw [if_pos c6] at H
      have c6b0:decide (x4_1≤57)=true:=decide_eq_true c6
      clear c6
      replace H:=Option.bind_eq_some_iff.mp H
      obtain ⟨⟨t130,t131,t132⟩,A70,H⟩:=H
      replace H:(bH.l0 k1 s0_1 t130 t131 t132)=some (r1,r2,r3):=H
      have A7:=ae.mk A70
      clear A70
      have H':=ae.mk H
      clear H
      obtain ⟨HGz8,hgz8⟩:=HI0.out
      have hcz8_0:=dQ HGz8
      have hcz8_1:=dF HGz8
      have hfz8_0:=ax HGz8 0
      have hfz8_1:=ax HGz8 1
      clear HGz8 hgz8
      go_wp2_with (first | ((with_reducible refine bD (f:=53) rfl ?_);refine dS (some 18) rfl rfl Tryz.func53 (by kernel_rfl) rfl #[.pointer (some ⟨g,0,none⟩)] rfl (by (try simp only [List.map_toArray,List.map_cons,List.map_nil]);first | done | rfl | (simp only [List.length_drop,List.length_take];rfl)) ?_;(with_reducible refine (bV.calls g x1000_1 (wrap64 (x1001_1+1)) t130 t131 t132 w0 _ ?side1 ?side2 A7.out).mono ?_);(case side1=>repeat (first | (with_reducible first | exact HI0.out | apply au.alloc | apply au.drewN | apply au.drew | apply au.eG | apply au.eu) | exact HI0.out));(case side2=>repeat (first | (with_reducible first | exact HB.out | apply ah | apply ag | apply aj | refine aA ?_ (au.ge HI0.out)) | exact HB.out));rintro e w9 ⟨rfl,hi,hb,hk⟩;refine ⟨_,rfl,?_⟩;have n0_:=ae.mk (aQ.trans (by repeat (first | (with_reducible first | exact HK.out | apply aQ.gq | apply bK | apply bT | apply bG) | exact HK.out)) hk (.inl rfl));have n1_:=ae.mk (hb);have n2_:=ae.mk (hi);clear HK;clear HB;clear HI0;have HK:=n0_;have HB:=n1_;have HI0:=n2_;clear n0_ n1_ n2_;(try clear hb);(try clear hb2);(try clear hk);(try clear hi)))
      go_roundg k1
      case measure=>have:=HK1.out;omega
      case rel=>exact ⟨(t130),(t131),(t132),(by first | rfl | (simp;done) | (simp [*];done)),H',⟨by have:=HK1.out;omega⟩,⟨by repeat (first | (with_reducible first | exact HI0.out | apply au.alloc | apply au.drewN | apply au.drew | apply au.eG | apply au.eu) | exact HI0.out)⟩,⟨by repeat (first | (with_reducible first | exact HK.out | apply aQ.gq | apply bK | apply bT | apply bG) | exact HK.out)⟩,⟨by repeat (first | (with_reducible first | exact HB.out | apply ah | apply ag | apply aj | refine aA ?_ (au.ge HI0.out)) | exact HB.out)⟩⟩
     ·rw [if_neg c6] at H
      have c6b0:decide (x4_1≤57)=false:=decide_eq_false c6
      clear c6
      simp only [Option.some.injEq,Prod.mk.injEq] at H
      obtain ⟨rfl,rfl,rfl⟩:=H
      obtain ⟨HGz10,hgz10⟩:=HI0.out
      have hcz10_0:=dQ HGz10
      have hcz10_1:=dF HGz10
      have hfz10_0:=ax HGz10 0
      have hfz10_1:=ax HGz10 1
      clear HGz10 hgz10
      go_wp2
      go_ret
      exact ⟨by first | rfl | (simp [aZ,bf] <;> rfl) | (simp [*,aZ,bf] <;> rfl),by repeat (first | (with_reducible first | exact HI0.out | apply au.alloc | apply au.drewN | apply au.drew | apply au.eG | apply au.eu) | exact HI0.out),by repeat (first | (with_reducible first | exact HB.out | apply ah | apply ag | apply aj | refine aA ?_ (au.ge HI0.out)) | exact HB.out),by repeat (first | (with_reducible first | exact HK.out | apply aQ.gq | apply bK | apply bT | apply bG) | exact HK.out)⟩
    ·rw [if_neg c5] at H
     have c5b0:decide (48≤x4_1)=false:=decide_eq_false c5
     clear c5
     simp only [Option.some.injEq,Prod.mk.injEq] at H
     obtain ⟨rfl,rfl,rfl⟩:=H
     obtain ⟨HGz11,hgz11⟩:=HI0.out
     have hcz11_0:=dQ HGz11
     have hcz11_1:=dF HGz11
     have hfz11_0:=ax HGz11 0
     have hfz11_1:=ax HGz11 1
     clear HGz11 hgz11
     go_wp2
     go_ret
     exact ⟨by first | rfl | (simp [aZ,bf] <;> rfl) | (simp [*,aZ,bf] <;> rfl),by repeat (first | (with_reducible first | exact HI0.out | apply au.alloc | apply au.drewN | apply au.drew | apply au.eG | apply au.eu) | exact HI0.out),by repeat (first | (with_reducible first | exact HB.out | apply ah | apply ag | apply aj | refine aA ?_ (au.ge HI0.out)) | exact HB.out),by repeat (first | (with_reducible first | exact HK.out | apply aQ.gq | apply bK | apply bT | apply bG) | exact HK.out)⟩
mutual
def aC.j0:Nat→Bool→ByteArray→Int→Option (Bool × ByteArray × Int)
 | 0,_,_,_=>none
 | k+1,x12,x1000,x1001=>if x12=true then (some (false,x1000,x1001)) else ((bP.f x1000 x1001 46).bind fun bt142=>(if bt142.1=true then ((bH.f k bt142.2.1 bt142.2.2).bind fun bt145=>(aC.j1 k (!bt145.1) bt145.2.1 bt145.2.2)) else (aC.j1 k false bt142.2.1 bt142.2.2)))
def aC.j1:Nat→Bool→ByteArray→Int→Option (Bool × ByteArray × Int)
 | 0,_,_,_=>none
 | k+1,x19,x1000,x1001=>if x19=true then (some (false,x1000,x1001)) else ((bP.f x1000 x1001 101).bind fun bt148=>(if bt148.1=true then (aC.j2 k true bt148.2.1 bt148.2.2) else ((bP.f bt148.2.1 bt148.2.2 69).bind fun bt151=>(aC.j2 k bt151.1 bt151.2.1 bt151.2.2))))
def aC.j2:Nat→Bool→ByteArray→Int→Option (Bool × ByteArray × Int)
 | 0,_,_,_=>none
 | k+1,x25,x1000,x1001=>if x25=true then ((bP.f x1000 x1001 43).bind fun bt154=>(if bt154.1=true then ((bH.f k bt154.2.1 bt154.2.2).bind fun bt157=>(some (bt157.1,bt157.2.1,bt157.2.2))) else ((bP.f bt154.2.1 bt154.2.2 45).bind fun bt160=>((bH.f k bt160.2.1 bt160.2.2).bind fun bt163=>(some (bt163.1,bt163.2.1,bt163.2.2)))))) else (some (true,x1000,x1001))
end
def aC.f (k:Nat) (s0_0:ByteArray) (s0_1:Int):Option (Bool × ByteArray × Int):=(bP.f s0_0 s0_1 45).bind fun bt133=>((bP.f bt133.2.1 bt133.2.2 48).bind fun bt136=>(if bt136.1=true then (aC.j0 k false bt136.2.1 bt136.2.2) else ((bH.f k bt136.2.1 bt136.2.2).bind fun bt139=>(aC.j0 k (!bt139.1) bt139.2.1 bt139.2.2))))
structure Sn (w0 w:World) (g:Nat) (s:ByteArray) (i:Int) (W:World):Prop where
 hI:au w0 W g s i
 hB:Below w0.heap.size w0 W
 hK:aQ w W g none
section
variable {w0 w W W':World} {g:Nat} {s s':ByteArray} {i i':Int}
theorem Sn.went (h:Sn w0 w g s i W) (h1:au w0 W' g s' i') (h2:Below w0.heap.size w0 W') (h3:aQ W W' g none):Sn w0 w g s' i' W':=⟨h1,h2,h.hK.trans h3 (.inl rfl)⟩
theorem Sn.take (h:Sn w0 w g s i W) {c:Int} {b:Bool} (A:bP.f s i c=some (b,s',i')):Calls Tryz.prog 77 #[.pointer (some ⟨g,0,none⟩),.int .u8 c] W fun e w'=>e = .returned (.bool b)∧Sn w0 w g s' i' w' :=
 (bP.calls g s i c b s' i' w0 W h.hI h.hB A).mono fun e w' ⟨h1,h2,h3,h4⟩=>⟨h1,h.went h2 h3 h4⟩
theorem Sn.digits (h:Sn w0 w g s i W) {k:Nat} {b:Bool} (A:bH.f k s i=some (b,s',i')):Calls Tryz.prog 79 #[.pointer (some ⟨g,0,none⟩)] W fun e w'=>e = .returned (.bool b)∧Sn w0 w g s' i' w' :=
 (bH.calls k g s i b s' i' w0 W h.hI h.hB A).mono fun e w' ⟨h1,h2,h3,h4⟩=>⟨h1,h.went h2 h3 h4⟩
end
theorem aC.calls (k:Nat) (g:Nat) (s0_0:ByteArray) (s0_1:Int) (r1:Bool) (r2:ByteArray) (r3:Int) (w0 w:World) (hI:au w0 w g s0_0 s0_1) (hB:Below w0.heap.size w0 w) (h:aC.f k s0_0 s0_1=some (r1,r2,r3)) :
 Calls Tryz.prog 57 #[.pointer (some ⟨g,0,none⟩)] w fun e w'=>e = .returned (.bool r1)∧au w0 w' g r2 r3∧Below w0.heap.size w0 w'∧aQ w w' g none:=by
 unfold aC.f at h
 obtain ⟨⟨b1,s1,i1⟩,A1,h1⟩:=Option.bind_eq_some_iff.mp h
 obtain ⟨⟨b2,s2,i2⟩,A2,h2⟩:=Option.bind_eq_some_iff.mp h1
 dsimp only at h2
 replace A1:=ae.mk A1
 replace A2:=ae.mk A2
 replace h2:=ae.mk h2
 have S0:=ae.mk (Sn.mk hI hB (aQ.refl w g none))
 clear h h1 hI hB
 go_enter Tryz.func57,Tryz.ntmps57
 go_wp2_with (fail)
 refine (S0.out.take A1.out).mono ?_
 rintro e w1 ⟨rfl,S1⟩
 replace S1:=ae.mk S1
 clear S0
 go_upto_region 2 with (fail)
 go_cut [12] (fun v12 wc=>∃ (kq:Nat) (x:Bool) (s3:ByteArray) (i3:Int),v12 = .bool x∧ae (aC.j0 kq x s3 i3=some (r1,r2,r3))∧ae (Sn w0 w g s3 i3 wc))
 case first =>
  go_wp2_with (fail)
  refine (S1.out.take A2.out).mono ?_
  rintro e w2 ⟨rfl,S2⟩
  replace S2:=ae.mk S2
  cases b2 with
  | true =>
    have h3:=h2.out
    rw [if_pos rfl] at h3
    replace h3:=ae.mk h3
    go_wp2_with (fail)
    go_meet
    case rel=>exact ⟨_,_,_,_,rfl,h3,S2⟩
  | false =>
    have h3:=h2.out
    rw [if_neg (by decide)] at h3
    obtain ⟨⟨b3,s3,i3⟩,A3,h4⟩:=Option.bind_eq_some_iff.mp h3
    clear h2 h3
    replace A3:=ae.mk A3
    replace h4:=ae.mk h4
    go_wp2_with (fail)
    refine (S2.out.digits A3.out).mono ?_
    rintro e w3 ⟨rfl,S3⟩
    replace S3:=ae.mk S3
    go_wp2_with (fail)
    go_meet
    case rel=>exact ⟨_,_,_,_,rfl,h4,S3⟩
 case rest =>
 obtain ⟨kq,x,s3,i3,rfl,HA,S3⟩:=hcut
 clear h2 S1 A1 A2
 cases kq with
 | zero=>exact absurd HA.out (by simp [aC.j0])
 | succ k1 =>
 have h3:=HA.out
 simp only [aC.j0] at h3
 clear HA
 cases x with
 | true =>
   rw [if_pos rfl] at h3
   simp only [Option.some.injEq,Prod.mk.injEq] at h3
   obtain ⟨rfl,rfl,rfl⟩:=h3
   go_wp2_with (fail)
   go_ret
   exact ⟨rfl,S3.out.hI,S3.out.hB,S3.out.hK⟩
 | false =>
 rw [if_neg (by decide)] at h3
 obtain ⟨⟨b4,s4,i4⟩,A4,h4⟩:=Option.bind_eq_some_iff.mp h3
 dsimp only at h4
 replace A4:=ae.mk A4
 replace h4:=ae.mk h4
 clear h3
 go_upto_region 4 with (fail)
 go_cut [19] (fun v19 wc=>∃ (kq:Nat) (x:Bool) (s3:ByteArray) (i3:Int),v19 = .bool x∧ae (aC.j1 kq x s3 i3=some (r1,r2,r3))∧ae (Sn w0 w g s3 i3 wc))
 case first =>
  go_wp2_with (fail)
  refine (S3.out.take A4.out).mono ?_
  rintro e w2 ⟨rfl,S4⟩
  replace S4:=ae.mk S4
  cases b4 with
  | false =>
    have h5:=h4.out
    rw [if_neg (by decide)] at h5
    replace h5:=ae.mk h5
    go_wp2_with (fail)
    go_meet
    case rel=>exact ⟨_,_,_,_,rfl,h5,S4⟩
  | true =>
    have h5:=h4.out
    rw [if_pos rfl] at h5
    obtain ⟨⟨b5,s5,i5⟩,A5,h6⟩:=Option.bind_eq_some_iff.mp h5
    clear h4 h5
    replace A5:=ae.mk A5
    replace h6:=ae.mk h6
    go_wp2_with (fail)
    refine (S4.out.digits A5.out).mono ?_
    rintro e w3 ⟨rfl,S5⟩
    replace S5:=ae.mk S5
    go_wp2_with (fail)
    go_meet
    case rel=>exact ⟨_,_,_,_,rfl,h6,S5⟩
 case rest =>
 obtain ⟨kq,x,s5,i5,rfl,HA,S5⟩:=hcut
 clear h4 S3 A4
 cases kq with
 | zero=>exact absurd HA.out (by simp [aC.j1])
 | succ k2 =>
 have h3:=HA.out
 simp only [aC.j1] at h3
 clear HA
 cases x with
 | true =>
   rw [if_pos rfl] at h3
   simp only [Option.some.injEq,Prod.mk.injEq] at h3
   obtain ⟨rfl,rfl,rfl⟩:=h3
   go_wp2_with (fail)
   go_ret
   exact ⟨rfl,S5.out.hI,S5.out.hB,S5.out.hK⟩
 | false =>
 rw [if_neg (by decide)] at h3
 obtain ⟨⟨b6,s6,i6⟩,A6,h6⟩:=Option.bind_eq_some_iff.mp h3
 dsimp only at h6
 replace A6:=ae.mk A6
 replace h6:=ae.mk h6
 clear h3
 go_upto_region 6 with (fail)
 go_cut [25] (fun v25 wc=>∃ (kq:Nat) (x:Bool) (s3:ByteArray) (i3:Int),v25 = .bool x∧ae (aC.j2 kq x s3 i3=some (r1,r2,r3))∧ae (Sn w0 w g s3 i3 wc))
 case first =>
  go_wp2_with (fail)
  refine (S5.out.take A6.out).mono ?_
  rintro e w2 ⟨rfl,S6⟩
  replace S6:=ae.mk S6
  cases b6 with
  | true =>
    have h7:=h6.out
    rw [if_pos rfl] at h7
    replace h7:=ae.mk h7
    go_wp2_with (fail)
    go_meet
    case rel=>exact ⟨_,_,_,_,rfl,h7,S6⟩
  | false =>
    have h7:=h6.out
    rw [if_neg (by decide)] at h7
    obtain ⟨⟨b7,s7,i7⟩,A7,h8⟩:=Option.bind_eq_some_iff.mp h7
    clear h6 h7
    replace A7:=ae.mk A7
    replace h8:=ae.mk h8
    go_wp2_with (fail)
    refine (S6.out.take A7.out).mono ?_
    rintro e w3 ⟨rfl,S7⟩
    replace S7:=ae.mk S7
    go_wp2_with (fail)
    go_meet
    case rel=>exact ⟨_,_,_,_,rfl,h8,S7⟩
 case rest =>
 obtain ⟨kq,x,s7,i7,rfl,HA,S7⟩:=hcut
 clear h6 S5 A6
 cases kq with
 | zero=>exact absurd HA.out (by simp [aC.j2])
 | succ k3 =>
 have h3:=HA.out
 simp only [aC.j2] at h3
 clear HA
 cases x with
 | false =>
   rw [if_neg (by decide)] at h3
   simp only [Option.some.injEq,Prod.mk.injEq] at h3
   obtain ⟨rfl,rfl,rfl⟩:=h3
   go_wp2_with (fail)
   go_ret
   exact ⟨rfl,S7.out.hI,S7.out.hB,S7.out.hK⟩
 | true =>
 rw [if_pos rfl] at h3
 obtain ⟨⟨b8,s8,i8⟩,A8,h8⟩:=Option.bind_eq_some_iff.mp h3
 dsimp only at h8
 clear h3
 replace A8:=ae.mk A8
 replace h8:=ae.mk h8
 go_wp2_with (fail)
 refine (S7.out.take A8.out).mono ?_
 rintro e w3 ⟨rfl,S8⟩
 replace S8:=ae.mk S8
 cases b8 with
 | true =>
   have h9:=h8.out
   rw [if_pos rfl] at h9
   obtain ⟨⟨b9,s9,i9⟩,A9,h10⟩:=Option.bind_eq_some_iff.mp h9
   simp only [Option.some.injEq,Prod.mk.injEq] at h10
   obtain ⟨rfl,rfl,rfl⟩:=h10
   clear h8 h9
   replace A9:=ae.mk A9
   go_wp2_with (fail)
   refine (S8.out.digits A9.out).mono ?_
   rintro e w4 ⟨rfl,S9⟩
   go_wp2_with (fail)
   go_ret
   exact ⟨rfl,S9.hI,S9.hB,S9.hK⟩
 | false =>
   have h9:=h8.out
   rw [if_neg (by decide)] at h9
   obtain ⟨⟨b9,s9,i9⟩,A9,h10⟩:=Option.bind_eq_some_iff.mp h9
   obtain ⟨⟨b10,s10,i10⟩,A10,h11⟩:=Option.bind_eq_some_iff.mp h10
   simp only [Option.some.injEq,Prod.mk.injEq] at h11
   obtain ⟨rfl,rfl,rfl⟩:=h11
   clear h8 h9 h10
   replace A9:=ae.mk A9
   replace A10:=ae.mk A10
   go_wp2_with (fail)
   refine (S8.out.take A9.out).mono ?_
   rintro e w4 ⟨rfl,S9⟩
   replace S9:=ae.mk S9
   go_wp2_with (fail)
   refine (S9.out.digits A10.out).mono ?_
   rintro e w4 ⟨rfl,S10⟩
   go_wp2_with (fail)
   go_ret
   exact ⟨rfl,S10.hI,S10.hB,S10.hK⟩
attribute [local go_sem] dm di dL dK cu bZ dD dC
def dU.f (s0_0:ByteArray) (s0_1:Int) (a1:ByteArray):Option (Bool × ByteArray × Int):=if (wrap64 ((s0_0.size:Int) - s0_1)) < (a1.size:Int) then (some (false,s0_0,s0_1)) else (if 0≤s0_1 then (if s0_1≤(wrap64 (s0_1+(a1.size:Int))) then (if (wrap64 (s0_1+(a1.size:Int)))≤(s0_0.size:Int) then (if (s0_0.extract (s0_1:Int).toNat ((wrap64 (s0_1+(a1.size:Int))):Int).toNat).toList=a1.toList then (some (true,s0_0,wrap64 (s0_1+(a1.size:Int)))) else (some (false,s0_0,s0_1))) else (none)) else (none)) else (none))
theorem dU.calls (g:Nat) (s0_0:ByteArray) (s0_1:Int) (a1:ByteArray) (r1:Bool) (r2:ByteArray) (r3:Int) (w0 w:World) (hI:au w0 w g s0_0 s0_1) (hB:Below w0.heap.size w0 w) (h:dU.f s0_0 s0_1 a1=some (r1,r2,r3)) :
 Calls Tryz.prog 58 #[.pointer (some ⟨g,0,none⟩),.string a1] w fun e w'=>e = .returned (.bool r1)∧au w0 w' g r2 r3∧Below w0.heap.size w0 w'∧aQ w w' g none:=by
 have HI0:=ae.mk hI
 have HK:=ae.mk (aQ.refl w g none)
 have HL:=ae.mk hB.size
 clear hI
 have HW0:=ae.mk hB.size
 have HB:=ae.mk hB
 clear hB
 have H:(if (wrap64 ((s0_0.size:Int) - s0_1)) < (a1.size:Int) then (some (false,s0_0,s0_1)) else (if 0≤s0_1 then (if s0_1≤(wrap64 (s0_1+(a1.size:Int))) then (if (wrap64 (s0_1+(a1.size:Int)))≤(s0_0.size:Int) then (if (s0_0.extract (s0_1:Int).toNat ((wrap64 (s0_1+(a1.size:Int))):Int).toNat).toList=a1.toList then (some (true,s0_0,wrap64 (s0_1+(a1.size:Int)))) else (some (false,s0_0,s0_1))) else (none)) else (none)) else (none)))=some (r1,r2,r3):=h
 clear h
 by_cases c3:(wrap64 ((s0_0.size:Int) - s0_1)) < (a1.size:Int)
 ·rw [if_pos c3] at H
  have c3b0:decide ((wrap64 ((s0_0.size:Int) - s0_1)) < (a1.size:Int))=true:=decide_eq_true c3
  clear c3
  simp only [Option.some.injEq,Prod.mk.injEq] at H
  obtain ⟨rfl,rfl,rfl⟩:=H
  obtain ⟨HGz4,hgz4⟩:=HI0.out
  have hcz4_0:=dQ HGz4
  have hcz4_1:=dF HGz4
  have hfz4_0:=ax HGz4 0
  have hfz4_1:=ax HGz4 1
  clear HGz4 hgz4
  go_enter Tryz.func58,Tryz.ntmps58
  go_wp2
  repeat (go_quiet (fail);try go_wp2)
  go_ret
  exact ⟨by first | rfl | (simp [aZ,bf] <;> rfl) | (simp [*,aZ,bf] <;> rfl),by repeat (first | (with_reducible first | exact HI0.out | apply au.alloc | apply au.drewN | apply au.drew | apply au.eG | apply au.eu) | exact HI0.out),by repeat (first | (with_reducible first | exact HB.out | apply ah | apply ag | apply aj | refine aA ?_ (au.ge HI0.out)) | exact HB.out),by repeat (first | (with_reducible first | exact HK.out | apply aQ.gq | apply bK | apply bT | apply bG) | exact HK.out)⟩
 ·rw [if_neg c3] at H
  have c3b0:decide ((wrap64 ((s0_0.size:Int) - s0_1)) < (a1.size:Int))=false:=decide_eq_false c3
  clear c3
  by_cases c5:0≤s0_1
  ·rw [if_pos c5] at H
   have c5b0:=eq_true c5
   have c5b1:decide (0≤s0_1)=true:=decide_eq_true c5
   clear c5
   by_cases c6:s0_1≤(wrap64 (s0_1+(a1.size:Int)))
   ·rw [if_pos c6] at H
    have c6b0:=eq_true c6
    have c6b1:decide (s0_1≤(wrap64 (s0_1+(a1.size:Int))))=true:=decide_eq_true c6
    by_cases c7:(wrap64 (s0_1+(a1.size:Int)))≤(s0_0.size:Int)
    ·rw [if_pos c7] at H
     have c7b0:=eq_true c7
     have c7b1:decide ((wrap64 (s0_1+(a1.size:Int)))≤(s0_0.size:Int))=true:=decide_eq_true c7
     by_cases c8:(s0_0.extract (s0_1:Int).toNat ((wrap64 (s0_1+(a1.size:Int))):Int).toNat).toList=a1.toList
     ·rw [if_pos c8] at H
      have c8b0:((s0_0.extract (s0_1:Int).toNat ((wrap64 (s0_1+(a1.size:Int))):Int).toNat).toList == a1.toList)=true:=beq_iff_eq.mpr c8
      have c8b0e:=c8b0
      (try simp only [ByteArray.size_extract] at c8b0e)
      (try have c8b0q:=eq_true (of_decide_eq_true c8b0e))
      have c8b1:((s0_0.extract (s0_1:Int).toNat ((wrap64 (s0_1+(a1.size:Int))):Int).toNat).toList != a1.toList)=false:=bne_eq_false_iff_eq.mpr c8
      have c8b1e:=c8b1
      (try simp only [ByteArray.size_extract] at c8b1e)
      (try have c8b1q:=eq_true (of_decide_eq_true c8b1e))
      clear c8
      simp only [Option.some.injEq,Prod.mk.injEq] at H
      obtain ⟨rfl,rfl,rfl⟩:=H
      obtain ⟨HGz9,hgz9⟩:=HI0.out
      have hcz9_0:=dQ HGz9
      have hcz9_1:=dF HGz9
      have hfz9_0:=ax HGz9 0
      have hfz9_1:=ax HGz9 1
      clear HGz9 hgz9
      go_enter Tryz.func58,Tryz.ntmps58
      go_wp2
      repeat (go_quiet (fail);try go_wp2)
      go_ret
      exact ⟨by first | rfl | (simp [aZ,bf] <;> rfl) | (simp [*,aZ,bf] <;> rfl),by repeat (first | (with_reducible first | exact HI0.out | apply au.alloc | apply au.drewN | apply au.drew | apply au.eG | apply au.eu) | exact HI0.out),by repeat (first | (with_reducible first | exact HB.out | apply ah | apply ag | apply aj | refine aA ?_ (au.ge HI0.out)) | exact HB.out),by repeat (first | (with_reducible first | exact HK.out | apply aQ.gq | apply bK | apply bT | apply bG) | exact HK.out)⟩
     ·rw [if_neg c8] at H
      have c8b0:((s0_0.extract (s0_1:Int).toNat ((wrap64 (s0_1+(a1.size:Int))):Int).toNat).toList == a1.toList)=false:=beq_eq_false_iff_ne.mpr c8
      have c8b0e:=c8b0
      (try simp only [ByteArray.size_extract] at c8b0e)
      (try have c8b0q:=eq_true (of_decide_eq_true c8b0e))
      have c8b1:((s0_0.extract (s0_1:Int).toNat ((wrap64 (s0_1+(a1.size:Int))):Int).toNat).toList != a1.toList)=true:=bne_iff_ne.mpr c8
      have c8b1e:=c8b1
      (try simp only [ByteArray.size_extract] at c8b1e)
      (try have c8b1q:=eq_true (of_decide_eq_true c8b1e))
      simp only [Option.some.injEq,Prod.mk.injEq] at H
      obtain ⟨rfl,rfl,rfl⟩:=H
      obtain ⟨HGz10,hgz10⟩:=HI0.out
      have hcz10_0:=dQ HGz10
      have hcz10_1:=dF HGz10
      have hfz10_0:=ax HGz10 0
      have hfz10_1:=ax HGz10 1
      clear HGz10 hgz10
      go_enter Tryz.func58,Tryz.ntmps58
      go_wp2
      repeat (go_quiet (fail);try go_wp2)
      go_ret
      exact ⟨by first | rfl | (simp [aZ,bf] <;> rfl) | (simp [*,aZ,bf] <;> rfl),by repeat (first | (with_reducible first | exact HI0.out | apply au.alloc | apply au.drewN | apply au.drew | apply au.eG | apply au.eu) | exact HI0.out),by repeat (first | (with_reducible first | exact HB.out | apply ah | apply ag | apply aj | refine aA ?_ (au.ge HI0.out)) | exact HB.out),by repeat (first | (with_reducible first | exact HK.out | apply aQ.gq | apply bK | apply bT | apply bG) | exact HK.out)⟩
    ·rw [if_neg c7] at H
     exact absurd H (by simp)
   ·rw [if_neg c6] at H
    exact absurd H (by simp)
  ·rw [if_neg c5] at H
   exact absurd H (by simp)
end Go.Proofs.YtpgfjbimodnkeaaGreatDoor.Q
