/- FnGjMap: whatever text comes in, the law returns true and the text reads afterwards as before; with the thirteen package-level variables that its row lists as the program's own text lays them (the tied card) (part 18 of 19: lemmas for its last part) -/
import Derived.Deep.QuietTactic
import Derived.BigQuiet
import Derived.StillTailTactics
import Derived.Shelf.LaysM
import Derived.Shelf.Sort.Plain
import Derived.Shelf.Slices.In.SortNone
import Derived.Shelf.Slices.In.SortNone2
import Derived.Test.YtpgfjbimodnkeaaGreatDoorProg
import Derived.ChangeArms
import Derived.OpenShut
import Derived.LaidLaws
import Derived.MakeChecks
import Derived.ChangeOld
import Derived.Test.YtpgfjbimodnkeaaGreatDoorMpd1
import Derived.Test.YtpgfjbimodnkeaaGreatDoorMpd11
import Derived.Test.YtpgfjbimodnkeaaGreatDoorMpd14
import Derived.Test.YtpgfjbimodnkeaaGreatDoorMpd15
import Derived.Test.YtpgfjbimodnkeaaGreatDoorMpd16
import Derived.Test.YtpgfjbimodnkeaaGreatDoorMpd17
set_option maxHeartbeats 16000000
set_option maxRecDepth 100000
set_option linter.unusedVariables false
set_option linter.unusedSimpArgs false
namespace Go.Proofs.YtpgfjbimodnkeaaGreatDoor.Dec
open Go Go.RowKit Go.Proofs.YtpgfjbimodnkeaaGreatDoorW.PrintWords Go.Proofs.YtpgfjbimodnkeaaGreatDoorW.PrintLast Go.Proofs.YtpgfjbimodnkeaaGreatDoorW.PrintMore Go.Proofs.YtpgfjbimodnkeaaGreatDoor.Scan Go.Proofs.YtpgfjbimodnkeaaGreatDoor.Q
section
variable {P:Program} {a:Act} {w:World} {Q:Exit→Act→World→Prop}
theorem ry {c:Code} (first:c.wp P (iU (fun l a W=>∃ rest,findLabel c l=some rest∧∀ K,rest.wp P (iU K Q) a W) Q) a w):(Code.scope c).wp P Q a w :=
 lU _ (fun _ _ _=>0) first fun l a w h=>by
  obtain ⟨rest,h1,h2⟩:=h
  exact ⟨rest,h1,h2 _⟩
end
theorem yw (w:World) (s:ByteArray) (hs:s.size≤65536) (h0:0 < s.size) (h91:bt s (0:Nat)=91) :
 Calls Tryz.prog 67 #[resV 5 s ⟨#[]⟩ 0 0,.int .u8 123,.bool false] w fun e w'=>e = .returned (.agg #[.slice none 0 0,.slice none 0 0,.map none,.map none,.int .u8 0])∧Below w.heap.size w w':=by
 have i0:((0:Int) < (s.size:Int))=True:=eq_true (by omega)
 have i1:(0 < s.size)=True:=eq_true h0
 have hx:((s[0]'h0).toNat:Int)=91:=(dI s 0 (by simpa using h0)).trans h91
 have hnn:∀ W,(binOp .neq 65 (.slice none 0 0) (.slice none 0 0)).run Tryz.prog W = .ok (.bool false) W:=fun W=>by kernel_rfl
 clear h91
 show Calls Tryz.prog 67 #[.agg #[.int .i64 5,.string s,.string ⟨#[]⟩,.float .f64 (0:Nat),.int .i64 0,.slice none 0 0],.int .u8 123,.bool false] w _
 go_enter Tryz.func67,Tryz.ntmps67
 go_wp2_with (fail)
 refine ry ?_
 go_wp2_with (fail)
 refine wp_loop_rounds 1 ?_
 rw [rounds_succ]
 go_wp2_with (fail)
 refine wp_goto ?_
 simp only [Exit.inBlock,Exit.then,iU]
 refine ⟨_,rfl,fun K=>?_⟩
 go_wp2_with (fail)
 simp only [iU]
 show bodyPost Tryz.prog Tryz.f67 _ Exit.ret _ _
 exact bodyPost_ret (results_cell_row rfl _ _ (w.heap.size+1) 107 #[.slice none 0 0,.slice none 0 0,.map none,.map none,.int .u8 0] (0,0) _ rfl (aJ (aJ (oz w _ _ 67 107).2 _) _) Tryz.underlying107 rfl (by kernel_rfl)) rfl ⟨rfl,ah (ah (ah (ah (Below.refl _ _) _) _) _) _⟩
theorem zL (w:World) (r:Rs) (hk:r.k≠5):Calls Tryz.prog 42 #[resV r.k r.raw r.str r.num r.idx] w fun e w'=>∃ b,e = .returned (.map (some b))∧w.heap.size≤b∧w'.ownsMap Tryz.prog 9 RV b ([]:List (Rs × Rs)).length (mapD [])∧Below w.heap.size w w':=by
 have h5:(r.k != 5)=true:=bne_iff_ne.mpr hk
 have hmm:=@run_makeMap Tryz.prog
 show Calls Tryz.prog 42 #[.agg #[.int .i64 r.k,.string r.raw,.string r.str,.float .f64 r.num,.int .i64 r.idx,.slice none 0 0]] w _
 go_enter Tryz.func42,Tryz.ntmps42
 go_wp2_with (fail)
 go_ret
 exact ⟨w.heap.size+1,rfl,Nat.le_succ _,by have:=World.ownsMap_made (H:=Value) (w.alloc (.cells (gW r) 67)) Tryz.prog 9 RV;rw [show (w.alloc (.cells (gW r) 67)).heap.size=w.heap.size+1 by simp] at this;exact this,ah (ah (Below.refl _ _) _) _⟩
theorem uU (w:World) (s:ByteArray) (m:Value) (vc:Int) (hm:m = .map none∨∃ b,m = .map (some b)) (R:World→Prop)
 (h:Calls Tryz.prog 67 #[resV 5 s ⟨#[]⟩ 0 0,.int .u8 123,.bool false] (w.alloc (.cells (gW ⟨5,s,⟨#[]⟩,0,0⟩) 67)) fun e w'=>e = .returned (.agg #[.slice none 0 0,.slice none 0 0,m,.map none,.int .u8 vc])∧R w'∧Below (w.alloc (.cells (gW ⟨5,s,⟨#[]⟩,0,0⟩) 67)).heap.size (w.alloc (.cells (gW ⟨5,s,⟨#[]⟩,0,0⟩) 67)) w') :
 Calls Tryz.prog 42 #[resV 5 s ⟨#[]⟩ 0 0] w fun e w'=>∃ w2 o,e = .returned m∧R w2∧Below w.heap.size w w2∧w'=w2.alloc o:=by
 show Calls Tryz.prog 42 #[.agg #[.int .i64 5,.string s,.string ⟨#[]⟩,.float .f64 (0:Nat),.int .i64 0,.slice none 0 0]] w _
 rcases hm with rfl | ⟨b,rfl⟩
 all_goals
  go_enter Tryz.func42,Tryz.ntmps42
  go_wp2_with (fail)
  refine h.mono ?_
  rintro e w2 ⟨rfl,hR,hB⟩
  have hB2:=ae.mk (dR (ah (Below.refl w.heap.size w) (.cells (gW ⟨5,s,⟨#[]⟩,0,0⟩) 67)) (by simp) hB)
  replace hR:=ae.mk hR
  clear hB h
  go_wp2_with (fail)
  go_ret
  exact ⟨w2,_,rfl,hR.out,hB2.out,rfl⟩
theorem BA (w:World) (B:Nat) (s:ByteArray) (hs:s.size≤65536) (h0:0 < s.size) (h123:bt s (0:Nat)=123) (ns:List S44) (ks:List S32) (hns:ns.length≤65536) (hlen:ns.length=ks.length) (hT:Tabs B w) (hq:lH s 1 (toks ns ks)) :
 Calls Tryz.prog 42 #[resV 5 s ⟨#[]⟩ 0 0] w fun e w'=>∃ b ps,e = .returned (.map (some b))∧(fH s ns ps∧gX s ks ps)∧w.heap.size≤b∧w'.ownsMap Tryz.prog 9 RV b ps.length (mapD ps)∧Below w.heap.size w w':=by
 have hb:=ah (Below.refl w.heap.size w) (.cells (gW ⟨5,s,⟨#[]⟩,0,0⟩) 67)
 refine (uU w s (.map (some ((w.alloc (.cells (gW ⟨5,s,⟨#[]⟩,0,0⟩) 67)).heap.size+4))) 123 (.inr ⟨_,rfl⟩) (fun w'=>∃ ps:List (Rs × Rs),(fH s ns ps∧gX s ks ps)∧w'.ownsMap Tryz.prog 9 RV ((w.alloc (.cells (gW ⟨5,s,⟨#[]⟩,0,0⟩) 67)).heap.size+4) ps.length (mapD ps)) ?_).mono ?_
 ·refine (xN _ B s hs h0 h123 ns ks hns hlen (hT.below (Below.mono hb hT.size)) hq).mono ?_
  rintro e w' ⟨ps,rfl,h1,h2,h3,h4⟩
  exact ⟨rfl,⟨ps,⟨h1,h2⟩,h3⟩,h4⟩
 ·rintro e w' ⟨w2,o,rfl,⟨ps,h1,h2⟩,h3,rfl⟩
  exact ⟨_,ps,rfl,h1,by simp;omega,h2.alloc o,ah h3 o⟩
theorem BM (w:World) (s:ByteArray) (hs:s.size≤65536) (h0:0 < s.size) (h91:bt s (0:Nat)=91):Calls Tryz.prog 42 #[resV 5 s ⟨#[]⟩ 0 0] w fun e w'=>e = .returned (.map none)∧Below w.heap.size w w':=by
 refine (uU w s (.map none) 0 (.inl rfl) (fun _=>True) ((yw _ s hs h0 h91).mono ?_)).mono ?_
 ·rintro e w' ⟨rfl,h⟩
  exact ⟨rfl,trivial,h⟩
 ·rintro e w' ⟨w2,o,rfl,_,h3,rfl⟩
  exact ⟨rfl,ah h3 o⟩
end Go.Proofs.YtpgfjbimodnkeaaGreatDoor.Dec
namespace Go.Proofs.YtpgfjbimodnkeaaGreatDoor.Q
open Go.RowKit Go.Proofs.YtpgfjbimodnkeaaGreatDoorW.PrintWords Go.Proofs.YtpgfjbimodnkeaaGreatDoorW.PrintLast Go.Proofs.YtpgfjbimodnkeaaGreatDoorW.PrintMore
structure Sm (w:World) (g1 g2:Nat) (u v:Array Value) (W:World):Prop where
 k1:W.heap[g1]?=some (.cells u 25 (0,0))
 k2:W.heap[g2]?=some (.cells v 25 (0,0))
 bel:Below w.heap.size w W
theorem Sm.below {w W W':World} {g1 g2:Nat} {u v:Array Value} (h:Sm w g1 g2 u v W) (hb:Below W.heap.size W W'):Sm w g1 g2 u v W':=⟨df h.k1 hb,df h.k2 hb,dR h.bel h.bel.size hb⟩
theorem Sm.drewN {w W:World} {g1 g2:Nat} {u v:Array Value} (h:Sm w g1 g2 u v W) (n:Nat):Sm w g1 g2 u v (W.drewN n):=h.below (ag (Below.refl _ _) n)
theorem Sm.drew {w W:World} {g1 g2:Nat} {u v:Array Value} (h:Sm w g1 g2 u v W):Sm w g1 g2 u v W.drew:=h.below (eU (Below.refl _ _))
theorem wo (n:Nat):∀ (t:S25),SizeOf.sizeOf t < n→∀ (A2:Option Addr) (c2:Nat) (A3:Option Addr) (c3:Nat) (B2:Option Addr) (d2:Nat) (B3:Option Addr) (d3:Nat) (w:World) (h2:Kd.string.C w A2 t.f2.length t.f2) (h3:k25.C w A3 t.f3.length t.f3) (h4:Kd.string.C w B2 t.f2.length t.f2) (h5:k25.C w B3 t.f3.length t.f3),
 Calls Tryz.prog 38 #[.agg #[.int .i64 t.f0,.string t.f1,.slice A2 t.f2.length c2,.slice A3 t.f3.length c3],.agg #[.int .i64 t.f0,.string t.f1,.slice B2 t.f2.length d2,.slice B3 t.f3.length d3]] w fun e w'=>e = .returned (.bool true)∧Below w.heap.size w w':=by
 induction n with
 | zero=>exact fun t h=>absurd h (by omega)
 | succ n ih =>
 intro t ht A2 c2 A3 c3 B2 d2 B3 d3 w h2 h3 h4 h5
 have hm:=Kd.uM h2
 have hm3:=Kd.uM h3
 have hsub:∀ x ∈ t.f3,SizeOf.sizeOf x < n:=fun x hx=>by have:=wM t x hx;omega
 generalize t.f0=kd at *
 generalize t.f1=txt at *
 generalize t.f2=ks at *
 generalize t.f3=ts at *
 replace h2:=ae.mk h2
 replace h3:=ae.mk h3
 replace h4:=ae.mk h4
 replace h5:=ae.mk h5
 replace hsub:=ae.mk hsub
 replace ih:=ae.mk ih
 clear ht
 have x1:(kd != kd)=false:=bne_self_eq_false _
 have x2:(txt.toList != txt.toList)=false:=bne_self_eq_false _
 have x3:((ks.length:Int) != (ks.length:Int))=false:=bne_self_eq_false _
 have x4:((ts.length:Int) != (ts.length:Int))=false:=bne_self_eq_false _
 obtain ⟨W0,hW0⟩:∃ W0,(w.alloc (.cells #[.int .i64 kd,.string txt,.slice A2 ks.length c2,.slice A3 ts.length c3] 25)).alloc (.cells #[.int .i64 kd,.string txt,.slice B2 ks.length d2,.slice B3 ts.length d3] 25)=W0:=⟨_,rfl⟩
 have S0:Sm w w.heap.size (w.heap.size+1) #[.int .i64 kd,.string txt,.slice A2 ks.length c2,.slice A3 ts.length c3] #[.int .i64 kd,.string txt,.slice B2 ks.length d2,.slice B3 ts.length d3] W0:=by
  rw [← hW0]
  refine ⟨aJ (fM w _) _,?_,ah (ah (Below.refl _ _) _) _⟩
  have:=fM (w.alloc (.cells #[.int .i64 kd,.string txt,.slice A2 ks.length c2,.slice A3 ts.length c3] 25)) (.cells #[.int .i64 kd,.string txt,.slice B2 ks.length d2,.slice B3 ts.length d3] 25)
  simpa using this
 replace hW0:=ae.mk hW0
 replace S0:=ae.mk S0
 go_enter Tryz.func38,Tryz.ntmps38
 go_wp2_with (fail)
 go_loopg [5] ks.length (fun kq v5 w'=>∃ i:Nat,v5 = .int .i64 i∧ae (i+kq=ks.length)∧ae (Sm w w.heap.size (w.heap.size+1) #[.int .i64 kd,.string txt,.slice A2 ks.length c2,.slice A3 ts.length c3] #[.int .i64 kd,.string txt,.slice B2 ks.length d2,.slice B3 ts.length d3] w'))
 case atStart=>exact ⟨0,rfl,⟨by omega⟩,⟨by have:=S0.out;rw [← hW0.out] at this;exact this⟩⟩
 case round =>
  clear S0 hW0
  obtain ⟨i,rfl,hi,hS⟩:=hrel
  have a0:=(ak hS.out.k1 0).trans rfl
  have a1:=(ak hS.out.k1 1).trans rfl
  have a2:=(ak hS.out.k1 2).trans rfl
  have a3:=(ak hS.out.k1 3).trans rfl
  have b0:=(ak hS.out.k2 0).trans rfl
  have b1:=(ak hS.out.k2 1).trans rfl
  have b2:=(ak hS.out.k2 2).trans rfl
  have b3:=(ak hS.out.k2 3).trans rfl
  cases gk with
  | zero =>
    have hi':=hi.out
    have e0:decide (i < ks.length)=false:=decide_eq_false (by omega)
    replace hm:=ae.mk hm
    clear hi'
    go_wp2_with (fail)
    go_loopg [6] ts.length (fun kq v6 w'=>∃ i:Nat,v6 = .int .i64 i∧ae (i+kq=ts.length)∧ae (Sm w w.heap.size (w.heap.size+1) #[.int .i64 kd,.string txt,.slice A2 ks.length c2,.slice A3 ts.length c3] #[.int .i64 kd,.string txt,.slice B2 ks.length d2,.slice B3 ts.length d3] w'))
    case atStart=>exact ⟨0,rfl,⟨by omega⟩,hS⟩
    case round =>
     clear a0 a1 a2 a3 b0 b1 b2 b3 hS hi e0
     obtain ⟨i,rfl,hi,hS⟩:=hrel
     have a0:=(ak hS.out.k1 0).trans rfl
     have a1:=(ak hS.out.k1 1).trans rfl
     have a2:=(ak hS.out.k1 2).trans rfl
     have a3:=(ak hS.out.k1 3).trans rfl
     have b0:=(ak hS.out.k2 0).trans rfl
     have b1:=(ak hS.out.k2 1).trans rfl
     have b2:=(ak hS.out.k2 2).trans rfl
     have b3:=(ak hS.out.k2 3).trans rfl
     cases gk with
     | zero =>
       have hi':=hi.out
       have e0:decide (i < ts.length)=false:=decide_eq_false (by omega)
       clear hi'
       go_wp2
       go_ret
       exact ⟨rfl,hS.out.bel⟩
     | succ gk =>
       have hi':=hi.out
       have e0:decide (i < ts.length)=true:=decide_eq_true (by omega)
       obtain ⟨ad,X2,x2,X3,x3,rfl,q0,q1,q2,q3,l2,g2,l3,g3⟩:=sW (Kd.dG h3.out hS.out.bel) (i:Int) (by omega) (by omega)
       obtain ⟨bd,Y2,y2,Y3,y3,rfl,r0,r1,r2,r3,l4,g4,l5,g5⟩:=sW (Kd.dG h5.out hS.out.bel) (i:Int) (by omega) (by omega)
       have p1:(0≤(i:Int))=True:=eq_true (by omega)
       have p2:((i:Int) < (ts.length:Int))=True:=eq_true (by omega)
       have hcall:=fun W (hW:Below wr.heap.size wr W)=>ih.out (iR ts i) (hsub.out _ (uw ts i (by omega) (by omega))) X2 x2 X3 x3 Y2 y2 Y3 y3 W (Kd.dG g2 hW) (Kd.dG g3 hW) (Kd.dG g4 hW) (Kd.dG g5 hW)
       replace g2:=ae.mk g2
       replace g3:=ae.mk g3
       replace g4:=ae.mk g4
       replace g5:=ae.mk g5
       rw [Int.toNat_natCast] at q0 q1 q2 q3 r0 r1 r2 r3
       generalize iR ts (i:Int)=x at *
       clear hi'
       go_wp2_with (fail)
       go_region_with (first | (go_at_call 38;refine (hcall _ ?_).mono ?_;(repeat (with_reducible first | exact Below.refl _ _ | apply ah | apply ag | apply eU));rintro e w5 ⟨rfl,hb5⟩;replace hb5:=ae.mk hb5))
       all_goals
        have hS5:=ae.mk (hS.out.drew.below hb5.out)
        go_wp2
        go_roundg gk
        case measure=>omega
        case rel=>exact ⟨i+1,by have:=hi.out;congr 1;unfold wrap64;omega,⟨by have:=hi.out;omega⟩,hS5⟩
  | succ gk =>
    have hi':=hi.out
    have e0:decide (i < ks.length)=true:=decide_eq_true (by omega)
    obtain ⟨ad,rfl,hx⟩:=Kd.kG (Kd.dG h2.out hS.out.bel) (i:Int) (by omega) (by omega)
    obtain ⟨bd,rfl,hy⟩:=Kd.kG (Kd.dG h4.out hS.out.bel) (i:Int) (by omega) (by omega)
    have p1:(0≤(i:Int))=True:=eq_true (by omega)
    have p2:((i:Int) < (ks.length:Int))=True:=eq_true (by omega)
    rw [Int.toNat_natCast] at hx hy
    generalize lg ByteArray.empty ks i=y at *
    have x5:(y.toList != y.toList)=false:=bne_self_eq_false _
    clear hi'
    go_wp2_with (fail)
    go_quiet (fail)
    have hS5:=ae.mk (hS.out.drewN nq)
    go_wp2
    go_roundg gk
    case measure=>omega
    case rel=>exact ⟨i+1,by have:=hi.out;congr 1;unfold wrap64;omega,⟨by have:=hi.out;omega⟩,hS5⟩
end Go.Proofs.YtpgfjbimodnkeaaGreatDoor.Q
namespace Go.Proofs.YtpgfjbimodnkeaaGreatDoor.Dec
open Go Go.RowKit Go.Proofs.YtpgfjbimodnkeaaGreatDoorW.PrintWords Go.Proofs.YtpgfjbimodnkeaaGreatDoorW.PrintLast Go.Proofs.YtpgfjbimodnkeaaGreatDoorW.PrintMore Go.Proofs.YtpgfjbimodnkeaaGreatDoor.Scan Go.Proofs.YtpgfjbimodnkeaaGreatDoor.Q
theorem yx (kd:Int) (W:World):Calls Tryz.prog 35 #[.int .i64 kd] W fun e w'=>e = .returned (.int .i64 (gjk kd))∧ai W w':=jW.calls kd (gjk kd) W (Ag kd)
theorem vH (w:World) (r:Rs) (t:S25) (hk:r.k=gjk t.f0) (hx:r.ex=true) (k:Nat) (h:fU.f k r.raw=some (t.f0,t.f1,t.f2,t.f3,true)) (hstr:t.f0=4→r.str=t.f1) (A2:Option Addr) (c2:Nat) (A3:Option Addr) (c3:Nat) (h2:Kd.string.C w A2 t.f2.length t.f2) (h3:k25.C w A3 t.f3.length t.f3) :
 Calls Tryz.prog 23 #[.agg #[.int .i64 r.k,.string r.raw,.string r.str,.float .f64 r.num,.bool r.ex],.agg #[.int .i64 t.f0,.string t.f1,.slice A2 t.f2.length c2,.slice A3 t.f3.length c3]] w fun e w'=>e = .returned (.bool true)∧Below w.heap.size w w':=by
 have hrd:=fun W=>fU.calls k r.raw t.f0 t.f1 t.f2 t.f3 true W h
 have hsm:=fun A2 c2 A3 c3 B2 d2 B3 d3 W=>wo _ t (Nat.lt_succ_self _) A2 c2 A3 c3 B2 d2 B3 d3 W
 have hkd:=fun W=>yx t.f0 W
 have h4:(t.f0 != 4)=true∨(t.f0 != 4)=false∧r.str=t.f1:=by
  by_cases h:t.f0=4
  ·exact .inr ⟨by simp [h],hstr h⟩
  ·exact .inl (bne_iff_ne.mpr h)
 rw [hx]
 rw [hk]
 clear h hk hx hstr
 generalize gjk t.f0=gk at *
 generalize t.f0=kd at *
 generalize t.f1=txt at *
 generalize t.f2=keys at *
 generalize t.f3=ts at *
 generalize r.raw=raw at *
 generalize r.str=str at *
 generalize r.num=num at *
 have hgg:(gk != gk)=false:=bne_self_eq_false _
 have htt:(txt.toList == txt.toList)=true:=beq_self_eq_true _
 replace h2:=ae.mk h2
 replace h3:=ae.mk h3
 replace h4:=ae.mk h4
 go_enter Tryz.func23,Tryz.ntmps23
 go_wp2_with (fail)
 refine (hrd _).mono ?_
 rintro e w1 ⟨v2,v3,rfl,r2,r3,hB1⟩
 obtain ⟨B2,d2,rfl,-,g2⟩:=Kd.lT r2
 obtain ⟨B3,d3,rfl,-,g3⟩:=Kd.lT r3
 have kk:=oz w #[.int .i64 gk,.string raw,.string str,.float .f64 num,.bool true] #[.int .i64 kd,.string txt,.slice A2 keys.length c2,.slice A3 ts.length c3] 39 25
 have hb0:Below w.heap.size w w1:=dR (ah (ah (Below.refl _ _) _) _) (by simp;omega) hB1
 have hb1:Below w1.heap.size w1 (w1.alloc (.cells #[.int .i64 kd,.string txt,.slice B2 keys.length d2,.slice B3 ts.length d3] 25)):=ah (Below.refl _ _) _
 have hb2:=bz hb0 hb1
 have kp:=aJ (df kk.1 hB1) (.cells #[.int .i64 kd,.string txt,.slice B2 keys.length d2,.slice B3 ts.length d3] 25)
 have kq:=aJ (df kk.2 hB1) (.cells #[.int .i64 kd,.string txt,.slice B2 keys.length d2,.slice B3 ts.length d3] 25)
 have kn:=fM w1 (.cells #[.int .i64 kd,.string txt,.slice B2 keys.length d2,.slice B3 ts.length d3] 25)
 have G2:=Kd.dG g2 hb1
 have G3:=Kd.dG g3 hb1
 have G4:=Kd.dG h2.out hb2
 have G5:=Kd.dG h3.out hb2
 have c0:=(ak kp 0).trans rfl
 have c1:=(ak kp 1).trans rfl
 have c2':=(ak kp 2).trans rfl
 have c3':=(ak kp 4).trans rfl
 have n0:=(ak kq 0).trans rfl
 have n1:=(ak kq 1).trans rfl
 have n2:=(ak kq 2).trans rfl
 have n3:=(ak kq 3).trans rfl
 have g0:=(ak kn 0).trans rfl
 have g1:=(ak kn 1).trans rfl
 have g2':=(ak kn 2).trans rfl
 have g3':=(ak kn 3).trans rfl
 obtain ⟨W,hW⟩:∃ W,w1.alloc (.cells #[.int .i64 kd,.string txt,.slice B2 keys.length d2,.slice B3 ts.length d3] 25)=W:=⟨_,rfl⟩
 clear r2 r3 hB1 hrd g2 g3
 rw [hW] at hb1 hb2 kp kq kn G2 G3 G4 G5 c0 c1 c2' c3' n0 n1 n2 n3 g0 g1 g2' g3'
 replace hW:=ae.mk hW
 replace hb1:=ae.mk hb1
 replace hb2:=ae.mk hb2
 replace kp:=ae.mk kp
 replace kq:=ae.mk kq
 replace kn:=ae.mk kn
 replace kk:=ae.mk kk
 replace G2:=ae.mk G2
 replace G3:=ae.mk G3
 replace G4:=ae.mk G4
 replace G5:=ae.mk G5
 go_wp2_with (fail)
 rw [hW.out]
 have hkw:=Below.refl W.heap.size W
 replace hkw:=ae.mk hkw
 have hsm2:=hsm B2 d2 B3 d3 A2 c2 A3 c3
 clear hsm
 go_region_with (first | (go_at_call 35;(with_reducible refine (hkd _).mono ?_);rintro e w5 ⟨rfl,hb5⟩;obtain ⟨nq,rfl⟩:=hb5) | (go_at_call 38;(with_reducible refine (hsm2 _ ?s1 ?s2 ?s3 ?s4).mono ?_);(case s1=>exact Kd.dG G2.out (by repeat (with_reducible first | exact hkw.out | apply ag | apply eU)));(case s2=>exact Kd.dG G3.out (by repeat (with_reducible first | exact hkw.out | apply ag | apply eU)));(case s3=>exact Kd.dG G4.out (by repeat (with_reducible first | exact hkw.out | apply ag | apply eU)));(case s4=>exact Kd.dG G5.out (by repeat (with_reducible first | exact hkw.out | apply ag | apply eU)));rintro e w6 ⟨rfl,hb6⟩;have hb7:Below W.heap.size W w6:=bz (by repeat (with_reducible first | exact hkw.out | apply ag | apply eU)) hb6;have kq6:=df kq.out hb7;have kp6:=df kp.out hb7;have hb8:=ae.mk (bz hb2.out hb7);clear hb6 hb7))
 all_goals
  clear n0 n1 n2 n3 c0 c1 c2' c3' g0 g1 g2' g3' hsm2 hkd
  have n0:=(ak kq6 0).trans rfl
  have n1:=(ak kq6 1).trans rfl
  have c2':=(ak kp6 2).trans rfl
  replace kp6:=ae.mk kp6
  replace kq6:=ae.mk kq6
  rcases h4.out with h5 | ⟨h5,rfl⟩
  all_goals
   go_wp2
   go_ret
   exact ⟨rfl,hb8.out⟩
open Go.Proofs (encStr)
theorem mY (w:World) (B:Nat) (s:ByteArray) (hs:s.size≤65536) (i m:Nat) (kd:Int) (ns:List S44) (ks:List S32) (hb:Blanks s 0 i) (hJ:J s .val i m kd ns ks) (hE:Blanks s m s.size) (hP:Prd s i) (hT:Tabs B w) :
 Calls Tryz.prog 21 #[.string s] w fun e w'=>∃ r:Rs,e = .returned (.agg #[.int .i64 r.k,.string r.raw,.string r.str,.float .f64 r.num,.bool r.ex])∧pW s i kd r∧Below w.heap.size w w':=by
 have hpa:=fun W hT=>yh W B s hs i m kd ns ks hb hJ hE hP hT
 replace hT:=ae.mk hT
 replace hb:=ae.mk hb
 replace hJ:=ae.mk hJ
 replace hE:=ae.mk hE
 replace hP:=ae.mk hP
 have kn:=ae.mk (fM w (.cells #[.int .i64 0,.string ⟨#[]⟩,.string ⟨#[]⟩,.float .f64 0,.bool false] 39))
 have hb1:=ae.mk (ah (Below.refl w.heap.size w) (.cells #[.int .i64 0,.string ⟨#[]⟩,.string ⟨#[]⟩,.float .f64 0,.bool false] 39))
 go_enter Tryz.func21,Tryz.ntmps21
 go_wp2_with (fail)
 with_reducible refine (hpa _ (hT.out.below (Below.mono hb1.out hT.out.size))).mono ?_
 rintro e w1 ⟨r,rfl,hR,hB1⟩
 have hgj:=uZ w1 r
 have kn1:=ae.mk (df kn.out hB1)
 have hb2:=ae.mk (dR hb1.out (by simp) hB1)
 replace hR:=ae.mk hR
 clear hpa hB1
 go_wp2_with (fail)
 with_reducible refine hgj.mono ?_
 rintro e w2 ⟨rfl,hB2⟩
 have kn2:=df kn1.out hB2
 have hb3:=ae.mk (dR hb2.out hb2.out.size hB2)
 have f0:=fun j=>ax kn2 j
 have c0:=(ak kn2 0).trans rfl
 have c1:=(ak kn2 1).trans rfl
 have c2:=(ak kn2 2).trans rfl
 have c3:=(ak kn2 3).trans rfl
 have c4:=(ak kn2 4).trans rfl
 replace kn2:=ae.mk kn2
 clear hgj hB2
 go_wp2_with (fail)
 have hl:=Nat.le_refl w.heap.size
 exact bodyPost_ret (results_cell_row rfl _ _ w.heap.size 39 #[.int .i64 r.k,.string r.raw,.string r.str,.float .f64 r.num,.bool r.ex] (0,0) _ rfl (bU (bU (bU (bU (bU kn2.out 0 _ rfl) 1 _ rfl) 2 _ rfl) 3 _ rfl) 4 _ rfl) Tryz.underlying39 rfl (by kernel_rfl)) rfl ⟨r,rfl,hR.out,aA (aA (aA (aA (aA hb3.out hl) hl) hl) hl) hl⟩
theorem mJ (w:World) (s:ByteArray) (kd:Int) (txt:ByteArray) (keys:List ByteArray) (ts:List S25) (ok:Bool) (k:Nat) (h:fD.f k s=some (kd,txt,keys,ts,ok)) :
 Calls Tryz.prog 8 #[.string s] w fun e w'=>∃ A c A3 c3,e = .returned (.tuple #[.agg #[.int .i64 kd,.string txt,.slice A keys.length c,.slice A3 ts.length c3],.bool ok])∧keys.length≤c∧Kd.string.C w' A keys.length keys∧ts.length≤c3∧k25.C w' A3 ts.length ts∧Below w.heap.size w w':=by
 refine (fD.calls k s kd txt keys ts ok w h).mono ?_
 rintro e w' ⟨v2,v3,rfl,h2,h3,hb⟩
 obtain ⟨A,c,rfl,hl,hc⟩:=Kd.lT h2
 obtain ⟨A3,c3,rfl,hl3,hc3⟩:=Kd.lT h3
 exact ⟨A,c,A3,c3,rfl,hl,hc,hl3,hc3,hb⟩
theorem CS (w:World) (s:ByteArray) (h:2147483647 < s.size) :
 Calls Tryz.prog 6 #[.string s] w fun e w'=>e = .returned (.bool true)∧Below w.heap.size w w':=by
 have h1:decide (2147483647 < (s.size:Int))=true:=decide_eq_true (by omega)
 have h2:decide (2147483647 < s.size)=true:=decide_eq_true (by omega)
 go_enter Tryz.func6,Tryz.ntmps6
 go_wp2
 go_ret
 exact ⟨rfl,Below.refl _ _⟩
theorem ya (w:World) (s:ByteArray) (h:s.size≤2147483647) (kd:Int) (txt:ByteArray) (keys:List ByteArray) (ts:List S25) (k:Nat) (hk:fD.f k s=some (kd,txt,keys,ts,false)) :
 Calls Tryz.prog 6 #[.string s] w fun e w'=>e = .returned (.bool true)∧Below w.heap.size w w':=by
 have h1:decide (2147483647 < (s.size:Int))=false:=decide_eq_false (by omega)
 have h2:decide (2147483647 < s.size)=false:=decide_eq_false (by omega)
 have hgt:=fun W=>mJ W s kd txt keys ts false k hk
 replace hk:=ae.mk hk
 go_enter Tryz.func6,Tryz.ntmps6
 go_wp2_with (first | (go_at_call 8;(with_reducible refine (hgt _).mono ?_);rintro e w1 ⟨A1,c1,A2,c2,rfl,hl1,hC1,hl2,hC2,hB1⟩;replace hC1:=ae.mk hC1;replace hC2:=ae.mk hC2;replace hB1:=ae.mk hB1))
 go_ret
 exact ⟨rfl,ah hB1.out _⟩
theorem yH (w:World) (s:ByteArray) (h:s.size≤2147483647) (t:S25) (hu:uq (SizeOf.sizeOf t+1) t=false) (k:Nat) (hk:fD.f k s=some (t.f0,t.f1,t.f2,t.f3,true)) :
 Calls Tryz.prog 6 #[.string s] w fun e w'=>e = .returned (.bool true)∧Below w.heap.size w w':=by
 have h1:decide (2147483647 < (s.size:Int))=false:=decide_eq_false (by omega)
 have h2:decide (2147483647 < s.size)=false:=decide_eq_false (by omega)
 have hgt:=fun W=>mJ W s t.f0 t.f1 t.f2 t.f3 true k hk
 have hun:=fun A2 c2 A3 c3 W g2 g3=>lN _ t (Nat.lt_succ_self _) A2 c2 A3 c3 W g2 g3
 rw [hu] at hun
 clear hu
 generalize t.f0=kd at *
 generalize t.f1=txt at *
 generalize t.f2=keys at *
 generalize t.f3=ts at *
 replace hk:=ae.mk hk
 go_enter Tryz.func6,Tryz.ntmps6
 go_wp2_with (fail)
 with_reducible refine (hgt _).mono ?_
 rintro e w1 ⟨A1,c1,A2,c2,rfl,hl1,hC1,hl2,hC2,hB1⟩
 have hb0:=ah (Below.refl w1.heap.size w1) (.cells #[.int .i64 kd,.string txt,.slice A1 keys.length c1,.slice A2 ts.length c2] 25)
 have hun2:=hun A1 c1 A2 c2 _ (Kd.dG hC1 hb0) (Kd.dG hC2 hb0)
 have hb1:=ae.mk (bz hB1 hb0)
 replace hB1:=ae.mk hB1
 clear hC1 hC2 hun hgt hb0
 go_wp2_with (fail)
 with_reducible refine hun2.mono ?_
 rintro e w2 ⟨rfl,hB2⟩
 replace hB2:=ae.mk hB2
 clear hun2
 go_wp2_with (fail)
 go_ret
 exact ⟨rfl,bz hb1.out hB2.out⟩
theorem BZ {ts:List (List UInt8)} (h:Srt [] ts):ts=[]:=by
 cases ts with
 | nil=>rfl
 | cons x l=>exact absurd ((h.mem x).1 (by simp)) (by simp [mapD,Maps.has])
theorem vZ (hS:lQ) (w:World) (s:ByteArray) (hs:s.size≤65536) (i m:Nat) (kd:Int) (h6:kd≠6) (ns:List S44) (ks:List S32) (hJ:J s .val i m kd ns ks) (r:Rs) (hR:pW s i kd r) :
 Calls Tryz.prog 20 #[.agg #[.int .i64 r.k,.string r.raw,.string r.str,.float .f64 r.num,.bool r.ex]] w fun e w'=>∃ A c A2 c2,e = .returned (.tuple #[.slice A 0 c,.slice A2 0 c2])∧Below w.heap.size w w':=by
 have hb:=hJ.bound
 have key:∀ {v1 v2:Value} {ts vs} {w':World},Dx w [] v1 v2 ts vs w'→∃ A c A2 c2,Ending.returned (.tuple #[v1,v2]) = .returned (.tuple #[.slice A 0 c,.slice A2 0 c2])∧Below w.heap.size w w':=fun h=>by
  obtain rfl:=BZ h.srt
  obtain ⟨A,c,rfl,_⟩:=kH h.r1
  obtain ⟨A2,c2,rfl,_⟩:=kH h.r2
  exact ⟨A,c,A2,c2,rfl,h.bel⟩
 rcases hR.is with ⟨h56,rfl⟩ | ⟨_,_,h5⟩
 ·have h5:kd=5:=by omega
  subst h5
  have hc:bt s i=91:=by rcases l9 hJ with h | h | h | h | h | h | h <;> omega
  have hz:(s.extract i s.size).size=s.size - i:=jr
  generalize hr:s.extract i s.size=s' at *
  have h91:bt s' (0:Nat)=91:=by rw [← hr,uu 0 (by omega)];exact hc
  refine (wC hS w (⟨5,s',⟨#[]⟩,0,i⟩:Rs) _ (fun W _=>BM W s' (by omega) (by omega) h91)).mono ?_
  rintro e w' ⟨v1,v2,ts,vs,rfl,h⟩
  exact key h
 ·refine (oC hS w r _ (fun ps=>ps=[]) (fun ps h=>by rw [h];simp) (fun W _=>(zL W { r with idx:=0 } h5).mono ?_)).mono ?_
  ·rintro e w' ⟨b,rfl,h1,h2,h3⟩
   exact ⟨b,[],rfl,rfl,h1,h2,h3⟩
  ·rintro e w' ⟨v1,v2,ts,vs,ps,rfl,rfl,h⟩
   exact key h
structure DF (keys:List ByteArray) (tt:List S25) (ts:List (List UInt8)) (vs:List Rs):Prop where
 len:ts.length=keys.length
 inc:ts.Pairwise (fun x y=>x < y)
 at_:∀ (i:Nat) (x:List UInt8) (r:Rs),ts[i]?=some x→vs[i]?=some r→∃ j t,Fit keys tt x r j t
theorem wI (hS:lQ) (w:World) (B:Nat) (hT:Tabs B w) (s:ByteArray) (hs:s.size≤65536) (i m:Nat) (ns:List S44) (ks:List S32) (hJ:J s .val i m 6 ns ks) (hE:Blanks s m s.size) (hP:Prd s i) (txt:ByteArray) (keys:List ByteArray) (tt:List S25) (ht:Evt (fun k=>bI.f k s 6 (i:Int) (m:Int) ns ks) (6,txt,keys,tt))
 (hu:(keys.map fun k=>k.data.toList).Nodup) (r:Rs) (hR:pW s i 6 r) :
 Calls Tryz.prog 20 #[.agg #[.int .i64 r.k,.string r.raw,.string r.str,.float .f64 r.num,.bool r.ex]] w fun e w'=>∃ A c A2 c2 ts vs,e = .returned (.tuple #[.slice A ts.length c,.slice A2 ts.length c2])∧DF keys tt ts vs∧vs.length=ts.length ∧
  w'.ownsRow w.heap.size 9 1 (.slice A ts.length c) ts.length (ts.map encStr)∧w'.ownsRow w.heap.size 39 5 (.slice A2 ts.length c2) ts.length (vs.flatMap Rs.cells)∧Below w.heap.size w w':=by
 have hb:=hJ.bound
 have hSl:s.size≤1099511627776:=by omega
 obtain rfl:r=⟨5,s.extract i s.size,⟨#[]⟩,0,i⟩:=by
  rcases hR.is with ⟨_,h⟩ | ⟨_,h,_⟩
  ·exact h
  ·exact absurd rfl h
 have P:=nV (show i≤s.size by omega) (Nat.le_refl s.size)
 have hz:(s.extract i s.size).size=s.size - i:=jr
 have hRl:(s.extract i s.size).size≤1099511627776:=by omega
 have hp1:Prd (s.extract i s.size) (m - i+0):=eY P hRl hE (by omega) (by omega) (BB (by omega))
 have hp0:Prd (s.extract i s.size) (i - i+0):=hJ.back P hSl hRl (Nat.le_refl _) (by omega) hP hp1
 have hJ':=hJ.move P (Nat.le_refl _) (by omega)
 obtain ⟨keys',tt',_,g2,_,g4,g5⟩:=hJ.trees P hSl hRl hP (Nat.le_refl _) (by omega)
 obtain ⟨txt',g6,_⟩:=g5 rfl
 have e:=ht.uniq g6
 obtain ⟨rfl,rfl⟩:keys=keys'∧tt=tt':=by injection e with _ e;injection e with _ e;injection e with e1 e2;exact ⟨e1,e2⟩
 rw [show i - i+0=0 by omega,show m - i+0=m - i by omega] at hJ'
 rw [show i - i+0=0 by omega] at hp0
 have hc:bt s i=123:=by rcases l9 hJ with h | h | h | h | h | h | h <;> omega
 have hlens:=hJ'.lens
 have hb':=hJ'.bound
 generalize ns.map (mvN (((0:Nat):Int) - i))=ns' at *
 generalize mvs (((0:Nat):Int) - i) ks=ks' at *
 have hsame:=zW hJ' (.inr ⟨rfl,rfl⟩)
 generalize hr:s.extract i s.size=s' at *
 have hs':s'.size≤65536:=by omega
 have h123:bt s' (0:Nat)=123:=by rw [← hr,uu 0 (by omega)];exact hc
 have htk:=zF (by omega) hJ' hp0
 refine (oC hS w (⟨5,s',⟨#[]⟩,0,i⟩:Rs) _ (fun ps=>fH s' ns' ps∧gX s' ks' ps) (fun ps h=>by have:=gX.length h.2;omega) (fun W hW=>(BA W B s' hs' (by omega) h123 ns' ks' (by omega) hsame (hT.below (Below.mono hW hT.size)) htk).mono ?_)).mono ?_
 ·rintro e w' ⟨b,ps,rfl,h1,h2,h3,h4⟩
  exact ⟨b,ps,rfl,h1,h2,h3,h4⟩
 ·rintro e w' ⟨v1,v2,ts,vs,ps,rfl,⟨hN,hK⟩,h⟩
  obtain ⟨A,c,rfl,_⟩:=kH h.r1
  obtain ⟨A2,c2,rfl,_⟩:=kH h.r2
  have hk:=sO (by omega) hN g2
  have hnd:(ps.map fun q=>q.1.str.data.toList).Nodup:=by
   rw [← hk,List.map_map] at hu
   exact hu
  refine ⟨A,c,A2,c2,ts,vs,rfl,⟨by rw [h.srt.length hnd,← hk,List.length_map],h.srt.inc,fun k x q hx hq=>?_⟩,h.len,h.r1,h.r2,h.bel⟩
  exact DU hs' hJ' hp0 hN hK g2 g4 ((h.srt.mem x).1 (List.mem_of_getElem? hx)) (h.at_ k x q hx hq)
theorem map_none (hS:lQ) (w:World) (B:Nat) (hT:Tabs B w) (s:ByteArray) (h:s.size≤2147483647) (t:S25) (hu:uq (SizeOf.sizeOf t+1) t=true) (k:Nat) (hk:fD.f k s=some (t.f0,t.f1,t.f2,t.f3,true)) (h6:t.f0≠6) (i m:Nat) (ns:List S44) (ks:List S32) (hx:vS s t.f0 i m ns ks t.f2) :
 Calls Tryz.prog 6 #[.string s] w fun e w'=>e = .returned (.bool true)∧Below w.heap.size w w':=by
 have h1:decide (2147483647 < (s.size:Int))=false:=decide_eq_false (by omega)
 have h2:decide (2147483647 < s.size)=false:=decide_eq_false (by omega)
 have h61:(t.f0 != 6)=true:=bne_iff_ne.mpr h6
 have hgt:=fun W=>mJ W s t.f0 t.f1 t.f2 t.f3 true k hk
 have hun:=fun A2 c2 A3 c3 W g2 g3=>lN _ t (Nat.lt_succ_self _) A2 c2 A3 c3 W g2 g3
 have hpa:=fun W hT=>mY W B s hx.size i m t.f0 ns ks hx.pre hx.val hx.post hx.prd hT
 have hrm:=fun W r hR=>vZ hS W s hx.size i m t.f0 h6 ns ks hx.val r hR
 rw [hu] at hun
 clear hu
 generalize t.f0=kd at *
 generalize t.f1=txt at *
 generalize t.f2=keys at *
 generalize t.f3=ts at *
 replace hk:=ae.mk hk
 replace hx:=ae.mk hx
 replace hT:=ae.mk hT
 go_enter Tryz.func6,Tryz.ntmps6
 go_wp2_with (fail)
 with_reducible refine (hgt _).mono ?_
 rintro e w1 ⟨A1,c1,A2,c2,rfl,hl1,hC1,hl2,hC2,hB1⟩
 have hb0:=ah (Below.refl w1.heap.size w1) (.cells #[.int .i64 kd,.string txt,.slice A1 keys.length c1,.slice A2 ts.length c2] 25)
 have kn:=fM w1 (.cells #[.int .i64 kd,.string txt,.slice A1 keys.length c1,.slice A2 ts.length c2] 25)
 have hun2:=hun A1 c1 A2 c2 _ (Kd.dG hC1 hb0) (Kd.dG hC2 hb0)
 have hb1:=ae.mk (bz hB1 hb0)
 replace hB1:=ae.mk hB1
 replace kn:=ae.mk kn
 clear hC1 hC2 hun hgt hb0
 go_wp2_with (fail)
 with_reducible refine hun2.mono ?_
 rintro e w2 ⟨rfl,hB2⟩
 have kn2:=ae.mk (df kn.out hB2)
 have hb2:=ae.mk (bz hb1.out hB2)
 clear hun2 hB2
 go_wp2_with (fail)
 with_reducible refine (hpa _ (hT.out.below (Below.mono hb2.out hT.out.size))).mono ?_
 rintro e w3 ⟨r,rfl,hR,hB3⟩
 have hrm2:=hrm w3 r hR
 have kn3:=ae.mk (df kn2.out hB3)
 have hb3:=ae.mk (bz hb2.out hB3)
 clear hpa hrm hB3
 replace hR:=ae.mk hR
 go_wp2_with (fail)
 with_reducible refine hrm2.mono ?_
 rintro e w4 ⟨A3,c3,A4,c4,rfl,hB4⟩
 have kn4:=df kn3.out hB4
 have hb4:=ae.mk (bz hb3.out hB4)
 have d0:=(ak kn4 0).trans rfl
 replace kn4:=ae.mk kn4
 clear hrm2 hB4
 go_wp2_with (fail)
 go_ret
 exact ⟨rfl,hb4.out⟩
theorem vk {w:World} {base:Nat} {e:TypeId} {size:Nat} {A:Option Addr} {n c:Nat} {xs:List Value} (h:w.ownsRow base e size (.slice A n c) n xs) (hn:0 < n):∃ g,A=some ⟨g,0,none⟩:=by
 obtain ⟨A',c',hv,hg⟩:=kH h
 obtain ⟨g,hg⟩:=hg hn
 injection hv with h1
 exact ⟨g,h1.trans hg⟩
theorem rises {ts:List (List UInt8)} (h:ts.Pairwise (fun x y=>x < y)) {i j:Nat} (hij:i < j) {x y:List UInt8} (hx:ts[i]?=some x) (hy:ts[j]?=some y):x < y:=by
 obtain ⟨h1,rfl⟩:=List.getElem?_eq_some_iff.1 hx
 obtain ⟨h2,rfl⟩:=List.getElem?_eq_some_iff.1 hy
 exact List.pairwise_iff_getElem.1 h i j h1 h2 hij
theorem dw {w W:World} {p:Addr} {v:Value} (hB:Below w.heap.size w W) (h:w.cell? p=some v):W.cell? p=some v:=(hB.cell (World.block_lt_of_cell? w p h)).trans h
theorem mQ:∀ (vs:List Rs) (j:Nat) (r:Rs),vs[j]?=some r→∀ q,q < 5→(vs.flatMap Rs.cells)[j*5+q]?=r.cells[q]?
 | [],j,r,h,_,_=>by simp at h
 | a :: vs,0,r,h,q,hq=>by
   obtain rfl:a=r:=by simpa using h
   rw [List.flatMap_cons,Nat.zero_mul,Nat.zero_add,List.getElem?_append_left (by exact hq)]
 | a :: vs,j+1,r,h,q,hq=>by
   have h5:a.cells.length=5:=rfl
   rw [List.flatMap_cons,List.getElem?_append_right (by omega),show (j+1)*5+q - a.cells.length=j*5+q by omega]
   exact mQ vs j r (by simpa using h) q hq
def Eg:Bool × List (List Nat × List Nat):=(true,[([],[]),([0],[0]),([1],[1]),([2],[2]),([2],[2]),([3,4,2],[2,3,4]),([5,2],[2,5]),([2],[2]),([7,2],[2,7]),([2],[2]),([8,9,2],[2,8,9]),([10,2],[2,10]),([6,11,2,2],[2,6,11]),([12,2],[2,12]),([2,13],[2,13]),([14,12],[14]),([15],[15]),([16,15],[15,16]),([17,15,15],[15,17]),([18],[18]),([18],[18]),([20,18],[18,20]),([19,21,18],[18,19,21]),([22,18],[18,22]),([18],[18]),([18],[18]),([24,25,18],[18,24,25]),([26,18],[18,26]),([23,27,18],[18,23,27]),([18,28,15],[15,18,28]),([15,29],[15,29])])
def EE:List Nat:=[0,1,3,7,7,31,63,7,135,7,903,1927,4095,8191,16383,32767,65535,131071,262143,524287,524287,1572863,4194303,8388607,524287,524287,50855935,117964799,268435455,536870911,1073741823]
theorem xE:kL .any (opsOf Tryz.f6 17)=Eg:=by kernel_rfl
theorem uK:mH Eg.2 EE=true:=by kernel_rfl
structure VI6 (n:Nat) (w5:World) (kq i:Nat) (W:World):Prop where
 kq:kq=n - i
 le:i≤n
 bel:Below w5.heap.size w5 W
theorem map_some (hS:lQ) (w:World) (B:Nat) (hT:Tabs B w) (s:ByteArray) (h:s.size≤2147483647) (t:S25) (hu:uq (SizeOf.sizeOf t+1) t=true) (k:Nat) (hk:fD.f k s=some (t.f0,t.f1,t.f2,t.f3,true)) (h6:t.f0=6) (i m:Nat) (ns:List S44) (ks:List S32) (hx:vS s 6 i m ns ks t.f2)
 (ht:Evt (fun k=>bI.f k s 6 (i:Int) (m:Int) ns ks) (6,t.f1,t.f2,t.f3)) (hl:t.f2.length≤65536) :
 Calls Tryz.prog 6 #[.string s] w fun e w'=>e = .returned (.bool true)∧Below w.heap.size w w':=by
 have h1:decide (2147483647 < (s.size:Int))=false:=decide_eq_false (by omega)
 have h2:decide (2147483647 < s.size)=false:=decide_eq_false (by omega)
 have hgt:=fun W=>mJ W s t.f0 t.f1 t.f2 t.f3 true k hk
 have hun:=fun A2 c2 A3 c3 W g2 g3=>lN _ t (Nat.lt_succ_self _) A2 c2 A3 c3 W g2 g3
 rw [hu] at hun
 have hnd:(t.f2.map fun k=>k.data.toList).Nodup:=by
  unfold uq at hu
  split at hu
  ·rename_i h;exact Aj h
  ·cases hu
 have hpa:=fun W hT=>mY W B s hx.size i m 6 ns ks hx.pre hx.val hx.post hx.prd hT
 have hrm:=fun W hT r hR=>wI hS W B hT s hx.size i m ns ks hx.val hx.post hx.prd t.f1 t.f2 t.f3 ht hnd r hR
 rw [h6] at hgt hun hk
 clear hu h6 hnd
 generalize t.f1=txt at *
 generalize t.f2=keys at *
 generalize t.f3=tt at *
 replace hk:=ae.mk hk
 replace hx:=ae.mk hx
 replace ht:=ae.mk ht
 replace hT:=ae.mk hT
 go_enter Tryz.func6,Tryz.ntmps6
 go_wp2_with (fail)
 with_reducible refine (hgt _).mono ?_
 rintro e w1 ⟨A1,c1,A2,c2,rfl,hl1,hC1,hl2,hC2,hB1⟩
 have hb0:=ah (Below.refl w1.heap.size w1) (.cells #[.int .i64 6,.string txt,.slice A1 keys.length c1,.slice A2 tt.length c2] 25)
 have kn:=fM w1 (.cells #[.int .i64 6,.string txt,.slice A1 keys.length c1,.slice A2 tt.length c2] 25)
 have hC1':=Kd.dG hC1 hb0
 have hC2':=Kd.dG hC2 hb0
 have hun2:=hun A1 c1 A2 c2 _ hC1' hC2'
 have hb1:=ae.mk (bz hB1 hb0)
 replace hB1:=ae.mk hB1
 replace kn:=ae.mk kn
 replace hC1':=ae.mk hC1'
 replace hC2':=ae.mk hC2'
 replace hl1:=ae.mk hl1
 replace hl2:=ae.mk hl2
 clear hC1 hC2 hun hgt hb0
 go_wp2_with (fail)
 with_reducible refine hun2.mono ?_
 rintro e w2 ⟨rfl,hB2⟩
 have kn2:=ae.mk (df kn.out hB2)
 have hb2:=ae.mk (bz hb1.out hB2)
 have hD1:=ae.mk (Kd.dG hC1'.out hB2)
 have hD2:=ae.mk (Kd.dG hC2'.out hB2)
 clear hun2 hB2 hC1' hC2'
 go_wp2_with (fail)
 with_reducible refine (hpa _ (hT.out.below (Below.mono hb2.out hT.out.size))).mono ?_
 rintro e w3 ⟨r,rfl,hR,hB3⟩
 have kn3:=ae.mk (df kn2.out hB3)
 have hb3:=ae.mk (bz hb2.out hB3)
 have hrm2:=hrm w3 (hT.out.below (Below.mono hb3.out hT.out.size)) r hR
 have hE1:=ae.mk (Kd.dG hD1.out hB3)
 have hE2:=ae.mk (Kd.dG hD2.out hB3)
 clear hpa hrm hB3 hD1 hD2
 replace hR:=ae.mk hR
 go_wp2_with (fail)
 with_reducible refine hrm2.mono ?_
 rintro e w4 ⟨A3,c3,A4,c4,ts,vs,rfl,hN,hvl,hr1,hr2,hB4⟩
 have kn4:=df kn3.out hB4
 have hb4:=ae.mk (bz hb3.out hB4)
 have hF1:=ae.mk (Kd.dG hE1.out hB4)
 have hF2:=ae.mk (Kd.dG hE2.out hB4)
 have d0:=(ak kn4 0).trans rfl
 have d2:=(ak kn4 2).trans rfl
 have hne:((ts.length:Int) != (keys.length:Int))=false:=by rw [hN.len];exact bne_self_eq_false _
 have hne2:((ts.length:Int) != (ts.length:Int))=false:=bne_self_eq_false _
 replace kn4:=ae.mk kn4
 replace hN:=ae.mk hN
 replace hvl:=ae.mk hvl
 replace hr1:=ae.mk hr1
 replace hr2:=ae.mk hr2
 clear hrm2 hB4 hE1 hE2
 go_wp2_with (fail)
 go_loopg [49] (ts.length) (fun kq v49 W=>∃ i:Nat,v49 = .int .i64 i∧ae (VI6 ts.length w4 kq i W))
 case atStart=>exact ⟨0,rfl,⟨⟨by omega,by omega,Below.refl _ _⟩⟩⟩
 case round =>
  obtain ⟨j,rfl,hL⟩:=hrel
  obtain ⟨hkq,hi,hb⟩:=hL.out
  clear hL
  have kn5:=df kn4.out hb
  have q0:=(ak kn5 0).trans rfl
  have q1:=(ak kn5 1).trans rfl
  have q2:=(ak kn5 2).trans rfl
  have q3:=(ak kn5 3).trans rfl
  clear d0 d2 hne hne2
  rcases Nat.lt_or_ge j ts.length with hlt | hge
  ·have hr5:=iq hr1.out hb
   have hr6:=iq hr2.out hb
   have hG1:=Kd.dG hF1.out hb
   have hG2:=Kd.dG hF2.out hb
   obtain ⟨g,rfl⟩:=vk hr5 (by omega)
   obtain ⟨g2,rfl⟩:=vk hr6 (by omega)
   obtain ⟨x,hx1⟩:∃ x,ts[j]?=some x:=⟨_,List.getElem?_eq_getElem hlt⟩
   obtain ⟨vr,hv1⟩:∃ r,vs[j]?=some r:=⟨_,List.getElem?_eq_getElem (by rw [hvl.out];exact hlt)⟩
   obtain ⟨jm,tk,hF⟩:=hN.out.at_ j x vr hx1 hv1
   obtain ⟨k6,hk6⟩:=(hF.member hl 6 txt).at
   obtain ⟨k7,hk7⟩:=hF.read.at
   obtain ⟨hjm,hjt⟩:=List.getElem?_eq_some_iff.1 hF.tree
   obtain ⟨ad,X2,x2,X3,x3,rfl,a0,a1,a2,a3,l2,e2,l3,e3⟩:=sW hG2 (jm:Int) (by omega) (by omega)
   have hrd:iR tt (jm:Int)=tk:=by
    unfold iR
    rw [Int.toNat_natCast,List.getD_eq_getElem?_getD,hF.tree]
    rfl
   rw [hrd] at a0 a1 a2 a3 l2 e2 l3 e3
   rw [Int.toNat_natCast] at a0 a1 a2 a3
   have hmem:=fun W hW=>eX.calls k6 6 txt A1 c1 keys (some ad) c2 tt ⟨x.toArray⟩ jm W (Kd.dG hG1 hW) hl1.out (Kd.dG hG2 hW) hl2.out hk6
   have hgi:=fun W hW=>vH W vr tk hF.kind hF.ex k7 hk7 hF.str X2 x2 X3 x3 (Kd.dG e2 hW) (Kd.dG e3 hW)
   have hc:=(hr5.cellAt j (by omega)).trans (show (ts.map encStr)[j]?=some (.string ⟨x.toArray⟩) by rw [List.getElem?_map,hx1];rfl)
   have v0:wr.cell? ⟨g2,j*5,none⟩=some (.int .i64 vr.k):=(hr6.cellAt (j*5+0) (by omega)).trans ((mQ vs j vr hv1 0 (by decide)).trans rfl)
   have v1:wr.cell? ⟨g2,j*5+1,none⟩=some (.string vr.raw):=(hr6.cellAt (j*5+1) (by omega)).trans ((mQ vs j vr hv1 1 (by decide)).trans rfl)
   have v2:wr.cell? ⟨g2,j*5+2,none⟩=some (.string vr.str):=(hr6.cellAt (j*5+2) (by omega)).trans ((mQ vs j vr hv1 2 (by decide)).trans rfl)
   have v3:wr.cell? ⟨g2,j*5+3,none⟩=some (.float .f64 vr.num):=(hr6.cellAt (j*5+3) (by omega)).trans ((mQ vs j vr hv1 3 (by decide)).trans rfl)
   have v4:wr.cell? ⟨g2,j*5+4,none⟩=some (.bool vr.ex):=(hr6.cellAt (j*5+4) (by omega)).trans ((mQ vs j vr hv1 4 (by decide)).trans rfl)
   have e1:decide ((j:Int) < (ts.length:Int))=true:=decide_eq_true (by omega)
   have e2':decide (j < ts.length)=true:=decide_eq_true (by omega)
   have j0:((0:Int)≤(j:Int))=True:=eq_true (by omega)
   have j1:((j:Int) < (ts.length:Int))=True:=eq_true (by omega)
   have j2:(j < ts.length)=True:=eq_true hlt
   have j3:((0:Int)≤(jm:Int))=True:=eq_true (by omega)
   have j4:((jm:Int) < (tt.length:Int))=True:=eq_true (by omega)
   have j5:(jm < tt.length)=True:=eq_true hjm
   have j6:decide ((jm:Int) < 0)=false:=decide_eq_false (by omega)
   replace hb:=ae.mk hb
   replace hkq:=ae.mk hkq
   replace hF:=ae.mk hF
   replace hk6:=ae.mk hk6
   replace hk7:=ae.mk hk7
   replace hx1:=ae.mk hx1
   replace hv1:=ae.mk hv1
   replace hjt:=ae.mk hjt
   replace hrd:=ae.mk hrd
   replace e2:=ae.mk e2
   replace e3:=ae.mk e3
   replace l2:=ae.mk l2
   replace l3:=ae.mk l3
   replace hG1:=ae.mk hG1
   replace hG2:=ae.mk hG2
   replace hr5:=ae.mk hr5
   replace hr6:=ae.mk hr6
   replace kn5:=ae.mk kn5
   go_wp2_with (fail)
   go_still_tail 5,(by kernel_rfl)
   go_wp2_with (first | (go_at_call 22;(with_reducible refine (hmem _ ?_).mono ?_);(case _=>repeat (with_reducible first | exact Below.refl _ _ | apply ag | apply eU));rintro e w5 ⟨rfl,hB5⟩))
   have hB6:Below wr.heap.size wr w5:=bz (eU (Below.refl _ _)) hB5
   replace a0:=dw hB6 a0
   replace a1:=dw hB6 a1
   replace a2:=dw hB6 a2
   replace a3:=dw hB6 a3
   replace v0:=dw hB6 v0
   replace v1:=dw hB6 v1
   replace v2:=dw hB6 v2
   replace v3:=dw hB6 v3
   replace v4:=dw hB6 v4
   replace hc:=dw hB6 hc
   replace q3:=dw hB6 q3
   have hgi5:=fun W (hW:Below w5.heap.size w5 W)=>hgi W (bz hB6 hW)
   have hb6:=ae.mk (bz hb4.out (bz hb.out hB6))
   clear hmem hgi hB5 q0 q1 q2
   have htl:ts.length≤65536:=by rw [hN.out.len];exact hl
   have SA:=ae.mk (eU (Below.refl w5.heap.size w5))
   rcases Nat.eq_zero_or_pos j with hj0 | hj0
   ·have j7:decide ((0:Int) < (j:Int))=false:=decide_eq_false (by omega)
    have j8:decide (0 < j)=false:=decide_eq_false (by omega)
    replace hj0:=ae.mk hj0
    replace hB6:=ae.mk hB6
    generalize (⟨x.toArray⟩:ByteArray)=sx at hc
    refine vW (n:=31) (S:=fun w'=>Below w5.heap.size w5 w') (ds:=[]) #[false,false,false,false,false,false,false,false,false,false,false,false,false,false,false,false,false,false,false,false,false,false,false,false,false,false,false,false,false,false,false] (by kernel_rfl) rfl rfl SA.out (fun hHeld=>?_);refine oU xE uK (fun HT_ HW_=>?_)
    refine dV (i:=0) (N:=some 58) (v:=?_) (a':=?_) #[true,false,false,false,false,false,false,false,false,false,false,false,false,false,false,false,false,false,false,false,false,false,false,false,false,false,false,false,false,false,false] rfl rfl (dE HT_.out (by kernel_rfl)) (fun _ _ _ h=>h) (Or.inl ⟨by rfl,?_⟩) ?_ ?_;rotate_left;(intro w';go_simp;with_reducible rfl);rotate_left;(simp only [Act.put,List.setIfInBounds_toArray,List.set_cons_zero,List.set_cons_succ,bW,cZ];rfl)
    refine dV (i:=1) (N:=some 59) (v:=?_) (a':=?_) #[true,true,false,false,false,false,false,false,false,false,false,false,false,false,false,false,false,false,false,false,false,false,false,false,false,false,false,false,false,false,false] rfl rfl (dE HT_.out (by kernel_rfl)) (fun _ _ _ h=>h) (Or.inl ⟨by rfl,?_⟩) ?_ ?_;rotate_left;(intro w';go_simp;with_reducible rfl);rotate_left;(simp only [Act.put,List.setIfInBounds_toArray,List.set_cons_zero,List.set_cons_succ,bW,cZ];rfl)
    refine dV (i:=2) (N:=some 60) (v:=?_) (a':=?_) #[true,true,true,false,false,false,false,false,false,false,false,false,false,false,false,false,false,false,false,false,false,false,false,false,false,false,false,false,false,false,false] rfl rfl (dE HT_.out (by kernel_rfl)) (fun _ _ _ h=>h) (Or.inl ⟨by rfl,?_⟩) ?_ ?_;rotate_left;(intro w';go_simp;with_reducible rfl);rotate_left;(simp only [Act.put,List.setIfInBounds_toArray,List.set_cons_zero,List.set_cons_succ,bW,cZ];rfl)
    refine dV (i:=3) (N:=some 61) (v:=?_) (a':=?_) #[true,true,true,true,false,false,false,false,false,false,false,false,false,false,false,false,false,false,false,false,false,false,false,false,false,false,false,false,false,false,false] rfl rfl (dE HT_.out (by kernel_rfl)) (fun _ _ _ h=>h) (Or.inl ⟨by rfl,?_⟩) ?_ ?_;rotate_left;(intro w';go_simp;with_reducible rfl);rotate_left;(simp only [Act.put,List.setIfInBounds_toArray,List.set_cons_zero,List.set_cons_succ,bW,cZ];rfl)
    refine dV (i:=4) (N:=some 62) (v:=?_) (a':=?_) #[true,true,true,true,true,false,false,false,false,false,false,false,false,false,false,false,false,false,false,false,false,false,false,false,false,false,false,false,false,false,false] rfl rfl (dE HT_.out (by kernel_rfl)) (fun _ _ _ h=>h) (Or.inl ⟨by rfl,?_⟩) ?_ ?_;rotate_left;(intro w';go_simp;with_reducible rfl);rotate_left;(simp only [Act.put,List.setIfInBounds_toArray,List.set_cons_zero,List.set_cons_succ,bW,cZ];rfl)
    refine dV (i:=5) (N:=some 63) (v:=?_) (a':=?_) #[true,true,true,true,true,true,false,false,false,false,false,false,false,false,false,false,false,false,false,false,false,false,false,false,false,false,false,false,false,false,false] rfl rfl (dE HT_.out (by kernel_rfl)) (fun _ _ _ h=>h) (Or.inl ⟨by rfl,?_⟩) ?_ ?_;rotate_left;(intro w';go_simp;with_reducible rfl);rotate_left;(simp only [Act.put,List.setIfInBounds_toArray,List.set_cons_zero,List.set_cons_succ,bW,cZ];rfl)
    refine lw (i:=6) (N:=some 64) (v:=?_) (a':=?_) #[true,true,true,true,true,true,true,false,false,false,false,false,false,false,false,false,false,false,false,false,false,false,false,false,false,false,false,false,false,false,false] rfl rfl (iJ HT_.out HW_.out (by kernel_rfl)) (fun _ _ _ h=>h) (Or.inl ⟨by rfl,?_⟩) hHeld ?_ ?_;rotate_left;(intro w' hk;have n0:=dw hk v0;have n1:=dw hk v1;have n2:=dw hk v2;have n3:=dw hk v3;have n4:=dw hk v4;go_simp;with_reducible rfl);rotate_left;(simp only [Act.put,List.setIfInBounds_toArray,List.set_cons_zero,List.set_cons_succ,bW,cZ];rfl)
    refine dV (i:=7) (N:=some 65) (v:=?_) (a':=?_) #[true,true,true,true,true,true,true,true,false,false,false,false,false,false,false,false,false,false,false,false,false,false,false,false,false,false,false,false,false,false,false] rfl rfl (dE HT_.out (by kernel_rfl)) (fun _ _ _ h=>h) (Or.inl ⟨by rfl,?_⟩) ?_ ?_;rotate_left;(intro w';go_simp;with_reducible rfl);rotate_left;(simp only [Act.put,List.setIfInBounds_toArray,List.set_cons_zero,List.set_cons_succ,bW,cZ];rfl)
    refine lw (i:=8) (N:=some 66) (v:=?_) (a':=?_) #[true,true,true,true,true,true,true,true,true,false,false,false,false,false,false,false,false,false,false,false,false,false,false,false,false,false,false,false,false,false,false] rfl rfl (iJ HT_.out HW_.out (by kernel_rfl)) (fun _ _ _ h=>h) (Or.inl ⟨by rfl,?_⟩) hHeld ?_ ?_;rotate_left;(intro w' hk;have n0:=dw hk q3;go_simp;with_reducible rfl);rotate_left;(simp only [Act.put,List.setIfInBounds_toArray,List.set_cons_zero,List.set_cons_succ,bW,cZ];rfl)
    refine dV (i:=9) (N:=some 67) (v:=?_) (a':=?_) #[true,true,true,true,true,true,true,true,true,true,false,false,false,false,false,false,false,false,false,false,false,false,false,false,false,false,false,false,false,false,false] rfl rfl (dE HT_.out (by kernel_rfl)) (fun _ _ _ h=>h) (Or.inl ⟨by rfl,?_⟩) ?_ ?_;rotate_left;(intro w';go_simp;with_reducible rfl);rotate_left;(simp only [Act.put,List.setIfInBounds_toArray,List.set_cons_zero,List.set_cons_succ,bW,cZ];rfl)
    refine dV (i:=10) (N:=some 68) (v:=?_) (a':=?_) #[true,true,true,true,true,true,true,true,true,true,true,false,false,false,false,false,false,false,false,false,false,false,false,false,false,false,false,false,false,false,false] rfl rfl (dE HT_.out (by kernel_rfl)) (fun _ _ _ h=>h) (Or.inl ⟨by rfl,?_⟩) ?_ ?_;rotate_left;(intro w';go_simp;with_reducible rfl);rotate_left;(simp only [Act.put,List.setIfInBounds_toArray,List.set_cons_zero,List.set_cons_succ,bW,cZ];rfl)
    refine lw (i:=11) (N:=some 69) (v:=?_) (a':=?_) #[true,true,true,true,true,true,true,true,true,true,true,true,false,false,false,false,false,false,false,false,false,false,false,false,false,false,false,false,false,false,false] rfl rfl (iJ HT_.out HW_.out (by kernel_rfl)) (fun _ _ _ h=>h) (Or.inl ⟨by rfl,?_⟩) hHeld ?_ ?_;rotate_left;(intro w' hk;have n0:=dw hk a0;have n1:=dw hk a1;have n2:=dw hk a2;have n3:=dw hk a3;go_simp;with_reducible rfl);rotate_left;(simp only [Act.put,List.setIfInBounds_toArray,List.set_cons_zero,List.set_cons_succ,bW,cZ];rfl)
    refine BQ (i:=12) (N:=some 70) #[true,true,true,true,true,true,true,true,true,true,true,true,true,false,false,false,false,false,false,false,false,false,false,false,false,false,false,false,false,false,false] rfl rfl (uo HT_.out (by kernel_rfl)) (by decide) (fun K hK=>?_);refine Aq Tryz.func23 (by kernel_rfl) rfl #[.agg #[.int .i64 vr.k,.string vr.raw,.string vr.str,.float .f64 vr.num,.bool vr.ex],.agg #[.int .i64 tk.f0,.string tk.f1,.slice X2 tk.f2.length x2,.slice X3 tk.f3.length x3]] (by rfl) rfl rfl (by (try simp only [List.map_toArray,List.map_cons,List.map_nil]);first | done | rfl) ?_;(with_reducible refine (hgi5 _ SA.out).mono ?_);rintro e wc ⟨rfl,hb7⟩;refine ⟨_,rfl,?_⟩;replace SA:=ae.mk (bz SA.out hb7);clear hb7;refine hK.out _ _ SA.out (fun hHeld=>?_);clear hK K;refine zh (a':=?_) ?_ ?_;rotate_left;(show Act.put _ (some 70) _=_;simp only [Act.put,List.setIfInBounds_toArray,List.set_cons_zero,List.set_cons_succ,bW,cZ];rfl)
    refine dV (i:=13) (N:=some 71) (v:=?_) (a':=?_) #[true,true,true,true,true,true,true,true,true,true,true,true,true,true,false,false,false,false,false,false,false,false,false,false,false,false,false,false,false,false,false] rfl rfl (dE HT_.out (by kernel_rfl)) (fun _ _ _ h=>h) (Or.inl ⟨by rfl,?_⟩) ?_ ?_;rotate_left;(intro w';go_simp;with_reducible rfl);rotate_left;(simp only [Act.put,List.setIfInBounds_toArray,List.set_cons_zero,List.set_cons_succ,bW,cZ];rfl)
    refine dV (i:=14) (N:=some 72) (v:=?_) (a':=?_) #[true,true,true,true,true,true,true,true,true,true,true,true,true,true,true,false,false,false,false,false,false,false,false,false,false,false,false,false,false,false,false] rfl rfl (dE HT_.out (by kernel_rfl)) (fun _ _ _ h=>h) (Or.inl ⟨by rfl,?_⟩) ?_ ?_;rotate_left;(intro w';go_simp;with_reducible rfl);rotate_left;(simp only [Act.put,List.setIfInBounds_toArray,List.set_cons_zero,List.set_cons_succ,bW,cZ];rfl)
    refine dV (i:=15) (N:=some 73) (v:=?_) (a':=?_) #[true,true,true,true,true,true,true,true,true,true,true,true,true,true,true,true,false,false,false,false,false,false,false,false,false,false,false,false,false,false,false] rfl rfl (dE HT_.out (by kernel_rfl)) (fun _ _ _ h=>h) (Or.inl ⟨by rfl,?_⟩) ?_ ?_;rotate_left;(intro w';go_simp;with_reducible rfl);rotate_left;(simp only [Act.put,List.setIfInBounds_toArray,List.set_cons_zero,List.set_cons_succ,bW,cZ];rfl)
    refine dV (i:=16) (N:=some 74) (v:=?_) (a':=?_) #[true,true,true,true,true,true,true,true,true,true,true,true,true,true,true,true,true,false,false,false,false,false,false,false,false,false,false,false,false,false,false] rfl rfl (dE HT_.out (by kernel_rfl)) (fun _ _ _ h=>h) (Or.inl ⟨by rfl,?_⟩) ?_ ?_;rotate_left;(intro w';go_simp;with_reducible rfl);rotate_left;(simp only [Act.put,List.setIfInBounds_toArray,List.set_cons_zero,List.set_cons_succ,bW,cZ];rfl)
    refine dV (i:=17) (N:=some 75) (v:=?_) (a':=?_) #[true,true,true,true,true,true,true,true,true,true,true,true,true,true,true,true,true,true,false,false,false,false,false,false,false,false,false,false,false,false,false] rfl rfl (dE HT_.out (by kernel_rfl)) (fun _ _ _ h=>h) (Or.inl ⟨by rfl,?_⟩) ?_ ?_;rotate_left;(intro w';go_simp;with_reducible rfl);rotate_left;(simp only [Act.put,List.setIfInBounds_toArray,List.set_cons_zero,List.set_cons_succ,bW,cZ];rfl)
    refine dV (i:=18) (N:=some 76) (v:=?_) (a':=?_) #[true,true,true,true,true,true,true,true,true,true,true,true,true,true,true,true,true,true,true,false,false,false,false,false,false,false,false,false,false,false,false] rfl rfl (dE HT_.out (by kernel_rfl)) (fun _ _ _ h=>h) (Or.inl ⟨by rfl,?_⟩) ?_ ?_;rotate_left;(intro w';go_simp;with_reducible rfl);rotate_left;(simp only [Act.put,List.setIfInBounds_toArray,List.set_cons_zero,List.set_cons_succ,bW,cZ];rfl)
    refine dV (i:=19) (N:=some 77) (v:=undef) (a':=?_) #[true,true,true,true,true,true,true,true,true,true,true,true,true,true,true,true,true,true,true,true,false,false,false,false,false,false,false,false,false,false,false] rfl rfl (dE HT_.out (by kernel_rfl)) (fun _ _ _ h=>h) (Or.inr ⟨by rfl,rfl⟩) ?_ ?_;rotate_left;(simp only [Act.put,List.setIfInBounds_toArray,List.set_cons_zero,List.set_cons_succ,bW,cZ];rfl)
    refine dV (i:=20) (N:=some 78) (v:=undef) (a':=?_) #[true,true,true,true,true,true,true,true,true,true,true,true,true,true,true,true,true,true,true,true,true,false,false,false,false,false,false,false,false,false,false] rfl rfl (dE HT_.out (by kernel_rfl)) (fun _ _ _ h=>h) (Or.inr ⟨by rfl,rfl⟩) ?_ ?_;rotate_left;(simp only [Act.put,List.setIfInBounds_toArray,List.set_cons_zero,List.set_cons_succ,bW,cZ];rfl)
    refine dV (i:=21) (N:=some 79) (v:=undef) (a':=?_) #[true,true,true,true,true,true,true,true,true,true,true,true,true,true,true,true,true,true,true,true,true,true,false,false,false,false,false,false,false,false,false] rfl rfl (dE HT_.out (by kernel_rfl)) (fun _ _ _ h=>h) (Or.inr ⟨by rfl,rfl⟩) ?_ ?_;rotate_left;(simp only [Act.put,List.setIfInBounds_toArray,List.set_cons_zero,List.set_cons_succ,bW,cZ];rfl)
    refine dV (i:=22) (N:=some 80) (v:=undef) (a':=?_) #[true,true,true,true,true,true,true,true,true,true,true,true,true,true,true,true,true,true,true,true,true,true,true,false,false,false,false,false,false,false,false] rfl rfl (dE HT_.out (by kernel_rfl)) (fun _ _ _ h=>h) (Or.inr ⟨by rfl,rfl⟩) ?_ ?_;rotate_left;(simp only [Act.put,List.setIfInBounds_toArray,List.set_cons_zero,List.set_cons_succ,bW,cZ];rfl)
    refine dV (i:=23) (N:=some 81) (v:=undef) (a':=?_) #[true,true,true,true,true,true,true,true,true,true,true,true,true,true,true,true,true,true,true,true,true,true,true,true,false,false,false,false,false,false,false] rfl rfl (dE HT_.out (by kernel_rfl)) (fun _ _ _ h=>h) (Or.inr ⟨by rfl,rfl⟩) ?_ ?_;rotate_left;(simp only [Act.put,List.setIfInBounds_toArray,List.set_cons_zero,List.set_cons_succ,bW,cZ];rfl)
    refine dV (i:=24) (N:=some 82) (v:=undef) (a':=?_) #[true,true,true,true,true,true,true,true,true,true,true,true,true,true,true,true,true,true,true,true,true,true,true,true,true,false,false,false,false,false,false] rfl rfl (dE HT_.out (by kernel_rfl)) (fun _ _ _ h=>h) (Or.inr ⟨by rfl,rfl⟩) ?_ ?_;rotate_left;(simp only [Act.put,List.setIfInBounds_toArray,List.set_cons_zero,List.set_cons_succ,bW,cZ];rfl)
    refine dV (i:=25) (N:=some 83) (v:=undef) (a':=?_) #[true,true,true,true,true,true,true,true,true,true,true,true,true,true,true,true,true,true,true,true,true,true,true,true,true,true,false,false,false,false,false] rfl rfl (dE HT_.out (by kernel_rfl)) (fun _ _ _ h=>h) (Or.inr ⟨by rfl,rfl⟩) ?_ ?_;rotate_left;(simp only [Act.put,List.setIfInBounds_toArray,List.set_cons_zero,List.set_cons_succ,bW,cZ];rfl)
    refine dV (i:=26) (N:=some 84) (v:=undef) (a':=?_) #[true,true,true,true,true,true,true,true,true,true,true,true,true,true,true,true,true,true,true,true,true,true,true,true,true,true,true,false,false,false,false] rfl rfl (dE HT_.out (by kernel_rfl)) (fun _ _ _ h=>h) (Or.inr ⟨by rfl,rfl⟩) ?_ ?_;rotate_left;(simp only [Act.put,List.setIfInBounds_toArray,List.set_cons_zero,List.set_cons_succ,bW,cZ];rfl)
    refine dV (i:=27) (N:=some 85) (v:=undef) (a':=?_) #[true,true,true,true,true,true,true,true,true,true,true,true,true,true,true,true,true,true,true,true,true,true,true,true,true,true,true,true,false,false,false] rfl rfl (dE HT_.out (by kernel_rfl)) (fun _ _ _ h=>h) (Or.inr ⟨by rfl,rfl⟩) ?_ ?_;rotate_left;(simp only [Act.put,List.setIfInBounds_toArray,List.set_cons_zero,List.set_cons_succ,bW,cZ];rfl)
    refine dV (i:=28) (N:=some 86) (v:=undef) (a':=?_) #[true,true,true,true,true,true,true,true,true,true,true,true,true,true,true,true,true,true,true,true,true,true,true,true,true,true,true,true,true,false,false] rfl rfl (dE HT_.out (by kernel_rfl)) (fun _ _ _ h=>h) (Or.inr ⟨by rfl,rfl⟩) ?_ ?_;rotate_left;(simp only [Act.put,List.setIfInBounds_toArray,List.set_cons_zero,List.set_cons_succ,bW,cZ];rfl)
    refine dV (i:=29) (N:=some 87) (v:=?_) (a':=?_) #[true,true,true,true,true,true,true,true,true,true,true,true,true,true,true,true,true,true,true,true,true,true,true,true,true,true,true,true,true,true,false] rfl rfl (dE HT_.out (by kernel_rfl)) (fun _ _ _ h=>h) (Or.inl ⟨by rfl,?_⟩) ?_ ?_;rotate_left;(intro w';go_simp;with_reducible rfl);rotate_left;(simp only [Act.put,List.setIfInBounds_toArray,List.set_cons_zero,List.set_cons_succ,bW,cZ];rfl)
    refine dV (i:=30) (N:=some 88) (v:=?_) (a':=?_) #[true,true,true,true,true,true,true,true,true,true,true,true,true,true,true,true,true,true,true,true,true,true,true,true,true,true,true,true,true,true,true] rfl rfl (dE HT_.out (by kernel_rfl)) (fun _ _ _ h=>h) (Or.inl ⟨by rfl,?_⟩) ?_ ?_;rotate_left;(intro w';go_simp;with_reducible rfl);rotate_left;(simp only [Act.put,List.setIfInBounds_toArray,List.set_cons_zero,List.set_cons_succ,bW,cZ];rfl)
    refine zq (tY HT_.out (by kernel_rfl)) ?_
    go_wp2_with (fail)
    go_roundg (ts.length - (j+1))
    case measure=>have:=hkq.out;omega
    case rel=>exact ⟨j+1,by first | rfl | (congr 1;omega),⟨⟨by omega,by omega,bz (bz hb.out hB6.out) SA.out⟩⟩⟩
   ·have j7:decide ((0:Int) < (j:Int))=true:=decide_eq_true (by omega)
    have j8:decide (0 < j)=true:=decide_eq_true (by omega)
    obtain ⟨jp,hjp⟩:∃ jp,jp+1=j:=⟨j - 1,by omega⟩
    have hjw:wrap64 ((j:Int) - 1)=(jp:Int):=by unfold wrap64;omega
    obtain ⟨y,hy1⟩:∃ y,ts[jp]?=some y:=⟨_,List.getElem?_eq_getElem (by omega)⟩
    have hp:=dw hB6 ((hr5.out.cellAt jp (by omega)).trans (show (ts.map encStr)[jp]?=some (.string ⟨y.toArray⟩) by rw [List.getElem?_map,hy1];rfl))
    have hless:Op.bytesLess (⟨y.toArray⟩:ByteArray).toList (⟨x.toArray⟩:ByteArray).toList=true:=by
     rw [toList_data,toList_data]
     exact wL _ _ (rises hN.out.inc (by omega) hy1 hx1.out)
    have k0:((0:Int)≤(jp:Int))=True:=eq_true (by omega)
    have k1:((jp:Int) < (ts.length:Int))=True:=eq_true (by omega)
    have k2:(jp < ts.length)=True:=eq_true (by omega)
    generalize (⟨x.toArray⟩:ByteArray)=sx at hc hless
    generalize (⟨y.toArray⟩:ByteArray)=sy at hp hless
    have hgq:∀ W,(binOp .geq 9 (.string sy) (.string sx)).run Tryz.prog W = .ok (.bool false) W:=fun W=>by simp [binOp,Op.stringOp,hless]
    replace hless:=ae.mk hless
    replace hjp:=ae.mk hjp
    replace hy1:=ae.mk hy1
    replace hj0:=ae.mk hj0
    replace hB6:=ae.mk hB6
    refine vW (n:=31) (S:=fun w'=>Below w5.heap.size w5 w') (ds:=[]) #[false,false,false,false,false,false,false,false,false,false,false,false,false,false,false,false,false,false,false,false,false,false,false,false,false,false,false,false,false,false,false] (by kernel_rfl) rfl rfl SA.out (fun hHeld=>?_);refine oU xE uK (fun HT_ HW_=>?_)
    refine dV (i:=0) (N:=some 58) (v:=?_) (a':=?_) #[true,false,false,false,false,false,false,false,false,false,false,false,false,false,false,false,false,false,false,false,false,false,false,false,false,false,false,false,false,false,false] rfl rfl (dE HT_.out (by kernel_rfl)) (fun _ _ _ h=>h) (Or.inl ⟨by rfl,?_⟩) ?_ ?_;rotate_left;(intro w';go_simp;with_reducible rfl);rotate_left;(simp only [Act.put,List.setIfInBounds_toArray,List.set_cons_zero,List.set_cons_succ,bW,cZ];rfl)
    refine dV (i:=1) (N:=some 59) (v:=?_) (a':=?_) #[true,true,false,false,false,false,false,false,false,false,false,false,false,false,false,false,false,false,false,false,false,false,false,false,false,false,false,false,false,false,false] rfl rfl (dE HT_.out (by kernel_rfl)) (fun _ _ _ h=>h) (Or.inl ⟨by rfl,?_⟩) ?_ ?_;rotate_left;(intro w';go_simp;with_reducible rfl);rotate_left;(simp only [Act.put,List.setIfInBounds_toArray,List.set_cons_zero,List.set_cons_succ,bW,cZ];rfl)
    refine dV (i:=2) (N:=some 60) (v:=?_) (a':=?_) #[true,true,true,false,false,false,false,false,false,false,false,false,false,false,false,false,false,false,false,false,false,false,false,false,false,false,false,false,false,false,false] rfl rfl (dE HT_.out (by kernel_rfl)) (fun _ _ _ h=>h) (Or.inl ⟨by rfl,?_⟩) ?_ ?_;rotate_left;(intro w';go_simp;with_reducible rfl);rotate_left;(simp only [Act.put,List.setIfInBounds_toArray,List.set_cons_zero,List.set_cons_succ,bW,cZ];rfl)
    refine dV (i:=3) (N:=some 61) (v:=?_) (a':=?_) #[true,true,true,true,false,false,false,false,false,false,false,false,false,false,false,false,false,false,false,false,false,false,false,false,false,false,false,false,false,false,false] rfl rfl (dE HT_.out (by kernel_rfl)) (fun _ _ _ h=>h) (Or.inl ⟨by rfl,?_⟩) ?_ ?_;rotate_left;(intro w';go_simp;with_reducible rfl);rotate_left;(simp only [Act.put,List.setIfInBounds_toArray,List.set_cons_zero,List.set_cons_succ,bW,cZ];rfl)
    refine dV (i:=4) (N:=some 62) (v:=?_) (a':=?_) #[true,true,true,true,true,false,false,false,false,false,false,false,false,false,false,false,false,false,false,false,false,false,false,false,false,false,false,false,false,false,false] rfl rfl (dE HT_.out (by kernel_rfl)) (fun _ _ _ h=>h) (Or.inl ⟨by rfl,?_⟩) ?_ ?_;rotate_left;(intro w';go_simp;with_reducible rfl);rotate_left;(simp only [Act.put,List.setIfInBounds_toArray,List.set_cons_zero,List.set_cons_succ,bW,cZ];rfl)
    refine dV (i:=5) (N:=some 63) (v:=?_) (a':=?_) #[true,true,true,true,true,true,false,false,false,false,false,false,false,false,false,false,false,false,false,false,false,false,false,false,false,false,false,false,false,false,false] rfl rfl (dE HT_.out (by kernel_rfl)) (fun _ _ _ h=>h) (Or.inl ⟨by rfl,?_⟩) ?_ ?_;rotate_left;(intro w';go_simp;with_reducible rfl);rotate_left;(simp only [Act.put,List.setIfInBounds_toArray,List.set_cons_zero,List.set_cons_succ,bW,cZ];rfl)
    refine lw (i:=6) (N:=some 64) (v:=?_) (a':=?_) #[true,true,true,true,true,true,true,false,false,false,false,false,false,false,false,false,false,false,false,false,false,false,false,false,false,false,false,false,false,false,false] rfl rfl (iJ HT_.out HW_.out (by kernel_rfl)) (fun _ _ _ h=>h) (Or.inl ⟨by rfl,?_⟩) hHeld ?_ ?_;rotate_left;(intro w' hk;have n0:=dw hk v0;have n1:=dw hk v1;have n2:=dw hk v2;have n3:=dw hk v3;have n4:=dw hk v4;go_simp;with_reducible rfl);rotate_left;(simp only [Act.put,List.setIfInBounds_toArray,List.set_cons_zero,List.set_cons_succ,bW,cZ];rfl)
    refine dV (i:=7) (N:=some 65) (v:=?_) (a':=?_) #[true,true,true,true,true,true,true,true,false,false,false,false,false,false,false,false,false,false,false,false,false,false,false,false,false,false,false,false,false,false,false] rfl rfl (dE HT_.out (by kernel_rfl)) (fun _ _ _ h=>h) (Or.inl ⟨by rfl,?_⟩) ?_ ?_;rotate_left;(intro w';go_simp;with_reducible rfl);rotate_left;(simp only [Act.put,List.setIfInBounds_toArray,List.set_cons_zero,List.set_cons_succ,bW,cZ];rfl)
    refine lw (i:=8) (N:=some 66) (v:=?_) (a':=?_) #[true,true,true,true,true,true,true,true,true,false,false,false,false,false,false,false,false,false,false,false,false,false,false,false,false,false,false,false,false,false,false] rfl rfl (iJ HT_.out HW_.out (by kernel_rfl)) (fun _ _ _ h=>h) (Or.inl ⟨by rfl,?_⟩) hHeld ?_ ?_;rotate_left;(intro w' hk;have n0:=dw hk q3;go_simp;with_reducible rfl);rotate_left;(simp only [Act.put,List.setIfInBounds_toArray,List.set_cons_zero,List.set_cons_succ,bW,cZ];rfl)
    refine dV (i:=9) (N:=some 67) (v:=?_) (a':=?_) #[true,true,true,true,true,true,true,true,true,true,false,false,false,false,false,false,false,false,false,false,false,false,false,false,false,false,false,false,false,false,false] rfl rfl (dE HT_.out (by kernel_rfl)) (fun _ _ _ h=>h) (Or.inl ⟨by rfl,?_⟩) ?_ ?_;rotate_left;(intro w';go_simp;with_reducible rfl);rotate_left;(simp only [Act.put,List.setIfInBounds_toArray,List.set_cons_zero,List.set_cons_succ,bW,cZ];rfl)
    refine dV (i:=10) (N:=some 68) (v:=?_) (a':=?_) #[true,true,true,true,true,true,true,true,true,true,true,false,false,false,false,false,false,false,false,false,false,false,false,false,false,false,false,false,false,false,false] rfl rfl (dE HT_.out (by kernel_rfl)) (fun _ _ _ h=>h) (Or.inl ⟨by rfl,?_⟩) ?_ ?_;rotate_left;(intro w';go_simp;with_reducible rfl);rotate_left;(simp only [Act.put,List.setIfInBounds_toArray,List.set_cons_zero,List.set_cons_succ,bW,cZ];rfl)
    refine lw (i:=11) (N:=some 69) (v:=?_) (a':=?_) #[true,true,true,true,true,true,true,true,true,true,true,true,false,false,false,false,false,false,false,false,false,false,false,false,false,false,false,false,false,false,false] rfl rfl (iJ HT_.out HW_.out (by kernel_rfl)) (fun _ _ _ h=>h) (Or.inl ⟨by rfl,?_⟩) hHeld ?_ ?_;rotate_left;(intro w' hk;have n0:=dw hk a0;have n1:=dw hk a1;have n2:=dw hk a2;have n3:=dw hk a3;go_simp;with_reducible rfl);rotate_left;(simp only [Act.put,List.setIfInBounds_toArray,List.set_cons_zero,List.set_cons_succ,bW,cZ];rfl)
    refine BQ (i:=12) (N:=some 70) #[true,true,true,true,true,true,true,true,true,true,true,true,true,false,false,false,false,false,false,false,false,false,false,false,false,false,false,false,false,false,false] rfl rfl (uo HT_.out (by kernel_rfl)) (by decide) (fun K hK=>?_);refine Aq Tryz.func23 (by kernel_rfl) rfl #[.agg #[.int .i64 vr.k,.string vr.raw,.string vr.str,.float .f64 vr.num,.bool vr.ex],.agg #[.int .i64 tk.f0,.string tk.f1,.slice X2 tk.f2.length x2,.slice X3 tk.f3.length x3]] (by rfl) rfl rfl (by (try simp only [List.map_toArray,List.map_cons,List.map_nil]);first | done | rfl) ?_;(with_reducible refine (hgi5 _ SA.out).mono ?_);rintro e wc ⟨rfl,hb7⟩;refine ⟨_,rfl,?_⟩;replace SA:=ae.mk (bz SA.out hb7);clear hb7;refine hK.out _ _ SA.out (fun hHeld=>?_);clear hK K;refine zh (a':=?_) ?_ ?_;rotate_left;(show Act.put _ (some 70) _=_;simp only [Act.put,List.setIfInBounds_toArray,List.set_cons_zero,List.set_cons_succ,bW,cZ];rfl)
    refine dV (i:=13) (N:=some 71) (v:=?_) (a':=?_) #[true,true,true,true,true,true,true,true,true,true,true,true,true,true,false,false,false,false,false,false,false,false,false,false,false,false,false,false,false,false,false] rfl rfl (dE HT_.out (by kernel_rfl)) (fun _ _ _ h=>h) (Or.inl ⟨by rfl,?_⟩) ?_ ?_;rotate_left;(intro w';go_simp;with_reducible rfl);rotate_left;(simp only [Act.put,List.setIfInBounds_toArray,List.set_cons_zero,List.set_cons_succ,bW,cZ];rfl)
    refine dV (i:=14) (N:=some 72) (v:=?_) (a':=?_) #[true,true,true,true,true,true,true,true,true,true,true,true,true,true,true,false,false,false,false,false,false,false,false,false,false,false,false,false,false,false,false] rfl rfl (dE HT_.out (by kernel_rfl)) (fun _ _ _ h=>h) (Or.inl ⟨by rfl,?_⟩) ?_ ?_;rotate_left;(intro w';go_simp;with_reducible rfl);rotate_left;(simp only [Act.put,List.setIfInBounds_toArray,List.set_cons_zero,List.set_cons_succ,bW,cZ];rfl)
    refine dV (i:=15) (N:=some 73) (v:=?_) (a':=?_) #[true,true,true,true,true,true,true,true,true,true,true,true,true,true,true,true,false,false,false,false,false,false,false,false,false,false,false,false,false,false,false] rfl rfl (dE HT_.out (by kernel_rfl)) (fun _ _ _ h=>h) (Or.inl ⟨by rfl,?_⟩) ?_ ?_;rotate_left;(intro w';go_simp;with_reducible rfl);rotate_left;(simp only [Act.put,List.setIfInBounds_toArray,List.set_cons_zero,List.set_cons_succ,bW,cZ];rfl)
    refine dV (i:=16) (N:=some 74) (v:=?_) (a':=?_) #[true,true,true,true,true,true,true,true,true,true,true,true,true,true,true,true,true,false,false,false,false,false,false,false,false,false,false,false,false,false,false] rfl rfl (dE HT_.out (by kernel_rfl)) (fun _ _ _ h=>h) (Or.inl ⟨by rfl,?_⟩) ?_ ?_;rotate_left;(intro w';go_simp;with_reducible rfl);rotate_left;(simp only [Act.put,List.setIfInBounds_toArray,List.set_cons_zero,List.set_cons_succ,bW,cZ];rfl)
    refine dV (i:=17) (N:=some 75) (v:=?_) (a':=?_) #[true,true,true,true,true,true,true,true,true,true,true,true,true,true,true,true,true,true,false,false,false,false,false,false,false,false,false,false,false,false,false] rfl rfl (dE HT_.out (by kernel_rfl)) (fun _ _ _ h=>h) (Or.inl ⟨by rfl,?_⟩) ?_ ?_;rotate_left;(intro w';go_simp;with_reducible rfl);rotate_left;(simp only [Act.put,List.setIfInBounds_toArray,List.set_cons_zero,List.set_cons_succ,bW,cZ];rfl)
    refine dV (i:=18) (N:=some 76) (v:=?_) (a':=?_) #[true,true,true,true,true,true,true,true,true,true,true,true,true,true,true,true,true,true,true,false,false,false,false,false,false,false,false,false,false,false,false] rfl rfl (dE HT_.out (by kernel_rfl)) (fun _ _ _ h=>h) (Or.inl ⟨by rfl,?_⟩) ?_ ?_;rotate_left;(intro w';go_simp;with_reducible rfl);rotate_left;(simp only [Act.put,List.setIfInBounds_toArray,List.set_cons_zero,List.set_cons_succ,bW,cZ];rfl)
    refine dV (i:=19) (N:=some 77) (v:=?_) (a':=?_) #[true,true,true,true,true,true,true,true,true,true,true,true,true,true,true,true,true,true,true,true,false,false,false,false,false,false,false,false,false,false,false] rfl rfl (dE HT_.out (by kernel_rfl)) (fun _ _ _ h=>h) (Or.inl ⟨by rfl,?_⟩) ?_ ?_;rotate_left;(intro w';go_simp;with_reducible rfl);rotate_left;(simp only [Act.put,List.setIfInBounds_toArray,List.set_cons_zero,List.set_cons_succ,bW,cZ];rfl)
    refine dV (i:=20) (N:=some 78) (v:=?_) (a':=?_) #[true,true,true,true,true,true,true,true,true,true,true,true,true,true,true,true,true,true,true,true,true,false,false,false,false,false,false,false,false,false,false] rfl rfl (dE HT_.out (by kernel_rfl)) (fun _ _ _ h=>h) (Or.inl ⟨by rfl,?_⟩) ?_ ?_;rotate_left;(intro w';go_simp;with_reducible rfl);rotate_left;(simp only [Act.put,List.setIfInBounds_toArray,List.set_cons_zero,List.set_cons_succ,bW,cZ];rfl)
    refine dV (i:=21) (N:=some 79) (v:=?_) (a':=?_) #[true,true,true,true,true,true,true,true,true,true,true,true,true,true,true,true,true,true,true,true,true,true,false,false,false,false,false,false,false,false,false] rfl rfl (dE HT_.out (by kernel_rfl)) (fun _ _ _ h=>h) (Or.inl ⟨by rfl,?_⟩) ?_ ?_;rotate_left;(intro w';go_simp;with_reducible rfl);rotate_left;(simp only [Act.put,List.setIfInBounds_toArray,List.set_cons_zero,List.set_cons_succ,bW,cZ];rfl)
    refine dV (i:=22) (N:=some 80) (v:=?_) (a':=?_) #[true,true,true,true,true,true,true,true,true,true,true,true,true,true,true,true,true,true,true,true,true,true,true,false,false,false,false,false,false,false,false] rfl rfl (dE HT_.out (by kernel_rfl)) (fun _ _ _ h=>h) (Or.inl ⟨by rfl,?_⟩) ?_ ?_;rotate_left;(intro w';go_simp;with_reducible rfl);rotate_left;(simp only [Act.put,List.setIfInBounds_toArray,List.set_cons_zero,List.set_cons_succ,bW,cZ];rfl)
    refine lw (i:=23) (N:=some 81) (v:=?_) (a':=?_) #[true,true,true,true,true,true,true,true,true,true,true,true,true,true,true,true,true,true,true,true,true,true,true,true,false,false,false,false,false,false,false] rfl rfl (iJ HT_.out HW_.out (by kernel_rfl)) (fun _ _ _ h=>h) (Or.inl ⟨by rfl,?_⟩) hHeld ?_ ?_;rotate_left;(intro w' hk;have n0:=dw hk hp;go_simp;with_reducible rfl);rotate_left;(simp only [Act.put,List.setIfInBounds_toArray,List.set_cons_zero,List.set_cons_succ,bW,cZ];rfl)
    refine dV (i:=24) (N:=some 82) (v:=?_) (a':=?_) #[true,true,true,true,true,true,true,true,true,true,true,true,true,true,true,true,true,true,true,true,true,true,true,true,true,false,false,false,false,false,false] rfl rfl (dE HT_.out (by kernel_rfl)) (fun _ _ _ h=>h) (Or.inl ⟨by rfl,?_⟩) ?_ ?_;rotate_left;(intro w';go_simp;with_reducible rfl);rotate_left;(simp only [Act.put,List.setIfInBounds_toArray,List.set_cons_zero,List.set_cons_succ,bW,cZ];rfl)
    refine dV (i:=25) (N:=some 83) (v:=?_) (a':=?_) #[true,true,true,true,true,true,true,true,true,true,true,true,true,true,true,true,true,true,true,true,true,true,true,true,true,true,false,false,false,false,false] rfl rfl (dE HT_.out (by kernel_rfl)) (fun _ _ _ h=>h) (Or.inl ⟨by rfl,?_⟩) ?_ ?_;rotate_left;(intro w';go_simp;with_reducible rfl);rotate_left;(simp only [Act.put,List.setIfInBounds_toArray,List.set_cons_zero,List.set_cons_succ,bW,cZ];rfl)
    refine dV (i:=26) (N:=some 84) (v:=?_) (a':=?_) #[true,true,true,true,true,true,true,true,true,true,true,true,true,true,true,true,true,true,true,true,true,true,true,true,true,true,true,false,false,false,false] rfl rfl (dE HT_.out (by kernel_rfl)) (fun _ _ _ h=>h) (Or.inl ⟨by rfl,?_⟩) ?_ ?_;rotate_left;(intro w';go_simp;with_reducible rfl);rotate_left;(simp only [Act.put,List.setIfInBounds_toArray,List.set_cons_zero,List.set_cons_succ,bW,cZ];rfl)
    refine lw (i:=27) (N:=some 85) (v:=?_) (a':=?_) #[true,true,true,true,true,true,true,true,true,true,true,true,true,true,true,true,true,true,true,true,true,true,true,true,true,true,true,true,false,false,false] rfl rfl (iJ HT_.out HW_.out (by kernel_rfl)) (fun _ _ _ h=>h) (Or.inl ⟨by rfl,?_⟩) hHeld ?_ ?_;rotate_left;(intro w' hk;have n0:=dw hk hc;go_simp;with_reducible rfl);rotate_left;(simp only [Act.put,List.setIfInBounds_toArray,List.set_cons_zero,List.set_cons_succ,bW,cZ];rfl)
    refine dV (i:=28) (N:=some 86) (v:=?_) (a':=?_) #[true,true,true,true,true,true,true,true,true,true,true,true,true,true,true,true,true,true,true,true,true,true,true,true,true,true,true,true,true,false,false] rfl rfl (dE HT_.out (by kernel_rfl)) (fun _ _ _ h=>h) (Or.inl ⟨by rfl,?_⟩) ?_ ?_;rotate_left;(intro w';go_simp;with_reducible rfl);rotate_left;(simp only [Act.put,List.setIfInBounds_toArray,List.set_cons_zero,List.set_cons_succ,bW,cZ];rfl)
    refine dV (i:=29) (N:=some 87) (v:=?_) (a':=?_) #[true,true,true,true,true,true,true,true,true,true,true,true,true,true,true,true,true,true,true,true,true,true,true,true,true,true,true,true,true,true,false] rfl rfl (dE HT_.out (by kernel_rfl)) (fun _ _ _ h=>h) (Or.inl ⟨by rfl,?_⟩) ?_ ?_;rotate_left;(intro w';go_simp;with_reducible rfl);rotate_left;(simp only [Act.put,List.setIfInBounds_toArray,List.set_cons_zero,List.set_cons_succ,bW,cZ];rfl)
    refine dV (i:=30) (N:=some 88) (v:=?_) (a':=?_) #[true,true,true,true,true,true,true,true,true,true,true,true,true,true,true,true,true,true,true,true,true,true,true,true,true,true,true,true,true,true,true] rfl rfl (dE HT_.out (by kernel_rfl)) (fun _ _ _ h=>h) (Or.inl ⟨by rfl,?_⟩) ?_ ?_;rotate_left;(intro w';go_simp;with_reducible rfl);rotate_left;(simp only [Act.put,List.setIfInBounds_toArray,List.set_cons_zero,List.set_cons_succ,bW,cZ];rfl)
    refine zq (tY HT_.out (by kernel_rfl)) ?_
    go_wp2_with (fail)
    go_roundg (ts.length - (j+1))
    case measure=>have:=hkq.out;omega
    case rel=>exact ⟨j+1,by first | rfl | (congr 1;omega),⟨⟨by omega,by omega,bz (bz hb.out hB6.out) SA.out⟩⟩⟩
  ·have e1:decide ((j:Int) < (ts.length:Int))=false:=decide_eq_false (by omega)
   have e2:decide (j < ts.length)=false:=decide_eq_false (by omega)
   replace hb:=ae.mk hb
   replace hkq:=ae.mk hkq
   go_wp2_with (fail)
   go_ret
   exact ⟨rfl,bz hb4.out hb.out⟩
theorem zV (hS:lQ) (w:World) (B:Nat) (hT:Tabs B w) (s:ByteArray) :
 Calls Tryz.prog 6 #[.string s] w fun e w'=>e = .returned (.bool true)∧Below w.heap.size w w':=by
 rcases Nat.lt_or_ge 2147483647 s.size with hbig | hsm
 ·exact CS w s hbig
 obtain ⟨kd,txt,keys,ts,ok,hgt,hok⟩:=zM s
 obtain ⟨k,hk⟩:=hgt.at
 cases ok with
 | false=>exact ya w s hsm kd txt keys ts k hk
 | true =>
   obtain ⟨i,m,ns,ks,hx⟩:=hok rfl
   cases hu:uq (SizeOf.sizeOf (⟨kd,txt,keys,ts⟩:S25)+1) (⟨kd,txt,keys,ts⟩:S25) with
   | false=>exact yH w s hsm ⟨kd,txt,keys,ts⟩ hu k hk
   | true =>
     by_cases h6:kd=6
     ·subst h6
      have hl:=hx.val.lens
      have hb:=hx.val.bound
      have hn:=hx.names.length
      have hz:=hx.size
      exact map_some hS w B hT s hsm ⟨6,txt,keys,ts⟩ hu k hk rfl i m ns ks hx (hx.tree _ hgt) (by show keys.length≤_;omega)
     ·exact map_none hS w B hT s hsm ⟨kd,txt,keys,ts⟩ hu k hk h6 i m ns ks hx
end Go.Proofs.YtpgfjbimodnkeaaGreatDoor.Dec
namespace Go.Proofs
open Go.Shelf
def Tryz.lays192_ren:Go.Shelf.Ren:=⟨fun | 192=>43 | 190=>68 | 125=>98 | 258=>97 | 128=>113 | 129=>114 | 302=>104 | 303=>105 | 304=>106 | 305=>107 | 306=>108 | 307=>109 | 308=>110 | 309=>111 | 310=>112 | 333=>128 | 329=>129 | 330=>130 | 334=>131 | 335=>132 | 336=>133 | 344=>144 | n=>n,fun | 31=>22 | 0=>0 | 9=>9 | 3=>3 | 46=>133 | 51=>137 | 53=>134 | 4=>4 | 183=>142 | 182=>141 | 131=>84 | 5=>5 | 218=>156 | 222=>160 | 228=>171 | 229=>172 | n=>n,fun | n=>n⟩
theorem Tryz.lays192:Go.Proofs.Lays.n192 Tryz.prog Tryz.lays192_ren:={
 mixed:=by kernel_rfl
 f125:=Tryz.func98.trans (congrArg some (by kernel_rfl))
 f128:=Tryz.func113.trans (congrArg some (by kernel_rfl))
 f129:=Tryz.func114.trans (congrArg some (by kernel_rfl))
 f190:=Tryz.func68.trans (congrArg some (by kernel_rfl))
 f192:=Tryz.func43.trans (congrArg some (by kernel_rfl))
 f258:=Tryz.func97.trans (congrArg some (by kernel_rfl))
 f302:=Tryz.func104.trans (congrArg some (by kernel_rfl))
 f303:=Tryz.func105.trans (congrArg some (by kernel_rfl))
 f304:=Tryz.func106.trans (congrArg some (by kernel_rfl))
 f305:=Tryz.func107.trans (congrArg some (by kernel_rfl))
 f306:=Tryz.func108.trans (congrArg some (by kernel_rfl))
 f307:=Tryz.func109.trans (congrArg some (by kernel_rfl))
 f308:=Tryz.func110.trans (congrArg some (by kernel_rfl))
 f309:=Tryz.func111.trans (congrArg some (by kernel_rfl))
 f310:=Tryz.func112.trans (congrArg some (by kernel_rfl))
 f329:=Tryz.func129.trans (congrArg some (by kernel_rfl))
 f330:=Tryz.func130.trans (congrArg some (by kernel_rfl))
 f333:=Tryz.func128.trans (congrArg some (by kernel_rfl))
 f334:=Tryz.func131.trans (congrArg some (by kernel_rfl))
 f335:=Tryz.func132.trans (congrArg some (by kernel_rfl))
 f336:=Tryz.func133.trans (congrArg some (by kernel_rfl))
 f344:=Tryz.func144.trans (congrArg some (by kernel_rfl))
 t0:=Tryz.underlying0
 a0:=Tryz.isAgg0
 z0:=Tryz.sizeOf0
 v0:=Tryz.zeroValue0
 t3:=Tryz.underlying3
 a3:=Tryz.isAgg3
 z3:=Tryz.sizeOf3
 v3:=Tryz.zeroValue3
 t4:=Tryz.underlying4
 a4:=Tryz.isAgg4
 z4:=Tryz.sizeOf4
 v4:=Tryz.zeroValue4
 t5:=Tryz.underlying5
 a5:=Tryz.isAgg5
 z5:=Tryz.sizeOf5
 v5:=Tryz.zeroValue5
 t9:=Tryz.underlying9
 a9:=Tryz.isAgg9
 z9:=Tryz.sizeOf9
 v9:=Tryz.zeroValue9
 t31:=Tryz.underlying22
 a31:=Tryz.isAgg22
 z31:=Tryz.sizeOf22
 v31:=Tryz.zeroValue22
 t46:=Tryz.underlying133
 a46:=Tryz.isAgg133
 z46:=Tryz.sizeOf133
 v46:=Tryz.zeroValue133
 t51:=Tryz.underlying137
 a51:=Tryz.isAgg137
 z51:=Tryz.sizeOf137
 v51:=Tryz.zeroValue137
 t53:=Tryz.underlying134
 a53:=Tryz.isAgg134
 z53:=Tryz.sizeOf134
 v53:=Tryz.zeroValue134
 t131:=Tryz.underlying84
 a131:=Tryz.isAgg84
 z131:=Tryz.sizeOf84
 v131:=Tryz.zeroValue84
 t182:=Tryz.underlying141
 a182:=Tryz.isAgg141
 z182:=Tryz.sizeOf141
 v182:=Tryz.zeroValue141
 t183:=Tryz.underlying142
 a183:=Tryz.isAgg142
 z183:=Tryz.sizeOf142
 v183:=Tryz.zeroValue142
 t218:=Tryz.underlying156
 a218:=Tryz.isAgg156
 z218:=Tryz.sizeOf156
 v218:=Tryz.zeroValue156
 t222:=Tryz.underlying160
 a222:=Tryz.isAgg160
 z222:=Tryz.sizeOf160
 v222:=Tryz.zeroValue160
 t228:=Tryz.underlying171
 a228:=Tryz.isAgg171
 z228:=Tryz.sizeOf171
 v228:=Tryz.zeroValue171
 t229:=Tryz.underlying172
 a229:=Tryz.isAgg172
 z229:=Tryz.sizeOf172
 v229:=Tryz.zeroValue172 }
open Go.Sort Go.RowKit in
theorem Tryz.sort_Strings (blk off cap:Nat) (ss:List (List UInt8)) (w:World) (hH:Holds encStr w blk off ss.toArray) (hblk:blk < w.heap.size) (hsz:ss.length < 4611686018427387904) :
 Calls Tryz.prog 43 #[.slice (some ⟨blk,off,none⟩) ss.length cap] w fun e w' =>
  e = .returned (.tuple #[])∧∃ n os,w'=grow (putRow encStr (Sort.ahead w n) blk off (ss.mergeSort fun x y=>decide (x≤y)).toArray) os:=Any.sort_Strings Tryz.lays192 blk off cap ss w hH hblk hsz
open Go.RowKit Go.Sort in
theorem Tryz.sort_Strings_none (p:Option Addr) (cap:Nat) (w:World) :
 Calls Tryz.prog 43 #[.slice p 0 cap] w fun e w'=>e = .returned (.tuple #[])∧w'=w:=Any.sort_Strings_none Tryz.lays192 p cap w
end Go.Proofs
namespace Go.Proofs.YtpgfjbimodnkeaaGreatDoor.Laid
open Go
section
variable {P:Program} {w:World} {base:Nat} {sp:Nat→Bool} {held:Bool} {fuel:Nat} {t:TypeId} {cs:List Value} {p:List MemPlace}
abbrev en:TypeId × Value→Unit:=fun _=>()
theorem xx:∀ {l:List (String × DataW Unit)} {ps:List MemPlace},DataW.LaidVars P w l ps→∀ (i:Nat) {n:String} {d:DataW Unit},l[i]?=some (n,d) →
 ∃ g t cs fuel p,P.globalNamed n=some g∧(P.globals[g]?).map (·.type)=some t∧w.var? P n=some cs∧DataW.trod en P w 0 (fun _=>true) false fuel t cs.toList=some (d,p)
 | [],_,_,i,_,_,h=>by simp at h
 | (n0,d0) :: r,ps,hl,i,n,d,h=>by
  obtain ⟨g,t,cs,fuel,p,q,h1,h2,h3,h4,h5,_⟩:=hl
  cases i with
  | zero =>
    simp only [List.getElem?_cons_zero,Option.some.injEq,Prod.mk.injEq] at h
    obtain ⟨rfl,rfl⟩:=h
    exact ⟨g,t,cs,fuel,p,h1,h2,h3,h4⟩
  | succ i=>exact xx h5 i (by simpa using h)
theorem jZ {l:List (String × DataW Unit)} {ps:List MemPlace} (hl:DataW.LaidVars P w l ps) (i:Nat) {n:String} {d:DataW Unit} (h:l[i]?=some (n,d)) {g:Nat} {t:TypeId}
 (hg:P.globalNamed n=some g) (ht:(P.globals[g]?).map (·.type)=some t) :
 ∃ (cs:List Value) (fuel:Nat) (p:List MemPlace),(∀ j,w.cell? ⟨g,j,none⟩=cs[j]?)∧g < w.heap.size∧DataW.trod en P w 0 (fun _=>true) false fuel t cs=some (d,p):=by
 obtain ⟨g',t',cs,fuel,p,h1,h2,h3,h4⟩:=xx hl i h
 obtain rfl:=Option.some.inj (hg.symm.trans h1)
 obtain rfl:=Option.some.inj (ht.symm.trans h2)
 refine ⟨cs.toList,fuel,p,fun j=>by rw [World.var?_cell hg h3 j];simp,?_,h4⟩
 simp only [World.var?,hg,Option.bind_some] at h3
 rcases Nat.lt_or_ge g w.heap.size with hlt | hge
 ·exact hlt
 ·rw [Array.getElem?_eq_none hge] at h3
  simp at h3
theorem yD {b:Bool} (ht:P.underlying t=some .bool) (h:DataW.trod en P w base sp held fuel t cs=some (.lit (.bool b),p)):cs=[.bool b]:=by
 obtain ⟨b',e1,e2⟩:=DataW.trod_bool ht h
 simp only [Prod.mk.injEq,DataW.lit.injEq,Lit.bool.injEq] at e2
 rw [e1,e2.1]
theorem oH {k:IntKind} {z:Int} (ht:P.underlying t=some (.int k)) (h:DataW.trod en P w base sp held fuel t cs=some (.lit (.int k z),p)):cs=[.int k z]∧(Lit.int k z).wf=true:=by
 obtain ⟨n,e1,e2,e3⟩:=DataW.trod_int ht h
 simp only [Prod.mk.injEq,DataW.lit.injEq,Lit.int.injEq,true_and] at e2
 rw [e1,e2.1]
 exact ⟨rfl,e3⟩
theorem tV {k:IntKind} {d:DataW Unit} (ht:P.underlying t=some (.int k)) (h:DataW.trod en P w base sp held fuel t cs=some (d,p)):∃ z,cs=[.int k z]∧d = .lit (.int k z)∧(Lit.int k z).wf=true:=by
 obtain ⟨n,e1,e2,e3⟩:=DataW.trod_int ht h
 simp only [Prod.mk.injEq] at e2
 exact ⟨n,e1,e2.1,e3⟩
theorem yN {k:FloatKind} {d:DataW Unit} (ht:P.underlying t=some (.float k)) (h:DataW.trod en P w base sp held fuel t cs=some (d,p)):∃ z,cs=[.float k z]:=by
 cases fuel with
 | zero=>simp [DataW.trod] at h
 | succ n =>
   unfold DataW.trod at h
   rw [ht] at h
   split at h <;> simp_all
theorem uA {l:List UInt8} (ht:P.underlying t=some .string) (h:DataW.trod en P w base sp held fuel t cs=some (.lit (.string l),p)):cs=[.string ⟨l.toArray⟩]:=by
 obtain ⟨s,e1,e2,_⟩:=DataW.trod_string ht h
 simp only [Prod.mk.injEq,DataW.lit.injEq,Lit.string.injEq] at e2
 rw [e1,e2.1]
theorem iQ {fs:Array Field} {ds:List (DataW Unit)} (ht:P.underlying t=some (.struct fs)) (h:DataW.trod en P w base sp held fuel t cs=some (.agg ds,p)) (i:Nat) {f:Field} (hf:fs[i]?=some f) :
 cs.length=P.cellsOf t∧∃ n d q,ds[i]?=some d∧DataW.trod en P w base sp held n f.type ((cs.drop f.offset).take (P.cellsOf f.type))=some (d,q):=by
 obtain ⟨xs,n,rfl,hx,hl,hn,hi⟩:=DataW.trod_struct ht h
 simp only [Prod.mk.injEq,DataW.agg.injEq] at hx
 refine ⟨hl,n,?_⟩
 have h1:=hi i f hf
 have hlt:i < xs.length:=by
  rw [hn]
  exact (Array.getElem?_eq_some_iff.1 hf).1
 rw [List.getElem?_eq_getElem hlt] at h1
 refine ⟨xs[i].1,xs[i].2,?_,h1⟩
 rw [hx.1]
 simp [hlt]
theorem array_elem {m:Nat} {e:TypeId} {ds:List (DataW Unit)} (ht:P.underlying t=some (.array m e)) (h:DataW.trod en P w base sp held fuel t cs=some (.agg ds,p)) :
 cs.length=P.cellsOf t∧ds.length=m∧∀ i,i < m→∃ n d q,ds[i]?=some d∧DataW.trod en P w base sp held n e ((cs.drop (i*P.cellsOf e)).take (P.cellsOf e))=some (d,q):=by
 obtain ⟨xs,n,rfl,hx,hl,hn,hi⟩:=DataW.trod_array ht h
 simp only [Prod.mk.injEq,DataW.agg.injEq] at hx
 refine ⟨hl,by rw [hx.1];simp [hn],fun i hlt=>⟨n,?_⟩⟩
 have h1:=hi i hlt
 have hlt':i < xs.length:=by omega
 rw [List.getElem?_eq_getElem hlt'] at h1
 refine ⟨xs[i].1,xs[i].2,?_,h1⟩
 rw [hx.1]
 simp [hlt']
theorem nT {e:TypeId} {ds rs:List (DataW Unit)} (ht:P.underlying t=some (.slice e)) (h:DataW.trod en P w base sp held fuel t cs=some (.slice ds rs,p)) :
 ∃ (a:Addr) (cap:Nat),cs=[.slice (some a) ds.length cap]∧∀ i,i < ds.length→∃ n d q vs,ds[i]?=some d∧vs.length=P.cellsOf e∧(∀ j,j < P.cellsOf e→w.cell? ((a.add (i*P.cellsOf e)).add j)=vs[j]?)∧DataW.trod en P w base sp held n e vs=some (d,q):=by
 rcases DataW.trod_slice ht h with ⟨_,hx⟩ | ⟨a,len,cap,elems,rest,n,rfl,hc,hx,hb,hl,hm,hn,hi,_,_⟩
 ·simp at hx
 ·simp only [Prod.mk.injEq,DataW.slice.injEq] at hx
  have hlen:ds.length=len:=by rw [hx.1.1];simp [hn]
  refine ⟨a,cap,by rw [hc,hlen],fun i hlt=>⟨n,?_⟩⟩
  rw [hlen] at hlt
  have h1:=hi i hlt
  have hlt':i < elems.length:=by omega
  rw [List.getElem?_eq_getElem hlt'] at h1
  obtain ⟨vs,hv,ht'⟩:=Option.bind_eq_some_iff.1 h1
  obtain ⟨_,hvl,hvc⟩:=World.cells?_some hv
  refine ⟨elems[i].1,elems[i].2,vs,?_,hvl,hvc,ht'⟩
  rw [hx.1.1]
  simp [hlt']
end
end Go.Proofs.YtpgfjbimodnkeaaGreatDoor.Laid
