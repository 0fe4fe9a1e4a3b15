/- FnGjMap: whatever text comes in, the law returns true and the text reads afterwards as before; with the thirteen package-level variables that its row lists as the program's own text lays them (the tied card) (part 12 of 19: lemmas for its last part) -/
import Derived.WalkSpells
import Derived.Deep.Cut
import Derived.Maps.OwnSet
import Derived.Test.YtpgfjbimodnkeaaGreatDoorMpd2
import Derived.Test.YtpgfjbimodnkeaaGreatDoorMpd10
import Derived.Test.YtpgfjbimodnkeaaGreatDoorMpd11
set_option maxHeartbeats 16000000
set_option maxRecDepth 100000
set_option linter.unusedVariables false
set_option linter.unusedSimpArgs false
namespace Go.Proofs.YtpgfjbimodnkeaaGreatDoor.Dec
open Go Go.RowKit Go.Proofs.YtpgfjbimodnkeaaGreatDoorW.PrintWords Go.Proofs.YtpgfjbimodnkeaaGreatDoorW.PrintLast Go.Proofs.YtpgfjbimodnkeaaGreatDoorW.PrintMore Go.Proofs.YtpgfjbimodnkeaaGreatDoor.Scan Go.Proofs.YtpgfjbimodnkeaaGreatDoor.Q
abbrev gW (r:Rs):Array Value:=#[.int .i64 r.k,.string r.raw,.string r.str,.float .f64 r.num,.int .i64 r.idx,.slice none 0 0]
open Go Go.RowKit Go.Proofs.YtpgfjbimodnkeaaGreatDoorW.PrintWords Go.Proofs.YtpgfjbimodnkeaaGreatDoorW.PrintLast Go.Proofs.YtpgfjbimodnkeaaGreatDoorW.PrintMore Go.Proofs.YtpgfjbimodnkeaaGreatDoor.Scan
def RV (v:Value):Option (DataW Value × List MemPlace):=some (.held v,[])
def kl (r:Rs):Lit:=.string r.str.data.toList
def rsA (r:Rs):Value:=.agg (gW r)
def vK (D:DataW Value) (q:Rs × Rs):DataW Value:=if Maps.has D (kl q.1)=true then D else D.put (kl q.1) (.held (rsA q.2))
def mapD (ps:List (Rs × Rs)):DataW Value:=ps.foldl vK (.map [])
theorem lu (ps:List (Rs × Rs)) (q:Rs × Rs):mapD (ps ++ [q])=vK (mapD ps) q:=by simp [mapD]
theorem qJ {α:Type} {p:List α→Prop} (h0:p []) (h1:∀ l x,p l→p (l ++ [x])) (l:List α):p l:=by
 have key:∀ r:List α,p r.reverse:=fun r=>by
  induction r with
  | nil=>exact h0
  | cons x r ih=>rw [List.reverse_cons];exact h1 _ _ ih
 have:=key l.reverse
 rwa [List.reverse_reverse] at this
theorem qV (ps:List (Rs × Rs)):Maps.IsMap (mapD ps):=by
 refine qJ (p:=fun ps=>Maps.IsMap (mapD ps)) ⟨[],rfl⟩ (fun l q h=>?_) ps
 rw [lu]
 unfold vK
 split
 ·exact h
 ·exact h.put _ _
def isK (x:List UInt8) (q:Rs × Rs):Bool:=q.1.str.data.toList == x
theorem Ad {x:List UInt8} {q:Rs × Rs} (h:isK x q=true):kl q.1 = .string x:=by unfold isK at h;rw [kl,beq_iff_eq.mp h]
theorem zK {x:List UInt8} {q:Rs × Rs} (h:isK x q=false):Lit.string x≠kl q.1:=fun e=>by
 unfold kl at e
 injection e with e
 unfold isK at h
 rw [← e] at h
 simp at h
theorem qG (x:List UInt8) (ps:List (Rs × Rs)):Maps.has (mapD ps) (.string x)=ps.any (isK x):=by
 refine qJ (p:=fun ps=>Maps.has (mapD ps) (.string x)=ps.any (isK x)) rfl (fun l q h=>?_) ps
 rw [lu,List.any_append]
 unfold vK
 cases hq:isK x q with
 | true =>
   rw [← Ad hq]
   split
   ·rename_i hh
    rw [hh]
    simp [hq]
   ·rw [Maps.has_put_same (qV l) (by trivial)]
    simp [hq]
 | false =>
   split
   ·rw [h];simp [hq]
   ·rw [Maps.has_put_other (zK hq),h];simp [hq]
theorem wX (x:List UInt8) (z:DataW Value) (ps:List (Rs × Rs)):(mapD ps).atKey (.string x) z=match ps.find? (isK x) with | some q => .held (rsA q.2) | none=>z:=by
 refine qJ (p:=fun ps=>(mapD ps).atKey (.string x) z=match ps.find? (isK x) with | some q => .held (rsA q.2) | none=>z) rfl (fun l q h=>?_) ps
 rw [lu,List.find?_append]
 have hh:=qG x l
 unfold vK
 cases hq:isK x q with
 | true =>
   rw [Ad hq]
   split
   ·rename_i h2
    rw [h2] at hh
    obtain ⟨y,hy,hy2⟩:=List.any_eq_true.1 hh.symm
    obtain ⟨y2,hy3⟩:=Option.isSome_iff_exists.1 (List.find?_isSome.2 ⟨y,hy,hy2⟩)
    rw [h,hy3]
    rfl
   ·rename_i h2
    rw [Maps.atKey_put_same (qV l) (by trivial)]
    have h3:l.find? (isK x)=none:=by
     rw [List.find?_eq_none]
     intro y hy hy2
     exact h2 (hh.trans (List.any_eq_true.2 ⟨y,hy,hy2⟩))
    rw [h3]
    simp [hq]
 | false =>
   have e:(match (l.find? (isK x)).or ([q].find? (isK x)) with | some q=>DataW.held (rsA q.2) | none=>z)=(match l.find? (isK x) with | some q=>DataW.held (rsA q.2) | none=>z):=by
    cases l.find? (isK x) <;> simp [hq]
   rw [e]
   split
   ·exact h
   ·rw [Maps.atKey_put_other (zK hq),h]
structure Srt (ps:List (Rs × Rs)) (ts:List (List UInt8)):Prop where
 inc:ts.Pairwise (fun x y=>x < y)
 mem:∀ x,x ∈ ts↔Maps.has (mapD ps) (.string x)=true
theorem DD {ps:List (Rs × Rs)} {ss:List (List UInt8)} (hn:ss.Nodup) (hm:∀ x,x ∈ ss↔Maps.has (mapD ps) (.string x)=true):Srt ps (ss.mergeSort fun x y=>decide (x≤y)):=by
 have tr:∀ a b c:List UInt8,decide (a≤b)=true→decide (b≤c)=true→decide (a≤c)=true:=fun a b c h1 h2=>by simp only [decide_eq_true_eq] at *;exact List.le_trans h1 h2
 have tot:∀ a b:List UInt8,(decide (a≤b) || decide (b≤a))=true:=fun a b=>by simp only [Bool.or_eq_true,decide_eq_true_eq];exact List.le_total a b
 have hp:=List.mergeSort_perm ss fun x y=>decide (x≤y)
 refine ⟨?_,fun x=>(hp.mem_iff).trans (hm x)⟩
 refine ((List.pairwise_mergeSort tr tot ss).and (hp.nodup_iff.2 hn)).imp ?_
 rintro a b ⟨h1,h2⟩
 simp only [decide_eq_true_eq] at h1
 exact Classical.byContradiction fun h=>h2 (List.le_antisymm h1 (List.not_lt.1 h))
theorem Srt.nodup {ps:List (Rs × Rs)} {ts:List (List UInt8)} (h:Srt ps ts):ts.Nodup:=h.inc.imp fun {a b} hab e=>by subst e;exact List.lt_irrefl _ hab
theorem Srt.length {ps:List (Rs × Rs)} {ts:List (List UInt8)} (h:Srt ps ts) (hd:(ps.map fun q=>q.1.str.data.toList).Nodup):ts.length=ps.length:=by
 have:=((List.perm_ext_iff_of_nodup h.nodup hd).2 fun x=>by
  rw [h.mem x,qG,List.any_eq_true,List.mem_map]
  constructor
  ·rintro ⟨q,h1,h2⟩;exact ⟨q,h1,beq_iff_eq.mp h2⟩
  ·rintro ⟨q,h1,h2⟩;exact ⟨q,h1,beq_iff_eq.mpr h2⟩).length_eq
 rw [this,List.length_map]
theorem uD {ps:List (Rs × Rs)} {x:List UInt8} (h:Maps.has (mapD ps) (.string x)=true):∃ (j:Nat) (q:Rs × Rs),ps[j]?=some q∧q.1.str.data.toList=x∧(∀ i p,i < j→ps[i]?=some p→p.1.str.data.toList≠x)∧∀ z,(mapD ps).atKey (.string x) z = .held (rsA q.2):=by
 rw [qG] at h
 obtain ⟨y,hy,hy2⟩:=List.any_eq_true.1 h
 obtain ⟨q,hq⟩:=Option.isSome_iff_exists.1 (List.find?_isSome.2 ⟨y,hy,hy2⟩)
 obtain ⟨h1,j,hj,h2,h3⟩:=List.find?_eq_some_iff_getElem.1 hq
 refine ⟨j,q,by rw [List.getElem?_eq_getElem hj,h2],beq_iff_eq.mp h1,fun i p hi hp e=>?_,fun z=>by rw [wX,hq]⟩
 have h4:=h3 i hi
 obtain ⟨h5,h6⟩:=List.getElem?_eq_some_iff.1 hp
 rw [h6] at h4
 unfold isK at h4
 rw [e] at h4
 simp at h4
def rs0:Rs:=⟨0,⟨#[]⟩,⟨#[]⟩,0,0⟩
theorem yb (ps:List (Rs × Rs)) (x:List UInt8):∃ r,(mapD ps).atKey (.string x) (.held (rsA rs0)) = .held (rsA r):=by
 rw [wX]
 cases ps.find? (isK x) with
 | none=>exact ⟨_,rfl⟩
 | some q=>exact ⟨_,rfl⟩
theorem AL {v:Value} {d:DataW Value} {zp:List MemPlace} {r:Rs} (h:RV v=some (d,zp)) (hd:d = .held (rsA r)):v=rsA r:=by
 unfold RV at h
 rw [hd] at h
 injection h with h
 injection h with h
 injection h with h
section
variable {P:Program} (w:World) {ops:Array Oper} {rest:List Oper} {o:Oper} {a:Act} {Q:Exit→Act→World→Prop}
theorem pG (hg:o.guard=none) (m x:Operand) (t:TypeId) (hop:o.op=Op.lookup t m x true) (k e:TypeId) (K:Maps.Keyed P k) (ht:P.underlying t=some (.map k e)) (hz:(zeroValue e).run P w = .ok (rsA rs0) w) (b n:Nat) (ps:List (Rs × Rs))
 (hm:a.eval m = .map (some b)) (hown:w.ownsMap P k RV b n (mapD ps)) (key:Value) (y:List UInt8) (hx:a.eval x=key) (hkey:keyOf P k key=some (.string y)) (c:Bool) (hc:Maps.has (mapD ps) (.string y)=c)
 (hK:∀ r:Rs,wpList P ops Q rest (a.put o.dst (.tuple #[.agg #[.int .i64 r.k,.string r.raw,.string r.str,.float .f64 r.num,.int .i64 r.idx,.slice none 0 0],.bool c])) w):wpList P ops Q (o :: rest) a w:=by
 subst hc
 obtain ⟨r,hr⟩:=yb ps y
 refine wpList_lookup_own_ok w hg m x t hop k e K ht RV hz (.held (rsA rs0)) [] rfl b n (mapD ps) hm hown key _ hx hkey fun v zp hv=>?_
 rw [AL hv hr]
 exact hK r
theorem Az (hg:o.guard=none) (m x:Operand) (t:TypeId) (hop:o.op=Op.lookup t m x false) (k e:TypeId) (K:Maps.Keyed P k) (ht:P.underlying t=some (.map k e)) (hz:(zeroValue e).run P w = .ok (rsA rs0) w) (b n:Nat) (ps:List (Rs × Rs))
 (hm:a.eval m = .map (some b)) (hown:w.ownsMap P k RV b n (mapD ps)) (key:Value) (y:List UInt8) (hx:a.eval x=key) (hkey:keyOf P k key=some (.string y)) (r:Rs) (hr:∀ z,(mapD ps).atKey (.string y) z = .held (rsA r))
 (hK:wpList P ops Q rest (a.put o.dst (.agg #[.int .i64 r.k,.string r.raw,.string r.str,.float .f64 r.num,.int .i64 r.idx,.slice none 0 0])) w):wpList P ops Q (o :: rest) a w:=by
 refine wpList_plain hg fun K' hK'=>?_
 obtain ⟨v,zp,hrun,hv⟩:=hown.lookup K ht hz (zd:=.held (rsA rs0)) (zp:=[]) rfl hkey
 have e1:=AL hv (hr _)
 subst e1
 unfold Oper.wp
 simp [execOp,hop,hm,hx,hrun,Result.andThen]
 exact hK' _ _ hK
end
end Go.Proofs.YtpgfjbimodnkeaaGreatDoor.Dec
namespace Go.Proofs.YtpgfjbimodnkeaaGreatDoor.Q
open Go.RowKit Go.Proofs.YtpgfjbimodnkeaaGreatDoorW.PrintWords Go.Proofs.YtpgfjbimodnkeaaGreatDoorW.PrintLast Go.Proofs.YtpgfjbimodnkeaaGreatDoorW.PrintMore
attribute [local go_sem] dm di dL dK cu bZ dD dC
mutual
def aH.j2:Nat→ByteArray→Int→Int→Int→Int→Option (Int × Int × Bool)
 | 0,_,_,_,_,_=>none
 | k+1,x0,x1,x7,x8,x9=>if (wrap64 ((x0.size:Int) - x1))≤x8 then (some (65533,1,false)) else (aH.l0 k x0 x1 x7 x8 x9 1)
def aH.l0:Nat→ByteArray→Int→Int→Int→Int→Int→Option (Int × Int × Bool)
 | 0,_,_,_,_,_,_=>none
 | k+1,x0,x1,x7,x8,x9,x10=>if x10≤x8 then (if 0≤(wrap64 (x1+x10)) then (if (wrap64 (x1+x10)) < (x0.size:Int) then (if (wrap64 (bt x0 (wrap64 (x1+x10)))) < 128 then (some (65533,1,false)) else (if (wrap64 (bt x0 (wrap64 (x1+x10)))) > 191 then (some (65533,1,false)) else (aH.l0 k x0 x1 (wrap64 ((wrap64 ((wrap64 (x7*64))+(wrap64 (bt x0 (wrap64 (x1+x10)))))) - 128)) x8 x9 (wrap64 (x10+1))))) else (none)) else (none)) else (if x7 < x9 then (some (65533,1,false)) else (if x7 > 1114111 then (some (65533,1,false)) else ((dM.f x7).bind fun t101=>(if t101=true then (some (65533,1,false)) else ((dA.f x7).bind fun t102=>(if t102=true then (some (65533,1,false)) else (some (x7,wrap64 (x8+1),true))))))))
def aH.j0:Nat→ByteArray→Int→Int→Bool→Option (Int × Int × Bool)
 | 0,_,_,_,_=>none
 | k+1,x0,x1,x7,x20=>if x20=true then (aH.j2 k x0 x1 (wrap64 (x7 - 192)) 1 128) else (if 224≤x7 then (aH.j1 k x0 x1 x7 (decide (x7≤239))) else (aH.j1 k x0 x1 x7 false))
def aH.j1:Nat→ByteArray→Int→Int→Bool→Option (Int × Int × Bool)
 | 0,_,_,_,_=>none
 | k+1,x0,x1,x7,x29=>if x29=true then (aH.j2 k x0 x1 (wrap64 (x7 - 224)) 2 2048) else (if 240≤x7 then (if x7≤244 then (aH.j2 k x0 x1 (wrap64 (x7 - 240)) 3 65536) else (some (65533,1,false))) else (some (65533,1,false)))
end
def aH.f (k:Nat) (a0:ByteArray) (a1:Int):Option (Int × Int × Bool):=if 0≤a1 then (if a1 < (a0.size:Int) then (if (wrap64 (bt a0 a1)) < 128 then (some (wrap64 (bt a0 a1),1,true)) else (if 194≤(wrap64 (bt a0 a1)) then (aH.j0 k a0 a1 (wrap64 (bt a0 a1)) (decide ((wrap64 (bt a0 a1))≤223))) else (aH.j0 k a0 a1 (wrap64 (bt a0 a1)) false))) else (none)) else (none)
theorem aH.calls (k:Nat) (a0:ByteArray) (a1:Int) (r1:Int) (r2:Int) (r3:Bool) (w:World) (h:aH.f k a0 a1=some (r1,r2,r3)) :
 Calls Tryz.prog 48 #[.string a0,.int .i64 a1] w fun e w'=>e = .returned (.tuple #[.int .i64 r1,.int .i64 r2,.bool r3])∧ai w w':=by
 have H:(if 0≤a1 then (if a1 < (a0.size:Int) then (if (wrap64 (bt a0 a1)) < 128 then (some (wrap64 (bt a0 a1),1,true)) else (if 194≤(wrap64 (bt a0 a1)) then (aH.j0 k a0 a1 (wrap64 (bt a0 a1)) (decide ((wrap64 (bt a0 a1))≤223))) else (aH.j0 k a0 a1 (wrap64 (bt a0 a1)) false))) else (none)) else (none))=some (r1,r2,r3):=h
 clear h
 by_cases c3:0≤a1
 ·rw [if_pos c3] at H
  have c3b0:decide (0≤a1)=true:=decide_eq_true c3
  clear c3
  by_cases c4:a1 < (a0.size:Int)
  ·rw [if_pos c4] at H
   have c4b0:decide (a1 < (a0.size:Int))=true:=decide_eq_true c4
   clear c4
   have HC6:=ae.mk H
   clear H
   have p5:0≤(a1:Int):=of_decide_eq_true (by first | (with_reducible assumption) | assumption)
   have q5:a1 < (a0.size:Int):=of_decide_eq_true (by first | (with_reducible assumption) | assumption)
   have hx5:=dI a0 a1
   replace p5:=eq_true p5
   replace q5:=eq_true q5
   go_enter Tryz.func48,Tryz.ntmps48
   go_upto_block 0 with (fail)
   go_cut [7,8,9] (fun v7 v8 v9 wc=>∃ (kq:Nat) (x7_5:Int) (x8_5:Int) (x9_5:Int),v7 = .int .i64 x7_5∧v8 = .int .i64 x8_5∧v9 = .int .i64 x9_5∧ae (aH.j2 kq a0 a1 x7_5 x8_5 x9_5=some (r1,r2,r3))∧ae (kq≤k)∧ai w wc)
   case first =>
    have H:=HC6.out
    clear HC6
    by_cases c7:(wrap64 (bt a0 a1)) < 128
    ·rw [if_pos c7] at H
     have c7b0:decide ((wrap64 (bt a0 a1)) < 128)=true:=decide_eq_true c7
     clear c7
     (first | rw [c7b0] | (simp only [bW,cZ];rw [c7b0]) | skip)
     simp only [Option.some.injEq,Prod.mk.injEq] at H
     obtain ⟨rfl,rfl,rfl⟩:=H
     go_wp2
     go_ret3
     exact ⟨by first | rfl | (simp;done) | (simp [*];done),by repeat (first | exact ai.refl _ | apply ai.step)⟩
    ·rw [if_neg c7] at H
     have c7b0:decide ((wrap64 (bt a0 a1)) < 128)=false:=decide_eq_false c7
     clear c7
     (first | rw [c7b0] | (simp only [bW,cZ];rw [c7b0]) | skip)
     have HC8:=ae.mk H
     clear H
     go_upto_region 6 with (fail)
     go_cut [20] (fun v20 wc=>∃ (kq:Nat) (x20_7:Bool),v20 = .bool x20_7∧ae (aH.j0 kq a0 a1 (wrap64 (bt a0 a1)) x20_7=some (r1,r2,r3))∧ae (kq≤k)∧ai w wc)
     case first =>
      have H:=HC8.out
      clear HC8
      by_cases c9:194≤(wrap64 (bt a0 a1))
      ·rw [if_pos c9] at H
       have c9b0:decide (194≤(wrap64 (bt a0 a1)))=true:=decide_eq_true c9
       clear c9
       (first | rw [c9b0] | (simp only [bW,cZ];rw [c9b0]) | skip)
       have H':=ae.mk H
       clear H
       go_wp2
       go_meet
       case rel=>exact ⟨_,(decide ((wrap64 (bt a0 a1))≤223)),(by first | rfl | (simp;done) | (simp [*];done)),H',⟨by first | omega | exact Nat.le_refl _⟩,by repeat (first | exact ai.refl _ | apply ai.step)⟩
      ·rw [if_neg c9] at H
       have c9b0:decide (194≤(wrap64 (bt a0 a1)))=false:=decide_eq_false c9
       clear c9
       (first | rw [c9b0] | (simp only [bW,cZ];rw [c9b0]) | skip)
       have H':=ae.mk H
       clear H
       go_wp2
       go_meet
       case rel=>exact ⟨_,(false),(by first | rfl | (simp;done) | (simp [*];done)),H',⟨by first | omega | exact Nat.le_refl _⟩,by repeat (first | exact ai.refl _ | apply ai.step)⟩
     case rest =>
      clear HC8
      try clear p2
      try clear c3
      try clear c3b0
      try clear c4
      try clear c4b0
      try clear p5
      try clear q5
      try clear hx5
      try clear p6
      try clear c7
      try clear c7b0
      try clear c9
      try clear c9b0
      try clear p5
      try clear q5
      obtain ⟨kq,x20_7,rfl,HA,HJ7,⟨mc7,rfl⟩⟩:=hcut
      cases kq with
      | zero=>exact absurd HA.out (by simp [aH.j0])
      | succ kj7 =>
        have H:=HA.out
        clear HA
        simp only [aH.j0] at H
        by_cases c10:x20_7=true
        ·subst c10
         have H1:(aH.j2 kj7 a0 a1 (wrap64 ((wrap64 (bt a0 a1)) - 192)) 1 128)=some (r1,r2,r3):=by rw [if_pos rfl] at H;exact H
         clear H
         have H:=H1
         clear H1
         have H':=ae.mk H
         clear H
         go_wp2
         go_meet
         case rel=>exact ⟨_,(wrap64 ((wrap64 (bt a0 a1)) - 192)),(1),(128),(by first | rfl | (simp;done) | (simp [*];done)),(by first | rfl | (simp;done) | (simp [*];done)),(by first | rfl | (simp;done) | (simp [*];done)),H',⟨by have:=HJ7.out;first | omega | exact Nat.le_refl _⟩,by repeat (first | exact ai.refl _ | apply ai.step)⟩
        ·replace c10:=Bool.eq_false_iff.mpr c10
         subst c10
         have H1:(if 224≤(wrap64 (bt a0 a1)) then (aH.j1 kj7 a0 a1 (wrap64 (bt a0 a1)) (decide ((wrap64 (bt a0 a1))≤239))) else (aH.j1 kj7 a0 a1 (wrap64 (bt a0 a1)) false))=some (r1,r2,r3):=by rw [if_neg (show ¬ (false=true) by decide)] at H;exact H
         clear H
         have H:=H1
         clear H1
         have HC11:=ae.mk H
         clear H
         go_upto_region 8 with (fail)
         go_cut [29] (fun v29 wc=>∃ (kq:Nat) (x29_10:Bool),v29 = .bool x29_10∧ae (aH.j1 kq a0 a1 (wrap64 (bt a0 a1)) x29_10=some (r1,r2,r3))∧ae (kq≤kj7)∧ai w wc)
         case first =>
          have H:=HC11.out
          clear HC11
          by_cases c12:224≤(wrap64 (bt a0 a1))
          ·rw [if_pos c12] at H
           have c12b0:decide (224≤(wrap64 (bt a0 a1)))=true:=decide_eq_true c12
           clear c12
           (first | rw [c12b0] | (simp only [bW,cZ];rw [c12b0]) | skip)
           have H':=ae.mk H
           clear H
           go_wp2
           go_meet
           case rel=>exact ⟨_,(decide ((wrap64 (bt a0 a1))≤239)),(by first | rfl | (simp;done) | (simp [*];done)),H',⟨by have:=HJ7.out;first | omega | exact Nat.le_refl _⟩,by repeat (first | exact ai.refl _ | apply ai.step)⟩
          ·rw [if_neg c12] at H
           have c12b0:decide (224≤(wrap64 (bt a0 a1)))=false:=decide_eq_false c12
           clear c12
           (first | rw [c12b0] | (simp only [bW,cZ];rw [c12b0]) | skip)
           have H':=ae.mk H
           clear H
           go_wp2
           go_meet
           case rel=>exact ⟨_,(false),(by first | rfl | (simp;done) | (simp [*];done)),H',⟨by have:=HJ7.out;first | omega | exact Nat.le_refl _⟩,by repeat (first | exact ai.refl _ | apply ai.step)⟩
         case rest =>
          clear HC11
          try clear c1
          try clear p2
          try clear c3
          try clear c3b0
          try clear c4
          try clear c4b0
          try clear p5
          try clear q5
          try clear hx5
          try clear p6
          try clear c7
          try clear c7b0
          try clear c9
          try clear c9b0
          try clear c10
          try clear c12
          try clear c12b0
          try clear p2
          try clear p5
          try clear p6
          try clear q5
          obtain ⟨kq,x29_10,rfl,HA,HJ10,⟨mc10,rfl⟩⟩:=hcut
          cases kq with
          | zero=>exact absurd HA.out (by simp [aH.j1])
          | succ kj10 =>
            have H:=HA.out
            clear HA
            simp only [aH.j1] at H
            by_cases c13:x29_10=true
            ·subst c13
             have H1:(aH.j2 kj10 a0 a1 (wrap64 ((wrap64 (bt a0 a1)) - 224)) 2 2048)=some (r1,r2,r3):=by rw [if_pos rfl] at H;exact H
             clear H
             have H:=H1
             clear H1
             have H':=ae.mk H
             clear H
             go_wp2
             go_meet
             case rel=>exact ⟨_,(wrap64 ((wrap64 (bt a0 a1)) - 224)),(2),(2048),(by first | rfl | (simp;done) | (simp [*];done)),(by first | rfl | (simp;done) | (simp [*];done)),(by first | rfl | (simp;done) | (simp [*];done)),H',⟨by have:=HJ7.out;have:=HJ10.out;first | omega | exact Nat.le_refl _⟩,by repeat (first | exact ai.refl _ | apply ai.step)⟩
            ·replace c13:=Bool.eq_false_iff.mpr c13
             subst c13
             have H1:(if 240≤(wrap64 (bt a0 a1)) then (if (wrap64 (bt a0 a1))≤244 then (aH.j2 kj10 a0 a1 (wrap64 ((wrap64 (bt a0 a1)) - 240)) 3 65536) else (some (65533,1,false))) else (some (65533,1,false)))=some (r1,r2,r3):=by rw [if_neg (show ¬ (false=true) by decide)] at H;exact H
             clear H
             have H:=H1
             clear H1
             by_cases c14:240≤(wrap64 (bt a0 a1))
             ·rw [if_pos c14] at H
              have c14b0:decide (240≤(wrap64 (bt a0 a1)))=true:=decide_eq_true c14
              clear c14
              by_cases c15:(wrap64 (bt a0 a1))≤244
              ·rw [if_pos c15] at H
               have c15b0:decide ((wrap64 (bt a0 a1))≤244)=true:=decide_eq_true c15
               clear c15
               have H':=ae.mk H
               clear H
               go_wp2
               go_meet
               case rel=>exact ⟨_,(wrap64 ((wrap64 (bt a0 a1)) - 240)),(3),(65536),(by first | rfl | (simp;done) | (simp [*];done)),(by first | rfl | (simp;done) | (simp [*];done)),(by first | rfl | (simp;done) | (simp [*];done)),H',⟨by have:=HJ7.out;have:=HJ10.out;first | omega | exact Nat.le_refl _⟩,by repeat (first | exact ai.refl _ | apply ai.step)⟩
              ·rw [if_neg c15] at H
               have c15b0:decide ((wrap64 (bt a0 a1))≤244)=false:=decide_eq_false c15
               clear c15
               simp only [Option.some.injEq,Prod.mk.injEq] at H
               obtain ⟨rfl,rfl,rfl⟩:=H
               go_wp2
               go_ret3
               exact ⟨by first | rfl | (simp;done) | (simp [*];done),by repeat (first | exact ai.refl _ | apply ai.step)⟩
             ·rw [if_neg c14] at H
              have c14b0:decide (240≤(wrap64 (bt a0 a1)))=false:=decide_eq_false c14
              clear c14
              simp only [Option.some.injEq,Prod.mk.injEq] at H
              obtain ⟨rfl,rfl,rfl⟩:=H
              go_wp2
              go_ret3
              exact ⟨by first | rfl | (simp;done) | (simp [*];done),by repeat (first | exact ai.refl _ | apply ai.step)⟩
   case rest =>
    clear HC6
    try clear c1
    try clear p2
    try clear c3
    try clear c3b0
    try clear c4
    try clear c4b0
    try clear p5
    try clear q5
    try clear hx5
    try clear p6
    try clear c7
    try clear c7b0
    try clear c9
    try clear c9b0
    try clear c10
    try clear c12
    try clear c12b0
    try clear c13
    try clear c14
    try clear c14b0
    try clear c15
    try clear c15b0
    try clear p2
    try clear p5
    try clear p6
    try clear q5
    obtain ⟨kq,x7_5,x8_5,x9_5,rfl,rfl,rfl,HA,HJ5,⟨mc5,rfl⟩⟩:=hcut
    cases kq with
    | zero=>exact absurd HA.out (by simp [aH.j2])
    | succ kj5 =>
      have H:=HA.out
      clear HA
      simp only [aH.j2] at H
      by_cases c16:(wrap64 ((a0.size:Int) - a1))≤x8_5
      ·rw [if_pos c16] at H
       have c16b0:decide ((wrap64 ((a0.size:Int) - a1))≤x8_5)=true:=decide_eq_true c16
       clear c16
       simp only [Option.some.injEq,Prod.mk.injEq] at H
       obtain ⟨rfl,rfl,rfl⟩:=H
       go_wp2
       go_ret3
       exact ⟨by first | rfl | (simp;done) | (simp [*];done),by repeat (first | exact ai.refl _ | apply ai.step)⟩
      ·rw [if_neg c16] at H
       have c16b0:decide ((wrap64 ((a0.size:Int) - a1))≤x8_5)=false:=decide_eq_false c16
       clear c16
       have H':=ae.mk H
       clear H
       go_wp2
       go_loopg [7,10] kj5 (fun kq v7 v10 w'=>∃ (x7_2:Int) (x10_2:Int),v7 = .int .i64 x7_2∧v10 = .int .i64 x10_2∧ae (aH.l0 kq a0 a1 x7_2 x8_5 x9_5 x10_2=some (r1,r2,r3))∧ae (kq≤kj5)∧ai w w')
       case atStart=>exact ⟨(x7_5),(1),(by first | rfl | (simp;done) | (simp [*];done)),(by first | rfl | (simp;done) | (simp [*];done)),H',⟨Nat.le_refl _⟩,by repeat (first | exact ai.refl _ | apply ai.step)⟩
       case round =>
        clear H'
        try clear c1
        try clear p2
        try clear c3
        try clear c3b0
        try clear c4
        try clear c4b0
        try clear c5
        try clear p5
        try clear q5
        try clear hx5
        try clear p6
        try clear c7
        try clear c7b0
        try clear c9
        try clear c9b0
        try clear c10
        try clear c12
        try clear c12b0
        try clear c13
        try clear c14
        try clear c14b0
        try clear c15
        try clear c15b0
        try clear c16
        try clear c16b0
        try clear p2
        try clear p5
        try clear p6
        try clear q5
        obtain ⟨x7_2,x10_2,rfl,rfl,HA,HK2,⟨m2,rfl⟩⟩:=hrel
        cases gk with
        | zero=>exact absurd HA.out (by simp [aH.l0])
        | succ k2 =>
          have H:=HA.out
          clear HA
          simp only [aH.l0] at H
          by_cases c17:x10_2≤x8_5
          ·rw [if_pos c17] at H
           have c17b0:decide (x10_2≤x8_5)=true:=decide_eq_true c17
           clear c17
           obtain ⟨ji18,hji18⟩:∃ j_:Int,(wrap64 (a1+x10_2))=j_:=⟨_,rfl⟩
           replace H:(if 0≤(ji18) then (if (ji18) < (a0.size:Int) then (if (wrap64 (bt a0 (ji18))) < 128 then (some (65533,1,false)) else (if (wrap64 (bt a0 (ji18))) > 191 then (some (65533,1,false)) else (aH.l0 k2 a0 a1 (wrap64 ((wrap64 ((wrap64 (x7_2*64))+(wrap64 (bt a0 (ji18))))) - 128)) x8_5 x9_5 (wrap64 (x10_2+1))))) else (none)) else (none))=some (r1,r2,r3):=by first | (rw [hji18] at H;exact H) | (simp only [hji18] at H ⊢;exact H)
           have hji18w:(IntKind.i64.wrap (a1+x10_2))=ji18:=(bW _).trans hji18
           by_cases c19:0≤(ji18)
           ·rw [if_pos c19] at H
            have c19b0:decide (0≤(ji18))=true:=decide_eq_true c19
            clear c19
            by_cases c20:(ji18) < (a0.size:Int)
            ·rw [if_pos c20] at H
             have c20b0:decide ((ji18) < (a0.size:Int))=true:=decide_eq_true c20
             clear c20
             by_cases c22:(wrap64 (bt a0 (ji18))) < 128
             ·rw [if_pos c22] at H
              have c22b0:decide ((wrap64 (bt a0 (ji18))) < 128)=true:=decide_eq_true c22
              clear c22
              simp only [Option.some.injEq,Prod.mk.injEq] at H
              obtain ⟨rfl,rfl,rfl⟩:=H
              have p21:0≤((ji18):Int):=of_decide_eq_true (by first | (with_reducible assumption) | assumption)
              have q21:(ji18) < (a0.size:Int):=of_decide_eq_true (by first | (with_reducible assumption) | assumption)
              have hx21:=dI a0 (ji18)
              replace p21:=eq_true p21
              replace q21:=eq_true q21
              go_wp2
              go_ret3
              exact ⟨by first | rfl | (simp;done) | (simp only [← hji18] <;> (first | rfl | simp)) | (simp [*];done),by repeat (first | exact ai.refl _ | apply ai.step)⟩
             ·rw [if_neg c22] at H
              have c22b0:decide ((wrap64 (bt a0 (ji18))) < 128)=false:=decide_eq_false c22
              clear c22
              by_cases c23:(wrap64 (bt a0 (ji18))) > 191
              ·rw [if_pos c23] at H
               have c23b0:decide (191 < (wrap64 (bt a0 (ji18))))=true:=decide_eq_true c23
               clear c23
               simp only [Option.some.injEq,Prod.mk.injEq] at H
               obtain ⟨rfl,rfl,rfl⟩:=H
               have p21:0≤((ji18):Int):=of_decide_eq_true (by first | (with_reducible assumption) | assumption)
               have q21:(ji18) < (a0.size:Int):=of_decide_eq_true (by first | (with_reducible assumption) | assumption)
               have hx21:=dI a0 (ji18)
               replace p21:=eq_true p21
               replace q21:=eq_true q21
               go_wp2
               go_ret3
               exact ⟨by first | rfl | (simp;done) | (simp only [← hji18] <;> (first | rfl | simp)) | (simp [*];done),by repeat (first | exact ai.refl _ | apply ai.step)⟩
              ·rw [if_neg c23] at H
               have c23b0:decide (191 < (wrap64 (bt a0 (ji18))))=false:=decide_eq_false c23
               clear c23
               have H':=ae.mk H
               clear H
               have p21:0≤((ji18):Int):=of_decide_eq_true (by first | (with_reducible assumption) | assumption)
               have q21:(ji18) < (a0.size:Int):=of_decide_eq_true (by first | (with_reducible assumption) | assumption)
               have hx21:=dI a0 (ji18)
               replace p21:=eq_true p21
               replace q21:=eq_true q21
               go_wp2
               go_roundg k2
               case measure=>have:=HJ5.out;have:=HK2.out;omega
               case rel=>exact ⟨(wrap64 ((wrap64 ((wrap64 (x7_2*64))+(wrap64 (bt a0 (ji18))))) - 128)),(wrap64 (x10_2+1)),(by first | rfl | (simp;done) | (simp only [← hji18] <;> (first | rfl | simp)) | (simp [*];done)),(by first | rfl | (simp;done) | (simp [*];done)),H',⟨by have:=HJ5.out;have:=HK2.out;omega⟩,by repeat (first | exact ai.refl _ | apply ai.step)⟩
            ·rw [if_neg c20] at H
             exact absurd H (by simp)
           ·rw [if_neg c19] at H
            exact absurd H (by simp)
          ·rw [if_neg c17] at H
           have c17b0:decide (x10_2≤x8_5)=false:=decide_eq_false c17
           clear c17
           by_cases c24:x7_2 < x9_5
           ·rw [if_pos c24] at H
            have c24b0:decide (x7_2 < x9_5)=true:=decide_eq_true c24
            clear c24
            simp only [Option.some.injEq,Prod.mk.injEq] at H
            obtain ⟨rfl,rfl,rfl⟩:=H
            go_wp2
            go_ret3
            exact ⟨by first | rfl | (simp;done) | (simp [*];done),by repeat (first | exact ai.refl _ | apply ai.step)⟩
           ·rw [if_neg c24] at H
            have c24b0:decide (x7_2 < x9_5)=false:=decide_eq_false c24
            clear c24
            by_cases c25:x7_2 > 1114111
            ·rw [if_pos c25] at H
             have c25b0:decide (1114111 < x7_2)=true:=decide_eq_true c25
             clear c25
             simp only [Option.some.injEq,Prod.mk.injEq] at H
             obtain ⟨rfl,rfl,rfl⟩:=H
             go_wp2
             go_ret3
             exact ⟨by first | rfl | (simp;done) | (simp [*];done),by repeat (first | exact ai.refl _ | apply ai.step)⟩
            ·rw [if_neg c25] at H
             have c25b0:decide (1114111 < x7_2)=false:=decide_eq_false c25
             clear c25
             replace H:=Option.bind_eq_some_iff.mp H
             obtain ⟨t101,A260,H⟩:=H
             replace H:(if t101=true then (some (65533,1,false)) else ((dA.f x7_2).bind fun t102=>(if t102=true then (some (65533,1,false)) else (some (x7_2,wrap64 (x8_5+1),true)))))=some (r1,r2,r3):=H
             have A26:=ae.mk A260
             clear A260
             by_cases c27:t101=true
             ·subst c27
              have H1:(some (65533,1,false))=some (r1,r2,r3):=by rw [if_pos rfl] at H;exact H
              clear H
              have H:=H1
              clear H1
              simp only [Option.some.injEq,Prod.mk.injEq] at H
              obtain ⟨rfl,rfl,rfl⟩:=H
              go_wp2_with (first | (go_at_call 50;(with_reducible refine (dM.calls x7_2 true _ A26.out).mono ?_);rintro e w' ⟨rfl,⟨nd,rfl⟩⟩))
              go_ret3
              exact ⟨by first | rfl | (simp;done) | (simp [*];done),by repeat (first | exact ai.refl _ | apply ai.step)⟩
             ·replace c27:=Bool.eq_false_iff.mpr c27
              subst c27
              have H1:((dA.f x7_2).bind fun t102=>(if t102=true then (some (65533,1,false)) else (some (x7_2,wrap64 (x8_5+1),true))))=some (r1,r2,r3):=by rw [if_neg (show ¬ (false=true) by decide)] at H;exact H
              clear H
              have H:=H1
              clear H1
              replace H:=Option.bind_eq_some_iff.mp H
              obtain ⟨t102,A280,H⟩:=H
              replace H:(if t102=true then (some (65533,1,false)) else (some (x7_2,wrap64 (x8_5+1),true)))=some (r1,r2,r3):=H
              have A28:=ae.mk A280
              clear A280
              by_cases c29:t102=true
              ·subst c29
               have H1:(some (65533,1,false))=some (r1,r2,r3):=by rw [if_pos rfl] at H;exact H
               clear H
               have H:=H1
               clear H1
               simp only [Option.some.injEq,Prod.mk.injEq] at H
               obtain ⟨rfl,rfl,rfl⟩:=H
               go_wp2_with (first | (go_at_call 50;(with_reducible refine (dM.calls x7_2 false _ A26.out).mono ?_);rintro e w' ⟨rfl,⟨nd,rfl⟩⟩) | (go_at_call 51;(with_reducible refine (dA.calls x7_2 true _ A28.out).mono ?_);rintro e w' ⟨rfl,⟨nd,rfl⟩⟩))
               go_ret3
               exact ⟨by first | rfl | (simp;done) | (simp [*];done),by repeat (first | exact ai.refl _ | apply ai.step)⟩
              ·replace c29:=Bool.eq_false_iff.mpr c29
               subst c29
               have H1:(some (x7_2,wrap64 (x8_5+1),true))=some (r1,r2,r3):=by rw [if_neg (show ¬ (false=true) by decide)] at H;exact H
               clear H
               have H:=H1
               clear H1
               simp only [Option.some.injEq,Prod.mk.injEq] at H
               obtain ⟨rfl,rfl,rfl⟩:=H
               go_wp2_with (first | (go_at_call 50;(with_reducible refine (dM.calls x7_2 false _ A26.out).mono ?_);rintro e w' ⟨rfl,⟨nd,rfl⟩⟩) | (go_at_call 51;(with_reducible refine (dA.calls x7_2 false _ A28.out).mono ?_);rintro e w' ⟨rfl,⟨nd,rfl⟩⟩))
               go_ret3
               exact ⟨by first | rfl | (simp;done) | (simp [*];done),by repeat (first | exact ai.refl _ | apply ai.step)⟩
  ·rw [if_neg c4] at H
   exact absurd H (by simp)
 ·rw [if_neg c3] at H
  exact absurd H (by simp)
attribute [local go_sem] dm di dL dK cu bZ dD dC
def ed.l0:Nat→ByteArray→Int→Option (Bool)
 | 0,_,_=>none
 | k+1,x0,x3=>if x3 < (x0.size:Int) then ((aH.f k x0 x3).bind fun bt103=>(if bt103.2.2=true then (ed.l0 k x0 (wrap64 (x3+bt103.2.1))) else (some false))) else (some true)
def ed.f (k:Nat) (a0:ByteArray):Option (Bool):=ed.l0 k a0 0
theorem ed.calls (k:Nat) (a0:ByteArray) (r:Bool) (w:World) (h:ed.f k a0=some r) :
 Calls Tryz.prog 26 #[.string a0] w fun e w'=>e = .returned (.bool r)∧ai w w':=by
 have H:(ed.l0 k a0 0)=some r:=h
 clear h
 have H':=ae.mk H
 clear H
 go_enter Tryz.func26,Tryz.ntmps26
 go_wp2
 go_loopg [3] k (fun kq v3 w'=>∃ (x3_1:Int),v3 = .int .i64 x3_1∧ae (ed.l0 kq a0 x3_1=some r)∧ae (kq≤k)∧ai w w')
 case atStart=>exact ⟨(0),(by first | rfl | (simp;done) | (simp [*];done)),H',⟨Nat.le_refl _⟩,by repeat (first | exact ai.refl _ | apply ai.step)⟩
 case round =>
  clear H'
  obtain ⟨x3_1,rfl,HA,HK1,⟨m1,rfl⟩⟩:=hrel
  cases gk with
  | zero=>exact absurd HA.out (by simp [ed.l0])
  | succ k1 =>
    have H:=HA.out
    clear HA
    simp only [ed.l0] at H
    by_cases c2:x3_1 < (a0.size:Int)
    ·rw [if_pos c2] at H
     have c2b0:decide (x3_1 < (a0.size:Int))=true:=decide_eq_true c2
     clear c2
     replace H:=Option.bind_eq_some_iff.mp H
     obtain ⟨⟨t103,t104,t105⟩,A30,H⟩:=H
     replace H:(if t105=true then (ed.l0 k1 a0 (wrap64 (x3_1+t104))) else (some false))=some r:=H
     have A3:=ae.mk A30
     clear A30
     by_cases c4:t105=true
     ·subst c4
      have H1:(ed.l0 k1 a0 (wrap64 (x3_1+t104)))=some r:=by rw [if_pos rfl] at H;exact H
      clear H
      have H:=H1
      clear H1
      have H':=ae.mk H
      clear H
      go_wp2_with (first | ((with_reducible refine bD (f:=48) rfl ?_);refine dS (some 14) rfl rfl Tryz.func48 (by kernel_rfl) rfl #[.string a0,.int .i64 x3_1] rfl (by (try simp only [List.map_toArray,List.map_cons,List.map_nil]);first | done | rfl | (simp only [List.length_drop,List.length_take];rfl)) ?_;(with_reducible refine (aH.calls k1 a0 x3_1 t103 t104 true _ A3.out).mono ?_);rintro e w' ⟨rfl,⟨nd,rfl⟩⟩;refine ⟨_,rfl,?_⟩))
      go_roundg k1
      case measure=>have:=HK1.out;omega
      case rel=>exact ⟨(wrap64 (x3_1+t104)),(by first | rfl | (simp;done) | (simp [*];done)),H',⟨by have:=HK1.out;omega⟩,by repeat (first | exact ai.refl _ | apply ai.step)⟩
     ·replace c4:=Bool.eq_false_iff.mpr c4
      subst c4
      have H1:(some false)=some r:=by rw [if_neg (show ¬ (false=true) by decide)] at H;exact H
      clear H
      have H:=H1
      clear H1
      obtain rfl:=Option.some.inj H
      go_wp2_with (first | ((with_reducible refine bD (f:=48) rfl ?_);refine dS (some 14) rfl rfl Tryz.func48 (by kernel_rfl) rfl #[.string a0,.int .i64 x3_1] rfl (by (try simp only [List.map_toArray,List.map_cons,List.map_nil]);first | done | rfl | (simp only [List.length_drop,List.length_take];rfl)) ?_;(with_reducible refine (aH.calls k1 a0 x3_1 t103 t104 false _ A3.out).mono ?_);rintro e w' ⟨rfl,⟨nd,rfl⟩⟩;refine ⟨_,rfl,?_⟩))
      go_ret
      exact ⟨by first | rfl | (simp;done) | (simp [*];done),by repeat (first | exact ai.refl _ | apply ai.step)⟩
    ·rw [if_neg c2] at H
     have c2b0:decide (x3_1 < (a0.size:Int))=false:=decide_eq_false c2
     clear c2
     obtain rfl:=Option.some.inj H
     go_wp2
     go_ret
     exact ⟨by first | rfl | (simp;done) | (simp [*];done),by repeat (first | exact ai.refl _ | apply ai.step)⟩
end Go.Proofs.YtpgfjbimodnkeaaGreatDoor.Q
