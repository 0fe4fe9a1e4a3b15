/- FnGjGroupText: whatever text comes in, the law returns true and the text reads afterwards as before; with the fourteen package-level variables that its row lists as the text of the program lays them (the tied card) (part 29 of 33: lemmas for its last part) -/
import Derived.Deep.RegionLaw
import Derived.Deep.Cut
import Derived.WalkSpells
import Derived.Test.YtpgfjbimodnkeaaGreatDoorGrp1
import Derived.Test.YtpgfjbimodnkeaaGreatDoorGrp21
import Derived.Test.YtpgfjbimodnkeaaGreatDoorGrp28
set_option maxHeartbeats 16000000
set_option maxRecDepth 100000
set_option linter.unusedVariables false
set_option linter.unusedSimpArgs false
namespace Go.Proofs.YtpgfjbimodnkeaaGreatDoor.Hec
open Go Go.RowKit Go.Proofs.YtpgfjbimodnkeaaGreatDoorW.PrintWords Go.Proofs.YtpgfjbimodnkeaaGreatDoorW.PrintLast Go.Proofs.YtpgfjbimodnkeaaGreatDoorW.PrintMore Go.Proofs.YtpgfjbimodnkeaaGreatDoor.Scan Go.Proofs.YtpgfjbimodnkeaaGreatDoor.Q Go.Proofs.YtpgfjbimodnkeaaGreatDoor.Dec
section
variable {P:Program} {ops:Array Oper} {o:Oper} {a:Act} {Q:Exit→Act→World→Prop} {K:Act→World→Prop}
theorem rJ {w0 W:World} (base:Nat) (hw:Region.wanted o (yielded ops a.tmps)=true) (s x:Operand) (t u e:TypeId)
 (ho:o.op = .call { callee:=.builtin .append,args:=#[s,x],argTypes:=#[t,u] })
 (ht:P.underlying t=some (.slice e)) (hu:P.underlying u=some .string) (hinfo:(P.info? e).map (fun i=>(i.zero,i.size,i.bytes))=some (some (.int .u8 0),1,1))
 (v:Value) (xs:List Int) (y:ByteArray) (hs:a.eval s=v) (hx:a.eval x = .string y)
 (HO:W.ownsRow base e 1 v xs.length (nums .u8 xs)) (HB:Below base w0 W) (hbase:base≤W.heap.size) (hl:xs.length+y.size≤140737488355328)
 (h:∀ v1 w1,w1.ownsRow base e 1 v1 (xs ++ bytesOf y).length (nums .u8 (xs ++ bytesOf y))→Below base w0 w1→W.grownBy w1 v.ownBlock→(v1.ownBlock=v.ownBlock∨∃ b,v1.ownBlock=some b∧W.heap.size≤b)→K (a.put o.dst v1) w1) :
 if Region.wanted o (yielded ops a.tmps)=true then Oper.wp P o a W K Q else K (a.put o.dst undef) W:=by
 obtain ⟨i0,hi,hzz⟩:=Option.map_eq_some_iff.1 hinfo
 simp only [Prod.mk.injEq] at hzz
 obtain ⟨hz0,hz1,hz2⟩:=hzz
 rw [if_pos hw]
 obtain ⟨v',w',hr,h2,h3,_⟩:=Lib.run_append_own_string (P:=P) W base t u o.type e i0 ht hu hi hz0 hz1 hz2 v xs.length (nums .u8 xs) HO y (by simp only [maxLen];omega) hl hbase
 have hat:=qW (P:=P) W base t u o.type e i0 ht hu hi hz0 hz1 hz2 v xs.length (nums .u8 xs) HO y (by simp only [maxLen];omega) hl hr
 unfold Oper.wp execOp
 simp only [ho,resolve,invoke,builtin,Sem.run_bind,Sem.run_pure,Result.andThen_ok,List.map_toArray,List.map_cons,List.map_nil,hs,hx,hr]
 have hl2:(xs ++ bytesOf y).length=xs.length+y.size:=by rw [List.length_append,bytesOf_length]
 have hc:nums .u8 (xs ++ bytesOf y)=nums .u8 xs ++ Lib.strCells y:=by
  rw [nums_append]
  congr 1
  simp [nums,bytesOf,Lib.strCells]
 refine h v' w' (by rw [hl2,hc];exact h2) (HB.grown h3 hbase (own_base HO)) h3 ?_
 rcases hat with hat | hat
 ·exact .inl hat
 ·exact .inr ⟨_,hat,Nat.le_refl _⟩
end
def piece (nm y:ByteArray):List Int:=bytesOf (((⟨#[44]⟩:ByteArray) ++ nm ++ (⟨#[58]⟩:ByteArray)) ++ y)
def rowOf (l:List Int):Nat × List Value:=(l.length,nums .u8 l)
def grow (R:List (List Int)) (c:Nat) (p:List Int):List (List Int):=if c=R.length then R ++ [p] else R.set c (R.getD c [] ++ p)
structure kS (Ca Bb:Nat) (R:List (List Int)) (W:World):Prop where
 all:∃ (v:Value) (vs:List Value),W.heap[Ca]?=some (.cells #[v] 126 (0,0))∧W.ownsRow Bb 99 1 v vs.length vs∧iQ 5 1 Bb W vs (R.map rowOf)
theorem kS.below {Ca Bb:Nat} {R:List (List Int)} {W W':World} (h:kS Ca Bb R W) (hb:Below W.heap.size W W'):kS Ca Bb R W':=by
 obtain ⟨v,vs,h1,h2,h3⟩:=h.all
 exact ⟨v,vs,bU h1 hb,ik h2 hb,h3.below hb⟩
theorem kS.set {Ca Bb g:Nat} {t:TypeId} {cs:Array Value} {R:List (List Int)} {W:World} (h:kS Ca Bb R W) (hg:W.heap[g]?=some (.cells cs t (0,0))) (h1:t≠126) (h2:t≠99) (h3:t≠5) (j:Nat) (u:Value):kS Ca Bb R (W.setCell ⟨g,j,none⟩ u):=by
 obtain ⟨v,vs,g1,g2,g3⟩:=h.all
 refine ⟨v,vs,bW g1 (nJ g1 hg (fun e=>h1 e.symm)) u,ou g2 (p:=⟨g,j,none⟩) (own_ne g2 hg (fun e=>h2 e.symm)) u,g3.setCell (p:=⟨g,j,none⟩) u fun v' hv=>?_⟩
 obtain ⟨i,hi⟩:=List.mem_iff_getElem?.1 hv
 obtain ⟨hil,_⟩:=List.getElem?_eq_some_iff.1 hi
 exact own_ne (g3.own i v' _ hi (List.getElem?_eq_getElem (by rw [← g3.len];exact hil))) hg (fun e=>h3 e.symm)
theorem Hr:(Tryz.prog.info? 99).map (fun i=>(i.zero,i.size,i.bytes))=some (some (.slice none 0 0),1,24):=by kernel_rfl
theorem kS.rows {Ca Bb:Nat} {R:List (List Int)} {W:World} (h:kS Ca Bb R W):∃ (A:Option Addr) (cap:Nat) (vs:List Value),W.heap[Ca]?=some (.cells #[.slice A R.length cap] 126 (0,0))∧W.ownsRow Bb 99 1 (.slice A R.length cap) R.length vs∧iQ 5 1 Bb W vs (R.map rowOf)∧vs.length=R.length:=by
 obtain ⟨v,vs,g1,g2,g3⟩:=h.all
 have hl:vs.length=R.length:=by rw [g3.len,List.length_map]
 rw [hl] at g2
 obtain ⟨A,cap,rfl⟩:=ja g2
 exact ⟨A,cap,vs,g1,g2,g3,hl⟩
structure Mid (H0 Ci Ck:Nat) (w:World) (c:Nat) (kr vr:Rs) (W:World):Prop where
 ki:W.heap[Ci]?=some (.cells #[.int .i64 c] 3 (0,0))
 kk:W.heap[Ck]?=some (.cells (jg kr) 67 (0,0))
 kv:W.heap[w.heap.size+1]?=some (.cells (jg vr) 67 (0,0))
 bel:Below H0 w W
 keep:∀ (b:Nat) (cs:Array Value),w.heap[b]?=some (.cells cs 67 (0,0))→W.heap[b]?=some (.cells cs 67 (0,0))
 lo:w.heap.size≤W.heap.size
section
variable {H0 Ci Ca Ck Bb:Nat} {w W W':World} {c:Nat} {R:List (List Int)} {kr vr:Rs}
theorem Mid.below (h:Mid H0 Ci Ck w c kr vr W) (hH:H0≤w.heap.size) (hb:Below W.heap.size W W'):Mid H0 Ci Ck w c kr vr W' :=
 ⟨bU h.ki hb,bU h.kk hb,bU h.kv hb,h.bel.trans (eX hb (by have:=h.lo;omega)),fun b cs hk=>bU (h.keep b cs hk) hb,Nat.le_trans h.lo hb.size⟩
theorem Mid.grown (h:Mid H0 Ci Ck w c kr vr W) {base n size:Nat} {e:TypeId} {v:Value} {xs:List Value} (ho:W.ownsRow base e size v n xs) (he3:e≠3) (he67:e≠67) (hg:W.grownBy W' v.ownBlock) (hb:Below H0 W W'):Mid H0 Ci Ck w c kr vr W' :=
 ⟨gK h.ki hg (own_ne ho h.ki he3),gK h.kk hg (own_ne ho h.kk he67),gK h.kv hg (own_ne ho h.kv he67),h.bel.trans hb,fun b cs hk=>gK (h.keep b cs hk) hg (own_ne ho (h.keep b cs hk) he67),Nat.le_trans h.lo hb.size⟩
theorem Mid.put (h:Mid H0 Ci Ck w c kr vr W) {g:Nat} {cs:Array Value} {t:TypeId} (hg:W.heap[g]?=some (.cells cs t (0,0))) (h3:t≠3) (h67:t≠67) (hlo:H0≤g) (j:Nat) (u:Value):Mid H0 Ci Ck w c kr vr (W.setCell ⟨g,j,none⟩ u) :=
 ⟨bW h.ki (nJ h.ki hg (fun e=>h3 e.symm)) u,bW h.kk (nJ h.kk hg (fun e=>h67 e.symm)) u,bW h.kv (nJ h.kv hg (fun e=>h67 e.symm)) u,h.bel.setCell hlo u,fun b cs hk=>bW (h.keep b cs hk) (nJ (h.keep b cs hk) hg (fun e=>h67 e.symm)) u,Nat.le_trans h.lo (by simp)⟩
end
theorem BU {H0 Ci Ck:Nat} {w W:World} {c:Nat} {kr vr:Rs} (ki:w.heap[Ci]?=some (.cells #[.int .i64 c] 3 (0,0))) (kk:w.heap[Ck]?=some (.cells (jg kr) 67 (0,0))) (hb:Below w.heap.size w W) (kv:W.heap[w.heap.size+1]?=some (.cells (jg vr) 67 (0,0))) (hH:H0≤w.heap.size):Mid H0 Ci Ck w c kr vr W :=
 ⟨bU ki hb,bU kk hb,kv,eX hb hH,fun b cs h=>bU h hb,hb.size⟩
theorem DW {Ca Bb:Nat} {R:List (List Int)} {W w6:World} {A:Option Addr} {cap:Nat} {vs:List Value} {v1:Value} (kA:W.heap[Ca]?=some (.cells #[.slice A R.length cap] 126 (0,0))) (hO:W.ownsRow Bb 99 1 (.slice A R.length cap) R.length vs) (hM:iQ 5 1 Bb W vs (R.map rowOf)) (hBb:Bb≤W.heap.size)
 (ho:w6.ownsRow Bb 99 1 v1 (vs ++ [Value.slice (some ⟨W.heap.size,0,none⟩) 0 0]).length (vs ++ [Value.slice (some ⟨W.heap.size,0,none⟩) 0 0])) (hg:(W.alloc (.cells #[] 5)).grownBy w6 (Value.slice A R.length cap).ownBlock) :
 kS Ca Bb (R ++ [[]]) (w6.setCell ⟨Ca,0,none⟩ v1)∧w6.heap[Ca]?=some (.cells #[.slice A R.length cap] 126 (0,0)):=by
 have hb1:Below W.heap.size W (W.alloc (.cells #[] 5)):=ai (Below.refl _ _) _
 have hO1:=ik hO hb1
 have k6:=gK (bU kA hb1) hg (own_ne hO1 (bU kA hb1) (by decide))
 have hv0:(W.alloc (.cells #[] 5)).ownsRow Bb 5 1 (.slice (some ⟨W.heap.size,0,none⟩) 0 0) 0 []:=⟨rfl,.inr ⟨_,0,#[],rfl,hBb,dP W _,Nat.le_refl _,Nat.zero_le _,rfl,rfl⟩⟩
 have hm1:=hM.below hb1
 have hm6:=hm1.other hg (fun v hv=>by
  obtain ⟨i,hi⟩:=List.mem_iff_getElem?.1 hv
  obtain ⟨hil,_⟩:=List.getElem?_eq_some_iff.1 hi
  exact lI (hm1.own i v _ hi (List.getElem?_eq_getElem (by rw [← hm1.len];exact hil))) hO1 (by decide))
 have hm7:=hm6.snoc (v1:=Value.slice (some ⟨W.heap.size,0,none⟩) 0 0) (x1:=rowOf []) (lu hv0 hg (lI hv0 hO1 (by decide))) (fun v hv=>by
  obtain ⟨i,hi⟩:=List.mem_iff_getElem?.1 hv
  obtain ⟨hil,_⟩:=List.getElem?_eq_some_iff.1 hi
  have hlt:=Go.Proofs.YtpgfjbimodnkeaaGreatDoorW.PrintWords.ut (hM.own i v _ hi (List.getElem?_eq_getElem (by rw [← hM.len];exact hil)))
  refine ⟨.inr fun e=>?_,.inr fun e=>?_⟩
  ·have:=hlt W.heap.size e
   omega
  ·have:=hlt W.heap.size e.symm
   omega)
 refine ⟨⟨v1,_,cu k6 0 v1 rfl,ou ho (p:=⟨Ca,0,none⟩) (own_ne ho k6 (by decide)) v1,?_⟩,k6⟩
 have h8:=hm7.setCell (p:=⟨Ca,0,none⟩) v1 (fun v hv=>by
  obtain ⟨i,hi⟩:=List.mem_iff_getElem?.1 hv
  obtain ⟨hil,_⟩:=List.getElem?_eq_some_iff.1 hi
  exact own_ne (hm7.own i v _ hi (List.getElem?_eq_getElem (by rw [← hm7.len];exact hil))) k6 (by decide))
 rw [List.map_append]
 exact h8
theorem wH (g c:Nat):(⟨g,0,none⟩:Addr).add c=⟨g,c,none⟩:=by
 unfold Addr.add
 split
 ·rename_i h
  rw [h]
 ·simp
theorem EI {Ca Bb c g cap:Nat} {R:List (List Int)} {W w6:World} {vs:List Value} {vc v1:Value} {l p:List Int} (kA:W.heap[Ca]?=some (.cells #[.slice (some ⟨g,0,none⟩) R.length cap] 126 (0,0))) (hO:W.ownsRow Bb 99 1 (.slice (some ⟨g,0,none⟩) R.length cap) R.length vs) (hM:iQ 5 1 Bb W vs (R.map rowOf)) (hvc:vs[c]?=some vc) (hl:R[c]?=some l)
 (ho:w6.ownsRow Bb 5 1 v1 (l ++ p).length (nums .u8 (l ++ p))) (hg:W.grownBy w6 vc.ownBlock) (hat:v1.ownBlock=vc.ownBlock∨∃ b,v1.ownBlock=some b∧W.heap.size≤b) :
 kS Ca Bb (R.set c (l ++ p)) (w6.setCell ⟨g,c,none⟩ v1)∧∃ cur,w6.heap[g]?=some (.cells cur 99 (0,0))∧w6.cell? ⟨g,c,none⟩=some vc∧w6.heap[Ca]?=some (.cells #[.slice (some ⟨g,0,none⟩) R.length cap] 126 (0,0)):=by
 have hown:=hM.own c vc (rowOf l) hvc (by rw [List.getElem?_map,hl];rfl)
 have hO6:=lu hO hg (lI hO hown (by decide))
 have k6:=gK kA hg (own_ne hown kA (by decide))
 have hm6:=hM.grow (x1:=rowOf (l ++ p)) hvc ho hg hat
 obtain ⟨hs,hgs⟩:=hO6.stored c v1
 obtain ⟨cur,hcur⟩:∃ cur,w6.heap[g]?=some (.cells cur 99 (0,0)):=by
  rcases hO6.2 with ⟨h,_⟩ | ⟨g',cap',cur,h,_,hh,_⟩
  ·cases h
  ·cases h;exact ⟨cur,hh⟩
 have hm7:=hm6.setCell (p:=⟨g,c,none⟩) v1 (fun v hv=>by
  obtain ⟨i,hi⟩:=List.mem_iff_getElem?.1 hv
  obtain ⟨hil,_⟩:=List.getElem?_eq_some_iff.1 hi
  exact own_ne (hm6.own i v _ hi (List.getElem?_eq_getElem (by rw [← hm6.len];exact hil))) hcur (by decide))
 refine ⟨⟨_,vs.set c v1,bW k6 (nJ k6 hcur (by decide)) v1,?_,?_⟩,cur,hcur,?_,k6⟩
 ·rw [List.length_set]
  have hvl:vs.length=R.length:=by rw [hM.len,List.length_map]
  rw [hvl]
  exact hs
 ·rw [List.map_set]
  exact hm7
 ·have:=hO6.cells (g:=g) rfl c vc hvc
  rw [wH] at this
  exact this
def DR:Bool × List (List Nat × List Nat):=(true,[([],[]),([],[]),([],[]),([],[]),([2,3],[2,3]),([4],[4]),([],[]),([6],[6]),([7],[7]),([8],[8]),([],[]),([10],[10]),([9,11],[9,11]),([5,12],[5,12]),([0,1,0,1,2,3,4,5,6,7,8,9,10,11,12,13],[0,1]),([14,13,13,0,1,2,3,4,5,6,7,8,9,10,11,12,13],[13,14])])
def GY:List Nat:=[0,0,0,0,12,28,0,64,192,448,0,1024,4032,8188,16383,32767]
theorem BB:kT .any (opsOf Tryz.f91 3)=DR:=by kernel_rfl
theorem yL:kK DR.2 GY=true:=by kernel_rfl
theorem xw (H0 Ci Ca Ck Bb:Nat) (w:World) (c:Nat) (R:List (List Int)) (kr0 kr vr:Rs) (hA:kS Ca Bb R w) (ki:w.heap[Ci]?=some (.cells #[.int .i64 c] 3 (0,0))) (kk:w.heap[Ck]?=some (.cells (jg kr0) 67 (0,0)))
 (hc:c≤R.length) (hR:R.length≤65536) (hRl:∀ l ∈ R,l.length≤9000000000) (hy:vr.raw.size≤65536) (hn:kr0.raw.size≤65536) (hBb:Bb≤w.heap.size) (hH:H0≤Bb) (h1:H0≤Ca) (h2:H0≤Ci) :
 Calls Tryz.prog 91 #[resV kr.k kr.raw kr.str kr.num kr.idx,resV vr.k vr.raw vr.str vr.num vr.idx,.pointer (some ⟨Ci,0,none⟩),.pointer (some ⟨Ca,0,none⟩),.pointer (some ⟨Ck,0,none⟩)] w fun e w'=>e = .returned (.bool true)∧kS Ca Bb (grow R c (piece kr0.raw vr.raw)) w'∧w'.heap[Ci]?=some (.cells #[.int .i64 (c+1:Nat)] 3 (0,0))∧Below H0 w w'∧(∀ (b:Nat) (cs:Array Value),w.heap[b]?=some (.cells cs 67 (0,0))→w'.heap[b]?=some (.cells cs 67 (0,0))):=by
 obtain ⟨W,hW⟩:∃ W,(w.alloc (.cells #[.int .i64 kr.k,.string kr.raw,.string kr.str,.float .f64 kr.num,.int .i64 kr.idx,.slice none 0 0] 67 (0,0))).alloc (.cells #[.int .i64 vr.k,.string vr.raw,.string vr.str,.float .f64 vr.num,.int .i64 vr.idx,.slice none 0 0] 67 (0,0))=W:=⟨_,rfl⟩
 have hBW:Below w.heap.size w W:=by rw [← hW];exact ai (ai (Below.refl _ _) _) _
 have kv:=(vS w #[.int .i64 kr.k,.string kr.raw,.string kr.str,.float .f64 kr.num,.int .i64 kr.idx,.slice none 0 0] #[.int .i64 vr.k,.string vr.raw,.string vr.str,.float .f64 vr.num,.int .i64 vr.idx,.slice none 0 0] 67 67).2
 rw [hW] at kv
 have hM0:=BU (H0:=H0) (vr:=vr) ki kk hBW kv (Nat.le_trans hH hBb)
 have hA0:=hA.below hBW
 obtain ⟨A,cap,vs,kA,hO,hM,hvl⟩:=hA0.rows
 have ci0:=(ah hM0.ki 0).trans rfl
 have ca0:=(ah kA 0).trans rfl
 have fa0:=ak kA 0
 replace hM:=ae.mk hM
 replace hO:=ae.mk hO
 replace hvl:=ae.mk hvl
 replace hM0:=ae.mk hM0
 replace kA:=ae.mk kA
 replace kv:=ae.mk kv
 replace hA0:=ae.mk hA0
 replace hA:=ae.mk hA
 replace ki:=ae.mk ki
 replace kk:=ae.mk kk
 replace hBW:=ae.mk hBW
 replace hRl:=ae.mk hRl
 go_enter Tryz.func91,Tryz.ntmps91
 go_upto_if 11 with (fail)
 go_cut [12] from 8 (fun v12 wc=>∃ R':List (List Int),ae (Mid H0 Ci Ck w c kr0 vr wc)∧ae (kS Ca Bb R' wc)∧ae (c < R'.length∧R'.length≤65537∧(∀ l ∈ R',l.length≤9000000000)∧R'.set c (R'.getD c [] ++ piece kr0.raw vr.raw)=grow R c (piece kr0.raw vr.raw)))
 case first =>
  by_cases hcn:c=R.length
  ·have e1:((c:Int) == (R.length:Int))=true:=beq_iff_eq.mpr (by omega)
   replace hcn:=ae.mk hcn
   have hv0:(W.alloc (.cells #[] 5)).ownsRow Bb 5 1 (.slice (some ⟨W.heap.size,0,none⟩) 0 0) 0 []:=⟨rfl,.inr ⟨_,0,#[],rfl,by have:=hM0.out.lo;omega,dP W _,Nat.le_refl _,Nat.zero_le _,rfl,rfl⟩⟩
   replace hv0:=ae.mk hv0
   go_wp2_with (first | ((with_reducible refine cO (b:=.append) (xs:=#[.tmp 12,.tmp 14]) rfl ?_);at_builtin;refine qg (w0:=W.alloc (.cells #[] 5)) (W:=W.alloc (.cells #[] 5)) Bb rfl (.tmp 12) (.tmp 14) 126 99 (.slice none 0 0) 24 rfl Tryz.underlying126 Hr rfl (by decide) (.slice A R.length cap) vs (.slice (some ⟨W.heap.size,0,none⟩) 0 0) rfl (by simp [Act.eval]) rfl ?aO ?aB ?aS ?aL ?_;(case aO=>rw [hvl.out];exact ik hO.out (ai (Below.refl _ _) _));(case aB=>exact Below.refl _ _);(case aS=>have:=hM0.out.lo;simp;omega);(case aL=>have:=hvl.out;omega);intro v1 w6 ho hb hg hat;have hA6:=DW kA.out hO.out hM.out (by have:=hM0.out.lo;omega) ho hg;have hM6:=(hM0.out.below (Nat.le_trans hH hBb) (ai (Below.refl _ _) (.cells #[] 5))).grown (ik hO.out (ai (Below.refl _ _) _)) (by decide) (by decide) hg (eX hb hH);obtain ⟨A6,n6,e6⟩:=ja ho;subst e6;have co6:=(ah hA6.2 0).trans rfl;have fo6:=ak hA6.2 0;replace hA6:=ae.mk hA6;replace hM6:=ae.mk hM6;clear ho hb hg hat))
   go_meet
   case rel=>exact ⟨R ++ [[]],⟨hM6.out.put hA6.out.2 (by decide) (by decide) h1 0 _⟩,⟨by have h:=hA6.out.1;rw [List.length_append] at h;exact h⟩,⟨by have:=hcn.out;simp;omega,by simp;omega,fun l hl=>by
    rcases List.mem_append.1 hl with h | h
    ·exact hRl.out l h
    ·obtain rfl:=List.mem_singleton.1 h
     simp,by
    have:=hcn.out
    subst this
    rw [grow,if_pos rfl]
    simp [List.getD_eq_getElem?_getD]⟩⟩
  ·have e1:((c:Int) == (R.length:Int))=false:=beq_eq_false_iff_ne.mpr (by omega)
   have hcn0:=ae.mk hcn
   clear hcn
   go_wp2_with (fail)
   go_meet
   case rel=>exact ⟨R,hM0,hA0,⟨by have:=hcn0.out;omega,by omega,hRl.out,by rw [grow,if_neg hcn0.out]⟩⟩
 case rest =>
  clear hM0 hA0 hO hM hvl kA ci0 ca0 fa0
  obtain ⟨R',hM1,hA1,hR1⟩:=hcut
  obtain ⟨g1,g2,g3,g4⟩:=hR1.out
  obtain ⟨A,cap,vs,kA,hO,hM,hvl⟩:=hA1.out.rows
  obtain ⟨g,_,e,hbg,_⟩:=mH hO (by omega)
  obtain rfl:A=some ⟨g,0,none⟩:=by injection e
  clear e
  have hcv:c < vs.length:=by omega
  have hvc:=List.getElem?_eq_getElem hcv
  have hl:=List.getElem?_eq_getElem g1
  have hown:=hM.own c _ _ hvc (by rw [List.getElem?_map,hl];rfl)
  have hcell:=hO.cells (g:=g) rfl c _ hvc
  rw [wH] at hcell
  have hlen:=g3 _ (List.getElem_mem g1)
  have hgd:R'.getD c []=R'[c]:=by rw [List.getD_eq_getElem?_getD,hl];rfl
  rw [hgd] at g4
  generalize R'[c]=l at *
  generalize vs[c]=vc at *
  obtain ⟨Ac,capc,rfl⟩:=ja hown
  have hlc:(rowOf l).1=l.length:=rfl
  rw [hlc] at hown hcell hvc
  have ci0:=(ah hM1.out.ki 0).trans rfl
  have ca0:=(ah kA 0).trans rfl
  have ck1:=(ah hM1.out.kk 1).trans rfl
  have cv1:=(ah hM1.out.kv 1).trans rfl
  have hcell0:=hcell
  have p1:(0≤(c:Int))=True:=eq_true (by omega)
  have p2:((c:Int) < (R'.length:Int))=True:=eq_true (by omega)
  have hsz:((((⟨#[44]⟩:ByteArray) ++ kr0.raw ++ (⟨#[58]⟩:ByteArray)) ++ vr.raw).size)≤131074:=by
   simp only [ByteArray.size_append]
   have:(⟨#[44]⟩:ByteArray).size=1:=rfl
   have:(⟨#[58]⟩:ByteArray).size=1:=rfl
   omega
  have q1:(9223372036854775807 < 1+kr0.raw.size)=False:=eq_false (by omega)
  have q2:(9223372036854775807 < 1+kr0.raw.size+1)=False:=eq_false (by omega)
  have q3:(9223372036854775807 < 1+kr0.raw.size+1+vr.raw.size)=False:=eq_false (by omega)
  replace hsz:=ae.mk hsz
  replace hO:=ae.mk hO
  replace hM:=ae.mk hM
  replace hown:=ae.mk hown
  replace kA:=ae.mk kA
  replace hvc:=ae.mk hvc
  replace hl:=ae.mk hl
  replace hvl:=ae.mk hvl
  have hcell0:=ae.mk hcell
  replace g4:=ae.mk g4
  replace g3:=ae.mk g3
  clear hgd hlc
  have hBl:Bb≤wc.heap.size:=by have:=hM1.out.lo;omega
  go_wp2_with (fail)
  refine nT (n:=16) (S:=fun w'=>w'.cell? ⟨Ci,0,none⟩=some (.int .i64 c)∧w'.cell? ⟨Ca,0,none⟩=some (.slice (some ⟨g,0,none⟩) R'.length cap)∧w'.cell? ⟨Ck,1,none⟩=some (.string kr0.raw)∧w'.cell? ⟨w.heap.size+1,1,none⟩=some (.string vr.raw)∧w'.cell? ⟨g,c,none⟩=some (.slice Ac l.length capc)) (ds:=[15]) #[false,false,false,false,false,false,false,false,false,false,false,false,false,false,false,false] (by kernel_rfl) rfl rfl ⟨ci0,ca0,ck1,cv1,hcell⟩ (fun hHeld=>?_);refine jS BB yL (fun HT_ HW_=>?_)
  refine iL (i:=0) (N:=some 16) (v:=?_) (a':=?_) #[true,false,false,false,false,false,false,false,false,false,false,false,false,false,false,false] rfl rfl (eH HT_.out HW_.out (by kernel_rfl)) (fun _ _ _ h=>h) (Or.inl ⟨by rfl,?_⟩) hHeld ?_ ?_;rotate_left;(rintro w' ⟨s0,s1,s2,s3,s4⟩;go_simp;with_reducible rfl);rotate_left;(simp only [Act.put,List.setIfInBounds_toArray,List.set_cons_zero,List.set_cons_succ,bf,bD];rfl)
  refine iL (i:=1) (N:=some 17) (v:=?_) (a':=?_) #[true,true,false,false,false,false,false,false,false,false,false,false,false,false,false,false] rfl rfl (eH HT_.out HW_.out (by kernel_rfl)) (fun _ _ _ h=>h) (Or.inl ⟨by rfl,?_⟩) hHeld ?_ ?_;rotate_left;(rintro w' ⟨s0,s1,s2,s3,s4⟩;go_simp;with_reducible rfl);rotate_left;(simp only [Act.put,List.setIfInBounds_toArray,List.set_cons_zero,List.set_cons_succ,bf,bD];rfl)
  refine iL (i:=2) (N:=some 18) (v:=?_) (a':=?_) #[true,true,true,false,false,false,false,false,false,false,false,false,false,false,false,false] rfl rfl (eH HT_.out HW_.out (by kernel_rfl)) (fun _ _ _ h=>h) (Or.inl ⟨by rfl,?_⟩) hHeld ?_ ?_;rotate_left;(rintro w' ⟨s0,s1,s2,s3,s4⟩;go_simp;with_reducible rfl);rotate_left;(simp only [Act.put,List.setIfInBounds_toArray,List.set_cons_zero,List.set_cons_succ,bf,bD];rfl)
  refine iL (i:=3) (N:=some 19) (v:=?_) (a':=?_) #[true,true,true,true,false,false,false,false,false,false,false,false,false,false,false,false] rfl rfl (eH HT_.out HW_.out (by kernel_rfl)) (fun _ _ _ h=>h) (Or.inl ⟨by rfl,?_⟩) hHeld ?_ ?_;rotate_left;(rintro w' ⟨s0,s1,s2,s3,s4⟩;go_simp;with_reducible rfl);rotate_left;(simp only [Act.put,List.setIfInBounds_toArray,List.set_cons_zero,List.set_cons_succ,bf,bD];rfl)
  refine dA (i:=4) (N:=some 20) (v:=?_) (a':=?_) #[true,true,true,true,true,false,false,false,false,false,false,false,false,false,false,false] rfl rfl (bV HT_.out (by kernel_rfl)) (fun _ _ _ h=>h) (Or.inl ⟨by rfl,?_⟩) ?_ ?_;rotate_left;(intro w';go_simp;with_reducible rfl);rotate_left;(simp only [Act.put,List.setIfInBounds_toArray,List.set_cons_zero,List.set_cons_succ,bf,bD];rfl)
  refine iL (i:=5) (N:=some 21) (v:=?_) (a':=?_) #[true,true,true,true,true,true,false,false,false,false,false,false,false,false,false,false] rfl rfl (eH HT_.out HW_.out (by kernel_rfl)) (fun _ _ _ h=>h) (Or.inl ⟨by rfl,?_⟩) hHeld ?_ ?_;rotate_left;(rintro w' ⟨s0,s1,s2,s3,s4⟩;go_simp;with_reducible rfl);rotate_left;(simp only [Act.put,List.setIfInBounds_toArray,List.set_cons_zero,List.set_cons_succ,bf,bD];rfl)
  refine dA (i:=6) (N:=some 22) (v:=?_) (a':=?_) #[true,true,true,true,true,true,true,false,false,false,false,false,false,false,false,false] rfl rfl (bV HT_.out (by kernel_rfl)) (fun _ _ _ h=>h) (Or.inl ⟨by rfl,?_⟩) ?_ ?_;rotate_left;(intro w';go_simp;with_reducible rfl);rotate_left;(simp only [Act.put,List.setIfInBounds_toArray,List.set_cons_zero,List.set_cons_succ,bf,bD];rfl)
  refine iL (i:=7) (N:=some 23) (v:=?_) (a':=?_) #[true,true,true,true,true,true,true,true,false,false,false,false,false,false,false,false] rfl rfl (eH HT_.out HW_.out (by kernel_rfl)) (fun _ _ _ h=>h) (Or.inl ⟨by rfl,?_⟩) hHeld ?_ ?_;rotate_left;(rintro w' ⟨s0,s1,s2,s3,s4⟩;go_simp;with_reducible rfl);rotate_left;(simp only [Act.put,List.setIfInBounds_toArray,List.set_cons_zero,List.set_cons_succ,bf,bD];rfl)
  refine dA (i:=8) (N:=some 24) (v:=?_) (a':=?_) #[true,true,true,true,true,true,true,true,true,false,false,false,false,false,false,false] rfl rfl (bV HT_.out (by kernel_rfl)) (fun _ _ _ h=>h) (Or.inl ⟨by rfl,?_⟩) ?_ ?_;rotate_left;(intro w';go_simp;with_reducible rfl);rotate_left;(simp only [Act.put,List.setIfInBounds_toArray,List.set_cons_zero,List.set_cons_succ,bf,bD];rfl)
  refine dA (i:=9) (N:=some 25) (v:=?_) (a':=?_) #[true,true,true,true,true,true,true,true,true,true,false,false,false,false,false,false] rfl rfl (bV HT_.out (by kernel_rfl)) (fun _ _ _ h=>h) (Or.inl ⟨by rfl,?_⟩) ?_ ?_;rotate_left;(intro w';go_simp;with_reducible rfl);rotate_left;(simp only [Act.put,List.setIfInBounds_toArray,List.set_cons_zero,List.set_cons_succ,bf,bD];rfl)
  refine dA (i:=10) (N:=some 26) (v:=?_) (a':=?_) #[true,true,true,true,true,true,true,true,true,true,true,false,false,false,false,false] rfl rfl (bV HT_.out (by kernel_rfl)) (fun _ _ _ h=>h) (Or.inl ⟨by rfl,?_⟩) ?_ ?_;rotate_left;(intro w';go_simp;with_reducible rfl);rotate_left;(simp only [Act.put,List.setIfInBounds_toArray,List.set_cons_zero,List.set_cons_succ,bf,bD];rfl)
  refine iL (i:=11) (N:=some 27) (v:=?_) (a':=?_) #[true,true,true,true,true,true,true,true,true,true,true,true,false,false,false,false] rfl rfl (eH HT_.out HW_.out (by kernel_rfl)) (fun _ _ _ h=>h) (Or.inl ⟨by rfl,?_⟩) hHeld ?_ ?_;rotate_left;(rintro w' ⟨s0,s1,s2,s3,s4⟩;go_simp;with_reducible rfl);rotate_left;(simp only [Act.put,List.setIfInBounds_toArray,List.set_cons_zero,List.set_cons_succ,bf,bD];rfl)
  refine dA (i:=12) (N:=some 28) (v:=?_) (a':=?_) #[true,true,true,true,true,true,true,true,true,true,true,true,true,false,false,false] rfl rfl (bV HT_.out (by kernel_rfl)) (fun _ _ _ h=>h) (Or.inl ⟨by rfl,?_⟩) ?_ ?_;rotate_left;(intro w';go_simp;with_reducible rfl);rotate_left;(simp only [Act.put,List.setIfInBounds_toArray,List.set_cons_zero,List.set_cons_succ,bf,bD];rfl)
  refine nI (i:=13) (N:=some 29) #[true,true,true,true,true,true,true,true,true,true,true,true,true,true,false,false] rfl rfl (iM HT_.out (by kernel_rfl)) (by decide) (fun K hK=>?_)
  refine rJ (w0:=wc.drew) (W:=wc.drew) Bb (by rfl) (.tmp 21) (.tmp 28) 99 9 5 rfl Tryz.underlying99 Tryz.underlying9 Q.info5 (.slice Ac l.length capc) l (((⟨#[44]⟩:ByteArray) ++ kr0.raw ++ (⟨#[58]⟩:ByteArray)) ++ vr.raw) (by simp [Act.eval,Act.put]) (by simp [Act.eval,Act.put]) ?aO ?aB ?aS ?aL ?_
  case aO=>exact hown.out
  case aB=>exact Below.refl _ _
  case aS=>exact hBl
  case aL=>have:=hsz.out;omega
  intro v1 w6 ho hb hg hat
  obtain ⟨hA6,cur,hcur,hsome,kA6⟩:=EI (W:=wc.drew) kA.out (ik hO.out (dm (Below.refl _ _))) (hM.out.below (dm (Below.refl _ _))) hvc.out hl.out ho hg hat
  have hM6:=(hM1.out.below (Nat.le_trans hH hBb) (dm (Below.refl _ _))).grown (ik hown.out (dm (Below.refl _ _))) (by decide) (by decide) hg (eX hb hH)
  have fx:=ak hcur c
  have ca6:=(ah kA6 0).trans rfl
  have ci6:=(ah hM6.ki 0).trans rfl
  have ck6:=(ah hM6.kk 1).trans rfl
  have cv6:=(ah hM6.kv 1).trans rfl
  obtain ⟨A6,n6,e6⟩:=ja ho
  subst e6
  obtain ⟨L,hL⟩:∃ L,(l ++ bytesOf (((⟨#[44]⟩:ByteArray) ++ kr0.raw ++ (⟨#[58]⟩:ByteArray)) ++ vr.raw)).length=L:=⟨_,rfl⟩
  rw [hL] at ho hA6 ⊢
  have hM7:=ae.mk (hM6.put hcur (by decide) (by decide) (by omega) c (.slice A6 L n6))
  replace hL:=ae.mk hL
  replace hA6:=ae.mk hA6
  clear ho hb hg hat hcur hM6 kA6
  refine hK.out _ _ ⟨ci6,ca6,ck6,cv6,hsome⟩ (fun hHeld=>?_)
  clear hK K
  refine lD (a':=?_) ?_ ?_
  rotate_left
  ·show Act.put _ (some 29) _=_
   simp only [Act.put,List.setIfInBounds_toArray,List.set_cons_zero,List.set_cons_succ,bf,bD]
   rfl
  refine dA (i:=14) (N:=some 30) (v:=?_) (a':=?_) #[true,true,true,true,true,true,true,true,true,true,true,true,true,true,true,false] rfl rfl (bV HT_.out (by kernel_rfl)) (fun _ _ _ h=>h) (Or.inl ⟨by rfl,?_⟩) ?_ ?_;rotate_left;(intro w';go_simp;with_reducible rfl);rotate_left;(simp only [Act.put,List.setIfInBounds_toArray,List.set_cons_zero,List.set_cons_succ,bf,bD];rfl)
  refine zL (i:=15) (N:=none) #[true,true,true,true,true,true,true,true,true,true,true,true,true,true,true,true] rfl rfl (iM HT_.out (by kernel_rfl)) (by decide) (fun K hK=>?_)
  refine tZ (w1:=?_) (by rfl) rfl ?_ ?_
  rotate_left
  ·go_simp
   rfl
  refine hK.out _ _ ?_
  clear hK K
  refine rq (lQ HT_.out (by kernel_rfl)) ?_
  obtain ⟨w7,hw7⟩:∃ w7,w6.setCell ⟨g,c,none⟩ (.slice A6 L n6)=w7:=⟨_,rfl⟩
  rw [hw7] at hM7 hA6 ⊢
  replace hw7:=ae.mk hw7
  have ci7:=(ah hM7.out.ki 0).trans rfl
  have fi7:=ak hM7.out.ki 0
  clear ci0 ca0 ck1 cv1 hcell fx ca6 ci6 ck6 cv6 hsome q1 q2 q3
  go_wp2
  go_ret
  refine ⟨rfl,?_,(by rw [show ((c+1:Nat):Int)=(c:Int)+1 from by omega];exact cu hM7.out.ki 0 (.int .i64 ((c:Int)+1)) rfl),hM7.out.bel.setCell h2 _,fun b cs hk=>bW (hM7.out.keep b cs hk) (nJ (hM7.out.keep b cs hk) hM7.out.ki (by decide)) _⟩
  have h:=hA6.out.set hM7.out.ki (by decide) (by decide) (by decide) 0 (.int .i64 ((c:Int)+1))
  have h4:=g4.out
  unfold piece at h4
  rw [h4] at h
  unfold piece
  exact h
theorem yc (w0 w:World) (B B0 L0 B1:Nat) (stop:Int) (Inv:List (Rs × Rs)→World→Prop) (F:Nat) (C1:Addr) (C2:Addr) (C3:Addr) (s:ByteArray) (hs:s.size≤65536) (ks:List S32) (eJ:Nat) (hJ:J s .val 0 eJ 5 [] ks) (hE:Blanks s eJ s.size) (hP:Prd s 0) (str:ByteArray) (fl:Nat) (num:Int) (hT:Tabs B w0) (hBB:B≤B0) (hfd:Ed B0 L0 B1 w0 Inv) (heat:Gh L0 B1 stop Inv F (fun a b=>#[a,b,.pointer (some C1),.pointer (some C2),.pointer (some C3)]) s [] ks) (hin:∀ (args:Array Value) (W:World),(callFunc F args).run Tryz.prog W = .ok (.enter F args) W) (hL0:L0=w.heap.size) (hB1:B1=w.heap.size+4) (hO:Inv [] w) :
 Calls Tryz.prog 32 #[resV 5 s str fl num,.func (.func F) #[] #[.pointer (some C1),.pointer (some C2),.pointer (some C3)]] w fun e w'=>e = .returned (.tuple #[])∧∃ ps:List (Rs × Rs),Inv ps w'∧gX s (ks.take ps.length) ps∧ps.length≤ks.length ∧
  (ps.length=ks.length∨(ps.length:Int)=stop∧0 < stop)∧∀ j:Nat,0 < j→j < ps.length→(j:Int)≠stop:=by
 obtain ⟨h91,hrem⟩:=AC hJ hE
 have hx:=jc s 0
 rw [h91] at hx
 have hpos:0 < s.size:=by have:=hJ.bound;omega
 have p1:((0:Int) < (s.size:Int))=True:=eq_true (by omega)
 have hks:ks.length≤100000:=by have:=yu hJ;have:=hJ.bound;omega
 have hP1:Prd s 1:=Prd.plain (lb hs) hP hpos (by rw [h91];decide)
 replace hrem:=ae.mk hrem
 replace hJ:=ae.mk hJ
 replace hE:=ae.mk hE
 replace hP:=ae.mk hP
 replace hP1:=ae.mk hP1
 replace hT:=ae.mk hT
 replace h91:=ae.mk h91
 replace hO:=ae.mk hO
 have hadd:=EZ 37
 go_enter Tryz.func32,Tryz.ntmps32
 go_wp2
 refine wp_loop_rounds 1 ?_
 rw [rounds_succ]
 go_wp2
 go_loopg [6,9,10,11,12,13,14] (s.size - 1) (fun kq v6 v9 v10 v11 v12 v13 v14 w'=>∃ i ix:Nat,v6 = .int .i64 i∧v12 = .int .i64 ix∧ae (∃ (ps:List (Rs × Rs)) (kdone rest:List S32) (kr vr:Rs),LA s eJ ks B0 L0 B1 stop w0 Inv w.heap.size (w.heap.size+1+1) (w.heap.size+1+1+1) str fl num kq i ix ps kdone rest kr vr w'))
 case atStart =>
  refine ⟨1,0,rfl,rfl,⟨[],[],ks,⟨2,⟨#[]⟩,⟨#[]⟩,13830554455654793216,0⟩,⟨0,⟨#[]⟩,⟨#[]⟩,0,0⟩,⟨rfl,rfl,trivial,rfl,by omega,hrem.out,fun _=>hP1.out,⟨hfd,?_,?_,?_,?_,by omega,?_,by omega⟩,fun j h1 h2=>by simp at h2;omega⟩⟩⟩
  ·exact hfd.below hO.out (ai (ai (ai (ai (Below.refl _ _) _) _) _) _)
  ·exact aN (aN (aN (dP w _) _) _) _
  ·have:=aN (dP ((w.alloc (.cells (jg ⟨5,s,str,fl,num⟩) 67 (0,0))).alloc (.cells (jg ⟨5,s,str,fl,num⟩) 67 (0,0))) (.cells (jg ⟨2,⟨#[]⟩,⟨#[]⟩,13830554455654793216,0⟩) 67 (0,0))) (.cells (jg ⟨0,⟨#[]⟩,⟨#[]⟩,0,0⟩) 67 (0,0))
   simpa using this
  ·have:=dP (((w.alloc (.cells (jg ⟨5,s,str,fl,num⟩) 67 (0,0))).alloc (.cells (jg ⟨5,s,str,fl,num⟩) 67 (0,0))).alloc (.cells (jg ⟨2,⟨#[]⟩,⟨#[]⟩,13830554455654793216,0⟩) 67 (0,0))) (.cells (jg ⟨0,⟨#[]⟩,⟨#[]⟩,0,0⟩) 67 (0,0))
   simpa using this
  ·exact ⟨by have:=hfd.lo hO.out;omega,by have:=hfd.lo hO.out;omega,by have:=hfd.lo hO.out;omega⟩
 case round =>
  obtain ⟨i,ix,rfl,rfl,hL⟩:=hrel
  obtain ⟨ps,kdone,rest,kr,vr,hkq,hall,hok,hix,hbnd,hrem1,hprd,hF,hgo⟩:=hL.out
  clear hL
  have hT1:=hT.out.below (eX hF.bel hBB)
  have hbnd2:ix≤65536∨¬ i < s.size:=by omega
  by_cases hi:i < s.size
  ·have hprd1:=hprd (by omega)
   have ck3:=(ah hF.bk 3).trans rfl
   have fk3:=ak hF.bk 3
   replace hok:=ae.mk hok
   replace hall:=ae.mk hall
   replace hgo:=ae.mk hgo
   replace hkq:=ae.mk hkq
   replace hix:=ae.mk hix
   replace hF:=ae.mk hF
   replace hT1:=ae.mk hT1
   clear hprd
   rcases hrem1 with ⟨j,hsp,hj⟩ | ⟨rfl,hend⟩
   ·have hjb:=hj.bound
    obtain ⟨m,kd,ns1,ks1,l,rfl,hv,hA,hrem2,hms⟩:=Eh hj hE.out
    have hst:=uS hv
    go_wp2
    go_loopg [6] (s.size - i) (fun kq v6 w'=>∃ p:Nat,v6 = .int .i64 p∧ae (InA s B0 L0 B1 w0 Inv w.heap.size (w.heap.size+1+1) (w.heap.size+1+1+1) str fl num ps vr i j kq p w'))
    case atStart=>exact ⟨i,rfl,⟨⟨rfl,Nat.le_refl _,hsp.le,⟨_,(hF.out.drewN _).Cm _⟩⟩⟩⟩
    case round =>
     obtain ⟨p,rfl,hL⟩:=hrel
     obtain ⟨hkq2,hip,hpj,kr2,hF2⟩:=hL.out
     clear hL ck3 fk3
     have hps:p < s.size:=by omega
     have hb:=jc s p
     have q0:(0≤(p:Int))=True:=eq_true (by omega)
     have q1:((p:Int) < (s.size:Int))=True:=eq_true (by omega)
     replace hkq2:=ae.mk hkq2
     replace hF2:=ae.mk hF2
     by_cases hpe:p=j
     ·subst hpe
      have hcj:=hst
      have hPj:Prd s p:=gJ.prd (lb hs) hsp (by omega) (fun c hc=>by unfold rG Scan.blank at hc;omega) hprd1
      have hPm:=J.prd (lb hs) hv hPj
      have hvb:=hv.bound
      have hmj:m < s.size:=hms
      have hPm1:Prd s (m+1):=Prd.plain (lb hs) hPm hmj (by have:=hA.resolve_left (by omega);unfold Scan.blank at this;omega)
      have hany:∀ W,FEW s B0 L0 B1 w0 Inv w.heap.size (w.heap.size+1+1) (w.heap.size+1+1+1) str fl num ps kr2 vr W→Calls Tryz.prog 62 #[.string s,.int .i64 p,.bool true] W fun r w'=>∃ rs:Rs,r = .returned (.tuple #[.int .i64 m,resV rs.k rs.raw rs.str rs.num rs.idx,.bool true])∧lJ s ⟨kd,p,m,ns1,ks1⟩ rs∧FEW s B0 L0 B1 w0 Inv w.heap.size (w.heap.size+1+1) (w.heap.size+1+1+1) str fl num ps kr2 vr w':=fun W hW =>
       (vg W B s hs (hT.out.below (eX hW.bel hBB)) hv hA hPj).mono (fun r w' ⟨rs,h1,h2,h3⟩=>⟨rs,h1,h2,hW.below h3⟩)
      obtain ⟨bgo,hbgo⟩:∃ b,(((ps.length+1:Nat):Int) != stop)=b:=⟨_,rfl⟩
      have hat:=gX.next hall.out hok.out
      have hcl0:∀ (vr2:Rs) (W:World),lJ s ⟨kd,p,m,ns1,ks1⟩ vr2→FEW s B0 L0 B1 w0 Inv w.heap.size (w.heap.size+1+1) (w.heap.size+1+1+1) str fl num ps kr2 vr2 W→Calls Tryz.prog F #[resV kr2.k kr2.raw kr2.str kr2.num kr2.idx,resV vr2.k vr2.raw vr2.str vr2.num vr2.idx,.pointer (some C1),.pointer (some C2),.pointer (some C3)] W fun e w'=>e = .returned (.bool bgo)∧FEW s B0 L0 B1 w0 Inv w.heap.size (w.heap.size+1+1) (w.heap.size+1+1+1) str fl num (ps ++ [(kr2,vr2)]) kr2 vr2 w':=fun vr2 W hk hW =>
       (heat ps kr2 vr2 _ W hW.inv hat hk (fun n hn=>by simp at hn) (by have:=hix.out;omega) (by have:=(Array.getElem?_eq_some_iff.1 hW.bv).1;omega)).mono (fun e w' ⟨h1,h2,h3⟩=>⟨by rw [h1,hbgo],hW.after h2 h3⟩)
      have hqn:∀ (wx:World) (a:Option Addr) (n c n' c':Nat),(binOp .neq 65 (.slice a n c) (.slice none n' c')).run Tryz.prog wx = .ok (.bool (!a.isNone)) wx:=fun wx a n c n' c'=>run_neq_slice_nil_any wx _ _ a n c n' c' Tryz.underlying65
      have hixb:(ix:Int)≤65536:=by omega
      generalize bt s p=c at *
      have e1:decide (c≤32)=false:=decide_eq_false (by omega)
      have e2:(c == 44)=false:=beq_eq_false_iff_ne.mpr hcj.2.1
      have e3:(c == 58)=false:=beq_eq_false_iff_ne.mpr hcj.2.2.1
      replace hst:=ae.mk hst
      replace hcj:=ae.mk hcj
      replace hbgo:=ae.mk hbgo
      replace hat:=ae.mk hat
      replace hsp:=ae.mk hsp
      replace hv:=ae.mk hv
      replace hA:=ae.mk hA
      replace hPm1:=ae.mk hPm1
      go_upto_region 46 with (first | (go_at_call 62;(with_reducible refine (hany _ ?hF).mono ?_);(case hF=>repeat (with_reducible first | exact hF2.out | apply FEW.drewN | apply FEW.drew));rintro r w5 ⟨rs,rfl,hkid,hF5⟩;have cv0:=(ah hF5.bv 0).trans rfl;have fv0:=ak hF5.bv 0;have ck0:=(ah hF5.bk 0).trans rfl;have cv1:=(ah hF5.bv 1).trans rfl;have fv1:=ak hF5.bv 1;have ck1:=(ah hF5.bk 1).trans rfl;have cv2:=(ah hF5.bv 2).trans rfl;have fv2:=ak hF5.bv 2;have ck2:=(ah hF5.bk 2).trans rfl;have cv3:=(ah hF5.bv 3).trans rfl;have fv3:=ak hF5.bv 3;have ck3:=(ah hF5.bk 3).trans rfl;have cv4:=(ah hF5.bv 4).trans rfl;have fv4:=ak hF5.bv 4;have ck4:=(ah hF5.bk 4).trans rfl;have cv5:=(ah hF5.bv 5).trans rfl;have fv5:=ak hF5.bv 5;have ck5:=(ah hF5.bk 5).trans rfl;have ct4:=(ah hF5.bt 4).trans rfl;have ct5:=(ah hF5.bt 5).trans rfl;replace hF5:=ae.mk hF5;replace hkid:=ae.mk hkid))
      have hF6:=hF5.out.Hu rs (wrap64 ((p:Int)+num))
      generalize (((((((w5.setCell ⟨w.heap.size+1+1+1,0,none⟩ (.int .i64 rs.k)).setCell ⟨w.heap.size+1+1+1,1,none⟩ (.string rs.raw)).setCell ⟨w.heap.size+1+1+1,2,none⟩ (.string rs.str)).setCell ⟨w.heap.size+1+1+1,3,none⟩ (.float .f64 rs.num)).setCell ⟨w.heap.size+1+1+1,4,none⟩ (.int .i64 rs.idx)).setCell ⟨w.heap.size+1+1+1,5,none⟩ (.slice none 0 0)).setCell ⟨w.heap.size+1+1+1,4,none⟩ (.int .i64 (wrap64 ((p:Int)+num))))=W6 at hF6 ⊢
      clear cv0 cv1 cv2 cv3 cv4 cv5 ck0 ck1 ck2 ck3 ck4 ck5 fv0 fv1 fv2 fv3 fv4 fv5 ct4 ct5
      have cv0:=(ah hF6.bv 0).trans rfl
      have ck0:=(ah hF6.bk 0).trans rfl
      have cv1:=(ah hF6.bv 1).trans rfl
      have ck1:=(ah hF6.bk 1).trans rfl
      have cv2:=(ah hF6.bv 2).trans rfl
      have ck2:=(ah hF6.bk 2).trans rfl
      have cv3:=(ah hF6.bv 3).trans rfl
      have ck3:=(ah hF6.bk 3).trans rfl
      have cv4:=(ah hF6.bv 4).trans rfl
      have ck4:=(ah hF6.bk 4).trans rfl
      have cv5:=(ah hF6.bv 5).trans rfl
      have ck5:=(ah hF6.bk 5).trans rfl
      have hcl:Calls Tryz.prog F #[.agg #[.int .i64 kr2.k,.string kr2.raw,.string kr2.str,.float .f64 kr2.num,.int .i64 kr2.idx,.slice none 0 0],.agg #[.int .i64 rs.k,.string rs.raw,.string rs.str,.float .f64 rs.num,.int .i64 (wrap64 ((p:Int)+num)),.slice none 0 0],.pointer (some C1),.pointer (some C2),.pointer (some C3)] W6 fun e w'=>e = .returned (.bool bgo)∧FEW s B0 L0 B1 w0 Inv w.heap.size (w.heap.size+1+1) (w.heap.size+1+1+1) str fl num (ps ++ [(kr2,{ rs with idx:=wrap64 ((p:Int)+num) })]) kr2 { rs with idx:=wrap64 ((p:Int)+num) } w':=hcl0 { rs with idx:=wrap64 ((p:Int)+num) } W6 (hkid.out.idx _) hF6
      replace hF6:=ae.mk hF6
      have hkid2:=ae.mk (hkid.out.idx (wrap64 ((p:Int)+num)))
      clear hany hcl0
      cases bgo with
      | false =>
        go_wp2_with (fail)
        refine hcl.mono ?_
        rintro r w7 ⟨rfl,hF7⟩
        replace hF7:=ae.mk hF7
        go_wp2_with (fail)
        refine bodyPost_ret (results_none rfl _ _ _) rfl ?_
        have hst2:((ps.length+1:Nat):Int)=stop:=by have h:=hbgo.out;simpa using h
        have hlen:=hok.out.length
        obtain ⟨htk,hle⟩:=mf hall.out
        refine ⟨rfl,ps ++ [(kr2,{ rs with idx:=wrap64 ((p:Int)+num) })],hF7.out.inv,?_,?_,.inr ?_,fun j h1 h2=>?_⟩
        ·rw [List.length_append,List.length_singleton,← hlen,htk];exact gX.snoc hkid2.out hok.out
        ·rw [List.length_append,List.length_singleton,← hlen];exact hle
        ·rw [List.length_append,List.length_singleton];exact ⟨hst2,by omega⟩
        ·rw [List.length_append,List.length_singleton] at h2;exact hgo.out j h1 (by omega)
      | true =>
        go_wp2_with (fail)
        refine hcl.mono ?_
        rintro r w7 ⟨rfl,hF7⟩
        replace hF7:=ae.mk hF7
        go_wp2_with (fail)
        have hst2:((ps.length+1:Nat):Int)≠stop:=by have h:=hbgo.out;simpa using h
        go_roundg (s.size - (m+1))
        case measure=>have:=hkq.out;omega
        case rel=>exact ⟨m+1,ix+1,by first | rfl | (congr 1;omega),by first | rfl | (congr 1;omega),⟨ps ++ [(kr2,{ rs with idx:=wrap64 ((p:Int)+num) })],kdone ++ [⟨kd,(p:Nat),(m:Nat),ns1,ks1⟩],l,kr2,{ rs with idx:=wrap64 ((p:Int)+num) },
         ⟨rfl,by rw [List.append_assoc];exact hall.out,gX.snoc hkid2.out hok.out,by rw [List.length_append,List.length_singleton,hix.out],by omega,hrem2,fun _=>hPm1.out,hF7.out,fun j h1 h2=>by
          rw [List.length_append,List.length_singleton] at h2
          by_cases hje:j=ps.length+1
          ·rw [hje];exact hst2
          ·exact hgo.out j h1 (by omega)⟩⟩⟩
     ·have hg:=hsp.all p hip (by omega)
      have hg2:=oK hg
      generalize bt s p=c at *
      replace hg:=ae.mk hg
      rcases hg2 with hle | ⟨hle,he⟩ | ⟨hle,he⟩
      ·have e1:decide (c≤32)=true:=decide_eq_true hle
       go_wp2
       go_roundg (s.size - (p+1))
       case measure=>have:=hkq2.out;omega
       case rel=>exact ⟨p+1,by first | rfl | (congr 1;omega),⟨⟨rfl,by omega,by omega,⟨kr2,by repeat (with_reducible first | exact hF2.out | apply FEW.drewN | apply FEW.drew)⟩⟩⟩⟩
      ·subst he
       go_wp2
       go_roundg (s.size - (p+1))
       case measure=>have:=hkq2.out;omega
       case rel=>exact ⟨p+1,by first | rfl | (congr 1;omega),⟨⟨rfl,by omega,by omega,⟨kr2,by repeat (with_reducible first | exact hF2.out | apply FEW.drewN | apply FEW.drew)⟩⟩⟩⟩
      ·subst he
       go_wp2
       go_roundg (s.size - (p+1))
       case measure=>have:=hkq2.out;omega
       case rel=>exact ⟨p+1,by first | rfl | (congr 1;omega),⟨⟨rfl,by omega,by omega,⟨kr2,by repeat (with_reducible first | exact hF2.out | apply FEW.drewN | apply FEW.drew)⟩⟩⟩⟩
   ·obtain ⟨hi2,j,hsp,hjs,hor⟩:=hend.way.resolve_left (by omega)
    replace hor:=ae.mk hor
    clear hi2 hend
    go_wp2
    go_loopg [6] (s.size - i) (fun kq v6 w'=>∃ p:Nat,v6 = .int .i64 p∧ae (InA s B0 L0 B1 w0 Inv w.heap.size (w.heap.size+1+1) (w.heap.size+1+1+1) str fl num ps vr i j kq p w'))
    case atStart=>exact ⟨i,rfl,⟨⟨rfl,Nat.le_refl _,hsp.le,⟨_,(hF.out.drewN _).Cm _⟩⟩⟩⟩
    case round =>
     obtain ⟨p,rfl,hL⟩:=hrel
     obtain ⟨hkq2,hip,hpj,kr2,hF2⟩:=hL.out
     clear hL ck3 fk3
     replace hkq2:=ae.mk hkq2
     replace hF2:=ae.mk hF2
     by_cases hpe:p=j
     ·subst hpe
      have hrest:∀ q:Nat,p≤q→q < s.size→bt s q=93∨Scan.blank (bt s q):=fun q h1 h2=>by
       rcases hor.out with h3 | ⟨h3,h4,h5⟩
       ·omega
       ·rcases Nat.eq_or_lt_of_le h1 with h6 | h6
        ·subst h6;exact .inl h3
        ·exact .inr (h5.all q h6 h2)
      have hany:∀ W,FEW s B0 L0 B1 w0 Inv w.heap.size (w.heap.size+1+1) (w.heap.size+1+1+1) str fl num ps kr2 vr W→Calls Tryz.prog 62 #[.string s,.int .i64 p,.bool true] W fun r w'=>r = .returned (.tuple #[.int .i64 s.size,resV 0 ⟨#[]⟩ ⟨#[]⟩ 0 0,.bool false])∧FEW s B0 L0 B1 w0 Inv w.heap.size (w.heap.size+1+1) (w.heap.size+1+1+1) str fl num ps kr2 vr w':=fun W hW =>
       (Ew W s hs p hjs hrest).mono (fun r w' ⟨h1,h2⟩=>⟨h1,hW.below h2⟩)
      have q0:(0≤(p:Int))=True:=eq_true (by omega)
      replace hsp:=ae.mk hsp
      clear hrest
      rcases hor.out with h3 | ⟨h3,h4,-⟩
      ·have hq:((p:Int) < (s.size:Int))=False:=eq_false (by omega)
       replace h3:=ae.mk h3
       go_wp2_with (first | (go_at_call 62;(with_reducible refine (hany _ ?hF).mono ?_);(case hF=>repeat (with_reducible first | exact hF2.out | apply FEW.drewN | apply FEW.drew));rintro r w5 ⟨rfl,hF5⟩;have cv0:=(ah hF5.bv 0).trans rfl;have fv0:=ak hF5.bv 0;have cv1:=(ah hF5.bv 1).trans rfl;have fv1:=ak hF5.bv 1;have cv2:=(ah hF5.bv 2).trans rfl;have fv2:=ak hF5.bv 2;have cv3:=(ah hF5.bv 3).trans rfl;have fv3:=ak hF5.bv 3;have cv4:=(ah hF5.bv 4).trans rfl;have fv4:=ak hF5.bv 4;have cv5:=(ah hF5.bv 5).trans rfl;have fv5:=ak hF5.bv 5;replace hF5:=ae.mk hF5))
       refine bodyPost_ret (results_none rfl _ _ _) rfl ?_
       have hall2:kdone=ks:=by have h:=hall.out;rwa [List.append_nil] at h
       subst hall2
       have hlen:=hok.out.length
       exact ⟨rfl,ps,(((((((hF5.out.mW ⟨0,vr.raw,vr.str,vr.num,vr.idx⟩ 0 _ rfl).mW ⟨0,⟨#[]⟩,vr.str,vr.num,vr.idx⟩ 1 _ rfl).mW ⟨0,⟨#[]⟩,⟨#[]⟩,vr.num,vr.idx⟩ 2 _ rfl).mW ⟨0,⟨#[]⟩,⟨#[]⟩,0,vr.idx⟩ 3 _ rfl).mW ⟨0,⟨#[]⟩,⟨#[]⟩,0,0⟩ 4 _ rfl).mW ⟨0,⟨#[]⟩,⟨#[]⟩,0,0⟩ 5 _ rfl)).inv,by rw [← hlen,List.take_length];exact hok.out,by omega,.inl hlen.symm,fun j h1 h2=>hgo.out j h1 (by omega)⟩
      ·have hb:=jc s p
       have q1:((p:Int) < (s.size:Int))=True:=eq_true (by omega)
       rw [h3] at hb
       replace h3:=ae.mk h3
       go_wp2_with (first | (go_at_call 62;(with_reducible refine (hany _ ?hF).mono ?_);(case hF=>repeat (with_reducible first | exact hF2.out | apply FEW.drewN | apply FEW.drew));rintro r w5 ⟨rfl,hF5⟩;have cv0:=(ah hF5.bv 0).trans rfl;have fv0:=ak hF5.bv 0;have cv1:=(ah hF5.bv 1).trans rfl;have fv1:=ak hF5.bv 1;have cv2:=(ah hF5.bv 2).trans rfl;have fv2:=ak hF5.bv 2;have cv3:=(ah hF5.bv 3).trans rfl;have fv3:=ak hF5.bv 3;have cv4:=(ah hF5.bv 4).trans rfl;have fv4:=ak hF5.bv 4;have cv5:=(ah hF5.bv 5).trans rfl;have fv5:=ak hF5.bv 5;replace hF5:=ae.mk hF5))
       refine bodyPost_ret (results_none rfl _ _ _) rfl ?_
       have hall2:kdone=ks:=by have h:=hall.out;rwa [List.append_nil] at h
       subst hall2
       have hlen:=hok.out.length
       exact ⟨rfl,ps,(((((((hF5.out.mW ⟨0,vr.raw,vr.str,vr.num,vr.idx⟩ 0 _ rfl).mW ⟨0,⟨#[]⟩,vr.str,vr.num,vr.idx⟩ 1 _ rfl).mW ⟨0,⟨#[]⟩,⟨#[]⟩,vr.num,vr.idx⟩ 2 _ rfl).mW ⟨0,⟨#[]⟩,⟨#[]⟩,0,vr.idx⟩ 3 _ rfl).mW ⟨0,⟨#[]⟩,⟨#[]⟩,0,0⟩ 4 _ rfl).mW ⟨0,⟨#[]⟩,⟨#[]⟩,0,0⟩ 5 _ rfl)).inv,by rw [← hlen,List.take_length];exact hok.out,by omega,.inl hlen.symm,fun j h1 h2=>hgo.out j h1 (by omega)⟩
     ·have hps:p < s.size:=by omega
      have hb:=jc s p
      have q0:(0≤(p:Int))=True:=eq_true (by omega)
      have q1:((p:Int) < (s.size:Int))=True:=eq_true (by omega)
      have hg:=hsp.all p hip (by omega)
      have hg2:=oK hg
      generalize bt s p=c at *
      replace hg:=ae.mk hg
      rcases hg2 with hle | ⟨hle,he⟩ | ⟨hle,he⟩
      ·have e1:decide (c≤32)=true:=decide_eq_true hle
       go_wp2
       go_roundg (s.size - (p+1))
       case measure=>have:=hkq2.out;omega
       case rel=>exact ⟨p+1,by first | rfl | (congr 1;omega),⟨⟨rfl,by omega,by omega,⟨kr2,by repeat (with_reducible first | exact hF2.out | apply FEW.drewN | apply FEW.drew)⟩⟩⟩⟩
      ·subst he
       go_wp2
       go_roundg (s.size - (p+1))
       case measure=>have:=hkq2.out;omega
       case rel=>exact ⟨p+1,by first | rfl | (congr 1;omega),⟨⟨rfl,by omega,by omega,⟨kr2,by repeat (with_reducible first | exact hF2.out | apply FEW.drewN | apply FEW.drew)⟩⟩⟩⟩
      ·subst he
       go_wp2
       go_roundg (s.size - (p+1))
       case measure=>have:=hkq2.out;omega
       case rel=>exact ⟨p+1,by first | rfl | (congr 1;omega),⟨⟨rfl,by omega,by omega,⟨kr2,by repeat (with_reducible first | exact hF2.out | apply FEW.drewN | apply FEW.drew)⟩⟩⟩⟩
  ·have hr:rest=[]:=by
    rcases hrem1 with ⟨j,hsp,hj⟩ | ⟨h,_⟩
    ·have:=hj.bound;have:=hsp.le;omega
    ·exact h
   subst hr
   rw [List.append_nil] at hall
   subst hall
   have hlen:=hok.length
   go_wp2
   go_end0
   exact ⟨rfl,ps,hF.inv,by rw [← hlen,List.take_length];exact hok,by omega,.inl hlen.symm,fun j h1 h2=>hgo j h1 (by omega)⟩
theorem pY {α:Type} {P:List α→Prop} (h0:P []) (h1:∀ l x,P l→P (l ++ [x])) (l:List α):P l:=by
 have key:∀ r:List α,P r.reverse:=by
  intro r
  induction r with
  | nil=>exact h0
  | cons x r ih=>rw [List.reverse_cons];exact h1 _ _ ih
 have:=key l.reverse
 rwa [List.reverse_reverse] at this
def grs (R:List (List Int)) (nm:ByteArray) (ys:List ByteArray):List (List Int):=ys.zipIdx.foldl (fun R p=>grow R p.2 (piece nm p.1)) R
theorem nS (R:List (List Int)) (nm:ByteArray) (ys:List ByteArray) (y:ByteArray):grs R nm (ys ++ [y])=grow (grs R nm ys) ys.length (piece nm y):=by
 unfold grs
 rw [List.zipIdx_append,List.foldl_append]
 simp
theorem DZ {R:List (List Int)} {c:Nat} {p:List Int} (h:c≤R.length):(grow R c p).length=max R.length (c+1):=by
 unfold grow
 split
 ·rw [List.length_append,List.length_singleton];omega
 ·rw [List.length_set];omega
theorem CQ {R:List (List Int)} {c:Nat} {p:List Int} (h:c≤R.length) (i:Nat):(grow R c p).getD i []=if i=c then R.getD c [] ++ p else R.getD i []:=by
 unfold grow
 by_cases hc:c=R.length
 ·rw [if_pos hc]
  subst hc
  simp only [List.getD_eq_getElem?_getD]
  by_cases hi:i=R.length
  ·subst hi
   simp
  ·rw [if_neg hi]
   by_cases hl:i < R.length
   ·rw [List.getElem?_append_left hl]
   ·rw [List.getElem?_eq_none (by rw [List.length_append,List.length_singleton];omega),List.getElem?_eq_none (by omega)]
 ·rw [if_neg hc]
  simp only [List.getD_eq_getElem?_getD]
  by_cases hi:i=c
  ·subst hi
   rw [if_pos rfl,List.getElem?_set_self (by omega)]
   rfl
  ·rw [if_neg hi,List.getElem?_set_ne (fun e=>hi e.symm)]
theorem oC (R:List (List Int)) (nm:ByteArray) (ys:List ByteArray):(grs R nm ys).length=max R.length ys.length:=by
 induction ys using pY with
 | h0=>simp [grs]
 | h1 l x ih =>
   rw [nS,DZ (by omega),ih,List.length_append,List.length_singleton]
   omega
theorem zN (R:List (List Int)) (nm:ByteArray) (ys:List ByteArray) (i:Nat):(grs R nm ys).getD i []=R.getD i [] ++ (ys[i]?.map (piece nm)).getD []:=by
 induction ys using pY with
 | h0=>simp [grs]
 | h1 l x ih =>
   rw [nS,CQ (by rw [oC];omega),ih]
   by_cases hi:i=l.length
   ·subst hi
    have h:=ih
    rw [if_pos rfl,ih]
    simp
   ·rw [if_neg hi]
    by_cases hl:i < l.length
    ·rw [List.getElem?_append_left hl]
    ·rw [List.getElem?_eq_none (by omega),List.getElem?_eq_none (l:=l ++ [x]) (by rw [List.length_append,List.length_singleton];omega)]
theorem qL (nm y:ByteArray):(piece nm y).length=nm.size+y.size+2:=by
 unfold piece
 rw [bytesOf_length]
 simp only [ByteArray.size_append]
 have h1:(⟨#[44]⟩:ByteArray).size=1:=rfl
 have h2:(⟨#[58]⟩:ByteArray).size=1:=rfl
 omega
theorem CP {R:List (List Int)} {nm:ByteArray} {ys:List ByteArray} {m:Nat} (hR:∀ i,(R.getD i []).length≤m*131074) (hn:nm.size≤65536) (hy:∀ y ∈ ys,y.size≤65536) (i:Nat):((grs R nm ys).getD i []).length≤(m+1)*131074:=by
 rw [zN,List.length_append]
 have h1:=hR i
 have h2:((ys[i]?.map (piece nm)).getD []).length≤131074:=by
  cases h:ys[i]? with
  | none=>simp
  | some y =>
    have:=hy y (List.mem_of_getElem? h)
    rw [Option.map_some,Option.getD_some,qL]
    omega
 omega
theorem ye {s:ByteArray} {p:S32} {r:Rs} (h:lJ s p r):r.raw.size≤s.size:=by
 obtain ⟨b,e,_,_,_,he,hr,_⟩:=h.at_
 rw [hr,ByteArray.size_extract]
 omega
structure Inn (H0 Ci Ca Ck Bb:Nat) (R:List (List Int)) (kr:Rs) (w:World) (n:Nat) (ps:List (Rs × Rs)) (W:World):Prop where
 all:kS Ca Bb (grs R kr.raw (ps.map fun p=>p.2.raw)) W
 ki:W.heap[Ci]?=some (.cells #[.int .i64 (ps.length:Nat)] 3 (0,0))
 kk:W.heap[Ck]?=some (.cells (jg kr) 67 (0,0))
 bel:Below H0 w W
 keep:∀ (b:Nat) (cs:Array Value),w.heap[b]?=some (.cells cs 67 (0,0))→W.heap[b]?=some (.cells cs 67 (0,0))
 lo:w.heap.size≤W.heap.size
 small:∀ p ∈ ps,p.2.raw.size≤65536
theorem D9 {H0 Ci Ca Ck Bb L0 B1:Nat} {R:List (List Int)} {kr:Rs} {w:World} {n:Nat} (hH:H0≤w.heap.size) (hL:w.heap.size≤L0) (hk:Ck < L0):Ed H0 L0 B1 w (Inn H0 Ci Ca Ck Bb R kr w n) where
 bel h:=h.bel
 lo h:=Nat.le_trans hH h.lo
 below h hb:=⟨h.all.below hb,bU h.ki hb,bU h.kk hb,h.bel.trans (eX hb (Nat.le_trans hH h.lo)),fun b cs hk=>bU (h.keep b cs hk) hb,Nat.le_trans h.lo hb.size,h.small⟩
 set h hg h1 h2 j u:=⟨h.all.set hg (by decide) (by decide) (by decide) j u,bW h.ki (nJ h.ki hg (by decide)) u,bW h.kk (Nat.ne_of_lt (Nat.lt_of_lt_of_le hk h1)) u,h.bel.setCell (Nat.le_trans hH (Nat.le_trans hL h1)) u,fun b cs hk=>bW (h.keep b cs hk) (Nat.ne_of_lt (Nat.lt_of_lt_of_le (jO hk) (Nat.le_trans hL h1))) u,Nat.le_trans h.lo (by simp),h.small⟩
theorem yO {H0 Ci Ca Ck Bb L0 B1 m:Nat} {R:List (List Int)} {kr:Rs} {w:World} {n:Nat} {s:ByteArray} {ks:List S32} (hH:H0≤Bb) (hBb:Bb≤w.heap.size) (h1:H0≤Ca) (h2:H0≤Ci) (hs:s.size≤65536) (hn:kr.raw.size≤65536) (hk:ks.length≤65536) (hR:R.length≤65536) (hm:m≤65535) (hRl:∀ i,(R.getD i []).length≤m*131074) :
 Gh L0 B1 0 (Inn H0 Ci Ca Ck Bb R kr w n) 91 (fun a b=>#[a,b,.pointer (some ⟨Ci,0,none⟩),.pointer (some ⟨Ca,0,none⟩),.pointer (some ⟨Ck,0,none⟩)]) s [] ks:=by
 intro ps kr1 vr p W hI hp hok _ _ hB1
 have hpl:=(List.getElem?_eq_some_iff.1 hp).1
 have hvs:vr.raw.size≤65536:=Nat.le_trans (ye hok) hs
 have hlen:(grs R kr.raw (ps.map fun p=>p.2.raw)).length=max R.length ps.length:=by rw [oC,List.length_map]
 have hsm:∀ y ∈ ps.map (fun p=>p.2.raw),y.size≤65536:=by
  intro y hy
  obtain ⟨q,hq,rfl⟩:=List.mem_map.1 hy
  exact hI.small q hq
 refine (xw H0 Ci Ca Ck Bb W ps.length _ kr kr1 vr hI.all hI.ki hI.kk (by omega) (by omega) (fun l hl=>?_) hvs hn (Nat.le_trans hBb hI.lo) hH h1 h2).mono ?_
 ·obtain ⟨i,hi⟩:=List.mem_iff_getElem?.1 hl
  have h:=CP hRl hn hsm i
  rw [List.getD_eq_getElem?_getD,hi] at h
  have h9:(m+1)*131074≤65536*131074:=Nat.mul_le_mul_right _ (by omega)
  have h8:l.length≤(m+1)*131074:=h
  omega
 ·rintro e w' ⟨rfl,g1,g2,g3,g4⟩
  refine ⟨?_,⟨?_,?_,g4 _ _ hI.kk,hI.bel.trans g3,fun b cs hb=>g4 b cs (hI.keep b cs hb),Nat.le_trans hI.lo g3.size,?_⟩,fun b cs _ _ hb=>g4 b cs hb⟩
  ·have:(((ps.length+1:Nat):Int) != 0)=true:=by simp;omega
   rw [this]
  ·rw [List.map_append,List.map_singleton,nS,List.length_map]
   exact g1
  ·rw [List.length_append,List.length_singleton]
   exact g2
  ·intro q hq
   rcases List.mem_append.1 hq with h | h
   ·exact hI.small q h
   ·obtain rfl:=List.mem_singleton.1 h
    exact hvs
theorem Dz (w:World) (C:Addr) (kr vr:Rs) (h:∀ W,Calls Tryz.prog 90 #[resV vr.k vr.raw vr.str vr.num vr.idx] W fun e w'=>e = .returned (.bool false)∧Below W.heap.size W w') :
 Calls Tryz.prog 89 #[resV kr.k kr.raw kr.str kr.num kr.idx,resV vr.k vr.raw vr.str vr.num vr.idx,.pointer (some C)] w fun e w'=>e = .returned (.bool true)∧Below w.heap.size w w':=by
 go_enter Tryz.func89,Tryz.ntmps89
 go_wp2_with (fail)
 with_reducible refine (h _).mono ?_
 rintro e w1 ⟨rfl,hB1⟩
 go_wp2
 go_ret
 exact ⟨rfl,dB (ai (ai (Below.refl _ _) _) _) hB1⟩
theorem Bl (B H0 Ca Bb m:Nat) (w:World) (R:List (List Int)) (kr:Rs) (s:ByteArray) (str:ByteArray) (fl:Nat) (idx:Int) (ks:List S32) (eJ:Nat) (hJ:J s .val 0 eJ 5 [] ks) (hE:Blanks s eJ s.size) (hP:Prd s 0) (hs:s.size≤65536) (hn:kr.raw.size≤65536) (hk:ks.length≤65536) (hA:kS Ca Bb R w) (hR:R.length≤65536) (hm:m≤65535) (hRl:∀ i,(R.getD i []).length≤m*131074)
 (hT:Tabs B w) (hB:B≤H0) (hH:H0≤Bb) (hBb:Bb≤w.heap.size) (h1:H0≤Ca) (hia:∀ W,Calls Tryz.prog 90 #[resV 5 s str fl idx] W fun e w'=>e = .returned (.bool true)∧Below W.heap.size W w') (hin:∀ (args:Array Value) (W:World),(callFunc 91 args).run Tryz.prog W = .ok (.enter 91 args) W) :
 Calls Tryz.prog 89 #[resV kr.k kr.raw kr.str kr.num kr.idx,resV 5 s str fl idx,.pointer (some ⟨Ca,0,none⟩)] w fun e w'=>e = .returned (.bool true)∧∃ ps:List (Rs × Rs),kS Ca Bb (grs R kr.raw (ps.map fun p=>p.2.raw)) w'∧gX s ks ps∧ps.length=ks.length∧Below H0 w w'∧(∀ (b:Nat) (cs:Array Value),w.heap[b]?=some (.cells cs 67 (0,0))→w'.heap[b]?=some (.cells cs 67 (0,0))):=by
 replace hJ:=ae.mk hJ
 replace hP:=ae.mk hP
 replace hT:=ae.mk hT
 replace hin:=ae.mk hin
 replace hA:=ae.mk hA
 replace hRl:=ae.mk hRl
 replace hE:=ae.mk hE
 go_enter Tryz.func89,Tryz.ntmps89
 go_wp2_with (fail)
 with_reducible refine (hia _).mono ?_
 rintro e w2 ⟨rfl,hB2⟩
 have kv:=bU (dP (w.alloc (.cells (jg kr) 67 (0,0))) (.cells (jg ⟨5,s,str,fl,idx⟩) 67)) hB2
 have kk:=bU (bU (dP w (.cells (jg kr) 67 (0,0))) (ai (Below.refl _ _) (.cells (jg ⟨5,s,str,fl,idx⟩) 67))) hB2
 have hb2:Below w.heap.size w w2:=dB (ai (ai (Below.refl _ _) _) _) hB2
 have hb3:Below w.heap.size w (w2.alloc (.cells #[.int .i64 0] 3)):=dB hb2 (ai (Below.refl _ _) _)
 have hs2:w2.heap.size ≥ w.heap.size+2:=by have:=hB2.size;simp at this;omega
 have kv3:=aN kv (.cells #[.int .i64 0] 3)
 have kk3:=aN kk (.cells #[.int .i64 0] 3)
 have ki3:=dP w2 (.cells #[.int .i64 0] 3)
 rw [show (w.alloc (.cells (jg kr) 67 (0,0))).heap.size=w.heap.size+1 from by simp] at kv3
 have d0:=(ah kv3 0).trans rfl
 have d1:=(ah kv3 1).trans rfl
 have d2:=(ah kv3 2).trans rfl
 have d3:=(ah kv3 3).trans rfl
 have d4:=(ah kv3 4).trans rfl
 have d5:=(ah kv3 5).trans rfl
 have hK:Inn H0 w2.heap.size Ca w.heap.size Bb R kr w 0 [] (w2.alloc (.cells #[.int .i64 0] 3)):=⟨hA.out.below hb3,ki3,kk3,eX hb3 (by omega),fun b cs hb=>bU hb hb3,hb3.size,fun p hp=>by cases hp⟩
 replace hK:=ae.mk hK
 replace kv3:=ae.mk kv3
 replace kk3:=ae.mk kk3
 replace ki3:=ae.mk ki3
 replace hb3:=ae.mk hb3
 replace hb2:=ae.mk hb2
 have hmf:∀ (fn:Fn) (first cap:Array Value) (w:World),(Instr.makeFunc fn first cap).run Tryz.prog w = .ok (.func fn first cap) w:=fun _ _ _ _=>rfl
 clear kv kk hB2 hia
 go_wp2_with (fail)
 with_reducible refine (yc w _ B H0 _ _ 0 (Inn H0 w2.heap.size Ca w.heap.size Bb R kr w 0) 91 ⟨w2.heap.size,0,none⟩ ⟨Ca,0,none⟩ ⟨w.heap.size,0,none⟩ s hs ks eJ hJ.out hE.out hP.out str fl idx hT.out hB (D9 (by omega) hb3.out.size (by simp;omega)) (yO hH hBb h1 (by omega) hs hn hk hR hm hRl.out) hin.out rfl rfl hK.out).mono ?_
 rintro e w4 ⟨rfl,ps,hK4,hok,hle,hend,-⟩
 have hlen:ps.length=ks.length:=hend.resolve_right (fun h=>by omega)
 rw [hlen,List.take_length] at hok
 go_wp2
 go_ret
 exact ⟨rfl,ps,hK4.all,hok,hlen,hK4.bel,hK4.keep⟩
end Go.Proofs.YtpgfjbimodnkeaaGreatDoor.Hec
