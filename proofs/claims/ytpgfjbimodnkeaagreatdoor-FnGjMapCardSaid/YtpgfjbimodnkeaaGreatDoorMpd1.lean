/- FnGjMap: whatever text comes in, the law returns true and the text reads afterwards as before; with the thirteen package-level variables that its row lists as the program's own text lays them (the tied card) (part 1 of 19: lemmas for its last part) -/
import Derived.Below
import Derived.Deep.Draws
import Derived.Deep.AppendLies
import Derived.Maps.AppendAt
import Derived.OwnWalk
import Derived.Laws.BytesArg
import Derived.Laws.MakeOwn
import Derived.Laws.OwnMore
import Derived.Deep.OwnRows
import Derived.Tactics
import Derived.Lib.ConvBytes
import Derived.Laws.Slices
import Derived.WalkKit
import Derived.KernelRfl
import Derived.RowKit3
import Derived.Deep.LoopGhost
import Derived.Deep.QuietTactic
import Derived.BigQuiet
import Derived.WideLaws
import Derived.Deep.DeepCutAuto
import Derived.Deep.CutBlock
import Derived.Deep.RegionHeld3
import Derived.Laws.Rows
import Derived.Lib.AppendStr
import Derived.ArgAppend
import Derived.Laws.IdiomCopy
import Derived.RowKit
import Derived.OrdersHeld
import Derived.Laws.BitsLemmas
set_option maxHeartbeats 16000000
set_option maxRecDepth 100000
set_option linter.unusedVariables false
set_option linter.unusedSimpArgs false
namespace Go.Proofs.YtpgfjbimodnkeaaGreatDoorW.PrintWords
open Go.RowKit
structure ae (p:Prop):Prop where mk :: (out:p)
structure ai (w w':World):Prop where mk :: (out:∃ n,w'=w.drewN n)
theorem ai.refl (w:World):ai w w:=⟨⟨0,rfl⟩⟩
theorem ai.step {w w':World} (h:ai w w') (n:Nat):ai w (w'.drewN n):=by
 obtain ⟨m,rfl⟩:=h
 exact ⟨⟨m+n,World.drewN_drewN ..⟩⟩
theorem ai.below {w w':World} (h:ai w w'):Below w.heap.size w w':=by
 obtain ⟨n,rfl⟩:=h
 induction n with
 | zero=>exact Below.refl _ _
 | succ n ih=>rw [← World.drew_drewN];exact ih.drew
def bt (s:ByteArray) (i:Int):Int:=if h:i.toNat < s.size then ((s[i.toNat]'h).toNat:Int) else 0
theorem dI (s:ByteArray) (i:Int):∀ h:i.toNat < s.size,((s[i.toNat]'h).toNat:Int)=bt s i:=fun h=>by simp [bt,h]
theorem fP (s:ByteArray) (i:Int):0≤bt s i∧bt s i≤255:=by
 unfold bt
 split
 ·rename_i h
  have:=(s[i.toNat]'h).toNat_lt
  omega
 ·omega
def nums (k:IntKind) (xs:List Int):List Value:=xs.map fun x => .int k x
theorem nums_length (k:IntKind) (xs:List Int):(nums k xs).length=xs.length:=by simp [nums]
theorem ah {w W:World} (h:Below w.heap.size w W) (o:Obj):Below w.heap.size w (W.alloc o):=h.alloc h.size o
theorem eU {B:Nat} {w W:World} (h:Below B w W):Below B w W.drew:=⟨h.os,h.tape,h.output,h.size,h.block⟩
theorem ag {B:Nat} {w W:World} (h:Below B w W) (n:Nat):Below B w (W.drewN n):=⟨h.os,h.tape,h.output,h.size,h.block⟩
theorem dR {B:Nat} {w w1 w2:World} (h:Below B w w1) (hB:B≤w1.heap.size) (k:Below w1.heap.size w1 w2):Below B w w2 :=
 h.trans ⟨k.os,k.tape,k.output,k.size,fun i hi=>k.block i (Nat.lt_of_lt_of_le hi hB)⟩
theorem lZ {B:Nat} {w w1:World} (h:Below B w w1) (row:Option Nat) (hB:B≤w1.heap.size) {w2:World} (hg:w1.grownBy w2 row) (hr:∀ k,row=some k→B≤k):Below B w w2:=h.grown hg hB hr
theorem jJ {w w1:World} (h:Below w.heap.size w w1) (row:Option Nat):w.grownBy w1 row:=⟨h.os,h.tape,h.output,h.size,fun i hi _=>h.block i hi⟩
theorem qY {w w1:World} (h:Below w.heap.size w w1) {a:Addr} {v:Value} (hc:w.cell? a=some v):w1.cell? a=some v:=(h.cell (World.block_lt_of_cell? w a hc)).trans hc
def ql (w:World) (k:IntKind) (A:Option Addr) (n:Nat) (xs:List Int):Prop :=
 xs.length=n∧n≤9223372036854775807∧(0 < n→∃ ad,A=some ad∧∀ j,j < n→w.cell? (ad.add j)=some (.int k (xs.getD j 0)))
theorem Bh (W:World) (base:Nat) (e:TypeId) (size:Nat):W.ownsRow base e size (.slice none 0 0) 0 []:=⟨by simp,.inl ⟨rfl,rfl⟩⟩
theorem own_base {w:World} {base:Nat} {e:TypeId} {size n:Nat} {v:Value} {xs:List Value} (h:w.ownsRow base e size v n xs) (k:Nat) (hk:v.ownBlock=some k):base≤k:=by
 rcases h.2 with ⟨rfl,_⟩ | ⟨g,cap,cur,rfl,hb,_⟩
 ·simp [Value.ownBlock] at hk
 ·have:g=k:=by simpa [Value.ownBlock] using hk
  omega
theorem AP {w:World} {base:Nat} {e:TypeId} {size n:Nat} {v:Value} {xs:List Value} (h:w.ownsRow base e size v n xs) (k:Nat) (hk:v.ownBlock=some k):k < w.heap.size:=by
 rcases h.2 with ⟨rfl,_⟩ | ⟨g,cap,cur,rfl,hb,hh,_⟩
 ·simp [Value.ownBlock] at hk
 ·have:g=k:=by simpa [Value.ownBlock] using hk
  subst this
  exact (Array.getElem?_eq_some_iff.1 hh).1
theorem iq {w w1:World} {base:Nat} {e:TypeId} {size n:Nat} {v:Value} {xs:List Value} (h:w.ownsRow base e size v n xs) (hb:Below w.heap.size w w1):w1.ownsRow base e size v n xs :=
 h.kept (jJ hb none) (by cases v.ownBlock <;> simp)
theorem yC {w w1:World} {base:Nat} {e:TypeId} {size n:Nat} {v:Value} {xs:List Value} (h:w.ownsRow base e size v n xs) {row:Option Nat} (hg:w.grownBy w1 row) (hne:v.ownBlock=none∨v.ownBlock≠row):w1.ownsRow base e size v n xs:=h.kept hg hne
theorem vw {w:World} {b b':Nat} {e e':TypeId} {s s' n n':Nat} {v v':Value} {xs xs':List Value} (h:w.ownsRow b e s v n xs) (h':w.ownsRow b' e' s' v' n' xs') (hne:e≠e'):v.ownBlock=none∨v.ownBlock≠v'.ownBlock:=by
 rcases h.2 with ⟨rfl,_⟩ | ⟨g,cap,cur,rfl,_,hh,_⟩
 ·exact .inl rfl
 ·refine .inr fun hk=>?_
  rcases h'.2 with ⟨rfl,_⟩ | ⟨g',cap',cur',rfl,_,hh',_⟩
  ·simp [Value.ownBlock] at hk
  ·have:g=g':=by simpa [Value.ownBlock] using hk
   subst this
   rw [hh] at hh'
   injection hh' with hh'
   injection hh' with _ ht
   exact hne ht
theorem yO {w:World} {base n:Nat} {e:TypeId} {k:IntKind} {v:Value} {xs:List Int} (h:w.ownsRow base e 1 v n (nums k xs)):∃ A c,v = .slice A n c∧ql w k A n xs:=by
 have hl:xs.length=n:=by have:=h.1;simp [nums] at this;exact this
 rcases Nat.eq_zero_or_pos n with h0 | h0
 ·rcases h.2 with ⟨rfl,rfl⟩ | ⟨g,cap,cur,rfl,_⟩
  ·exact ⟨none,0,rfl,hl,by omega,fun hp=>absurd hp (by omega)⟩
  ·exact ⟨_,cap,rfl,hl,by omega,fun hp=>absurd hp (by omega)⟩
 ·obtain ⟨g,cap,rfl,_,_⟩:=h.form h0
  have hm:n≤9223372036854775807:=by
   rcases h.2 with ⟨_,h1⟩ | ⟨g',cap',cur,he,_,_,h1,h2,_⟩
   ·omega
   ·simp only [maxLen] at h2
    omega
  refine ⟨_,cap,rfl,hl,hm,fun _=>⟨_,rfl,fun j hj=>h.cells (g:=g) rfl j _ ?_⟩⟩
  simp [nums,List.getElem?_eq_getElem (show j < xs.length by omega),List.getD_eq_getElem?_getD]
theorem qI {P:Program} {w:World} {base n:Nat} {e' src dst e:TypeId} {v:Value} {xs:List Int} (hs:P.underlying src=some (.slice e)) (he:P.underlying e=some (.int .u8)) (hd:P.underlying dst=some .string)
 (h:w.ownsRow base e' 1 v n (nums .u8 xs)):(convert src dst v).run P w = .ok (.string (strOfNums xs)) w:=by
 have hl:xs.length=n:=by have:=h.1;simp [nums] at this;exact this
 rcases h.2 with ⟨rfl,rfl⟩ | ⟨g,cap,cur,rfl,_⟩
 ·obtain rfl:xs=[]:=List.eq_nil_of_length_eq_zero hl
  exact run_convert_bytes_nil w src e hs he 0 0 dst hd
 ·refine run_convert_bytes_arg w src e hs he g 0 n cap xs hl (fun i hi=>?_) dst hd
  have hc:=h.cells (g:=g) rfl i (.int .u8 (xs.getD i 0)) (by simp [nums,List.getElem?_eq_getElem (show i < xs.length by omega),List.getD_eq_getElem?_getD])
  have ha:(⟨g,0,none⟩:Addr).add i=⟨g,0+i,none⟩:=by unfold Addr.add;split <;> simp_all
  rwa [ha] at hc
section
variable {P:Program} {ops:Array Oper} {rest:List Oper} {o:Oper} {a:Act} {Q:Exit→Act→World→Prop}
theorem tN {w0 W:World} (base:Nat) (hgd:o.guard=none) (s x:Operand) (t e:TypeId) (z:Value) (bytes:Nat)
 (ho:o.op = .call { callee:=.builtin .append,args:=#[s,x],argTypes:=#[t,t] })
 (ht:P.underlying t=some (.slice e)) (hinfo:(P.info? e).map (fun i=>(i.zero,i.size,i.bytes))=some (some z,1,bytes)) (hz:z.cells.size=1) (hb0:0 < bytes)
 (v:Value) (xs:List Value) (y:Value) (hs:a.eval s=v) (hx:a.eval x = .slice (some ⟨W.heap.size,0,none⟩) 1 1) (h1:y.oneCell'=true)
 (HO:W.ownsRow base e 1 v xs.length xs) (HB:Below base w0 W) (hbase:base≤W.heap.size) (hl:(xs.length+1)*bytes≤140737488355328)
 (h:∀ v1 w1,w1.ownsRow base e 1 v1 (xs ++ [y]).length (xs ++ [y])→Below base w0 w1→W.grownBy w1 v.ownBlock→(v1.ownBlock=v.ownBlock∨∃ b,v1.ownBlock=some b∧W.heap.size≤b)→wpList P ops Q rest (a.put o.dst v1) w1) :
 wpList P ops Q (o :: rest) a (W.alloc (.cells #[y] e)):=by
 obtain ⟨i0,hi,hzz⟩:=Option.map_eq_some_iff.1 hinfo
 simp only [Prod.mk.injEq] at hzz
 obtain ⟨hz0,hz1,hz2⟩:=hzz
 have hlen:xs.length+1≤140737488355328:=Nat.le_trans (Nat.le_mul_of_pos_right _ hb0) hl
 refine wpList_append_own_at (W.alloc (.cells #[y] e)) hgd s x t ho base e i0 z 1 bytes ht hi hz0 hz1 hz2 hz (by omega) v xs.length xs hs (HO.alloc _) ⟨W.heap.size,0,none⟩ 1 1 [y] hx rfl
  (World.news_of_block (cs:=#[y]) (t:=e) (fr:=(0,0)) (heap_alloc_new W _)) (by simpa using h1) (by simp only [maxLen];omega) hl (by simp;omega) ?_
 intro v1 w1 hown hg _ hat
 refine h v1 w1 (by simpa using hown) ((HB.alloc hbase _).grown hg (by simp;omega) (own_base HO)) (World.grownBy.trans (World.grownBy_alloc W _ _) hg) ?_
 rcases hat with hat | hat
 ·exact .inl hat
 ·exact .inr ⟨_,hat,by simp⟩
theorem fA {w0 W:World} (base:Nat) (hgd:o.guard=none) (s x:Operand) (t e:TypeId) (k:IntKind) (bytes:Nat)
 (ho:o.op = .call { callee:=.builtin .append,args:=#[s,x],argTypes:=#[t,t] })
 (ht:P.underlying t=some (.slice e)) (hinfo:(P.info? e).map (fun i=>(i.zero,i.size,i.bytes))=some (some (.int k 0),1,bytes)) (hb0:0 < bytes)
 (v:Value) (xs:List Int) (y:Int) (hs:a.eval s=v) (hx:a.eval x = .slice (some ⟨W.heap.size,0,none⟩) 1 1)
 (HO:W.ownsRow base e 1 v xs.length (nums k xs)) (HB:Below base w0 W) (hbase:base≤W.heap.size) (hl:(xs.length+1)*bytes≤140737488355328)
 (h:∀ v1 w1,w1.ownsRow base e 1 v1 (xs ++ [y]).length (nums k (xs ++ [y]))→Below base w0 w1→W.grownBy w1 v.ownBlock→(v1.ownBlock=v.ownBlock∨∃ b,v1.ownBlock=some b∧W.heap.size≤b)→wpList P ops Q rest (a.put o.dst v1) w1) :
 wpList P ops Q (o :: rest) a (W.alloc (.cells #[.int k y] e)) :=
 tN base hgd s x t e (.int k 0) bytes ho ht hinfo rfl hb0 v (nums k xs) (.int k y) hs hx rfl (by rw [nums_length];exact HO) HB hbase (by rw [nums_length];exact hl)
  fun v1 w1 hown hB hg hat=>h v1 w1 (by simpa [nums] using hown) hB hg hat
end
theorem CJ (W:World) (base:Nat) (e:TypeId) (k:IntKind) (xs:List Int) (hb:base≤W.heap.size) (hm:xs.length≤9223372036854775807) :
 (W.alloc (.cells (nums k xs).toArray e)).ownsRow base e 1 (.slice (some ⟨W.heap.size,0,none⟩) xs.length xs.length) xs.length (nums k xs):=by
 have h:=World.ownsRow_lit (base:=base) (e:=e) (size:=1) W (nums k xs).toArray xs.length hb (by simpa [maxLen] using hm) (by simp [nums])
 simpa using h
theorem yz {W:World} {base g n cap:Nat} {e:TypeId} {k:IntKind} {xs:List Int} (h:W.ownsRow base e 1 (.slice (some ⟨g,0,none⟩) n cap) n (nums k xs)) (i x:Int) :
 (W.setCell ⟨g,i.toNat,none⟩ (.int k x)).ownsRow base e 1 (.slice (some ⟨g,0,none⟩) n cap) n (nums k (xs.set i.toNat x))∧W.grownBy (W.setCell ⟨g,i.toNat,none⟩ (.int k x)) (some g):=by
 have hs:=h.stored i.toNat (.int k x)
 have he:(nums k xs).set i.toNat (.int k x)=nums k (xs.set i.toNat x):=by simp [nums,List.map_set]
 rwa [he] at hs
section
variable {P:Program} {ops:Array Oper} {rest:List Oper} {o:Oper} {a:Act} {Q:Exit→Act→World→Prop}
theorem lm {w0 W:World} (base:Nat) (hgd:o.guard=none) (s x:Operand) (t e:TypeId) (k:IntKind) (bytes:Nat)
 (ho:o.op = .call { callee:=.builtin .append,args:=#[s,x],argTypes:=#[t,t] })
 (ht:P.underlying t=some (.slice e)) (hinfo:(P.info? e).map (fun i=>(i.zero,i.size,i.bytes))=some (some (.int k 0),1,bytes)) (hb0:0 < bytes)
 (v:Value) (xs ys:List Int) (A:Option Addr) (m c:Nat) (hs:a.eval s=v) (hx:a.eval x = .slice A m c)
 (HO:W.ownsRow base e 1 v xs.length (nums k xs)) (HR:ql W k A m ys) (HB:Below base w0 W) (hbase:base≤W.heap.size) (hl:(xs.length+m)*bytes≤140737488355328)
 (h:∀ v1 w1,w1.ownsRow base e 1 v1 (xs ++ ys).length (nums k (xs ++ ys))→Below base w0 w1→W.grownBy w1 v.ownBlock→(v1.ownBlock=v.ownBlock∨∃ b,v1.ownBlock=some b∧W.heap.size≤b)→wpList P ops Q rest (a.put o.dst v1) w1) :
 wpList P ops Q (o :: rest) a W:=by
 obtain ⟨i0,hi,hzz⟩:=Option.map_eq_some_iff.1 hinfo
 simp only [Prod.mk.injEq] at hzz
 obtain ⟨hz0,hz1,hz2⟩:=hzz
 have hm:ys.length=m:=HR.1
 have hlen:xs.length+m≤140737488355328:=Nat.le_trans (Nat.le_mul_of_pos_right _ hb0) hl
 have hrun:∃ v1 w1,(Builtin.append_ #[t,t] o.type #[v,.slice A m c]).run P W = .ok v1 w1∧w1.ownsRow base e 1 v1 (xs ++ ys).length (nums k (xs ++ ys))∧W.grownBy w1 v.ownBlock∧(v1.ownBlock=v.ownBlock∨v1.ownBlock=some W.heap.size):=by
  rcases A with _ | ad
  ·have h0:m=0:=by
    rcases Nat.eq_zero_or_pos m with h0 | h0
    ·exact h0
    ·obtain ⟨ad,h,_⟩:=HR.2.2 h0
     cases h
   subst h0
   obtain rfl:ys=[]:=List.eq_nil_of_length_eq_zero hm
   refine ⟨v,W,?_,by simpa using HO,World.grownBy.refl W _,.inl rfl⟩
   rcases HO.2 with ⟨rfl,hn⟩ | ⟨g,cap,cur,rfl,_,_,hnc,_⟩
   ·simp [Builtin.append_,run_underlying ht,sizeOf,typeInfo,hi,Builtin.lenOf,Builtin.firstCells]
   ·simp [Builtin.append_,run_underlying ht,sizeOf,typeInfo,hi,Builtin.lenOf,Builtin.firstCells,hnc,storeCells]
  ·have hcells:∀ j u,(nums k ys)[j]?=some u→W.cell? (ad.add j)=some u:=by
    intro j u hu
    have hj:j < ys.length:=by
     rcases Nat.lt_or_ge j ys.length with h | h
     ·exact h
     ·simp [nums,List.getElem?_eq_none h] at hu
    obtain ⟨ad',h',hc⟩:=HR.2.2 (by omega)
    injection h' with h'
    subst h'
    have:=hc j (by omega)
    simp [nums,List.getElem?_eq_getElem hj] at hu
    subst hu
    rw [this]
    simp [List.getD_eq_getElem?_getD,List.getElem?_eq_getElem hj]
   obtain ⟨v1,w1,hr,h2,h3,_,h5⟩:=run_append_own_at (P:=P) W base t o.type e i0 (.int k 0) 1 bytes ht hi hz0 hz1 hz2 rfl (by omega) v xs.length (nums k xs) HO ad m c (nums k ys) (by simp [nums,hm]) hcells
    (by intro u hu;simp only [nums,List.mem_map] at hu;obtain ⟨q,_,rfl⟩:=hu;rfl) (by simp only [maxLen];omega) hl hbase
   exact ⟨v1,w1,hr,by simpa [nums,hm] using h2,h3,h5⟩
 obtain ⟨v1,w1,hr,hown,hg,hat⟩:=hrun
 refine wpList_plain hgd fun K hK=>?_
 unfold Oper.wp execOp
 simp only [ho,resolve,invoke,builtin,Sem.run_bind,Sem.run_pure,Result.andThen_ok,List.map_toArray,List.map_cons,List.map_nil,hs,hx,hr]
 refine hK _ _ (h v1 w1 hown (HB.grown hg hbase (own_base HO)) hg ?_)
 rcases hat with hat | hat
 ·exact .inl hat
 ·exact .inr ⟨_,hat,Nat.le_refl _⟩
end
def gV {α:Type} (R:α→List Value→Prop) (size:Nat) (ps:List α) (cs:List Value):Prop :=
 cs.length=ps.length*size∧∀ j p,ps[j]?=some p→R p ((cs.drop (j*size)).take size)
theorem gV.none {α:Type} (R:α→List Value→Prop) (size:Nat):gV R size [] []:=⟨by simp,fun j p h=>by simp at h⟩
theorem gV.snoc {α:Type} {R:α→List Value→Prop} {size:Nat} {ps:List α} {cs c:List Value} {p:α} (h:gV R size ps cs) (hp:R p c) (hc:c.length=size):gV R size (ps ++ [p]) (cs ++ c):=by
 refine ⟨by rw [List.length_append,h.1,hc,List.length_append,List.length_singleton,Nat.add_mul,Nat.one_mul],fun j q hq=>?_⟩
 rcases Nat.lt_or_ge j ps.length with hj | hj
 ·rw [List.getElem?_append_left hj] at hq
  have h1:j*size+size≤cs.length:=by rw [h.1,← Nat.succ_mul];exact Nat.mul_le_mul_right _ hj
  have h2:=h.2 j q hq
  rw [List.drop_append_of_le_length (by omega),List.take_append_of_le_length (by rw [List.length_drop];omega)]
  exact h2
 ·have hj':j=ps.length:=by
   have:=(List.getElem?_eq_some_iff.1 hq).1
   rw [List.length_append,List.length_singleton] at this
   omega
  subst hj'
  have hq':p=q:=by simpa using hq
  subst hq'
  rw [← h.1,List.drop_left,← hc,List.take_length]
  exact hp
theorem gV.kJ {α:Type} {R R':α→List Value→Prop} {size:Nat} {ps:List α} {cs:List Value} (h:gV R size ps cs) (hR:∀ p c,R p c→R' p c):gV R' size ps cs:=⟨h.1,fun j p hj=>hR _ _ (h.2 j p hj)⟩
def gZ {α:Type} (R:α→List Value→Prop) (size:Nat) (w:World) (A:Option Addr) (n:Nat) (ps:List α):Prop :=
 ps.length=n∧n≤9223372036854775807∧(0 < n→∃ ad,A=some ad∧∀ j p,ps[j]?=some p→∃ c,c.length=size∧R p c∧∀ i u,c[i]?=some u→w.cell? (ad.add (j*size+i))=some u)
theorem gZ.EC {α:Type} {R:α→List Value→Prop} {size:Nat} {w:World} {A:Option Addr} {n:Nat} {ps:List α} (h:gZ R size w A n ps) (d:α) (i:Int) (h0:0≤i) (h1:i < n) :
 ∃ ad c,A=some ad∧c.length=size∧R (ps.getD i.toNat d) c∧∀ j u,c[j]?=some u→w.cell? (ad.add (i.toNat*size+j))=some u:=by
 obtain ⟨ad,e,hc⟩:=h.2.2 (by omega)
 have hl:i.toNat < ps.length:=by have:=h.1;omega
 obtain ⟨c,hs,hr,hcell⟩:=hc i.toNat _ (List.getElem?_eq_getElem hl)
 refine ⟨ad,c,e,hs,?_,hcell⟩
 rw [List.getD_eq_getElem?_getD,List.getElem?_eq_getElem hl]
 exact hr
theorem gZ.kJ {α:Type} {R R':α→List Value→Prop} {size:Nat} {w w1:World} {A:Option Addr} {n:Nat} {ps:List α} (h:gZ R size w A n ps) (hb:Below w.heap.size w w1) (hR:∀ p c,R p c→R' p c):gZ R' size w1 A n ps :=
 ⟨h.1,h.2.1,fun hn=>by
  obtain ⟨ad,e,hc⟩:=h.2.2 hn
  refine ⟨ad,e,fun j p hj=>?_⟩
  obtain ⟨c,hs,hr,hcell⟩:=hc j p hj
  exact ⟨c,hs,hR _ _ hr,fun i u hu=>qY hb (hcell i u hu)⟩⟩
theorem rD {α:Type} {R:α→List Value→Prop} {w:World} {base n size:Nat} {e:TypeId} {v:Value} {ps:List α} {cs:List Value} (h:w.ownsRow base e size v n cs) (hR:gV R size ps cs) (hn:ps.length=n) :
 ∃ A c,v = .slice A n c∧gZ R size w A n ps:=by
 rcases Nat.eq_zero_or_pos n with h0 | h0
 ·rcases h.2 with ⟨rfl,rfl⟩ | ⟨g,cap,cur,rfl,_⟩
  ·exact ⟨none,0,rfl,hn,by omega,fun hp=>absurd hp (by omega)⟩
  ·exact ⟨_,cap,rfl,hn,by omega,fun hp=>absurd hp (by omega)⟩
 ·obtain ⟨g,cap,rfl,_,_⟩:=h.form h0
  have hm:n≤9223372036854775807:=by
   rcases h.2 with ⟨_,h1⟩ | ⟨g',cap',cur,he,_,_,h1,h2,_⟩
   ·omega
   ·simp only [maxLen] at h2
    omega
  refine ⟨_,cap,rfl,hn,hm,fun _=>⟨_,rfl,fun j p hj=>⟨(cs.drop (j*size)).take size,?_,hR.2 j p hj,fun i u hu=>?_⟩⟩⟩
  ·have hjl:=(List.getElem?_eq_some_iff.1 hj).1
   have h1:j*size+size≤cs.length:=by rw [hR.1,← Nat.succ_mul];exact Nat.mul_le_mul_right _ hjl
   rw [List.length_take,List.length_drop]
   omega
  ·refine h.cells (g:=g) rfl _ u ?_
   rw [List.getElem?_take] at hu
   split at hu
   ·rw [List.getElem?_drop] at hu
    exact hu
   ·cases hu
theorem jD (ad:Addr) (m j:Nat) (hj:0 < j):ad.add (m+j)=⟨(ad.add m).block,(ad.add m).off+j,none⟩:=by
 unfold Addr.add
 by_cases hm:m=0
 ·subst hm
  simp [Nat.ne_of_gt hj]
 ·simp [hm,Nat.add_assoc]
section
variable {P:Program} {ops:Array Oper} {rest:List Oper} {o:Oper} {a:Act} {Q:Exit→Act→World→Prop}
theorem nP {w0 W:World} (base:Nat) (hgd:o.guard=none) (s x:Operand) (t e:TypeId) (z:Value) (size bytes:Nat)
 (ho:o.op = .call { callee:=.builtin .append,args:=#[s,x],argTypes:=#[t,t] })
 (ht:P.underlying t=some (.slice e)) (hinfo:(P.info? e).map (fun i=>(i.zero,i.size,i.bytes))=some (some z,size,bytes)) (hz:z.cells.size=size) (hs0:0 < size) (hb0:0 < bytes)
 (v:Value) (n:Nat) (xs ys:List Value) (hs:a.eval s=v) (hx:a.eval x = .slice (some ⟨W.heap.size,0,none⟩) 1 1) (hys:ys.length=size) (h1:∀ u ∈ ys,u.oneCell'=true)
 (HO:W.ownsRow base e size v n xs) (HB:Below base w0 W) (hbase:base≤W.heap.size) (hl:(n+1)*bytes≤140737488355328)
 (h:∀ v1 w1,w1.ownsRow base e size v1 (n+1) (xs ++ ys)→Below base w0 w1→W.grownBy w1 v.ownBlock→(v1.ownBlock=v.ownBlock∨∃ b,v1.ownBlock=some b∧W.heap.size≤b)→wpList P ops Q rest (a.put o.dst v1) w1) :
 wpList P ops Q (o :: rest) a (W.alloc (.cells ys.toArray e)):=by
 obtain ⟨i0,hi,hzz⟩:=Option.map_eq_some_iff.1 hinfo
 simp only [Prod.mk.injEq] at hzz
 obtain ⟨hz0,hz1,hz2⟩:=hzz
 have hlen:n+1≤140737488355328:=Nat.le_trans (Nat.le_mul_of_pos_right _ hb0) hl
 refine wpList_append_own_at (W.alloc (.cells ys.toArray e)) hgd s x t ho base e i0 z size bytes ht hi hz0 hz1 hz2 hz hs0 v n xs hs (HO.alloc _) ⟨W.heap.size,0,none⟩ 1 1 ys hx (by rw [hys];simp)
  (by simpa using World.news_of_block (cs:=ys.toArray) (t:=e) (fr:=(0,0)) (heap_alloc_new W (.cells ys.toArray e))) h1 (by simp only [maxLen];omega) hl (by simp;omega) ?_
 intro v1 w1 hown hg _ hat
 refine h v1 w1 hown ((HB.alloc hbase _).grown hg (by simp;omega) (own_base HO)) (World.grownBy.trans (World.grownBy_alloc W _ _) hg) ?_
 rcases hat with hat | hat
 ·exact .inl hat
 ·exact .inr ⟨_,hat,by simp⟩
end
theorem own_ne {w:World} {base:Nat} {e t:TypeId} {size n g:Nat} {v:Value} {xs:List Value} {cs:Array Value} (h:w.ownsRow base e size v n xs) (hg:w.heap[g]?=some (.cells cs t (0,0))) (hne:e≠t):some g≠v.ownBlock:=by
 rcases h.2 with ⟨rfl,_⟩ | ⟨g',cap,cur,rfl,_,hh,_⟩
 ·simp [Value.ownBlock]
 ·intro he
  have:g=g':=by simpa [Value.ownBlock] using he
  subst this
  rw [hg] at hh
  injection hh with hh
  injection hh with _ ht
  exact hne ht.symm
theorem jP {w:World} {g:Nat} {t:TypeId} {cs:Array Value} (h:w.heap[g]?=some (.cells cs t (0,0))) (i:Nat) (u:Value):(w.setCell ⟨g,i,none⟩ u).heap[g]?=some (.cells (cs.setIfInBounds i u) t (0,0)):=by
 simp [World.setCell,Array.getElem?_modify,h]
theorem dW {w:World} {g:Nat} {t:TypeId} {cs:Array Value} (h:w.heap[g]?=some (.cells cs t (0,0))) {p:Addr} (hp:g≠p.block) (u:Value):(w.setCell p u).heap[g]?=some (.cells cs t (0,0)):=(Below.heap_setCell w p u g hp).trans h
theorem jy {w:World} {g:Nat} {o:Obj} (h:w.heap[g]?=some o):g < w.heap.size:=(Array.getElem?_eq_some_iff.1 h).1
theorem ak {w:World} {g:Nat} {t:TypeId} {cs:Array Value} (h:w.heap[g]?=some (.cells cs t (0,0))) (i:Nat):w.cell? ⟨g,i,none⟩=cs[i]?:=cell_of_row w g i cs t (0,0) h
theorem ax {w:World} {g:Nat} {t:TypeId} {cs:Array Value} (h:w.heap[g]?=some (.cells cs t (0,0))) (i:Nat):w.frozen? ⟨g,i,none⟩=false:=by simp [World.frozen?,h]
theorem iI {w w1:World} {g:Nat} {o:Obj} {row:Option Nat} (h:w.heap[g]?=some o) (hg:w.grownBy w1 row) (hne:some g≠row):w1.heap[g]?=some o:=(hg.block g (jy h) hne).trans h
def aQ (w w':World) (g:Nat) (row:Option Nat):Prop:=w.heap.size≤w'.heap.size∧∀ i,i < w.heap.size→i≠g→some i≠row→w'.heap[i]?=w.heap[i]?
theorem aQ.refl (w:World) (g:Nat) (row:Option Nat):aQ w w g row:=⟨Nat.le_refl _,fun _ _ _ _=>rfl⟩
theorem aQ.jO {w w1:World} {row:Option Nat} (h:w.grownBy w1 row) (g:Nat):aQ w w1 g row:=⟨h.size,fun i hi _ hr=>h.block i hi hr⟩
theorem aQ.of_below {w w1:World} (h:Below w.heap.size w w1) (g:Nat) (row:Option Nat):aQ w w1 g row:=⟨h.size,fun i hi _ _=>h.block i hi⟩
theorem aQ.gq {w w1:World} {g:Nat} {row:Option Nat} (h:aQ w w1 g row) (j:Nat) (u:Value):aQ w (w1.setCell ⟨g,j,none⟩ u) g row :=
 ⟨by simpa [World.setCell] using h.1,fun i hi hg hr=>(Below.heap_setCell w1 ⟨g,j,none⟩ u i hg).trans (h.2 i hi hg hr)⟩
theorem aQ.trans {w w1 w2:World} {g:Nat} {row row1:Option Nat} (h:aQ w w1 g row) (k:aQ w1 w2 g row1) (hr:row1=row∨∃ b,row1=some b∧w.heap.size≤b):aQ w w2 g row :=
 ⟨Nat.le_trans h.1 k.1,fun i hi hg hn=>by
  refine (k.2 i (Nat.lt_of_lt_of_le hi h.1) hg ?_).trans (h.2 i hi hg hn)
  rcases hr with rfl | ⟨b,rfl,hb⟩
  ·exact hn
  ·intro e
   injection e with e
   omega⟩
theorem aQ.blk {w w1:World} {g g':Nat} {row:Option Nat} {o:Obj} (h:aQ w w1 g row) (hb:w.heap[g']?=some o) (hg:g'≠g) (hr:some g'≠row):w1.heap[g']?=some o:=(h.2 g' (jy hb) hg hr).trans hb
section
variable {P:Program} {ops:Array Oper} {o:Oper} {a:Act} {Q:Exit→Act→World→Prop} {K:Act→World→Prop}
theorem nZ {w0 W:World} (base:Nat) (hw:Region.wanted o (yielded ops a.tmps)=true) (s x:Operand) (t e:TypeId) (z:Value) (size bytes:Nat)
 (ho:o.op = .call { callee:=.builtin .append,args:=#[s,x],argTypes:=#[t,t] })
 (ht:P.underlying t=some (.slice e)) (hinfo:(P.info? e).map (fun i=>(i.zero,i.size,i.bytes))=some (some z,size,bytes)) (hz:z.cells.size=size) (hs0:0 < size) (hb0:0 < bytes)
 (v:Value) (n:Nat) (xs ys:List Value) (hs:a.eval s=v) (hx:a.eval x = .slice (some ⟨W.heap.size,0,none⟩) 1 1) (hys:ys.length=size) (h1:∀ u ∈ ys,u.oneCell'=true)
 (HO:W.ownsRow base e size v n xs) (HB:Below base w0 W) (hbase:base≤W.heap.size) (hl:(n+1)*bytes≤140737488355328)
 (h:∀ v1 w1,w1.ownsRow base e size v1 (n+1) (xs ++ ys)→Below base w0 w1→W.grownBy w1 v.ownBlock→(v1.ownBlock=v.ownBlock∨∃ b,v1.ownBlock=some b∧W.heap.size≤b)→K (a.put o.dst v1) w1) :
 if Region.wanted o (yielded ops a.tmps)=true then Oper.wp P o a (W.alloc (.cells ys.toArray e)) K Q else K (a.put o.dst undef) (W.alloc (.cells ys.toArray e)):=by
 obtain ⟨i0,hi,hzz⟩:=Option.map_eq_some_iff.1 hinfo
 simp only [Prod.mk.injEq] at hzz
 obtain ⟨hz0,hz1,hz2⟩:=hzz
 have hlen:n+1≤140737488355328:=Nat.le_trans (Nat.le_mul_of_pos_right _ hb0) hl
 rw [if_pos hw]
 obtain ⟨v1,w1,hr,hown,hg,_,hat⟩:=run_append_own_at (P:=P) (W.alloc (.cells ys.toArray e)) base t o.type e i0 z size bytes ht hi hz0 hz1 hz2 hz hs0 v n xs (HO.alloc _) ⟨W.heap.size,0,none⟩ 1 1 ys (by rw [hys];simp)
  (by simpa using World.news_of_block (cs:=ys.toArray) (t:=e) (fr:=(0,0)) (heap_alloc_new W (.cells ys.toArray e))) h1 (by simp only [maxLen];omega) hl (by simp;omega)
 unfold Oper.wp execOp
 simp only [ho,resolve,invoke,builtin,Sem.run_bind,Sem.run_pure,Result.andThen_ok,List.map_toArray,List.map_cons,List.map_nil,hs,hx,hr]
 refine h v1 w1 hown ((HB.alloc hbase _).grown hg (by simp;omega) (own_base HO)) (World.grownBy.trans (World.grownBy_alloc W _ _) hg) ?_
 rcases hat with hat | hat
 ·exact .inl hat
 ·exact .inr ⟨_,hat,by simp⟩
end
theorem vP {w:World} {base base':Nat} {e:TypeId} {size n:Nat} {v:Value} {xs:List Value} (h:w.ownsRow base e size v n xs) (hb:base'≤base):w.ownsRow base' e size v n xs:=by
 obtain ⟨h1,h2⟩:=h
 refine ⟨h1,?_⟩
 rcases h2 with h2 | ⟨g,cap,cur,rfl,hg,r⟩
 ·exact .inl h2
 ·exact .inr ⟨g,cap,cur,rfl,Nat.le_trans hb hg,r⟩
section
variable {α:Type} {enc:α→Value} {d:α}
def encs (enc:α→Value) (xs:List α):List Value:=xs.map enc
def lg (d:α) (xs:List α) (i:Int):α:=xs.getD i.toNat d
theorem uN (xs:List α):(encs enc xs).length=xs.length:=by simp [encs]
def pO (enc:α→Value) (d:α) (w:World) (A:Option Addr) (n:Nat) (xs:List α):Prop :=
 xs.length=n∧n≤9223372036854775807∧(0 < n→∃ ad,A=some ad∧∀ j,j < n→w.cell? (ad.add j)=some (enc (xs.getD j d)))
theorem pO.at_ {w:World} {A:Option Addr} {n:Nat} {xs:List α} (h:pO enc d w A n xs) (i:Int) (h0:0≤i) (h1:i < n):∃ ad,A=some ad∧w.cell? (ad.add i.toNat)=some (enc (lg d xs i)):=by
 obtain ⟨ad,e,hc⟩:=h.2.2 (by omega)
 exact ⟨ad,e,hc _ (by omega)⟩
end
theorem aJ {w:World} {g:Nat} {o:Obj} (h:w.heap[g]?=some o) (o':Obj):(w.alloc o').heap[g]?=some o:=(Below.heap_alloc w o' g (jy h)).trans h
theorem bn {w:World} {g:Nat} {o:Obj} (h:w.heap[g]?=some o):w.drew.heap[g]?=some o:=h
theorem aW {w:World} {g:Nat} {o:Obj} (h:w.heap[g]?=some o) (n:Nat):(w.drewN n).heap[g]?=some o:=h
theorem df {w w1:World} {g:Nat} {o:Obj} (h:w.heap[g]?=some o) (hb:Below w.heap.size w w1):w1.heap[g]?=some o:=(hb.block g (jy h)).trans h
theorem fM (w:World) (o:Obj):(w.alloc o).heap[w.heap.size]?=some o:=heap_alloc_new w o
section
variable {P:Program}
theorem jd {fn:Func} {p u:Tmp} {ty:TypeId} (h:fn.results=#[.cell p ty,.tmp u]) (tmps:Array Value) (w:World) (g:Nat) (t:TypeId) (cs:Array Value) (fr:Nat × Nat) (d:TypeDesc)
 (hp:tmps.getD p undef = .pointer (some ⟨g,0,none⟩)) (hg:w.heap[g]?=some (.cells cs t fr))
 (hu:P.underlying ty=some d) (hd:(match d with | .struct _ | .array _ _=>true | _=>false)=true) (hi:(P.info? ty).map (·.size)=some cs.size) :
 (results fn tmps).run P w = .ok (.tuple #[.agg cs,tmps.getD u undef]) w:=by
 have hp':tmps[p]?.getD undef = .pointer (some ⟨g,0,none⟩):=by simpa using hp
 simp [results,h,hp',asAddr,run_loadVar_row w g t ty cs fr d hg hu hd hi]
end
theorem DR {w:World} {base n m c size:Nat} {e:TypeId} {A:Option Addr} {xs:List Value} (h:w.ownsRow base e size (.slice A m c) n xs):m≤c:=by
 rcases h.2 with ⟨he,_⟩ | ⟨g,cap,cur,he,_,_,hnc,_⟩
 ·injection he with _ h2 h3
  omega
 ·injection he with _ h2 h3
  omega
def jT {α:Type} (R:α→List Value→Prop) (e:TypeId) (size:Nat) (w:World) (base:Nat) (v:Value) (ps:List α):Prop :=
 ∃ inner,w.ownsRow base e size v ps.length inner∧gV R size ps inner
section
variable {α:Type} {R R':α→List Value→Prop} {e:TypeId} {size:Nat} {w w1:World} {base:Nat} {v:Value} {ps:List α}
theorem jT.none_ (R:α→List Value→Prop) (e:TypeId) (size:Nat) (w:World) (base:Nat):jT R e size w base (.slice none 0 0) []:=⟨[],Bh _ _ _ _,gV.none _ _⟩
theorem jT.kJ (h:jT R e size w base v ps) (hR:∀ p c,R p c→R' p c):jT R' e size w base v ps:=by
 obtain ⟨inner,ho,hr⟩:=h
 exact ⟨inner,ho,hr.kJ hR⟩
theorem jT.reads (h:jT R e size w base v ps):∃ A c,v = .slice A ps.length c∧ps.length≤c∧gZ R size w A ps.length ps:=by
 obtain ⟨inner,ho,hr⟩:=h
 obtain ⟨A,c,rfl,hrow⟩:=rD ho hr rfl
 exact ⟨A,c,rfl,DR ho,hrow⟩
theorem jT.zU (h:jT R e size w base v ps) {g:Nat} {t:TypeId} {cells:Array Value} (hb:w.heap[g]?=some (.cells cells t (0,0))) (ht:e≠t):some g≠v.ownBlock:=by
 obtain ⟨inner,ho,hr⟩:=h
 exact own_ne ho hb ht
end
theorem gZ.DJ {α:Type} {R:α→List Value→Prop} {size:Nat} {w:World} {ad:Addr} {n:Nat} {ps:List α} (h:gZ R size w (some ad) n ps) :
 ∃ inner,gV R size ps inner∧∀ j u,inner[j]?=some u→w.cell? (ad.add j)=some u:=by
 have key:∀ m,m≤ps.length→∃ inner,gV R size (ps.take m) inner∧∀ j u,inner[j]?=some u→w.cell? (ad.add j)=some u:=by
  intro m
  induction m with
  | zero=>exact fun _=>⟨[],gV.none _ _,fun j u hu=>by simp at hu⟩
  | succ m ih =>
    intro hm
    obtain ⟨inner,hr,hc⟩:=ih (by omega)
    obtain ⟨ad',he,hcell⟩:=h.2.2 (by have:=h.1;omega)
    injection he with he
    subst he
    obtain ⟨c,hcl,hp,hcc⟩:=hcell m _ (List.getElem?_eq_getElem (show m < ps.length by omega))
    refine ⟨inner ++ c,?_,fun j u hu=>?_⟩
    ·rw [List.take_succ_eq_append_getElem (show m < ps.length by omega)]
     exact hr.snoc hp hcl
    ·have hil:inner.length=m*size:=by rw [hr.1,List.length_take,Nat.min_eq_left (by omega)]
     rcases Nat.lt_or_ge j inner.length with hj | hj
     ·rw [List.getElem?_append_left hj] at hu
      exact hc j u hu
     ·rw [List.getElem?_append_right hj] at hu
      have:=hcc (j - inner.length) u hu
      rwa [hil,Nat.add_sub_cancel' (by omega)] at this
 obtain ⟨inner,hr,hc⟩:=key ps.length (Nat.le_refl _)
 rw [List.take_length] at hr
 exact ⟨inner,hr,hc⟩
structure Kd (α:Type) where
 sz:Nat
 E:List Nat
 K:World→α→List Value→Prop
 M:World→Nat→(Nat→Prop)→α→List Value→Prop
 jG:∀ {w x cs},K w x cs→cs.length=sz
 jE:∀ {w x cs},K w x cs→∀ u ∈ cs,u.oneCell'=true
 gU:∀ {w w1:World} {x cs},Below w.heap.size w w1→K w x cs→K w1 x cs
 gz:∀ {w base ok x cs},M w base ok x cs→K w x cs
 fJ:∀ {w base ok ok' x cs},(∀ k,ok k→ok' k)→M w base ok x cs→M w base ok' x cs
 fO:∀ {w:World} {base ok x cs},M w base ok x cs→M w base (fun k=>ok k∧base≤k∧k < w.heap.size∧∃ q,q ∈ E∧∃ cells,w.heap[k]?=some (.cells cells q (0,0))) x cs
 iw:∀ {w w1:World} {base ok x cs},(∀ k,ok k→w1.heap[k]?=w.heap[k]?)→M w base ok x cs→M w1 base ok x cs
 gQ:∀ {w base base' ok x cs},base'≤base→M w base ok x cs→M w base' ok x cs
theorem Bd {w w1:World} {base:Nat} {e:TypeId} {size n:Nat} {v:Value} {xs:List Value} (h:w.ownsRow base e size v n xs) (hm:∀ k,v.ownBlock=some k→w1.heap[k]?=w.heap[k]?):w1.ownsRow base e size v n xs:=by
 obtain ⟨h1,h2⟩:=h
 refine ⟨h1,?_⟩
 rcases h2 with h2 | ⟨g,cap,cur,rfl,hg,hh,r⟩
 ·exact .inl h2
 ·exact .inr ⟨g,cap,cur,rfl,hg,(hm g (by simp [Value.ownBlock])).trans hh,r⟩
theorem rG {w:World} {base:Nat} {e:TypeId} {size n:Nat} {v:Value} {xs:List Value} (h:w.ownsRow base e size v n xs) (k:Nat) (hk:v.ownBlock=some k):∃ cells,w.heap[k]?=some (.cells cells e (0,0)):=by
 rcases h.2 with ⟨rfl,_⟩ | ⟨g,cap,cur,rfl,hg,hh,r⟩
 ·simp [Value.ownBlock] at hk
 ·have:g=k:=by simpa [Value.ownBlock] using hk
  subst this
  exact ⟨cur,hh⟩
namespace Kd
def C {α:Type} (d:Kd α) (w:World) (A:Option Addr) (n:Nat) (xs:List α):Prop:=gZ (d.K w) d.sz w A n xs
def R {α:Type} (d:Kd α) (e:Nat) (w:World) (base:Nat) (ok:Nat→Prop) (v:Value) (xs:List α):Prop :=
 (∀ k,v.ownBlock=some k→ok k)∧jT (d.M w base (fun k=>ok k∧some k≠v.ownBlock)) e d.sz w base v xs
section
variable {α:Type} {d:Kd α} {e:Nat} {w w1:World} {base:Nat} {ok ok':Nat→Prop} {v:Value} {xs:List α}
theorem dG {A:Option Addr} {n:Nat} (h:d.C w A n xs) (hb:Below w.heap.size w w1):d.C w1 A n xs:=gZ.kJ h hb (fun _ _ hp=>d.gU hb hp)
theorem iZ (d:Kd α) (e:Nat) (w:World) (base:Nat) (ok:Nat→Prop):d.R e w base ok (.slice none 0 0) []:=⟨fun k hk=>by simp [Value.ownBlock] at hk,jT.none_ _ _ _ _ _⟩
theorem dJ (h:d.R e w base ok v xs) (hok:∀ k,ok k→ok' k):d.R e w base ok' v xs:=⟨fun k hk=>hok k (h.1 k hk),h.2.kJ (fun _ _ hp=>d.fJ (fun k hk=>⟨hok k hk.1,hk.2⟩) hp)⟩
theorem jw (h:d.R e w base ok v xs):d.R e w base (fun k=>ok k∧base≤k∧k < w.heap.size∧∃ q,q ∈ e :: d.E∧∃ cells,w.heap[k]?=some (.cells cells q (0,0))) v xs:=by
 obtain ⟨h0,inner,ho,hr⟩:=h
 refine ⟨fun k hk=>?_,inner,ho,hr.kJ (fun _ _ hp=>d.fJ (fun k hk=>?_) (d.fO hp))⟩
 ·obtain ⟨cells,hc⟩:=rG ho k hk
  exact ⟨h0 k hk,own_base ho k hk,AP ho k hk,e,List.mem_cons_self,cells,hc⟩
 ·obtain ⟨⟨h1,h2⟩,h3,h4,q,hq,hc⟩:=hk
  exact ⟨⟨h1,h3,h4,q,List.mem_cons_of_mem _ hq,hc⟩,h2⟩
theorem qN (h:d.R e w base ok v xs) (hm:∀ k,ok k→w1.heap[k]?=w.heap[k]?):d.R e w1 base ok v xs:=by
 obtain ⟨h0,inner,ho,hr⟩:=h
 exact ⟨h0,inner,Bd ho (fun k hk=>hm k (h0 k hk)),hr.kJ (fun _ _ hp=>d.iw (fun k hk=>hm k hk.1) hp)⟩
theorem eP {base':Nat} (h:d.R e w base ok v xs) (hb:base'≤base):d.R e w base' ok v xs:=by
 obtain ⟨h0,inner,ho,hr⟩:=h
 exact ⟨h0,inner,vP ho hb,hr.kJ (fun _ _ hp=>d.gQ hb hp)⟩
theorem wE (h:d.R e w base ok v xs) (hm:∀ k,ok k→k < w.heap.size→w1.heap[k]?=w.heap[k]?):d.R e w1 base ok v xs :=
 dJ (qN (jw h) (fun k hk=>hm k hk.1 hk.2.2.1)) (fun _ hk=>hk.1)
theorem DI {x:α} {cs:List Value} (h:d.M w base ok x cs) (hm:∀ k,ok k→k < w.heap.size→w1.heap[k]?=w.heap[k]?):d.M w1 base ok x cs :=
 d.fJ (fun _ hk=>hk.1) (d.iw (fun k hk=>hm k hk.1 hk.2.2.1) (d.fO h))
theorem jv (h:d.R e w base ok v xs) (hb:Below w.heap.size w w1):d.R e w1 base ok v xs:=wE h (fun k _ hk=>hb.block k hk)
theorem BP {x:α} {cs:List Value} (h:d.M w base ok x cs) (hb:Below w.heap.size w w1):d.M w1 base ok x cs:=DI h (fun k _ hk=>hb.block k hk)
theorem fV (h:d.R e w base ok v xs) {p:Addr} (hok:∀ k,ok k→k≠p.block) (u:Value):d.R e (w.setCell p u) base ok v xs:=wE h (fun k ho _=>Below.heap_setCell w p u k (hok k ho))
theorem oW (h:d.R e w base ok v xs) {g:Nat} (hk:aQ w w1 g none) (hok:∀ k,ok k→k≠g):d.R e w1 base ok v xs:=wE h (fun k ho hlt=>hk.2 k hlt (hok k ho) (by simp))
theorem nX (h:d.R e w base ok v xs) {g t:Nat} {cells:Array Value} (hb:w.heap[g]?=some (.cells cells t (0,0))) (ht:∀ q,q ∈ e :: d.E→q≠t):d.R e w base (fun k=>ok k∧k≠g) v xs :=
 dJ (jw h) (fun k hk=>⟨hk.1,by
  obtain ⟨_,_,_,q,hq,cells',hc⟩:=hk
  rintro rfl
  rw [hc] at hb
  injection hb with hb
  injection hb with _ hb
  exact ht q hq hb⟩)
theorem lT (h:d.R e w base ok v xs):∃ A c,v = .slice A xs.length c∧xs.length≤c∧d.C w A xs.length xs:=by
 obtain ⟨A,c,he,hl,hr⟩:=jT.reads h.2
 exact ⟨A,c,he,hl,hr.kJ (Below.refl _ _) (fun _ _ hp=>d.gz hp)⟩
theorem dX (h:d.R e w base ok v xs):∃ A c,v = .slice A xs.length c:=by
 obtain ⟨A,c,he,_⟩:=lT h
 exact ⟨A,c,he⟩
theorem wY (h:d.R e w base ok v xs):∃ inner,w.ownsRow base e d.sz v xs.length inner:=by
 obtain ⟨_,inner,ho,_⟩:=h
 exact ⟨inner,ho⟩
theorem uJ (h:d.R e w base ok v xs) {g t:Nat} {cells:Array Value} (hb:w.heap[g]?=some (.cells cells t (0,0))) (ht:e≠t):some g≠v.ownBlock:=jT.zU h.2 hb ht
end
def scalar {α:Type} (enc:α→Value) (h1:∀ x,(enc x).oneCell'=true):Kd α where
 sz:=1
 E:=[]
 K:=fun _ x cs=>cs=[enc x]
 M:=fun _ _ _ x cs=>cs=[enc x]
 jG:=fun h=>by rw [h];rfl
 jE:=fun h u hu=>by
  rw [h] at hu
  rw [List.mem_singleton.1 hu]
  exact h1 _
 gU:=fun _ h=>h
 gz:=fun h=>h
 fJ:=fun _ h=>h
 fO:=fun h=>h
 iw:=fun _ h=>h
 gQ:=fun _ h=>h
def int (k:IntKind):Kd Int:=scalar (Value.int k) (fun _=>rfl)
def bool:Kd Bool:=scalar Value.bool (fun _=>rfl)
def string:Kd ByteArray:=scalar Value.string (fun _=>rfl)
def slice {α:Type} (e:Nat) (d:Kd α):Kd (List α) where
 sz:=1
 E:=e :: d.E
 K:=fun w xs cs=>∃ A c,cs=[.slice A xs.length c]∧xs.length≤c∧d.C w A xs.length xs
 M:=fun w base ok xs cs=>∃ v,cs=[v]∧d.R e w base ok v xs
 jG:=by
  rintro w x cs ⟨A,c,rfl,_⟩
  rfl
 jE:=by
  rintro w x cs ⟨A,c,rfl,_⟩ u hu
  rw [List.mem_singleton.1 hu]
  rfl
 gU:=by
  rintro w w1 x cs hb ⟨A,c,rfl,hl,hr⟩
  exact ⟨A,c,rfl,hl,dG hr hb⟩
 gz:=by
  rintro w base ok x cs ⟨v,rfl,h⟩
  obtain ⟨A,c,rfl,hl,hr⟩:=lT h
  exact ⟨A,c,rfl,hl,hr⟩
 fJ:=by
  rintro w base ok ok' x cs hok ⟨v,rfl,h⟩
  exact ⟨v,rfl,dJ h hok⟩
 fO:=by
  rintro w base ok x cs ⟨v,rfl,h⟩
  exact ⟨v,rfl,jw h⟩
 iw:=by
  rintro w w1 base ok x cs hm ⟨v,rfl,h⟩
  exact ⟨v,rfl,qN h hm⟩
 gQ:=by
  rintro w base base' ok x cs hb ⟨v,rfl,h⟩
  exact ⟨v,rfl,eP h hb⟩
def pair {α β:Type} (a:Kd α) (b:Kd β):Kd (α × β) where
 sz:=a.sz+b.sz
 E:=a.E ++ b.E
 K:=fun w x cs=>∃ c0 c1,cs=c0 ++ c1∧a.K w x.1 c0∧b.K w x.2 c1
 M:=fun w base ok x cs=>∃ c0 c1,cs=c0 ++ c1∧a.M w base ok x.1 c0∧b.M w base ok x.2 c1
 jG:=by
  rintro w x cs ⟨c0,c1,rfl,h0,h1⟩
  rw [List.length_append,a.jG h0,b.jG h1]
 jE:=by
  rintro w x cs ⟨c0,c1,rfl,h0,h1⟩ u hu
  rcases List.mem_append.1 hu with hu | hu
  ·exact a.jE h0 u hu
  ·exact b.jE h1 u hu
 gU:=by
  rintro w w1 x cs hb ⟨c0,c1,rfl,h0,h1⟩
  exact ⟨c0,c1,rfl,a.gU hb h0,b.gU hb h1⟩
 gz:=by
  rintro w base ok x cs ⟨c0,c1,rfl,h0,h1⟩
  exact ⟨c0,c1,rfl,a.gz h0,b.gz h1⟩
 fJ:=by
  rintro w base ok ok' x cs hok ⟨c0,c1,rfl,h0,h1⟩
  exact ⟨c0,c1,rfl,a.fJ hok h0,b.fJ hok h1⟩
 fO:=by
  rintro w base ok x cs ⟨c0,c1,rfl,h0,h1⟩
  refine ⟨c0,c1,rfl,a.fJ ?_ (a.fO h0),b.fJ ?_ (b.fO h1)⟩
  ·rintro k ⟨h2,h3,h4,q,hq,hc⟩
   exact ⟨h2,h3,h4,q,List.mem_append_left _ hq,hc⟩
  ·rintro k ⟨h2,h3,h4,q,hq,hc⟩
   exact ⟨h2,h3,h4,q,List.mem_append_right _ hq,hc⟩
 iw:=by
  rintro w w1 base ok x cs hm ⟨c0,c1,rfl,h0,h1⟩
  exact ⟨c0,c1,rfl,a.iw hm h0,b.iw hm h1⟩
 gQ:=by
  rintro w base base' ok x cs hb ⟨c0,c1,rfl,h0,h1⟩
  exact ⟨c0,c1,rfl,a.gQ hb h0,b.gQ hb h1⟩
def iso {α β:Type} (d:Kd α) (f:β→α):Kd β where
 sz:=d.sz
 E:=d.E
 K:=fun w x cs=>d.K w (f x) cs
 M:=fun w base ok x cs=>d.M w base ok (f x) cs
 jG:=d.jG
 jE:=d.jE
 gU:=d.gU
 gz:=d.gz
 fJ:=d.fJ
 fO:=d.fO
 iw:=d.iw
 gQ:=d.gQ
def bot {α:Type} (sz:Nat) (E:List Nat):Kd α where
 sz:=sz
 E:=E
 K:=fun _ _ _=>False
 M:=fun _ _ _ _ _=>False
 jG:=fun h=>h.elim
 jE:=fun h=>h.elim
 gU:=fun _ h=>h
 gz:=fun h=>h
 fJ:=fun _ h=>h
 fO:=fun h=>h
 iw:=fun _ h=>h
 gQ:=fun _ h=>h
def upto {α:Type} (F:Kd α→Kd α) (sz:Nat) (E:List Nat):Nat→Kd α
 | 0=>bot sz E
 | n+1=>F (upto F sz E n)
def fix {α:Type} (F:Kd α→Kd α) (sz:Nat) (E:List Nat) (hs:∀ n,(upto F sz E n).sz=sz) (hE:∀ n q,q ∈ (upto F sz E n).E→q ∈ E):Kd α where
 sz:=sz
 E:=E
 K:=fun w x cs=>∃ n,(upto F sz E n).K w x cs
 M:=fun w base ok x cs=>∃ n,(upto F sz E n).M w base ok x cs
 jG:=by
  rintro w x cs ⟨n,h⟩
  rw [(upto F sz E n).jG h,hs n]
 jE:=by
  rintro w x cs ⟨n,h⟩
  exact (upto F sz E n).jE h
 gU:=by
  rintro w w1 x cs hb ⟨n,h⟩
  exact ⟨n,(upto F sz E n).gU hb h⟩
 gz:=by
  rintro w base ok x cs ⟨n,h⟩
  exact ⟨n,(upto F sz E n).gz h⟩
 fJ:=by
  rintro w base ok ok' x cs hok ⟨n,h⟩
  exact ⟨n,(upto F sz E n).fJ hok h⟩
 fO:=by
  rintro w base ok x cs ⟨n,h⟩
  refine ⟨n,(upto F sz E n).fJ ?_ ((upto F sz E n).fO h)⟩
  rintro k ⟨h2,h3,h4,q,hq,hc⟩
  exact ⟨h2,h3,h4,q,hE n q hq,hc⟩
 iw:=by
  rintro w w1 base ok x cs hm ⟨n,h⟩
  exact ⟨n,(upto F sz E n).iw hm h⟩
 gQ:=by
  rintro w base base' ok x cs hb ⟨n,h⟩
  exact ⟨n,(upto F sz E n).gQ hb h⟩
theorem zn {α:Type} {d:Kd α} {w:World} {A:Option Addr} {n:Nat} {xs:List α} (h:d.C w A n xs) (z:α) (i:Int) (h0:0≤i) (h1:i < n) :
 ∃ ad c,A=some ad∧c.length=d.sz∧d.K w (xs.getD i.toNat z) c∧∀ j u,c[j]?=some u→w.cell? (ad.add (i.toNat*d.sz+j))=some u:=gZ.EC h z i h0 h1
theorem pX {α:Type} {d:Kd α} {e base:Nat} {ok okp:Nat→Prop} {W w1:World} {v v1:Value} {xs:List α} {p:α} {inner cs:List Value} (h0:∀ k,v.ownBlock=some k→ok k) (hr:gV (d.M W base (fun k=>ok k∧some k≠v.ownBlock)) d.sz xs inner) (hp:d.M W base okp p cs) (hokp:∀ k,okp k→ok k∧some k≠v.ownBlock) (hfresh:∀ k,W.heap.size≤k→ok k)
 (hown:w1.ownsRow base e d.sz v1 (xs.length+1) (inner ++ cs)) (hg:W.grownBy w1 v.ownBlock) (hat:v1.ownBlock=v.ownBlock∨∃ b,v1.ownBlock=some b∧W.heap.size≤b):d.R e w1 base ok v1 (xs ++ [p]):=by
 have hne:∀ k,some k≠v.ownBlock→k < W.heap.size→some k≠v1.ownBlock:=by
  intro k hk hlt
  rcases hat with hat | ⟨b,hb,hle⟩
  ·rw [hat];exact hk
  ·rw [hb]
   intro he
   injection he with he
   omega
 have step:∀ {q:α} {c:List Value} {o:Nat→Prop},d.M W base o q c→(∀ k,o k→ok k∧some k≠v.ownBlock)→d.M w1 base (fun k=>ok k∧some k≠v1.ownBlock) q c:=by
  intro q c o hq ho
  have h1:=d.iw (w1:=w1) (fun k hk=>hg.block k hk.2.2.1 (ho k hk.1).2) (d.fO hq)
  exact d.fJ (fun k hk=>⟨(ho k hk.1).1,hne k (ho k hk.1).2 hk.2.2.1⟩) h1
 refine ⟨fun k hk=>?_,inner ++ cs,by rw [List.length_append,List.length_singleton];exact hown,?_⟩
 ·rcases hat with hat | ⟨b,hb,hle⟩
  ·exact h0 k (hat ▸ hk)
  ·rw [hb] at hk
   injection hk with hk
   exact hfresh k (by omega)
 ·exact (hr.kJ (fun _ _ hq=>step hq (fun _ hk=>hk))).snoc (step hp hokp) (d.jG (d.gz hp))
section
variable {P:Program} {ops:Array Oper} {rest:List Oper} {o:Oper} {a:Act} {Q:Exit→Act→World→Prop} {α:Type}
theorem lq (d:Kd α) {w0 W:World} (base:Nat) (hgd:o.guard=none) (s x:Operand) (t e:TypeId) (z:Value) (bytes:Nat)
 (ho:o.op = .call { callee:=.builtin .append,args:=#[s,x],argTypes:=#[t,t] })
 (ht:P.underlying t=some (.slice e)) (hinfo:(P.info? e).map (fun i=>(i.zero,i.size,i.bytes))=some (some z,d.sz,bytes)) (hz:z.cells.size=d.sz) (hs0:0 < d.sz) (hb0:0 < bytes)
 (v:Value) (xs:List α) (p:α) (cs:List Value) (ok okp:Nat→Prop) (hs:a.eval s=v) (hx:a.eval x = .slice (some ⟨W.heap.size,0,none⟩) 1 1) (hp:d.M W base okp p cs) (hokp:∀ k,okp k→ok k∧some k≠v.ownBlock) (hfresh:∀ k,W.heap.size≤k→ok k)
 (HO:d.R e W base ok v xs) (HB:Below base w0 W) (hbase:base≤W.heap.size) (hl:(xs.length+1)*bytes≤140737488355328)
 (h:∀ v1 w1,d.R e w1 base ok v1 (xs ++ [p])→Below base w0 w1→W.grownBy w1 v.ownBlock→(v1.ownBlock=v.ownBlock∨∃ b,v1.ownBlock=some b∧W.heap.size≤b)→wpList P ops Q rest (a.put o.dst v1) w1) :
 wpList P ops Q (o :: rest) a (W.alloc (.cells cs.toArray e)):=by
 obtain ⟨h0,inner,hown,hr⟩:=HO
 refine nP base hgd s x t e z d.sz bytes ho ht hinfo hz hs0 hb0 v xs.length inner cs hs hx (d.jG (d.gz hp)) (d.jE (d.gz hp)) hown HB hbase hl ?_
 intro v1 w1 hown1 hb1 hg1 hat1
 exact h v1 w1 (pX h0 hr hp hokp hfresh hown1 hg1 hat1) hb1 hg1 hat1
end
section
variable {P:Program} {ops:Array Oper} {o:Oper} {a:Act} {Q:Exit→Act→World→Prop} {Kc:Act→World→Prop} {α:Type}
theorem nz (d:Kd α) {w0 W:World} (base:Nat) (hw:Region.wanted o (yielded ops a.tmps)=true) (s x:Operand) (t e:TypeId) (z:Value) (bytes:Nat)
 (ho:o.op = .call { callee:=.builtin .append,args:=#[s,x],argTypes:=#[t,t] })
 (ht:P.underlying t=some (.slice e)) (hinfo:(P.info? e).map (fun i=>(i.zero,i.size,i.bytes))=some (some z,d.sz,bytes)) (hz:z.cells.size=d.sz) (hs0:0 < d.sz) (hb0:0 < bytes)
 (v:Value) (xs:List α) (p:α) (cs:List Value) (ok okp:Nat→Prop) (hs:a.eval s=v) (hx:a.eval x = .slice (some ⟨W.heap.size,0,none⟩) 1 1) (hp:d.M W base okp p cs) (hokp:∀ k,okp k→ok k∧some k≠v.ownBlock) (hfresh:∀ k,W.heap.size≤k→ok k)
 (HO:d.R e W base ok v xs) (HB:Below base w0 W) (hbase:base≤W.heap.size) (hl:(xs.length+1)*bytes≤140737488355328)
 (h:∀ v1 w1,d.R e w1 base ok v1 (xs ++ [p])→Below base w0 w1→W.grownBy w1 v.ownBlock→(v1.ownBlock=v.ownBlock∨∃ b,v1.ownBlock=some b∧W.heap.size≤b)→Kc (a.put o.dst v1) w1) :
 if Region.wanted o (yielded ops a.tmps)=true then Oper.wp P o a (W.alloc (.cells cs.toArray e)) Kc Q else Kc (a.put o.dst undef) (W.alloc (.cells cs.toArray e)):=by
 obtain ⟨h0,inner,hown,hr⟩:=HO
 refine nZ base hw s x t e z d.sz bytes ho ht hinfo hz hs0 hb0 v xs.length inner cs hs hx (d.jG (d.gz hp)) (d.jE (d.gz hp)) hown HB hbase hl ?_
 intro v1 w1 hown1 hb1 hg1 hat1
 exact h v1 w1 (pX h0 hr hp hokp hfresh hown1 hg1 hat1) hb1 hg1 hat1
end
theorem uB {α:Type} {enc:α→Value} {h1:∀ x,(enc x).oneCell'=true} {e:Nat} {w:World} {base:Nat} {ok:Nat→Prop} {v:Value} {xs:List α} (h:(scalar enc h1).R e w base ok v xs):w.ownsRow base e 1 v xs.length (encs enc xs):=by
 obtain ⟨_,inner,ho,hr⟩:=h
 have:inner=encs enc xs:=by
  apply List.ext_getElem?
  intro j
  rcases Nat.lt_or_ge j xs.length with hj | hj
  ·have h2:=hr.2 j _ (List.getElem?_eq_getElem hj)
   have hl:j < inner.length:=by have:=hr.1;simp [scalar] at this;omega
   have h3:(inner.drop (j*1)).take 1=[enc xs[j]]:=h2
   rw [Nat.mul_one,List.drop_eq_getElem_cons hl] at h3
   have h4:inner[j]=enc xs[j]:=by
    have h5:=congrArg List.head? h3
    rw [List.take_succ_cons] at h5
    exact Option.some.inj h5
   rw [List.getElem?_eq_getElem hl,h4]
   simp [encs,List.getElem?_eq_getElem hj]
  ·have h3:inner.length=xs.length:=by have:=hr.1;simp [scalar] at this;omega
   rw [List.getElem?_eq_none (by omega),List.getElem?_eq_none (by rw [uN];omega)]
 rw [← this]
 exact ho
theorem wu {α:Type} {enc:α→Value} {d:α} {h1:∀ x,(enc x).oneCell'=true} {w:World} {A:Option Addr} {n:Nat} {xs:List α} (h:(scalar enc h1).C w A n xs):pO enc d w A n xs:=by
 refine ⟨h.1,h.2.1,fun hn=>?_⟩
 obtain ⟨ad,e,hc⟩:=h.2.2 hn
 refine ⟨ad,e,fun j hj=>?_⟩
 have hl:j < xs.length:=by have:=h.1;omega
 obtain ⟨c,_,hK,hcell⟩:=hc j _ (List.getElem?_eq_getElem hl)
 have hK':c=[enc xs[j]]:=hK
 subst hK'
 have:=hcell 0 _ rfl
 simpa [scalar,List.getD_eq_getElem?_getD,List.getElem?_eq_getElem hl] using this
end Kd
namespace Kd
structure nD {α β:Type} (F:Kd α→Kd β):Prop where
 sz:∀ d d':Kd α,d.sz=d'.sz→(F d).sz=(F d').sz
 K:∀ d d':Kd α,d.sz=d'.sz→(∀ w x cs,d.K w x cs→d'.K w x cs)→∀ w x cs,(F d).K w x cs→(F d').K w x cs
 M:∀ d d':Kd α,d.sz=d'.sz→(∀ w base ok x cs,d.M w base ok x cs→d'.M w base ok x cs)→∀ w base ok x cs,(F d).M w base ok x cs→(F d').M w base ok x cs
theorem jA {α β:Type} (k:Kd β):nD (fun _:Kd α=>k):=⟨fun _ _ _=>rfl,fun _ _ _ _ _ _ _ h=>h,fun _ _ _ _ _ _ _ _ _ h=>h⟩
theorem xn {α:Type}:nD (fun d:Kd α=>d):=⟨fun _ _ h=>h,fun _ _ _ h=>h,fun _ _ _ h=>h⟩
theorem Dk {α:Type} {d d':Kd α} (hs:d.sz=d'.sz) (h:∀ w x cs,d.K w x cs→d'.K w x cs) {w:World} {A:Option Addr} {n:Nat} {xs:List α} (hc:d.C w A n xs):d'.C w A n xs:=by
 unfold C at hc ⊢
 rw [← hs]
 exact hc.kJ (Below.refl _ _) (fun _ _ hp=>h _ _ _ hp)
theorem CW {α:Type} {d d':Kd α} (hs:d.sz=d'.sz) (h:∀ w base ok x cs,d.M w base ok x cs→d'.M w base ok x cs) {e:Nat} {w:World} {base:Nat} {ok:Nat→Prop} {v:Value} {xs:List α} (hr:d.R e w base ok v xs):d'.R e w base ok v xs:=by
 unfold R at hr ⊢
 rw [← hs]
 exact ⟨hr.1,hr.2.kJ (fun _ _ hp=>h _ _ _ _ _ hp)⟩
theorem qj {α β:Type} (e:Nat) {G:Kd α→Kd β} (hG:nD G):nD (fun d=>slice e (G d)):=by
 refine ⟨fun _ _ _=>rfl,?_,?_⟩
 ·rintro d d' hs h w x cs ⟨A,c,rfl,hl,hr⟩
  exact ⟨A,c,rfl,hl,Dk (hG.sz d d' hs) (hG.K d d' hs h) hr⟩
 ·rintro d d' hs h w base ok x cs ⟨v,rfl,hr⟩
  exact ⟨v,rfl,CW (hG.sz d d' hs) (hG.M d d' hs h) hr⟩
theorem jS {α β γ:Type} {G:Kd α→Kd β} {H:Kd α→Kd γ} (hG:nD G) (hH:nD H):nD (fun d=>pair (G d) (H d)):=by
 refine ⟨fun d d' hs=>?_,?_,?_⟩
 ·show (G d).sz+(H d).sz=(G d').sz+(H d').sz
  rw [hG.sz d d' hs,hH.sz d d' hs]
 ·rintro d d' hs h w x cs ⟨c0,c1,rfl,h0,h1⟩
  exact ⟨c0,c1,rfl,hG.K d d' hs h _ _ _ h0,hH.K d d' hs h _ _ _ h1⟩
 ·rintro d d' hs h w base ok x cs ⟨c0,c1,rfl,h0,h1⟩
  exact ⟨c0,c1,rfl,hG.M d d' hs h _ _ _ _ _ h0,hH.M d d' hs h _ _ _ _ _ h1⟩
theorem vF {α β γ:Type} {G:Kd α→Kd β} (f:γ→β) (hG:nD G):nD (fun d=>iso (G d) f) :=
 ⟨hG.sz,fun d d' hs h w x cs=>hG.K d d' hs h w (f x) cs,fun d d' hs h w base ok x cs=>hG.M d d' hs h w base ok (f x) cs⟩
def Sub {α β:Type} (F:Kd α→Kd β) (E:List Nat):Prop:=∀ d:Kd α,(∀ q,q ∈ d.E→q ∈ E)→∀ q,q ∈ (F d).E→q ∈ E
theorem jU {α β:Type} {E:List Nat} (k:Kd β) (h:∀ q,q ∈ k.E→q ∈ E):Sub (fun _:Kd α=>k) E:=fun _ _=>h
theorem zi {α:Type} {E:List Nat}:Sub (fun d:Kd α=>d) E:=fun _ h=>h
theorem rU {α β:Type} {E:List Nat} (e:Nat) {G:Kd α→Kd β} (he:e ∈ E) (hG:Sub G E):Sub (fun d=>slice e (G d)) E:=fun d h q hq=>by
 rcases List.mem_cons.1 hq with rfl | hq
 ·exact he
 ·exact hG d h q hq
theorem kK {α β γ:Type} {E:List Nat} {G:Kd α→Kd β} {H:Kd α→Kd γ} (hG:Sub G E) (hH:Sub H E):Sub (fun d=>pair (G d) (H d)) E:=fun d h q hq=>by
 rcases List.mem_append.1 hq with hq | hq
 ·exact hG d h q hq
 ·exact hH d h q hq
theorem xm {α β γ:Type} {E:List Nat} {G:Kd α→Kd β} (f:γ→β) (hG:Sub G E):Sub (fun d=>iso (G d) f) E:=hG
theorem vU {α:Type} {F:Kd α→Kd α} {sz:Nat} {E:List Nat} (h:Sub F E):∀ n q,q ∈ (upto F sz E n).E→q ∈ E
 | 0,_,hq=>hq
 | n+1,q,hq=>h _ (vU h n) q hq
theorem wQ {α:Type} {F:Kd α→Kd α} {sz:Nat} {E:List Nat} (h:∀ d:Kd α,(F d).sz=sz):∀ n,(upto F sz E n).sz=sz
 | 0=>rfl
 | _+1=>h _
section
variable {α:Type} {F:Kd α→Kd α} {sz:Nat} {E:List Nat} {hs:∀ n,(upto F sz E n).sz=sz} {hE:∀ n q,q ∈ (upto F sz E n).E→q ∈ E}
theorem zA (hm:nD F) (hs:∀ n,(upto F sz E n).sz=sz):∀ n {w base ok x cs},(upto F sz E n).M w base ok x cs→(upto F sz E (n+1)).M w base ok x cs
 | 0,_,_,_,_,_,h=>h.elim
 | n+1,_,_,_,_,_,h=>hm.M _ _ (by rw [hs n,hs (n+1)]) (fun _ _ _ _ _ hk=>zA hm hs n hk) _ _ _ _ _ h
theorem rO (hm:nD F) (hs:∀ n,(upto F sz E n).sz=sz) {n m:Nat} (hnm:n≤m) {w base ok x cs} (h:(upto F sz E n).M w base ok x cs):(upto F sz E m).M w base ok x cs:=by
 obtain ⟨j,rfl⟩:=Nat.exists_eq_add_of_le hnm
 induction j with
 | zero=>exact h
 | succ j ih=>exact zA hm hs _ (ih (by omega))
theorem CX {n:Nat} {w:World} {A:Option Addr} {m:Nat} {xs:List α} (h:(upto F sz E n).C w A m xs):(fix F sz E hs hE).C w A m xs:=Dk (d':=fix F sz E hs hE) (hs n) (fun w x cs hp=>(⟨n,hp⟩:∃ n,(upto F sz E n).K w x cs)) h
theorem bounded {P:Nat→Nat→Prop} (hP:∀ n m j,n≤m→P n j→P m j):∀ m,(∀ j,j < m→∃ n,P n j)→∃ N,∀ j,j < m→P N j
 | 0,_=>⟨0,fun j hj=>absurd hj (Nat.not_lt_zero j)⟩
 | m+1,h=>by
   obtain ⟨N,hN⟩:=bounded hP m (fun j hj=>h j (by omega))
   obtain ⟨n,hn⟩:=h m (by omega)
   refine ⟨max N n,fun j hj=>?_⟩
   rcases Nat.lt_or_ge j m with hj' | hj'
   ·exact hP N _ j (Nat.le_max_left _ _) (hN j hj')
   ·have:j=m:=by omega
    subst this
    exact hP n _ j (Nat.le_max_right _ _) hn
theorem tH {α:Type} {R:Nat→α→List Value→Prop} (hR:∀ n m p c,n≤m→R n p c→R m p c) {size:Nat} {ps:List α} {cs:List Value} (h:gV (fun p c=>∃ n,R n p c) size ps cs):∃ N,gV (R N) size ps cs:=by
 obtain ⟨N,hN⟩:=bounded (P:=fun n j=>∀ p,ps[j]?=some p→R n p ((cs.drop (j*size)).take size)) (fun n m j hnm hp p hj=>hR n m p _ hnm (hp p hj)) ps.length
  (fun j hj=>by
    obtain ⟨n,hn⟩:=h.2 j _ (List.getElem?_eq_getElem hj)
    refine ⟨n,fun p hp=>?_⟩
    rw [List.getElem?_eq_getElem hj] at hp
    injection hp with hp
    rw [← hp]
    exact hn)
 exact ⟨N,h.1,fun j p hj=>hN j (List.getElem?_eq_some_iff.1 hj).1 p hj⟩
theorem qf (hm:nD F) {e:Nat} {w:World} {base:Nat} {ok:Nat→Prop} {v:Value} {xs:List α} (h:(fix F sz E hs hE).R e w base ok v xs):∃ n,(upto F sz E n).R e w base ok v xs:=by
 obtain ⟨h0,inner,ho,hr⟩:=h
 obtain ⟨N,hN⟩:=tH (R:=fun n p c=>(upto F sz E n).M w base (fun k=>ok k∧some k≠v.ownBlock) p c) (fun n m p c hnm hp=>rO hm hs hnm hp) hr
 refine ⟨N,h0,inner,?_,?_⟩
 ·rw [hs N];exact ho
 ·rw [hs N];exact hN
theorem sF (hm:nD F) (hs:∀ n,(upto F sz E n).sz=sz) {n m:Nat} (hnm:n≤m) {e:Nat} {w:World} {base:Nat} {ok:Nat→Prop} {v:Value} {xs:List α} (h:(upto F sz E n).R e w base ok v xs):(upto F sz E m).R e w base ok v xs:=CW (by rw [hs n,hs m]) (fun _ _ _ _ _ hp=>rO hm hs hnm hp) h
end
end Kd
namespace Kd
theorem mG {α:Type} {d:Kd α} {e base:Nat} {ok:Nat→Prop} {W w1:World} {u v v1:Value} {xs:List α} (h:d.R e W base (fun k=>ok k∧some k≠v.ownBlock) u xs) (hg:W.grownBy w1 v.ownBlock) (hat:v1.ownBlock=v.ownBlock∨∃ b,v1.ownBlock=some b∧W.heap.size≤b):d.R e w1 base (fun k=>ok k∧some k≠v1.ownBlock) u xs:=by
 refine dJ (qN (jw h) (fun k hk=>hg.block k hk.2.2.1 hk.1.2)) (fun k hk=>⟨hk.1.1,?_⟩)
 rcases hat with hat | ⟨b,hb,hle⟩
 ·rw [hat];exact hk.1.2
 ·rw [hb]
  intro he
  injection he with he
  have:=hk.2.2.1
  omega
end Kd
namespace Kd
section
variable {α β:Type} {d:Kd α} {d':Kd β} {e e':Nat} {w w1 W:World} {base b b':Nat} {ok ok' okv oku:Nat→Prop} {v u:Value} {xs:List α} {ys:List β}
theorem cO (h:d.R e w base ok v xs) (o:Obj):d.R e (w.alloc o) base ok v xs:=jv h (ah (Below.refl _ _) o)
theorem dh (h:d.R e w base ok v xs) (m:Nat):d.R e (w.drewN m) base ok v xs:=jv h (ag (Below.refl _ _) m)
theorem Dj (d:Kd α) (w:World):d.C w none ([]:List α).length []:=⟨rfl,by simp,fun h=>absurd h (Nat.lt_irrefl 0)⟩
theorem uM {A:Option Addr} {n:Nat} (h:d.C w A n xs):n≤9223372036854775807:=h.2.1
theorem jY {A:Option Addr} {n c:Nat} (h:d.R e w base ok (.slice A n c) xs):n=xs.length∧n≤c∧d.C w A xs.length xs:=by
 obtain ⟨A',c',he,hl,hr⟩:=lT h
 injection he with h1 h2 h3
 subst h1
 exact ⟨h2,by omega,hr⟩
theorem lF (h:d.R e w base ok v xs):∀ k,v.ownBlock=some k→k < w.heap.size:=by
 obtain ⟨inner,ho⟩:=wY h
 exact AP ho
theorem qB (h:d.R e w base ok v xs):∀ k,v.ownBlock=some k→base≤k:=by
 obtain ⟨inner,ho⟩:=wY h
 exact own_base ho
end
section
variable {w W:World} {A:Option Addr} {n:Nat}
theorem kG {xs:List ByteArray} (h:Kd.string.C w A n xs) (i:Int) (h0:0≤i) (h1:i < n):∃ ad,A=some ad∧w.cell? (ad.add i.toNat)=some (.string (lg ByteArray.empty xs i)) :=
 pO.at_ (wu (enc:=Value.string) (d:=ByteArray.empty) (h1:=fun _=>rfl) h) i h0 h1
variable {α:Type} {enc:α→Value} {h1:∀ x,(enc x).oneCell'=true} {e base g cap:Nat} {ok:Nat→Prop} {xs:List α}
end
section
variable {P:Program} {ops:Array Oper} {rest:List Oper} {o:Oper} {a:Act} {Q:Exit→Act→World→Prop}
theorem oI {W w1:World} {v:Value} (hgd:o.guard=none) (hrun:(execOp a.eval o).run P W = .ok (.value v) w1) (h:wpList P ops Q rest (a.put o.dst v) w1):wpList P ops Q (o :: rest) a W:=by
 refine wpList_plain hgd fun K hK=>?_
 unfold Oper.wp
 rw [hrun]
 exact hK _ _ h
variable {α:Type}
theorem wO (d:Kd α) {w0 W:World} (base e:Nat) (hgd:o.guard=none) {N:Tmp} (_hd:o.dst=some N) {xs:List α} {inner:List Value} {ok okp:Nat→Prop}
 (hrun:(execOp a.eval o).run P W = .ok (.value (.slice (some ⟨W.heap.size,0,none⟩) xs.length xs.length)) (W.alloc (.cells inner.toArray e)))
 (hrep:gV (d.M W base okp) d.sz xs inner) (hok:∀ k,okp k→ok k) (hfresh:ok W.heap.size) (HB:Below base w0 W) (hbase:base≤W.heap.size) (hm:xs.length≤9223372036854775807)
 (h:∀ v1 w1,d.R e w1 base ok v1 xs→Below base w0 w1→W.grownBy w1 none→(∃ b,v1.ownBlock=some b∧W.heap.size≤b)→wpList P ops Q rest (a.put o.dst v1) w1):wpList P ops Q (o :: rest) a W:=by
 refine oI hgd hrun (h _ _ ⟨fun k hk=>?_,inner,?_,?_⟩ (HB.alloc hbase _) (World.grownBy_alloc W _ none) ⟨W.heap.size,by simp [Value.ownBlock],Nat.le_refl _⟩)
 ·have:W.heap.size=k:=by simpa [Value.ownBlock] using hk
  subst this
  exact hfresh
 ·have h2:=World.ownsRow_lit (base:=base) (e:=e) (size:=d.sz) W inner.toArray xs.length hbase (by simpa [maxLen] using hm) (by simpa using hrep.1)
  simpa using h2
 ·refine hrep.kJ (fun p c hp=>d.fJ (fun k hk=>⟨hok k hk.1,fun he=>?_⟩) (BP (d.fO hp) (ah (Below.refl _ _) _)))
  have h3:k=W.heap.size:=by simpa [Value.ownBlock] using he
  have:=hk.2.2.1
  omega
end
end Kd
theorem vC {w:World} {base n m c size:Nat} {e:TypeId} {A:Option Addr} {xs:List Value} (h:w.ownsRow base e size (.slice A n c) n xs) (hm:m≤n):w.ownsRow base e size (.slice A m c) m (xs.take (m*size)):=by
 obtain ⟨h1,h2⟩:=h
 refine ⟨by rw [List.length_take,h1];exact Nat.min_eq_left (Nat.mul_le_mul_right _ hm),?_⟩
 rcases h2 with ⟨he,h0⟩ | ⟨g,cap,cur,he,hb,hh,hnc,hcm,hcs,ht⟩
 ·injection he with ha _ hc
  subst ha;subst hc
  exact .inl ⟨by rw [show m=0 by omega],by omega⟩
 ·injection he with ha _ hc
  subst ha;subst hc
  refine .inr ⟨g,c,cur,rfl,hb,hh,by omega,hcm,hcs,?_⟩
  rw [← ht,List.take_take,Nat.min_eq_left (Nat.mul_le_mul_right _ hm)]
def Et (w:World) (base:Nat) (e:TypeId) (size:Nat) (v:Value) (n:Nat) (xs:List Value):Prop :=
 xs.length=n*size ∧
 ((n=0∧∃ A,v = .slice A 0 0∧∀ a,A=some a→base≤a.block∧∃ cur,w.heap[a.block]?=some (.cells cur e (0,0))) ∨
  ∃ g off cap cur,v = .slice (some ⟨g,off*size,none⟩) n cap∧base≤g∧w.heap[g]?=some (.cells cur e (0,0))∧n≤cap∧off+cap≤maxLen∧cur.size=(off+cap)*size∧(cur.toList.drop (off*size)).take (n*size)=xs)
namespace Kd
def Q {α:Type} (d:Kd α) (e:Nat) (w:World) (base:Nat) (ok:Nat→Prop) (v:Value) (xs:List α):Prop :=
 (∀ k,v.ownBlock=some k→ok k)∧∃ inner,Et w base e d.sz v xs.length inner∧gV (d.M w base (fun k=>ok k∧some k≠v.ownBlock)) d.sz xs inner
end Kd
namespace Kd
section
variable {α:Type} {d:Kd α} {e e':Nat} {w w1 W:World} {base:Nat} {ok:Nat→Prop} {u v:Value} {xs:List α}
theorem wR (h:d.R e w base ok v xs):∀ k,v.ownBlock=some k→∃ cells,w.heap[k]?=some (.cells cells e (0,0)):=by
 obtain ⟨inner,ho⟩:=wY h
 exact fun k hk=>rG ho k hk
theorem xI (h:d.R e W base ok u xs) (hty:∀ k,v.ownBlock=some k→∃ cells,W.heap[k]?=some (.cells cells e' (0,0))) (ht:∀ q,q ∈ e :: d.E→q≠e') (hg:W.grownBy w1 v.ownBlock):d.R e w1 base ok u xs:=by
 refine dJ (qN (jw h) (fun k hk=>hg.block k hk.2.2.1 (fun he=>?_))) (fun _ hk=>hk.1)
 obtain ⟨_,_,_,q,hq,cells,hc⟩:=hk
 obtain ⟨cells',hc'⟩:=hty k he.symm
 rw [hc] at hc'
 injection hc' with hc'
 injection hc' with _ hc'
 exact ht q hq hc'
theorem oD (hu:d.R e W base ok u xs) (hbase:∀ k,v.ownBlock=some k→W.heap.size≤k) (hb:Below W.heap.size W w1):d.R e w1 base (fun k=>ok k∧some k≠v.ownBlock) u xs :=
 dJ (qN (jw hu) (fun k hk=>hb.block k hk.2.2.1)) (fun k hk=>⟨hk.1,fun he=>by have:=hbase k he.symm;have:=hk.2.2.1;omega⟩)
theorem ku (h:d.R e w1 W.heap.size ok v xs) (hlt:∀ k,u.ownBlock=some k→k < W.heap.size):d.R e w1 W.heap.size (fun k=>ok k∧some k≠u.ownBlock) v xs :=
 dJ (jw h) (fun k hk=>⟨hk.1,fun he=>by have:=hlt k he.symm;have:=hk.2.1;omega⟩)
theorem fresh' (hlt:∀ k,u.ownBlock=some k→k < W.heap.size):∀ k,W.heap.size≤k→some k≠u.ownBlock:=fun k hk he=>by have:=hlt k he.symm;omega
end
end Kd
namespace Kd
theorem uC {α:Type} {R:α→List Value→Prop} {size:Nat} {ps qs:List α} {cs ds:List Value} (h:gV R size ps cs) (h':gV R size qs ds):gV R size (ps ++ qs) (cs ++ ds):=by
 refine ⟨by rw [List.length_append,List.length_append,h.1,h'.1,Nat.add_mul],fun j p hj=>?_⟩
 rcases Nat.lt_or_ge j ps.length with hlt | hge
 ·rw [List.getElem?_append_left hlt] at hj
  have hle:j*size+size≤cs.length:=by rw [h.1,← Nat.succ_mul];exact Nat.mul_le_mul_right _ hlt
  rw [List.drop_append_of_le_length (by omega),List.take_append_of_le_length (by rw [List.length_drop];omega)]
  exact h.2 j p hj
 ·rw [List.getElem?_append_right hge] at hj
  have h2:=h'.2 (j - ps.length) p hj
  have hle:ps.length*size≤j*size:=Nat.mul_le_mul_right _ hge
  rw [List.drop_append,List.drop_eq_nil_of_le (by rw [h.1];exact hle),List.nil_append,h.1,← Nat.sub_mul]
  exact h2
section
variable {P:Program} {ops:Array Oper} {rest:List Oper} {o:Oper} {a:Act} {Q:Exit→Act→World→Prop} {α:Type}
theorem jV (d:Kd α) {Rr:α→List Value→Prop} {w0 W:World} (base:Nat) (hgd:o.guard=none) (s x:Operand) (t e:TypeId) (z:Value) (bytes:Nat)
 (ho:o.op = .call { callee:=.builtin .append,args:=#[s,x],argTypes:=#[t,t] })
 (ht:P.underlying t=some (.slice e)) (hinfo:(P.info? e).map (fun i=>(i.zero,i.size,i.bytes))=some (some z,d.sz,bytes)) (hz:z.cells.size=d.sz) (hs0:0 < d.sz) (hb0:0 < bytes)
 (v:Value) (xs ys:List α) (A:Option Addr) (m c:Nat) (ok okp:Nat→Prop) (hs:a.eval s=v) (hx:a.eval x = .slice A m c)
 (HO:d.R e W base ok v xs) (HR:gZ Rr d.sz W A m ys) (hKM:∀ x cs,Rr x cs→d.M W base okp x cs) (hokp:∀ k,okp k→ok k∧some k≠v.ownBlock) (hfresh:∀ k,W.heap.size≤k→ok k)
 (HB:Below base w0 W) (hbase:base≤W.heap.size) (hl:(xs.length+m)*bytes≤140737488355328)
 (h:∀ v1 w1,d.R e w1 base ok v1 (xs ++ ys)→Below base w0 w1→W.grownBy w1 v.ownBlock→(v1.ownBlock=v.ownBlock∨∃ b,v1.ownBlock=some b∧W.heap.size≤b)→wpList P ops Q rest (a.put o.dst v1) w1) :
 wpList P ops Q (o :: rest) a W:=by
 obtain ⟨i0,hi,hzz⟩:=Option.map_eq_some_iff.1 hinfo
 simp only [Prod.mk.injEq] at hzz
 obtain ⟨hz0,hz1,hz2⟩:=hzz
 have hm:ys.length=m:=HR.1
 have hlen:xs.length+m≤140737488355328:=Nat.le_trans (Nat.le_mul_of_pos_right _ hb0) hl
 obtain ⟨hok,inner,hown,hr⟩:=HO
 have hrun:∃ v1 w1,(Builtin.append_ #[t,t] o.type #[v,.slice A m c]).run P W = .ok v1 w1∧d.R e w1 base ok v1 (xs ++ ys)∧W.grownBy w1 v.ownBlock∧(v1.ownBlock=v.ownBlock∨∃ b,v1.ownBlock=some b∧W.heap.size≤b):=by
  rcases A with _ | ad
  ·have h0:m=0:=by
    rcases Nat.eq_zero_or_pos m with h0 | h0
    ·exact h0
    ·obtain ⟨ad,h,_⟩:=HR.2.2 h0
     cases h
   subst h0
   obtain rfl:ys=[]:=List.eq_nil_of_length_eq_zero hm
   refine ⟨v,W,?_,by rw [List.append_nil];exact ⟨hok,inner,hown,hr⟩,World.grownBy.refl W _,.inl rfl⟩
   rcases hown.2 with ⟨rfl,hn⟩ | ⟨g,cap,cur,rfl,_,_,hnc,_⟩
   ·simp [Builtin.append_,run_underlying ht,sizeOf,typeInfo,hi,Builtin.lenOf,Builtin.firstCells]
   ·simp [Builtin.append_,run_underlying ht,sizeOf,typeInfo,hi,Builtin.lenOf,Builtin.firstCells,hnc,storeCells]
  ·obtain ⟨news,hnr,hnc⟩:=gZ.DJ HR
   have hnM:gV (d.M W base okp) d.sz ys news:=hnr.kJ (fun p c hp=>hKM p c hp)
   have hone:∀ u ∈ news,u.oneCell'=true:=by
    intro u hu
    obtain ⟨q,hq,rfl⟩:=List.mem_iff_getElem.1 hu
    have hql:q / d.sz < ys.length:=by
     rw [Nat.div_lt_iff_lt_mul hs0]
     rw [← hnM.1]
     exact hq
    have hc:=hnM.2 (q / d.sz) _ (List.getElem?_eq_getElem hql)
    refine d.jE (d.gz hc) _ ?_
    rw [List.mem_iff_getElem?]
    refine ⟨q % d.sz,?_⟩
    rw [List.getElem?_take,if_pos (Nat.mod_lt _ hs0),List.getElem?_drop,Nat.mul_comm,Nat.div_add_mod,List.getElem?_eq_getElem hq]
   obtain ⟨v1,w1,hrun,h2,hg,_,hat⟩:=run_append_own_at (P:=P) W base t o.type e i0 z d.sz bytes ht hi hz0 hz1 hz2 hz hs0 v xs.length inner hown ad m c news (by rw [hnM.1,hm]) hnc hone (by simp only [maxLen];omega) hl hbase
   have hat':v1.ownBlock=v.ownBlock∨∃ b,v1.ownBlock=some b∧W.heap.size≤b:=by
    rcases hat with hat | hat
    ·exact .inl hat
    ·exact .inr ⟨_,hat,Nat.le_refl _⟩
   have hne:∀ k,some k≠v.ownBlock→k < W.heap.size→some k≠v1.ownBlock:=by
    intro k hk hlt
    rcases hat' with hat | ⟨b,hb,hle⟩
    ·rw [hat];exact hk
    ·rw [hb]
     intro he
     injection he with he
     omega
   have step:∀ {q:α} {c:List Value} {o:Nat→Prop},d.M W base o q c→(∀ k,o k→ok k∧some k≠v.ownBlock)→d.M w1 base (fun k=>ok k∧some k≠v1.ownBlock) q c:=by
    intro q c o hq ho
    have h1:=d.iw (w1:=w1) (fun k hk=>hg.block k hk.2.2.1 (ho k hk.1).2) (d.fO hq)
    exact d.fJ (fun k hk=>⟨(ho k hk.1).1,hne k (ho k hk.1).2 hk.2.2.1⟩) h1
   refine ⟨v1,w1,hrun,⟨fun k hk=>?_,inner ++ news,by rw [List.length_append,hm];exact h2,uC (hr.kJ (fun _ _ hq=>step hq (fun _ hk=>hk))) (hnM.kJ (fun _ _ hq=>step hq hokp))⟩,hg,hat'⟩
   rcases hat' with hat | ⟨b,hb,hle⟩
   ·exact hok k (hat ▸ hk)
   ·rw [hb] at hk
    injection hk with hk
    exact hfresh k (by omega)
 obtain ⟨v1,w1,hr1,h1,hg,hat⟩:=hrun
 refine wpList_plain hgd fun K hK=>?_
 unfold Oper.wp execOp
 simp only [ho,resolve,invoke,builtin,Sem.run_bind,Sem.run_pure,Result.andThen_ok,List.map_toArray,List.map_cons,List.map_nil,hs,hx,hr1]
 exact hK _ _ (h v1 w1 h1 (HB.grown hg hbase (own_base hown)) hg hat)
end
end Kd
theorem bQ {w W:World} (h:Below w.heap.size w W):w.heap.size≤W.heap.size:=h.size
theorem bz {w W w2:World} (h:Below w.heap.size w W) (k:Below W.heap.size W w2):Below w.heap.size w w2:=dR h h.size k
theorem aA {w W:World} {g j:Nat} {v:Value} (h:Below w.heap.size w W) (hg:w.heap.size≤g):Below w.heap.size w (W.setCell ⟨g,j,none⟩ v):=h.setCell hg _
theorem bK {w W:World} {g:Nat} {row:Option Nat} (h:aQ w W g row) (m:Nat):aQ w (W.drewN m) g row:=h
theorem bG {w W:World} {g:Nat} (h:aQ w W g none) (o:Obj):aQ w (W.alloc o) g none:=h.trans (aQ.jO (World.grownBy_alloc W o none) g) (.inl rfl)
theorem add_block (a:Addr) (i:Nat):(a.add i).block=a.block:=by unfold Addr.add;split <;> rfl
theorem lS {w0 w w1:World} {B:Nat} (h:Below w0.heap.size w0 w) (hB:w0.heap.size≤B) (k:Below B w w1):Below w0.heap.size w0 w1 :=
 h.trans ⟨k.os,k.tape,k.output,k.size,fun i hi=>k.block i (Nat.lt_of_lt_of_le hi hB)⟩
theorem own_base' {w:World} {base:Nat} {e:TypeId} {size n:Nat} {v:Value} {xs:List Value} (h:w.ownsRow base e size v n xs):v.ownBlock=none∨∃ b,v.ownBlock=some b∧base≤b:=by
 cases hv:v.ownBlock with
 | none=>exact .inl rfl
 | some b=>exact .inr ⟨b,rfl,own_base h b hv⟩
theorem xY {w W:World} {g:Nat} {row:Option Nat} (h:aQ w W g row):w.heap.size≤W.heap.size:=h.1
theorem cell_far {W:World} {p a:Addr} (h:a.block≠p.block) (u:Value):(W.setCell p u).cell? a=W.cell? a:=by
 have:=Below.heap_setCell W p u a.block h
 simp [World.cell?,this]
theorem bU {w:World} {g:Nat} {t:TypeId} {cs cs':Array Value} (h:w.heap[g]?=some (.cells cs t (0,0))) (i:Nat) (u:Value) (e:cs.setIfInBounds i u=cs'):(w.setCell ⟨g,i,none⟩ u).heap[g]?=some (.cells cs' t (0,0)):=e ▸ jP h i u
theorem jI {w W:World} {g:Nat} {row:Option Nat} (h:aQ w W g row) {p:Addr} (hp:w.heap.size≤p.block) (u:Value):aQ w (W.setCell p u) g row :=
 ⟨by simpa [World.setCell] using h.1,fun i hi hg hr=>(Below.heap_setCell W p u i (by omega)).trans (h.2 i hi hg hr)⟩
theorem aj {base:Nat} {w W:World} (h:Below base w W):Below base w W.drew:=h.drew
theorem bT {w W:World} {g:Nat} {row:Option Nat} (h:aQ w W g row):aQ w W.drew g row:=h
namespace Kd
section
variable {α β:Type} {d:Kd α} {d':Kd β} {e e' base base' n:Nat} {ok ok':Nat→Prop} {w W w1 W1:World} {v u:Value} {xs:List α} {ys:List β} {A:Option Addr} {c:Nat}
theorem xB (h:d.R e w base ok v xs):v.ownBlock=none∨∃ k,v.ownBlock=some k∧base≤k:=by
 obtain ⟨inner,ho⟩:=wY h
 exact own_base' ho
end
end Kd
namespace Kd
section
variable {α:Type} {d:Kd α} {e base g:Nat} {ok:Nat→Prop} {w w1:World} {v:Value} {xs:List α} {o:Obj}
theorem uF (h:d.R e w base ok v xs) (a:Nat) (ha:w.heap.size≤a):d.R e w base (fun k=>ok k∧k≠a) v xs:=dJ (jw h) (fun k hk=>⟨hk.1,by have:=hk.2.2.1;omega⟩)
theorem zg (h:d.R e w1 w.heap.size ok v xs) (hb:w.heap[g]?=some o):d.R e w1 w.heap.size (fun k=>ok k∧k≠g) v xs:=dJ (jw h) (fun k hk=>⟨hk.1,by have:=jy hb;have:=hk.2.1;omega⟩)
end
end Kd
section
variable {P:Program} {ops:Array Oper} {rest:List Oper} {o:Oper} {a:Act} {Q:Exit→Act→World→Prop}
theorem gI {W:World} (hgd:o.guard=none) {N:Tmp} (_hd:o.dst=some N) {cs:Array Value} {t:TypeId}
 (hrun:(execOp a.eval o).run P W = .ok (.value (.pointer (some ⟨W.heap.size,0,none⟩))) (W.alloc (.cells cs t (0,0))))
 (h:∀ g,g=W.heap.size→∀ w1,w1.heap[g]?=some (.cells cs t (0,0))→Below W.heap.size W w1→wpList P ops Q rest (a.put o.dst (.pointer (some ⟨g,0,none⟩))) w1):wpList P ops Q (o :: rest) a W :=
 Kd.oI hgd hrun (h _ rfl _ (fM W _) (ah (Below.refl _ _) _))
end
section
variable {P:Program} {ops:Array Oper} {rest:List Oper} {o:Oper} {a:Act} {Q:Exit→Act→World→Prop} {W:World}
theorem gm {N:Tmp} (_hN:o.dst=some N) (h:wpList P ops Q (o :: rest) a W):wpList P ops Q (o :: rest) a W:=h
end
section
variable {P:Program} {ops:Array Oper} {o:Oper} {a:Act} {Q:Exit→Act→World→Prop} {Kc:Act→World→Prop}
namespace Kd
variable {α:Type}
end Kd
end
inductive wF (P:Program) (tmps:Array Value) (w:World):List ResultVar→List Value→Prop where
 | nil:wF P tmps w [] []
 | tmp {u:Tmp} {rs:List ResultVar} {vs:List Value} (h:wF P tmps w rs vs):wF P tmps w (.tmp u :: rs) (tmps.getD u undef :: vs)
 | cell {p:Tmp} {ty:TypeId} {rs:List ResultVar} {vs:List Value} (g:Nat) (t:TypeId) (cs:Array Value) (fr:Nat × Nat) (d:TypeDesc)
    (hp:tmps.getD p undef = .pointer (some ⟨g,0,none⟩)) (hg:w.heap[g]?=some (.cells cs t fr))
    (hu:P.underlying ty=some d) (hd:(match d with | .struct _ | .array _ _=>true | _=>false)=true) (hi:(P.info? ty).map (·.size)=some cs.size)
    (h:wF P tmps w rs vs):wF P tmps w (.cell p ty :: rs) (.agg cs :: vs)
section
variable {P:Program} {tmps:Array Value} {w:World}
theorem zB {rs:List ResultVar} {vs:List Value} (hv:wF P tmps w rs vs) (f:ResultVar→Sem Value) (hf:∀ u,f (.tmp u)=pure (tmps.getD u undef)) (hc:∀ a t,f (.cell a t)=(do loadVar t (← asAddr (tmps.getD a undef)))) :
 (rs.mapM f).run P w = .ok vs w:=by
 induction hv with
 | nil=>simp
 | tmp h ih=>simp [List.mapM_cons,hf,ih]
 | cell g t cs fr d hp hg hu hd hi h ih =>
   rw [List.mapM_cons,hc,hp]
   simp [asAddr,run_loadVar_row w g t _ cs fr d hg hu hd hi,ih]
theorem fE {fn:Func} {rs:List ResultVar} {vs:List Value} (h:fn.results=rs.toArray) (hl:vs.length≠1) (hv:wF P tmps w rs vs):(results fn tmps).run P w = .ok (.tuple vs.toArray) w:=by
 unfold results
 rw [h,List.mapM_toArray]
 simp only [Sem.run_bind,Sem.run_map]
 rw [zB hv]
 ·simp [hl]
 ·intro u
  rfl
 ·intro a t
  rfl
end
end Go.Proofs.YtpgfjbimodnkeaaGreatDoorW.PrintWords
namespace Go.Proofs.YtpgfjbimodnkeaaGreatDoorW.PrintLast
section
variable {P:Program} {ops:Array Oper} {Q:Exit→Act→World→Prop} {md:Region.Mode} {S:World→Prop} {ds:List Nat}
def Region.kD (md:Region.Mode) (ops:Array Oper) (i:Nat):Nat→Nat→Bool
 | 0,_=>false
 | fuel+1,d=>match ops[d]? with
   | some o=>o.after.any fun e=>Region.binds md e && (e.on == i || Region.kD md ops i fuel e.on)
   | none=>false
def Region.oq (md:Region.Mode) (ops:Array Oper) (listed:Array Bool):Bool :=
 (List.range ops.size).all fun j=>!listed.getD j false || match ops[j]? with
   | some o=>o.after.all fun e=>!Region.binds md e || listed.getD e.on false
   | none=>true
def Region.lastB (md:Region.Mode) (ops:Array Oper) (listed:Array Bool) (ds:List Nat) (i:Nat):Bool :=
 ds.all fun d=>listed.getD d true || Region.kD md ops i ops.size d
def iP (md:Region.Mode) (ops:Array Oper) (listed:Array Bool):Prop :=
 ∀ j oj,ops[j]?=some oj→listed.getD j false=true→∀ e ∈ oj.after,Region.binds md e=true→listed.getD e.on false=true
theorem Region.tC {listed:Array Bool} (h:Region.oq md ops listed=true):iP md ops listed:=by
 intro j oj hj hl e he hb
 have hlt:j < ops.size:=(Array.getElem?_eq_some_iff.1 hj).1
 have h1:=List.all_eq_true.1 h j (List.mem_range.2 hlt)
 simp only [hl,hj,Bool.not_true,Bool.false_or] at h1
 have h2:=Array.all_eq_true_iff_forall_mem.1 h1 e he
 simpa [hb] using h2
theorem iP.set {listed:Array Bool} {i:Nat} (h:iP md ops listed) (hi:i ∈ Region.ready md ops listed):iP md ops (listed.setIfInBounds i true):=by
 obtain ⟨_,oi,hoi,hall⟩:=mem_ready.1 hi
 intro j oj hj hl e he hb
 by_cases hij:i=j
 ·subst hij
  have:oj=oi:=Option.some.inj (hj.symm.trans hoi)
  subst this
  exact getD_set_true (hall e he hb)
 ·rw [getD_set_ne false hij] at hl
  exact getD_set_true (h j oj hj hl e he hb)
theorem Region.nU {listed:Array Bool} {i:Nat} (hc:iP md ops listed):∀ (fuel d:Nat),Region.kD md ops i fuel d=true→listed.getD d false=true→listed.getD i false=true
 | 0,_,h,_=>by simp [Region.kD] at h
 | fuel+1,d,h,hl=>by
   unfold Region.kD at h
   cases ho:ops[d]? with
   | none=>rw [ho] at h;simp at h
   | some o =>
     rw [ho] at h
     obtain ⟨e,he,h1⟩:=Array.any_eq_true'.1 h
     simp only [Bool.and_eq_true,Bool.or_eq_true,beq_iff_eq] at h1
     have hle:=hc d o ho hl e he h1.1
     rcases h1.2 with h2 | h2
     ·rw [← h2];exact hle
     ·exact Region.nU hc fuel e.on h2 hle
theorem Region.pJ {listed:Array Bool} {i d fuel:Nat} (hc:iP md ops listed) (hr:Region.kD md ops i fuel d=true) (hun:listed.getD i true=false):d ∉ Region.ready md ops listed:=by
 intro hd
 obtain ⟨_,o,ho,hall⟩:=mem_ready.1 hd
 have hi:listed.getD i false=true:=by
  cases fuel with
  | zero=>simp [Region.kD] at hr
  | succ n =>
    unfold Region.kD at hr
    rw [ho] at hr
    obtain ⟨e,he,h1⟩:=Array.any_eq_true'.1 hr
    simp only [Bool.and_eq_true,Bool.or_eq_true,beq_iff_eq] at h1
    have hle:=hall e he h1.1
    rcases h1.2 with h2 | h2
    ·rw [← h2];exact hle
    ·exact Region.nU hc n e.on h2 hle
 rcases Nat.lt_or_ge i listed.size with h' | h'
 ·simp [h'] at hun hi
  rw [hun] at hi
  cases hi
 ·simp [Array.getElem?_eq_none h'] at hun
def dP (P:Program) (md:Region.Mode) (ops:Array Oper) (Q:Exit→Act→World→Prop) (S:World→Prop) (ds:List Nat):Nat→Array Bool→Act→World→Prop
 | 0,listed,a,w=>Region.ready md ops listed=[]∧Q .normal a w
 | fuel+1,listed,a,w =>
   (Region.ready md ops listed=[]→Q .normal a w) ∧
   ∀ i ∈ Region.ready md ops listed,wpOp P ops Q i (fun a' w'=>(i ∉ ds→S w→S w')∧dP P md ops Q S ds fuel (listed.setIfInBounds i true) a' w') a w
theorem mX:∀ (fuel:Nat) (listed:Array Bool) (a:Act) (w:World),dP P md ops Q S ds fuel listed a w→wpAny P md ops Q fuel listed a w
 | 0,_,_,_,h=>h
 | fuel+1,_,_,_,h=>⟨h.1,fun i hi=>wpOp_mono (fun a' w' h'=>mX fuel _ a' w' h'.2) (h.2 i hi)⟩
theorem pI {i:Nat} {oi:Oper} {v:Value} (hi:ops[i]?=some oi) (hsel:∀ (j:Nat) (o:Oper) cs b,ops[j]?=some o→o.op≠.select cs b)
 (hQ:∀ c a w,Q (.panic c) (a.put oi.dst v) w→Q (.panic c) a w) (n:Nat) :
 ∀ (fuel:Nat) (listed:Array Bool) (a:Act) (w:World),
  (∀ j oj,ops[j]?=some oj→j≠i→listed.getD j true=false→(∀ e ∈ oj.after,Region.binds md e=true→e.on≠i)→oi.apart ops oj=true) →
  iP md ops listed→(∀ d ∈ ds,listed.getD d true=false→Region.kD md ops i n d=true) →
  i ∈ Region.ready md ops listed→YieldsIf P ops S oi v a→S w →
  dP P md ops Q S ds fuel (listed.setIfInBounds i true) (a.put oi.dst v) w→dP P md ops Q S ds (fuel+1) listed a w:=by
 intro fuel
 induction fuel with
 | zero =>
   intro listed a w _ _ _ hr hy hS H
   refine ⟨fun h=>(by rw [h] at hr;cases hr),fun j hj=>?_⟩
   by_cases hji:j=i
   ·subst hji;exact hy.wpOp hi hS ⟨fun _ h=>h,H⟩
   ·have:=ready_mono hj hji
    rw [H.1] at this
    cases this
 | succ fuel ih =>
   intro listed a w hfree hc hd hr hy hS H
   refine ⟨fun h=>(by rw [h] at hr;cases hr),fun j hj=>?_⟩
   by_cases hji:j=i
   ·subst hji;exact hy.wpOp hi hS ⟨fun _ h=>h,H⟩
   ·have h1:=H.2 j (ready_mono hj hji)
    obtain ⟨hjun,oj,hoj,hall⟩:=mem_ready.1 hj
    have hiun:=(mem_ready.1 hr).1
    have hnot:∀ e ∈ oj.after,Region.binds md e=true→e.on≠i:=fun e he hb heq=>by
     have h1:=hall e he hb
     rw [heq] at h1
     rcases Nat.lt_or_ge i listed.size with h' | h'
     ·simp [h'] at hiun h1;rw [hiun] at h1;cases h1
     ·simp [Array.getElem?_eq_none h'] at h1
    have hjd:j ∉ ds:=fun hm=>Region.pJ hc (hd j hm hjun) hiun hj
    have h2:=wpOp_putIf hoj (hfree j oj hoj hji hjun hnot) (fun cs b=>hsel i oi cs b hi) (fun cs b=>hsel j oj cs b hoj) hQ hy h1
    have hfree':∀ k ok,ops[k]?=some ok→k≠i→(listed.setIfInBounds j true).getD k true=false →
     (∀ e ∈ ok.after,Region.binds md e=true→e.on≠i)→oi.apart ops ok=true:=fun k ok hk hki hun hno=>by
     refine hfree k ok hk hki ?_ hno
     by_cases hjk:j=k
     ·subst hjk;exact hjun
     ·rw [getD_set_ne true hjk] at hun;exact hun
    have hd':∀ d ∈ ds,(listed.setIfInBounds j true).getD d true=false→Region.kD md ops i n d=true:=fun d hm hun=>by
     refine hd d hm ?_
     by_cases hjk:j=d
     ·subst hjk;exact hjun
     ·rw [getD_set_ne true hjk] at hun;exact hun
    refine wpOp_mono (fun a' w' h3=>⟨h3.2.1,ih (listed.setIfInBounds j true) a' w' hfree' (hc.set hj) hd' (ready_mono hr (Ne.symm hji)) h3.1 (h3.2.1 hjd hS) ?_⟩) h2
    rw [Array.setIfInBounds_comm _ _ hji]
    exact h3.2.2
theorem rE {i:Nat} {oi:Oper} {v:Value} (hi:ops[i]?=some oi) (hsel:∀ (j:Nat) (o:Oper) cs b,ops[j]?=some o→o.op≠.select cs b)
 (hQ:∀ c a w,Q (.panic c) (a.put oi.dst v) w→Q (.panic c) a w) :
 ∀ (fuel:Nat) (listed:Array Bool) (a:Act) (w:World),
  (∀ j oj,ops[j]?=some oj→j≠i→listed.getD j true=false→(∀ e ∈ oj.after,Region.binds md e=true→e.on≠i)→oi.apart ops oj=true) →
  i ∈ Region.ready md ops listed→Yields P ops oi v a →
  dP P md ops Q S ds fuel (listed.setIfInBounds i true) (a.put oi.dst v) w→dP P md ops Q S ds (fuel+1) listed a w:=by
 intro fuel
 induction fuel with
 | zero =>
   intro listed a w _ hr hy H
   refine ⟨fun h=>(by rw [h] at hr;cases hr),fun j hj=>?_⟩
   by_cases hji:j=i
   ·subst hji;exact (hy.yieldsIf (S:=fun _=>True)).wpOp hi trivial ⟨fun _ h=>h,H⟩
   ·have:=ready_mono hj hji
    rw [H.1] at this
    cases this
 | succ fuel ih =>
   intro listed a w hfree hr hy H
   refine ⟨fun h=>(by rw [h] at hr;cases hr),fun j hj=>?_⟩
   by_cases hji:j=i
   ·subst hji;exact (hy.yieldsIf (S:=fun _=>True)).wpOp hi trivial ⟨fun _ h=>h,H⟩
   ·have h1:=H.2 j (ready_mono hj hji)
    obtain ⟨hjun,oj,hoj,hall⟩:=mem_ready.1 hj
    have hiun:=(mem_ready.1 hr).1
    have hnot:∀ e ∈ oj.after,Region.binds md e=true→e.on≠i:=fun e he hb heq=>by
     have h1:=hall e he hb
     rw [heq] at h1
     rcases Nat.lt_or_ge i listed.size with h' | h'
     ·simp [h'] at hiun h1;rw [hiun] at h1;cases h1
     ·simp [Array.getElem?_eq_none h'] at h1
    have h2:=wpOp_put hoj (hfree j oj hoj hji hjun hnot) (fun cs b=>hsel i oi cs b hi) (fun cs b=>hsel j oj cs b hoj) hQ hy h1
    have hfree':∀ k ok,ops[k]?=some ok→k≠i→(listed.setIfInBounds j true).getD k true=false →
     (∀ e ∈ ok.after,Region.binds md e=true→e.on≠i)→oi.apart ops ok=true:=fun k ok hk hki hun hno=>by
     refine hfree k ok hk hki ?_ hno
     by_cases hjk:j=k
     ·subst hjk;exact hjun
     ·rw [getD_set_ne true hjk] at hun;exact hun
    refine wpOp_mono (fun a' w' h3=>⟨h3.2.1,ih (listed.setIfInBounds j true) a' w' hfree' (ready_mono hr (Ne.symm hji)) h3.1 ?_⟩) h2
    rw [Array.setIfInBounds_comm _ _ hji]
    exact h3.2.2
theorem qQ {i:Nat} {oi:Oper} {v:Value} {fuel:Nat} {listed:Array Bool} {a:Act} {w:World} (hi:ops[i]?=some oi)
 (hs:Region.noSelect ops=true) (hf:Region.free md ops listed i=true) (hr:(Region.ready md ops listed).contains i=true)
 (hc:Region.oq md ops listed=true) (hl:Region.lastB md ops listed ds i=true)
 (hQ:∀ c a w,Q (.panic c) (a.put oi.dst v) w→Q (.panic c) a w) (hy:YieldsIf P ops S oi v a) (hS:S w)
 (h:dP P md ops Q S ds fuel (listed.setIfInBounds i true) (a.put oi.dst v) w):dP P md ops Q S ds (fuel+1) listed a w :=
 pI hi (Region.noSelect_spec hs) hQ ops.size fuel listed a w (Region.free_spec hi hf) (Region.tC hc)
  (fun d hm hun=>by have:=List.all_eq_true.1 hl d hm;rw [hun] at this;simpa using this) (by simpa using hr) hy hS h
theorem rC {rs:List Nat} {fuel:Nat} {listed:Array Bool} {a:Act} {w:World} (hr:Region.ready md ops listed=rs) (hne:rs≠[])
 (h:∀ i ∈ rs,wpOp P ops Q i (fun a' w'=>(i ∉ ds→S w→S w')∧dP P md ops Q S ds fuel (listed.setIfInBounds i true) a' w') a w):dP P md ops Q S ds (fuel+1) listed a w :=
 ⟨fun h0=>absurd (hr ▸ h0) hne,hr ▸ h⟩
theorem qP {listed:Array Bool} {a:Act} {w:World} (hr:Region.ready md ops listed=[]) (h:Q .normal a w) :
 ∀ fuel,dP P md ops Q S ds fuel listed a w
 | 0=>⟨hr,h⟩
 | _+1=>⟨fun _=>h,by rw [hr];simp⟩
theorem qW {id:Nat} {a:Act} {w:World} (hm:P.follows .mixedOrders=true)
 (h:dP P .any ops Q S ds ops.size (Array.replicate ops.size false) a { w with drawn:=w.drawn+1 }):(Code.region id ops true).wp P Q a w :=
 wp_region_any hm (mX _ _ _ _ h)
end
section
variable {P:Program} {ops:Array Oper} {Q:Exit→Act→World→Prop} {md:Region.Mode} {S:World→Prop} {ds:List Nat}
def jF (P:Program) (md:Region.Mode) (ops:Array Oper) (Q:Exit→Act→World→Prop) (S:World→Prop) (ds:List Nat) (fuel:Nat) (listed:Array Bool) (a:Act) (w:World) (rs:List Nat):Prop :=
 ∀ i ∈ rs,wpOp P ops Q i (fun a' w'=>(i ∉ ds→S w→S w')∧dP P md ops Q S ds fuel (listed.setIfInBounds i true) a' w') a w
theorem jF.nil {fuel:Nat} {listed:Array Bool} {a:Act} {w:World}:jF P md ops Q S ds fuel listed a w []:=fun _ h=>by cases h
theorem jF.cons {fuel:Nat} {listed:Array Bool} {a:Act} {w:World} {i:Nat} {o:Oper} {rs:List Nat} (ho:ops[i]?=some o) (hd:i ∉ ds)
 (h:∀ K':Act→World→Prop,Shut (∀ a w,S w→(S w→dP P md ops Q S ds fuel (listed.setIfInBounds i true) a w)→K' a w)→if Region.wanted o (yielded ops a.tmps)=true then Oper.wp P o a w K' Q else K' (a.put o.dst undef) w)
 (hs:jF P md ops Q S ds fuel listed a w rs):jF P md ops Q S ds fuel listed a w (i :: rs):=fun j hj=>by
 rcases List.mem_cons.1 hj with rfl | hj
 ·exact wpOp_step ho (fun K' hK=>h K' (fun a w hS hW=>hK a w ⟨fun _ _=>hS,hW hS⟩))
 ·exact hs j hj
theorem pM {rs:List Nat} {fuel:Nat} {listed:Array Bool} {a:Act} {w:World} (hr:Region.ready md ops listed=rs) (hne:rs≠[])
 (h:jF P md ops Q S ds fuel listed a w rs):dP P md ops Q S ds (fuel+1) listed a w:=rC hr hne h
theorem vW {id n:Nat} {a:Act} {w:World} (l:Array Bool) (hm:P.follows .mixedOrders=true) (hn:ops.size=n) (hl:Array.replicate n false=l) (hS:S w.drew)
 (h:S w.drew→dP P .any ops Q S ds n l a w.drew):(Code.region id ops true).wp P Q a w:=by
 subst hn
 subst hl
 exact qW hm (h hS)
def takeB (md:Region.Mode) (ops:Array Oper) (ds:List Nat) (l l':Array Bool) (i:Nat):Bool :=
 Region.noSelect ops && Region.free md ops l i && (Region.ready md ops l).contains i && Region.oq md ops l && Region.lastB md ops l ds i && (l.setIfInBounds i true == l')
theorem lw {i:Nat} {N:Option Tmp} {oi:Oper} {v:Value} {fuel:Nat} {l:Array Bool} {a:Act} {w:World} (l':Array Bool) (hi:ops[i]?=some oi) (hN:oi.dst=N) (hc:takeB md ops ds l l' i=true)
 (hQ:∀ c a w,Q (.panic c) (a.put oi.dst v) w→Q (.panic c) a w) (hy:YieldsIf P ops S oi v a) (hS:S w) {a':Act} (ha:a.put N v=a')
 (h:dP P md ops Q S ds fuel l' a' w):dP P md ops Q S ds (fuel+1) l a w:=by
 subst ha
 subst hN
 simp only [takeB,Bool.and_eq_true,beq_iff_eq] at hc
 obtain ⟨⟨⟨⟨⟨h1,h2⟩,h3⟩,h4⟩,h5⟩,h6⟩:=hc
 subst h6
 exact qQ hi h1 h2 h3 h4 h5 hQ hy hS h
def BG (md:Region.Mode) (ops:Array Oper) (l l':Array Bool) (i:Nat):Bool :=
 Region.noSelect ops && Region.free md ops l i && (Region.ready md ops l).contains i && (l.setIfInBounds i true == l')
theorem dV {i:Nat} {N:Option Tmp} {oi:Oper} {v:Value} {fuel:Nat} {l:Array Bool} {a:Act} {w:World} (l':Array Bool) (hi:ops[i]?=some oi) (hN:oi.dst=N) (hc:BG md ops l l' i=true)
 (hQ:∀ c a w,Q (.panic c) (a.put oi.dst v) w→Q (.panic c) a w) (hy:Yields P ops oi v a) {a':Act} (ha:a.put N v=a')
 (h:dP P md ops Q S ds fuel l' a' w):dP P md ops Q S ds (fuel+1) l a w:=by
 subst ha
 subst hN
 simp only [BG,Bool.and_eq_true,beq_iff_eq] at hc
 obtain ⟨⟨⟨h1,h2⟩,h3⟩,h6⟩:=hc
 subst h6
 exact rE hi (Region.noSelect_spec h1) hQ fuel l a w (Region.free_spec hi h2) (by simpa using h3) hy h
def ut (md:Region.Mode) (ops:Array Oper) (l l':Array Bool) (i:Nat):Bool:=(Region.ready md ops l == [i]) && (l.setIfInBounds i true == l')
theorem BQ {i:Nat} {N:Option Tmp} {oi:Oper} {fuel:Nat} {l:Array Bool} {a:Act} {w:World} (l':Array Bool) (hi:ops[i]?=some oi) (hN:oi.dst=N) (hc:ut md ops l l' i=true) (hd:i ∉ ds)
 (h:∀ K:Act→World→Prop,Shut (∀ a' w',S w'→(S w'→dP P md ops Q S ds fuel l' a' w')→K a' w')→if Region.wanted oi (yielded ops a.tmps)=true then Oper.wp P oi a w K Q else K (a.put N undef) w) :
 dP P md ops Q S ds (fuel+1) l a w:=by
 subst hN
 simp only [ut,Bool.and_eq_true,beq_iff_eq] at hc
 obtain ⟨h1,h2⟩:=hc
 subst h2
 exact pM h1 (by simp) (jF.cons hi hd (fun K hK=>h K hK) jF.nil)
theorem zq {l:Array Bool} {a:Act} {w:World} {n:Nat} (hr:(Region.ready md ops l == [])=true) (h:Q .normal a w):dP P md ops Q S ds n l a w:=qP (by simpa using hr) h n
theorem zh {fuel:Nat} {l:Array Bool} {a a':Act} {w:World} (ha:a=a') (h:dP P md ops Q S ds fuel l a' w):dP P md ops Q S ds fuel l a w:=by
 subst ha
 exact h
theorem call_ {oi:Oper} {N:Option Tmp} {a:Act} {w:World} {K:Act→World→Prop} (f:FuncId) (args:Array Value) (hw:Region.wanted oi (yielded ops a.tmps)=true) (hN:oi.dst=N) (hrun:(execOp a.eval oi).run P w = .ok (.enter f args) w)
 (h:Calls P f args w fun e w'=>∃ v,e = .returned v∧K (a.put N v) w'):if Region.wanted oi (yielded ops a.tmps)=true then Oper.wp P oi a w K Q else K (a.put N undef) w:=by
 rw [if_pos hw]
 subst hN
 unfold Oper.wp
 rw [hrun,Oper.upon_enter]
 refine h.mono fun e w'' hh=>?_
 obtain ⟨v,rfl,hk⟩:=hh
 exact hk
theorem wV {f:FuncId} {fn:Func} (hf:P.funcs[f]?=some fn) (hname:(fn.name == "runtime.NumGoroutine")=false) (hb:fn.body.isSome=true) (args:Array Value) (w:World):(callFunc f args).run P w = .ok (.enter f args) w:=by
 have h1:fn.name ≠ "runtime.NumGoroutine" := by simpa using hname
 obtain ⟨c,hc⟩:=Option.isSome_iff_exists.1 hb
 simp [callFunc,hf,h1,hc]
theorem Aq {oi:Oper} {N:Option Tmp} {a:Act} {w:World} {K:Act→World→Prop} {f:FuncId} {fn:Func} {az:Array Operand} {ts:Array TypeId} (hf:P.funcs[f]?=some fn) (hname:(fn.name == "runtime.NumGoroutine")=false) (hb:fn.body.isSome=true) (args:Array Value)
 (hw:Region.wanted oi (yielded ops a.tmps)=true) (hN:oi.dst=N) (hop:oi.op = .call { callee:=.value (.func f),args:=az,argTypes:=ts }) (hargs:az.map a.eval=args)
 (h:Calls P f args w fun e w'=>∃ v,e = .returned v∧K (a.put N v) w'):if Region.wanted oi (yielded ops a.tmps)=true then Oper.wp P oi a w K Q else K (a.put N undef) w:=by
 refine call_ f args hw hN ?_ h
 have he:=wV hf hname hb args w
 unfold execOp
 simp [hop,resolve,Deferred.ofValue,invoke,Act.eval,hargs,he]
theorem dS {rest:List Oper} {oi:Oper} {a:Act} {w:World} (N:Option Tmp) (hd:oi.dst=N) (hg:oi.guard=none) {f:FuncId} {fn:Func} {az:Array Operand} {ts:Array TypeId} (hf:P.funcs[f]?=some fn) (hname:(fn.name == "runtime.NumGoroutine")=false) (hb:fn.body.isSome=true) (args:Array Value)
 (hop:oi.op = .call { callee:=.value (.func f),args:=az,argTypes:=ts }) (hargs:az.map a.eval=args)
 (h:Calls P f args w fun e w'=>∃ v,e = .returned v∧wpList P ops Q rest (a.put N v) w'):wpList P ops Q (oi :: rest) a w:=by
 refine wpList_plain hg fun K hK=>?_
 have he:=wV hf hname hb args w
 have hrun:(execOp a.eval oi).run P w = .ok (.enter f args) w:=by
  unfold execOp
  simp [hop,resolve,Deferred.ofValue,invoke,Act.eval,hargs,he]
 unfold Oper.wp
 rw [hrun,Oper.upon_enter]
 refine h.mono fun e w'' hh=>?_
 obtain ⟨v,rfl,hk⟩:=hh
 subst hd
 exact hK _ _ hk
theorem En {oi:Oper} {a:Act} {w w1:World} {K:Act→World→Prop} (hw:Region.wanted oi (yielded ops a.tmps)=true) (hN:oi.dst=none) (hrun:(execOp a.eval oi).run P w = .ok .skip w1)
 (h:K a w1):if Region.wanted oi (yielded ops a.tmps)=true then Oper.wp P oi a w K Q else K (a.put none undef) w:=by
 rw [if_pos hw]
 unfold Oper.wp
 rw [hrun]
 show K (a.put oi.dst undef) w1
 rw [hN]
 exact h
theorem bW (n:Int):IntKind.i64.wrap n=Go.RowKit.wrap64 n:=by unfold Go.RowKit.wrap64;exact IntKind.wrap_i64 n
theorem cZ (n:Int):IntKind.i32.wrap n=Go.RowKit.wrap32 n:=by unfold Go.RowKit.wrap32;exact IntKind.wrap_i32 n
end
open Go.Proofs.YtpgfjbimodnkeaaGreatDoorW.PrintWords (ae)
def mM (md:Region.Mode) (o:Oper):List Nat:=(o.after.toList.filter (fun e=>Region.binds md e)).map (fun e=>e.on)
def tq (md:Region.Mode) (ops:Array Oper) (i:Nat) (oi:Oper):List Nat:=(List.range ops.size).filter fun j=>!(j == i) && match ops[j]? with
 | some oj=>!(oj.after.any (fun e=>Region.binds md e && e.on == i) || oi.apart ops oj)
 | none=>false
def kL (md:Region.Mode) (ops:Array Oper):Bool × List (List Nat × List Nat):=(Region.noSelect ops,(List.range ops.size).map fun i=>match ops[i]? with
 | some o=>(mM md o,tq md ops i o)
 | none=>([],[]))
def kN (T:List (List Nat × List Nat)) (l:List Bool) (i:Nat):Bool:=!l.getD i true && match T[i]? with
 | some r=>r.1.all (fun j=>l.getD j false)
 | none=>false
def qA (T:List (List Nat × List Nat)) (l:List Bool):List Nat:=(List.range T.length).filter (kN T l)
def uI (T:List (List Nat × List Nat)) (l:List Bool) (i:Nat):Bool:=match T[i]? with
 | some r=>r.2.all (fun j=>l.getD j true)
 | none=>false
def pR (T:List (List Nat × List Nat)) (l:List Bool):Bool:=(List.range T.length).all fun j=>!l.getD j false || match T[j]? with
 | some r=>r.1.all (fun k=>l.getD k false)
 | none=>true
def oQ (T:List (List Nat × List Nat)) (i:Nat):Nat→Nat→Bool
 | 0,_=>false
 | fuel+1,d=>match T[d]? with
   | some r=>r.1.any fun j=>j == i || oQ T i fuel j
   | none=>false
def lastT (T:List (List Nat × List Nat)) (l:List Bool) (ds:List Nat) (i:Nat):Bool:=ds.all fun d=>l.getD d true || oQ T i T.length d
section
variable {md:Region.Mode} {ops:Array Oper} {T:Bool × List (List Nat × List Nat)} {l l' li lj lk:Array Bool} {ds:List Nat} {i j k:Nat}
theorem gd (l:Array Bool) (j:Nat) (b:Bool):l.getD j b=l.toList.getD j b:=by simp [Array.getD_eq_getD_getElem?,List.getD_eq_getElem?_getD]
theorem rY (o:Oper) (p:Nat→Bool):o.after.all (fun e=>!Region.binds md e || p e.on)=(mM md o).all p:=by
 unfold mM
 rw [← Array.all_toList]
 induction o.after.toList with
 | nil=>rfl
 | cons e r ih =>
   rw [List.all_cons,ih,List.filter_cons]
   cases h:Region.binds md e <;> simp
theorem yu (o:Oper) (p:Nat→Bool):o.after.any (fun e=>Region.binds md e && p e.on)=(mM md o).any p:=by
 unfold mM
 rw [← Array.any_toList]
 induction o.after.toList with
 | nil=>rfl
 | cons e r ih =>
   rw [List.any_cons,ih,List.filter_cons]
   cases h:Region.binds md e <;> simp
theorem kQ:(kL md ops).2.length=ops.size:=by simp [kL]
theorem mV {o:Oper} (h:ops[i]?=some o):(kL md ops).2[i]?=some (mM md o,tq md ops i o):=by
 have hi:=(Array.getElem?_eq_some_iff.1 h).1
 unfold kL
 rw [List.getElem?_map,List.getElem?_range hi,Option.map_some,h]
theorem mD (h:ops[i]?=none):(kL md ops).2[i]?=none:=by
 have hi:ops.size≤i:=Array.getElem?_eq_none_iff.1 h
 exact List.getElem?_eq_none (by rw [kQ];exact hi)
theorem wB:kN (kL md ops).2 l.toList i=(!l.getD i true && ((ops[i]?).map (·.after.all fun e=>!Region.binds md e || l.getD e.on false)).getD false):=by
 unfold kN
 rw [gd]
 cases h:ops[i]? with
 | none=>rw [mD h];rfl
 | some o =>
   rw [mV h]
   simp only [Option.map_some,Option.getD_some]
   rw [← rY]
   simp only [gd]
theorem ready_eq:Region.ready md ops l=qA (kL md ops).2 l.toList:=by
 unfold Region.ready qA
 rw [kQ]
 refine List.filter_congr (fun i _=>?_)
 rw [wB]
theorem free_eq:Region.free md ops l i=uI (kL md ops).2 l.toList i:=by
 unfold Region.free uI
 cases h:ops[i]? with
 | none=>rw [mD h]
 | some oi =>
   rw [mV h]
   simp only [tq]
   rw [List.all_filter]
   congr 1
   funext j
   rw [gd]
   cases hj:ops[j]? with
   | none=>cases (j == i) <;> cases (l.toList.getD j true) <;> simp
   | some oj =>
     cases (j == i) <;> cases (l.toList.getD j true) <;> cases (oj.after.any (fun e=>Region.binds md e && e.on == i) || oi.apart ops oj) <;> simp_all
theorem yS:Region.oq md ops l=pR (kL md ops).2 l.toList:=by
 unfold Region.oq pR
 rw [kQ]
 congr 1
 funext j
 rw [gd]
 cases h:ops[j]? with
 | none=>rw [mD h]
 | some o =>
   rw [mV h]
   simp only
   rw [← rY]
   simp only [gd]
theorem reach_eq:∀ (fuel d:Nat),Region.kD md ops i fuel d=oQ (kL md ops).2 i fuel d
 | 0,_=>rfl
 | fuel+1,d=>by
   unfold Region.kD oQ
   cases h:ops[d]? with
   | none=>rw [mD h]
   | some o =>
     rw [mV h]
     simp only
     rw [← yu]
     congr 1
     funext e
     rw [reach_eq fuel]
theorem CQ:Region.lastB md ops l ds i=lastT (kL md ops).2 l.toList ds i:=by
 unfold Region.lastB lastT
 rw [kQ]
 congr 1
 funext d
 rw [gd,reach_eq]
theorem pg (h:kN T.2 l.toList i=true) (hT:kL md ops=T):(Region.ready md ops l).contains i=true:=by
 subst hT
 rw [ready_eq]
 unfold qA
 rw [List.contains_iff_mem,List.mem_filter,List.mem_range]
 refine ⟨?_,h⟩
 unfold kN at h
 rw [Bool.and_eq_true] at h
 cases hq:(kL md ops).2[i]? with
 | none=>rw [hq] at h;simp at h
 | some r=>exact (List.getElem?_eq_some_iff.1 hq).1
theorem vX (h:(l.toList.set i true == l'.toList)=true):(l.setIfInBounds i true == l')=true:=by
 rw [beq_iff_eq] at h ⊢
 apply Array.ext'
 rw [Array.toList_setIfInBounds]
 exact h
def Ej (T:Bool × List (List Nat × List Nat)) (l l':List Bool) (i:Nat):Bool:=T.1 && uI T.2 l i && kN T.2 l i && (l.set i true == l')
theorem dE (hT:kL md ops=T) (h:Ej T l.toList l'.toList i=true):BG md ops l l' i=true:=by
 simp only [Ej,Bool.and_eq_true] at h
 obtain ⟨⟨⟨h1,h2⟩,h3⟩,h4⟩:=h
 have h5:=pg h3 hT
 have h6:=vX h4
 subst hT
 simp only [BG,Bool.and_eq_true]
 exact ⟨⟨⟨h1,by rw [free_eq];exact h2⟩,h5⟩,h6⟩
def AX (T:Bool × List (List Nat × List Nat)) (ds:List Nat) (l l':List Bool) (i:Nat):Bool:=T.1 && uI T.2 l i && kN T.2 l i && pR T.2 l && lastT T.2 l ds i && (l.set i true == l')
theorem BX (hT:kL md ops=T) (h:AX T ds l.toList l'.toList i=true):takeB md ops ds l l' i=true:=by
 simp only [AX,Bool.and_eq_true] at h
 obtain ⟨⟨⟨⟨⟨h1,h2⟩,h3⟩,h4⟩,h5⟩,h6⟩:=h
 have h7:=pg h3 hT
 have h8:=vX h6
 subst hT
 simp only [takeB,Bool.and_eq_true]
 exact ⟨⟨⟨⟨⟨h1,by rw [free_eq];exact h2⟩,h7⟩,by rw [yS];exact h4⟩,by rw [CQ];exact h5⟩,h8⟩
theorem uo (hT:kL md ops=T) (h:(qA T.2 l.toList == [i] && l.toList.set i true == l'.toList)=true):ut md ops l l' i=true:=by
 simp only [Bool.and_eq_true] at h
 obtain ⟨h1,h2⟩:=h
 subst hT
 simp only [ut,Bool.and_eq_true]
 exact ⟨by rw [ready_eq];exact h1,vX h2⟩
theorem tY (hT:kL md ops=T) (h:(qA T.2 l.toList == [])=true):(Region.ready md ops l == [])=true:=by
 subst hT
 rw [ready_eq]
 exact h
def upM (B:List Nat) (d:Nat):List Nat→Nat
 | []=>0
 | n :: r=>(2 ^ n ||| (if n < d then B.getD n 0 else 0)) ||| upM B d r
def mH (T:List (List Nat × List Nat)) (B:List Nat):Bool:=(List.range T.length).all fun d=>match T[d]? with
 | some r=>(B.getD d 0 ||| upM B d r.1) == upM B d r.1
 | none=>false
theorem xu {B:List Nat} {d i:Nat}:∀ {ns:List Nat},(upM B d ns).testBit i=true→∃ n ∈ ns,n=i∨(n < d∧(B.getD n 0).testBit i=true)
 | [],h=>by simp [upM] at h
 | n :: r,h=>by
   unfold upM at h
   rw [Nat.testBit_or,Nat.testBit_or,Bool.or_eq_true,Bool.or_eq_true] at h
   rcases h with (h | h) | h
   ·rw [Nat.testBit_two_pow] at h
    exact ⟨n,List.mem_cons_self,.inl (by simpa using h)⟩
   ·by_cases hn:n < d
    ·rw [if_pos hn] at h
     exact ⟨n,List.mem_cons_self,.inr ⟨hn,h⟩⟩
    ·rw [if_neg hn] at h
     simp at h
   ·obtain ⟨m,hm,h2⟩:=xu h
    exact ⟨m,List.mem_cons_of_mem _ hm,h2⟩
theorem sN {T:List (List Nat × List Nat)} {B:List Nat} (hB:mH T B=true):∀ (fuel d:Nat),d < fuel→d < T.length→(B.getD d 0).testBit i=true→oQ T i fuel d=true
 | 0,d,h,_,_=>by omega
 | fuel+1,d,h,hd,hb=>by
   have h1:=List.all_eq_true.1 hB d (List.mem_range.2 hd)
   cases hr:T[d]? with
   | none=>rw [hr] at h1;simp at h1
   | some r =>
     rw [hr] at h1
     simp only [beq_iff_eq] at h1
     have h2:(upM B d r.1).testBit i=true:=by rw [← h1,Nat.testBit_or,hb,Bool.true_or]
     obtain ⟨n,hn,h3⟩:=xu h2
     unfold oQ
     rw [hr]
     simp only
     rw [List.any_eq_true]
     refine ⟨n,hn,?_⟩
     rcases h3 with rfl | ⟨h4,h5⟩
     ·simp
     ·rw [sN hB fuel n (by omega) (by omega) h5,Bool.or_true]
def Dl (T:List (List Nat × List Nat)) (B:List Nat) (l:List Bool) (ds:List Nat) (i:Nat):Bool:=ds.all fun d=>l.getD d true || (decide (d < T.length) && (B.getD d 0).testBit i)
def Dn (T:Bool × List (List Nat × List Nat)) (B:List Nat) (ds:List Nat) (l l':List Bool) (i:Nat):Bool:=T.1 && uI T.2 l i && kN T.2 l i && pR T.2 l && Dl T.2 B l ds i && (l.set i true == l')
theorem iJ {B:List Nat} (hT:kL md ops=T) (hB:mH T.2 B=true) (h:Dn T B ds l.toList l'.toList i=true):takeB md ops ds l l' i=true:=by
 refine BX hT ?_
 simp only [Dn,AX,Bool.and_eq_true] at h ⊢
 obtain ⟨⟨⟨⟨⟨h1,h2⟩,h3⟩,h4⟩,h5⟩,h6⟩:=h
 refine ⟨⟨⟨⟨⟨h1,h2⟩,h3⟩,h4⟩,?_⟩,h6⟩
 unfold Dl at h5
 unfold lastT
 rw [List.all_eq_true] at h5 ⊢
 intro d hd
 have h7:=h5 d hd
 rw [Bool.or_eq_true,Bool.and_eq_true,decide_eq_true_eq] at h7
 rcases h7 with h7 | ⟨h8,h9⟩
 ·rw [h7,Bool.true_or]
 ·rw [sN hB _ d h8 h8 h9,Bool.or_true]
theorem oU {P:Program} {Q:Exit→Act→World→Prop} {S:World→Prop} {n:Nat} {a:Act} {w:World} {B:List Nat} (hT:kL md ops=T) (hB:mH T.2 B=true) (h:ae (kL md ops=T)→ae (mH T.2 B=true)→dP P md ops Q S ds n l a w):dP P md ops Q S ds n l a w:=h ⟨hT⟩ ⟨hB⟩
end
def mZ:Code→Nat→Option (Array Oper)
 | .region id ops _,k=>if id == k then some ops else none
 | .seq a b,k=>match mZ a k with
   | some o=>some o
   | none=>mZ b k
 | .cond _ a b,k=>match mZ a k with
   | some o=>some o
   | none=>mZ b k
 | .block _ c,k=>mZ c k
 | .loop c,k=>mZ c k
 | .scope c,k=>mZ c k
 | .rangeFunc _ _ a b,k=>match mZ a k with
   | some o=>some o
   | none=>mZ b k
 | _,_=>none
def opsOf (f:Func) (k:Nat):Array Oper:=((f.body.bind fun c=>mZ c k)).getD #[]
end Go.Proofs.YtpgfjbimodnkeaaGreatDoorW.PrintLast
namespace Go.Proofs.YtpgfjbimodnkeaaGreatDoorW.PrintWords
open Go.RowKit
namespace Kd
def tag {α:Type} (f:Nat→Nat) (d:Kd α):Kd (α × Nat) where
 sz:=d.sz
 E:=d.E
 K:=fun w x cs=>d.K w x.1 cs
 M:=fun w base ok x cs=>d.M w base (fun k=>ok k∧f k=x.2) x.1 cs
 jG:=fun h=>d.jG h
 jE:=fun h=>d.jE h
 gU:=fun hb h=>d.gU hb h
 gz:=fun h=>d.gz h
 fJ:=fun hok h=>d.fJ (fun k hk=>⟨hok k hk.1,hk.2⟩) h
 fO:=fun h=>d.fJ (fun _ hk=>⟨⟨hk.1.1,hk.2⟩,hk.1.2⟩) (d.fO h)
 iw:=fun hm h=>d.iw (fun k hk=>hm k hk.1) h
 gQ:=fun hb h=>d.gQ hb h
def raw (sz:Nat):Kd (List Value) where
 sz:=sz
 E:=[]
 K:=fun _ x cs=>cs=x∧cs.length=sz∧∀ u ∈ cs,u.oneCell'=true
 M:=fun _ _ _ x cs=>cs=x∧cs.length=sz∧∀ u ∈ cs,u.oneCell'=true
 jG:=fun h=>h.2.1
 jE:=fun h=>h.2.2
 gU:=fun _ h=>h
 gz:=fun h=>h
 fJ:=fun _ h=>h
 fO:=fun h=>h
 iw:=fun _ h=>h
 gQ:=fun _ h=>h
def S {α:Type} (d:Kd α) (e:Nat) (w:World) (base:Nat) (ok:Nat→Prop) (v:Value) (xs:List α):Prop:=∃ f,(tag f d).R e w base ok v xs.zipIdx
section
variable {α β:Type} {d:Kd α} {d':Kd β} {e e':Nat} {w w1 W:World} {base b:Nat} {ok ok' okv oku:Nat→Prop} {u v:Value} {xs:List α} {ys:List β}
theorem pU (hE:d.E=[]) (h:d.R e w base ok v xs):d.R e w base (fun k=>some k=v.ownBlock) v xs:=by
 obtain ⟨h0,inner,ho,hr⟩:=h
 refine ⟨fun k hk=>hk.symm,inner,ho,hr.kJ (fun p c hp=>d.fJ (fun k hk=>?_) (d.fO hp))⟩
 obtain ⟨_,_,_,q,hq,_⟩:=hk
 rw [hE] at hq
 cases hq
end
def gap {α:Type} (f:Nat→Nat) (d:Kd α) (i:Nat) (c:List Value):Kd (α × Nat) where
 sz:=d.sz
 E:=d.E
 K:=fun w x cs=>(x.2=i→cs=c∧cs.length=d.sz∧∀ u ∈ cs,u.oneCell'=true)∧(x.2≠i→d.K w x.1 cs)
 M:=fun w base ok x cs=>(x.2=i→cs=c∧cs.length=d.sz∧∀ u ∈ cs,u.oneCell'=true)∧(x.2≠i→d.M w base (fun k=>ok k∧f k=x.2) x.1 cs)
 jG:=fun {w x cs} h=>by
  by_cases hx:x.2=i
  ·exact (h.1 hx).2.1
  ·exact d.jG (h.2 hx)
 jE:=fun {w x cs} h=>by
  by_cases hx:x.2=i
  ·exact (h.1 hx).2.2
  ·exact d.jE (h.2 hx)
 gU:=fun hb h=>⟨h.1,fun hx=>d.gU hb (h.2 hx)⟩
 gz:=fun h=>⟨h.1,fun hx=>d.gz (h.2 hx)⟩
 fJ:=fun hok h=>⟨h.1,fun hx=>d.fJ (fun k hk=>⟨hok k hk.1,hk.2⟩) (h.2 hx)⟩
 fO:=fun h=>⟨h.1,fun hx=>d.fJ (fun _ hk=>⟨⟨hk.1.1,hk.2⟩,hk.1.2⟩) (d.fO (h.2 hx))⟩
 iw:=fun hm h=>⟨h.1,fun hx=>d.iw (fun k hk=>hm k hk.1) (h.2 hx)⟩
 gQ:=fun hb h=>⟨h.1,fun hx=>d.gQ hb (h.2 hx)⟩
def H {α:Type} (d:Kd α) (e:Nat) (w:World) (base:Nat) (ok:Nat→Prop) (v:Value) (xs:List α) (i:Int) (oki:Nat→Prop) (c:List Value):Prop :=
 (∀ k,oki k→ok k)∧∃ f,(gap f d i.toNat c).R e w base (fun k=>ok k∧¬ oki k) v xs.zipIdx
end Kd
end Go.Proofs.YtpgfjbimodnkeaaGreatDoorW.PrintWords
namespace Go.Proofs.YtpgfjbimodnkeaaGreatDoorW.PrintWords
open Go.RowKit
namespace Kd
theorem zy {α:Type} {R:α→List Value→Prop} {size:Nat} {ps:List α} {cs:List Value} (h:gV R size ps cs) (hs0:0 < size) (hR:∀ p c,R p c→∀ u ∈ c,u.oneCell'=true):∀ u ∈ cs,u.oneCell'=true:=by
 intro u hu
 obtain ⟨q,hq,rfl⟩:=List.mem_iff_getElem.1 hu
 have hql:q / size < ps.length:=by
  rw [Nat.div_lt_iff_lt_mul hs0,← h.1]
  exact hq
 refine hR _ _ (h.2 (q / size) _ (List.getElem?_eq_getElem hql)) _ ?_
 rw [List.mem_iff_getElem?]
 refine ⟨q % size,?_⟩
 rw [List.getElem?_take,if_pos (Nat.mod_lt _ hs0),List.getElem?_drop,Nat.mul_comm,Nat.div_add_mod,List.getElem?_eq_getElem hq]
def arr {α:Type} (n:Nat) (d:Kd α) (hs:0 < d.sz):Kd (List α) where
 sz:=n*d.sz
 E:=d.E
 K:=fun w xs cs=>xs.length=n∧gV (d.K w) d.sz xs cs
 M:=fun w base ok xs cs=>xs.length=n∧gV (d.M w base ok) d.sz xs cs
 jG:=fun h=>by rw [← h.1];exact h.2.1
 jE:=fun h=>zy h.2 hs (fun _ _ hk=>d.jE hk)
 gU:=fun hb h=>⟨h.1,h.2.kJ (fun _ _ hk=>d.gU hb hk)⟩
 gz:=fun h=>⟨h.1,h.2.kJ (fun _ _ hk=>d.gz hk)⟩
 fJ:=fun hok h=>⟨h.1,h.2.kJ (fun _ _ hk=>d.fJ hok hk)⟩
 fO:=fun h=>⟨h.1,h.2.kJ (fun _ _ hk=>d.fO hk)⟩
 iw:=fun hm h=>⟨h.1,h.2.kJ (fun _ _ hk=>d.iw hm hk)⟩
 gQ:=fun hb h=>⟨h.1,h.2.kJ (fun _ _ hk=>d.gQ hb hk)⟩
end Kd
end Go.Proofs.YtpgfjbimodnkeaaGreatDoorW.PrintWords
namespace Go.Proofs.YtpgfjbimodnkeaaGreatDoorW.PrintWords
open Go.RowKit
def Kept (w W:World) (S:Nat→Prop):Prop:=w.heap.size≤W.heap.size∧∀ i,i < w.heap.size→¬ S i→W.heap[i]?=w.heap[i]?
section
variable {w W W2:World} {S S2 S':Nat→Prop}
theorem Kept.refl (w:World) (S:Nat→Prop):Kept w w S:=⟨Nat.le_refl _,fun _ _ _=>rfl⟩
theorem Kept.of_below (h:Below w.heap.size w W) (S:Nat→Prop):Kept w W S:=⟨h.size,fun i hi _=>h.block i hi⟩
theorem Kept.Dp (h:Kept w W S) (k:Kept W W2 S2) (hs:∀ k,S2 k→S k∨w.heap.size≤k):Kept w W2 S :=
 ⟨Nat.le_trans h.1 k.1,fun i hi hn=>(k.2 i (Nat.lt_of_lt_of_le hi h.1) (fun h2=>(hs i h2).elim hn (fun h3=>by omega))).trans (h.2 i hi hn)⟩
theorem Kept.jO {row:Option Nat} (hg:W.grownBy W2 row) (h:Kept w W S) (hr:∀ k,row=some k→S k∨w.heap.size≤k):Kept w W2 S :=
 h.Dp (S2:=fun k=>row=some k) ⟨hg.size,fun i hi hn=>hg.block i hi (fun he=>hn he.symm)⟩ hr
theorem Kept.below (h:Kept w W S) (hb:Below W.heap.size W W2):Kept w W2 S:=h.Dp (Kept.of_below hb (fun _=>False)) (fun _ hk=>hk.elim)
theorem Kept.drewN (h:Kept w W S) (m:Nat):Kept w (W.drewN m) S:=h
end
end Go.Proofs.YtpgfjbimodnkeaaGreatDoorW.PrintWords
namespace Go.Proofs.YtpgfjbimodnkeaaGreatDoorW.PrintWords
open Go.RowKit
def Cc (P:World→Prop) (W:World) (ok:Nat→Prop):Prop:=∀ W':World,(∀ k,ok k→k < W.heap.size→W'.heap[k]?=W.heap[k]?)→P W'
namespace Cc
variable {P Q:World→Prop} {W W1:World} {ok ok':Nat→Prop}
end Cc
namespace Kd
def F {α:Type} (d:Kd α) (W:World) (ok:Nat→Prop) (A:Option Addr) (n:Nat) (xs:List α):Prop:=Cc (fun W=>d.C W A n xs) W ok
def FK {α:Type} (d:Kd α) (W:World) (ok:Nat→Prop) (x:α) (c:List Value):Prop:=Cc (fun W=>d.K W x c) W ok
end Kd
end Go.Proofs.YtpgfjbimodnkeaaGreatDoorW.PrintWords
namespace Go.Proofs.YtpgfjbimodnkeaaGreatDoorW.PrintWords
open Go.RowKit
namespace Kd
section
variable {α:Type} {d:Kd α} {e base n cc g:Nat} {ok ok' okp S:Nat→Prop} {w w1 W W1:World} {A:Option Addr} {u v v1:Value} {xs:List α} {x:α} {c:List Value}
def N {α:Type} (d:Kd α) (e:Nat) (w:World) (base:Nat) (ok:Nat→Prop) (v:Value) (xs:List α):Prop :=
 (∀ k,v.ownBlock=some k→ok k)∧∃ rows:List (List Value),rows.length=xs.length∧(raw d.sz).R e w base (fun k=>some k=v.ownBlock) v rows∧∀ (j:Nat) (x:α) (c:List Value),xs[j]?=some x→rows[j]?=some c→FK d w (fun k=>ok k∧some k≠v.ownBlock) x c
end
end Kd
end Go.Proofs.YtpgfjbimodnkeaaGreatDoorW.PrintWords
