/- FnGjGroupText: whatever text comes in, the law returns true and the text reads afterwards as before; with the fourteen package-level variables that its row lists as the text of the program lays them (the tied card) (part 2 of 33: lemmas for its last part) -/
import Derived.Laws.StructEq
import Derived.Test.YtpgfjbimodnkeaaGreatDoorProg
import Derived.Below
import Derived.Deep.Draws
import Derived.Deep.AppendLies
import Derived.Maps.AppendAt
import Derived.OwnWalk
import Derived.Laws.BytesArg
import Derived.Laws.MakeOwn
import Derived.Laws.OwnMore
import Derived.Deep.OwnRows
import Derived.Tactics
import Derived.Lib.ConvBytes
import Derived.Laws.Slices
import Derived.WalkKit
import Derived.KernelRfl
import Derived.RowKit3
import Derived.Deep.LoopGhost
import Derived.Deep.QuietTactic
import Derived.BigQuiet
import Derived.WideLaws
import Derived.Deep.DeepCutAuto
import Derived.Deep.CutBlock
import Derived.Deep.RegionHeld3
import Derived.Laws.Rows
import Derived.Lib.AppendStr
import Derived.ArgAppend
import Derived.Laws.IdiomCopy
import Derived.OrdersHeld
import Derived.Laws.BitsLemmas
import Derived.RowKit
import Derived.WalkMore
import Derived.Test.YtpgfjbimodnkeaaGreatDoorGrp1
set_option maxHeartbeats 16000000
set_option maxRecDepth 100000
set_option linter.unusedVariables false
set_option linter.unusedSimpArgs false
namespace Go.Proofs.YtpgfjbimodnkeaaGreatDoorW.PrintWords
open Go.RowKit
namespace Kd
def tag {α:Type} (f:Nat→Nat) (d:Kd α):Kd (α × Nat) where
 sz:=d.sz
 E:=d.E
 K:=fun w x cs=>d.K w x.1 cs
 M:=fun w base ok x cs=>d.M w base (fun k=>ok k∧f k=x.2) x.1 cs
 kD:=fun h=>d.kD h
 jU:=fun h=>d.jU h
 iC:=fun hb h=>d.iC hb h
 iy:=fun h=>d.iy h
 gy:=fun hok h=>d.gy (fun k hk=>⟨hok k hk.1,hk.2⟩) h
 gp:=fun h=>d.gy (fun _ hk=>⟨⟨hk.1.1,hk.2⟩,hk.1.2⟩) (d.gp h)
 iT:=fun hm h=>d.iT (fun k hk=>hm k hk.1) h
 iK:=fun hb h=>d.iK hb h
def raw (sz:Nat):Kd (List Value) where
 sz:=sz
 E:=[]
 K:=fun _ x cs=>cs=x∧cs.length=sz∧∀ u ∈ cs,u.oneCell'=true
 M:=fun _ _ _ x cs=>cs=x∧cs.length=sz∧∀ u ∈ cs,u.oneCell'=true
 kD:=fun h=>h.2.1
 jU:=fun h=>h.2.2
 iC:=fun _ h=>h
 iy:=fun h=>h
 gy:=fun _ h=>h
 gp:=fun h=>h
 iT:=fun _ h=>h
 iK:=fun _ h=>h
def S {α:Type} (d:Kd α) (e:Nat) (w:World) (base:Nat) (ok:Nat→Prop) (v:Value) (xs:List α):Prop:=∃ f,(tag f d).R e w base ok v xs.zipIdx
section
variable {α β:Type} {d:Kd α} {d':Kd β} {e e':Nat} {w w1 W:World} {base b:Nat} {ok ok' okv oku:Nat→Prop} {u v:Value} {xs:List α} {ys:List β}
theorem rQ (hE:d.E=[]) (h:d.R e w base ok v xs):d.R e w base (fun k=>some k=v.ownBlock) v xs:=by
 obtain ⟨h0,inner,ho,hr⟩:=h
 refine ⟨fun k hk=>hk.symm,inner,ho,hr.lm (fun p c hp=>d.gy (fun k hk=>?_) (d.gp hp))⟩
 obtain ⟨_,_,_,q,hq,_⟩:=hk
 rw [hE] at hq
 cases hq
end
def gap {α:Type} (f:Nat→Nat) (d:Kd α) (i:Nat) (c:List Value):Kd (α × Nat) where
 sz:=d.sz
 E:=d.E
 K:=fun w x cs=>(x.2=i→cs=c∧cs.length=d.sz∧∀ u ∈ cs,u.oneCell'=true)∧(x.2≠i→d.K w x.1 cs)
 M:=fun w base ok x cs=>(x.2=i→cs=c∧cs.length=d.sz∧∀ u ∈ cs,u.oneCell'=true)∧(x.2≠i→d.M w base (fun k=>ok k∧f k=x.2) x.1 cs)
 kD:=fun {w x cs} h=>by
  by_cases hx:x.2=i
  ·exact (h.1 hx).2.1
  ·exact d.kD (h.2 hx)
 jU:=fun {w x cs} h=>by
  by_cases hx:x.2=i
  ·exact (h.1 hx).2.2
  ·exact d.jU (h.2 hx)
 iC:=fun hb h=>⟨h.1,fun hx=>d.iC hb (h.2 hx)⟩
 iy:=fun h=>⟨h.1,fun hx=>d.iy (h.2 hx)⟩
 gy:=fun hok h=>⟨h.1,fun hx=>d.gy (fun k hk=>⟨hok k hk.1,hk.2⟩) (h.2 hx)⟩
 gp:=fun h=>⟨h.1,fun hx=>d.gy (fun _ hk=>⟨⟨hk.1.1,hk.2⟩,hk.1.2⟩) (d.gp (h.2 hx))⟩
 iT:=fun hm h=>⟨h.1,fun hx=>d.iT (fun k hk=>hm k hk.1) (h.2 hx)⟩
 iK:=fun hb h=>⟨h.1,fun hx=>d.iK hb (h.2 hx)⟩
def H {α:Type} (d:Kd α) (e:Nat) (w:World) (base:Nat) (ok:Nat→Prop) (v:Value) (xs:List α) (i:Int) (oki:Nat→Prop) (c:List Value):Prop :=
 (∀ k,oki k→ok k)∧∃ f,(gap f d i.toNat c).R e w base (fun k=>ok k∧¬ oki k) v xs.zipIdx
end Kd
end Go.Proofs.YtpgfjbimodnkeaaGreatDoorW.PrintWords
namespace Go.Proofs.YtpgfjbimodnkeaaGreatDoorW.PrintWords
open Go.RowKit
namespace Kd
theorem Ec {α:Type} {R:α→List Value→Prop} {size:Nat} {ps:List α} {cs:List Value} (h:gW R size ps cs) (hs0:0 < size) (hR:∀ p c,R p c→∀ u ∈ c,u.oneCell'=true):∀ u ∈ cs,u.oneCell'=true:=by
 intro u hu
 obtain ⟨q,hq,rfl⟩:=List.mem_iff_getElem.1 hu
 have hql:q / size < ps.length:=by
  rw [Nat.div_lt_iff_lt_mul hs0,← h.1]
  exact hq
 refine hR _ _ (h.2 (q / size) _ (List.getElem?_eq_getElem hql)) _ ?_
 rw [List.mem_iff_getElem?]
 refine ⟨q % size,?_⟩
 rw [List.getElem?_take,if_pos (Nat.mod_lt _ hs0),List.getElem?_drop,Nat.mul_comm,Nat.div_add_mod,List.getElem?_eq_getElem hq]
def arr {α:Type} (n:Nat) (d:Kd α) (hs:0 < d.sz):Kd (List α) where
 sz:=n*d.sz
 E:=d.E
 K:=fun w xs cs=>xs.length=n∧gW (d.K w) d.sz xs cs
 M:=fun w base ok xs cs=>xs.length=n∧gW (d.M w base ok) d.sz xs cs
 kD:=fun h=>by rw [← h.1];exact h.2.1
 jU:=fun h=>Ec h.2 hs (fun _ _ hk=>d.jU hk)
 iC:=fun hb h=>⟨h.1,h.2.lm (fun _ _ hk=>d.iC hb hk)⟩
 iy:=fun h=>⟨h.1,h.2.lm (fun _ _ hk=>d.iy hk)⟩
 gy:=fun hok h=>⟨h.1,h.2.lm (fun _ _ hk=>d.gy hok hk)⟩
 gp:=fun h=>⟨h.1,h.2.lm (fun _ _ hk=>d.gp hk)⟩
 iT:=fun hm h=>⟨h.1,h.2.lm (fun _ _ hk=>d.iT hm hk)⟩
 iK:=fun hb h=>⟨h.1,h.2.lm (fun _ _ hk=>d.iK hb hk)⟩
end Kd
end Go.Proofs.YtpgfjbimodnkeaaGreatDoorW.PrintWords
namespace Go.Proofs.YtpgfjbimodnkeaaGreatDoorW.PrintWords
open Go.RowKit
def Kept (w W:World) (S:Nat→Prop):Prop:=w.heap.size≤W.heap.size∧∀ i,i < w.heap.size→¬ S i→W.heap[i]?=w.heap[i]?
section
variable {w W W2:World} {S S2 S':Nat→Prop}
theorem Kept.refl (w:World) (S:Nat→Prop):Kept w w S:=⟨Nat.le_refl _,fun _ _ _=>rfl⟩
theorem Kept.of_below (h:Below w.heap.size w W) (S:Nat→Prop):Kept w W S:=⟨h.size,fun i hi _=>h.block i hi⟩
theorem Kept.GH (h:Kept w W S) (k:Kept W W2 S2) (hs:∀ k,S2 k→S k∨w.heap.size≤k):Kept w W2 S :=
 ⟨Nat.le_trans h.1 k.1,fun i hi hn=>(k.2 i (Nat.lt_of_lt_of_le hi h.1) (fun h2=>(hs i h2).elim hn (fun h3=>by omega))).trans (h.2 i hi hn)⟩
theorem Kept.jW {row:Option Nat} (hg:W.grownBy W2 row) (h:Kept w W S) (hr:∀ k,row=some k→S k∨w.heap.size≤k):Kept w W2 S :=
 h.GH (S2:=fun k=>row=some k) ⟨hg.size,fun i hi hn=>hg.block i hi (fun he=>hn he.symm)⟩ hr
theorem Kept.below (h:Kept w W S) (hb:Below W.heap.size W W2):Kept w W2 S:=h.GH (Kept.of_below hb (fun _=>False)) (fun _ hk=>hk.elim)
theorem Kept.drewN (h:Kept w W S) (m:Nat):Kept w (W.drewN m) S:=h
end
end Go.Proofs.YtpgfjbimodnkeaaGreatDoorW.PrintWords
namespace Go.Proofs.YtpgfjbimodnkeaaGreatDoorW.PrintWords
open Go.RowKit
def FW (P:World→Prop) (W:World) (ok:Nat→Prop):Prop:=∀ W':World,(∀ k,ok k→k < W.heap.size→W'.heap[k]?=W.heap[k]?)→P W'
namespace FW
variable {P Q:World→Prop} {W W1:World} {ok ok':Nat→Prop}
end FW
namespace Kd
def F {α:Type} (d:Kd α) (W:World) (ok:Nat→Prop) (A:Option Addr) (n:Nat) (xs:List α):Prop:=FW (fun W=>d.C W A n xs) W ok
def FK {α:Type} (d:Kd α) (W:World) (ok:Nat→Prop) (x:α) (c:List Value):Prop:=FW (fun W=>d.K W x c) W ok
end Kd
end Go.Proofs.YtpgfjbimodnkeaaGreatDoorW.PrintWords
namespace Go.Proofs.YtpgfjbimodnkeaaGreatDoorW.PrintWords
open Go.RowKit
namespace Kd
section
variable {α:Type} {d:Kd α} {e base n cc g:Nat} {ok ok' okp S:Nat→Prop} {w w1 W W1:World} {A:Option Addr} {u v v1:Value} {xs:List α} {x:α} {c:List Value}
def N {α:Type} (d:Kd α) (e:Nat) (w:World) (base:Nat) (ok:Nat→Prop) (v:Value) (xs:List α):Prop :=
 (∀ k,v.ownBlock=some k→ok k)∧∃ rows:List (List Value),rows.length=xs.length∧(raw d.sz).R e w base (fun k=>some k=v.ownBlock) v rows∧∀ (j:Nat) (x:α) (c:List Value),xs[j]?=some x→rows[j]?=some c→FK d w (fun k=>ok k∧some k≠v.ownBlock) x c
end
end Kd
end Go.Proofs.YtpgfjbimodnkeaaGreatDoorW.PrintWords
namespace Go.Proofs.YtpgfjbimodnkeaaGreatDoorW.PrintWords
theorem gW.one {α:Type} {R:α→List Value→Prop} {ps:List α} {cs:List Value} {p:α} {v:Value} (hp:R p [v]) (h:gW R 1 ps cs):gW R 1 (p :: ps) (v :: cs):=by
 refine ⟨by simp [h.1],fun j q hq=>?_⟩
 cases j with
 | zero =>
   simp only [List.getElem?_cons_zero,Option.some.injEq] at hq
   subst hq
   simpa using hp
 | succ j =>
   simp only [List.getElem?_cons_succ] at hq
   have h1:=h.2 j q hq
   simpa [Nat.mul_one] using h1
open Go.RowKit
section
variable {P:Program} {ops:Array Oper} {rest:List Oper} {o:Oper} {a:Act} {Q:Exit→Act→World→Prop} {W:World}
theorem sJ (hw:Region.wanted o (yielded ops a.tmps)=true) (h:wpList P ops Q ({ o with guard:=none } :: rest) a W):wpList P ops Q (o :: rest) a W:=by
 have h1:Region.wanted { o with guard:=none } (yielded ops a.tmps)=true:=rfl
 unfold wpList at h ⊢
 rw [if_pos h1] at h
 rw [if_pos hw]
 exact h
end
end Go.Proofs.YtpgfjbimodnkeaaGreatDoorW.PrintWords
namespace Go.Proofs.YtpgfjbimodnkeaaGreatDoorW.PrintMore
open Go.RowKit Go.Proofs.YtpgfjbimodnkeaaGreatDoorW.PrintWords
theorem dK (k k':IntKind) (x y:Int):Builtin.max2 (.int k x) (.int k' y)=pure (.int k (if x < y then y else x)):=by simp only [Builtin.max2,gt_iff_lt]
theorem dJ (k k':IntKind) (x y:Int):Builtin.min2 (.int k x) (.int k' y)=pure (.int k (if y < x then y else x)):=by simp only [Builtin.min2]
theorem dZ (ats:Array TypeId) (ty:TypeId) (a b:Value):Builtin.max_ ats ty #[a,b]=(Builtin.max2 a b >>= fun s=>pure s):=by simp only [Builtin.max_,List.foldlM_cons,List.foldlM_nil]
theorem ed (ats:Array TypeId) (ty:TypeId) (a b:Value):Builtin.min_ ats ty #[a,b]=(Builtin.min2 a b >>= fun s=>pure s):=by simp only [Builtin.min_,List.foldlM_cons,List.foldlM_nil]
theorem dC (ats:Array TypeId) (ty:TypeId) (a b c:Value):Builtin.max_ ats ty #[a,b,c]=(Builtin.max2 a b >>= fun s=>Builtin.max2 s c >>= fun s=>pure s):=by simp only [Builtin.max_,List.foldlM_cons,List.foldlM_nil]
theorem dD (ats:Array TypeId) (ty:TypeId) (a b c:Value):Builtin.min_ ats ty #[a,b,c]=(Builtin.min2 a b >>= fun s=>Builtin.min2 s c >>= fun s=>pure s):=by simp only [Builtin.min_,List.foldlM_cons,List.foldlM_nil]
theorem dN (ats:Array TypeId) (ty:TypeId) (a b c d:Value):Builtin.max_ ats ty #[a,b,c,d]=(Builtin.max2 a b >>= fun s=>Builtin.max2 s c >>= fun s=>Builtin.max2 s d >>= fun s=>pure s):=by simp only [Builtin.max_,List.foldlM_cons,List.foldlM_nil]
theorem dM (ats:Array TypeId) (ty:TypeId) (a b c d:Value):Builtin.min_ ats ty #[a,b,c,d]=(Builtin.min2 a b >>= fun s=>Builtin.min2 s c >>= fun s=>Builtin.min2 s d >>= fun s=>pure s):=by simp only [Builtin.min_,List.foldlM_cons,List.foldlM_nil]
end Go.Proofs.YtpgfjbimodnkeaaGreatDoorW.PrintMore
namespace Go.Proofs.YtpgfjbimodnkeaaGreatDoorW.PrintWords
open Go.RowKit
section
variable {P:Program} {ops:Array Oper} {rest:List Oper} {o:Oper} {a:Act} {Q:Exit→Act→World→Prop} {W:World}
theorem bF {f:FuncId} {az:Array Operand} {ts:Array TypeId} (_ho:o.op = .call { callee:=.value (.func f),args:=az,argTypes:=ts }) (h:wpList P ops Q (o :: rest) a W):wpList P ops Q (o :: rest) a W:=h
theorem cO {b:Builtin} {xs:Array Operand} {ts:Array TypeId} (_ho:o.op = .call { callee:=.builtin b,args:=xs,argTypes:=ts }) (h:wpList P ops Q (o :: rest) a W):wpList P ops Q (o :: rest) a W:=h
end
theorem kG (w:World) (n:Nat):w.drewN n=w.drewN n:=rfl
end Go.Proofs.YtpgfjbimodnkeaaGreatDoorW.PrintWords
namespace Go.Proofs.YtpgfjbimodnkeaaGreatDoorW.PrintWords
open Go.RowKit
namespace Kd
def V {α:Type} (d:Kd α) (_e:Nat) (W:World) (_base:Nat) (ok:Nat→Prop) (v:Value) (xs:List α):Prop:=∃ A c,v = .slice A xs.length c∧xs.length≤c∧F d W ok A xs.length xs
section
variable {α β:Type} {d:Kd α} {e base base' n m c g N' lo hi:Nat} {ok ok' S:Nat→Prop} {w W w1:World} {A:Option Addr} {ad:Addr} {u v v1:Value} {xs:List α}
theorem wM {M:Nat→Prop} (h:d.R e w1 W.heap.size ok v xs) (hle:w.heap.size≤W.heap.size) (hM:∀ k,w.heap.size≤k→M k):d.R e w1 W.heap.size (fun k=>M k∧ok k) v xs:=dR (jP h) (fun k hk=>⟨hM k (Nat.le_trans hle hk.2.1),hk.1⟩)
end
end Kd
end Go.Proofs.YtpgfjbimodnkeaaGreatDoorW.PrintWords
namespace Go.Proofs.YtpgfjbimodnkeaaGreatDoorW.PrintWords
open Go.RowKit
@[go_sem] theorem EF {P:Program} {w:World} {a:Addr} {m:Mode} (k:FloatKind) (b:Nat):(store a (.float k b) m).run P w=stored P w a (.float k b) m:=run_store P w a _ m rfl
section
variable {P:Program} {ops:Array Oper} {rest:List Oper} {o:Oper} {a:Act} {Q:Exit→Act→World→Prop}
theorem qW (w:World) (base:Nat) (t u ty e:TypeId) (i:TypeInfo) (ht:P.underlying t=some (.slice e)) (hu:P.underlying u=some .string) (hi:P.info? e=some i) (hz:i.zero=some (.int .u8 0))
 (hsize:i.size=1) (hby:i.bytes=1) (v:Value) (n:Nat) (xs:List Value) (hown:w.ownsRow base e 1 v n xs) (s:ByteArray) (h63:n+s.size≤maxLen) (hbytes:n+s.size≤140737488355328)
 {v':Value} {w':World} (hr:(Builtin.append_ #[t,u] ty #[v,.string s]).run P w = .ok v' w'):v'.ownBlock=v.ownBlock∨v'.ownBlock=some w.heap.size:=by
 have hsmall:n+s.size≤9223372036854775807:=by simp only [maxLen] at h63;omega
 have hxl:xs.length=n:=by simpa using hown.1
 rcases hown.2 with ⟨rfl,rfl⟩ | ⟨g,cap,cur,rfl,hbg,hg,hnc,hcm,hcs,htake⟩
 ·by_cases hm:s.size=0
  ·have hf:=Lib.run_firstCells_string (P:=P) w 1 s
   rw [hm] at hf
   simp [Builtin.append_,run_underlying ht,run_underlying hu,sizeOf,typeInfo,hi,hsize,Builtin.lenOf,hm,hf] at hr
   exact .inl (by rw [← hr.1])
  ·have h1:=run_append_nil_string (P:=P) w t u ty e i (.int .u8 0) ht hu hi hz s (by omega) (by omega) (by rw [hby];omega)
   rw [h1] at hr
   injection hr with hv _
   exact .inr (by rw [← hv];rfl)
 ·by_cases hroom:n+s.size≤cap
  ·have hcs':cur.size=cap:=by simpa using hcs
   have h1:=Lib.run_append_room_string (P:=P) w t u ty e i ht hu hi hsize g n cap cur hg s hroom (by omega)
   rw [h1] at hr
   injection hr with hv _
   exact .inl (by rw [← hv];rfl)
  ·have holds:∀ j u,xs[j]?=some u→w.cell? ((⟨g,0,none⟩:Addr).add j)=some u:=hown.cells (g:=g) rfl
   have h1:=Lib.run_append_grow_string (P:=P) w t u ty e i (.int .u8 0) ht hu hi hz ⟨g,0,none⟩ n cap xs (by rw [hsize];simpa using hxl) holds s (by omega) (by omega) (by rw [hby];exact growslice_fits (by omega) (by omega))
   rw [h1] at hr
   injection hr with hv _
   exact .inr (by rw [← hv];rfl)
end
namespace Kd
section
variable {α:Type} {P:Program} {ops:Array Oper} {Q:Exit→Act→World→Prop} {rest:List Oper} {o:Oper} {a:Act}
theorem AQ (d:Kd α) {w0 W:World} (base e:Nat) (hgd:o.guard=none) {N:Tmp} (_hd:o.dst=some N) (t:TypeId) (x y:Operand) (ho:o.op = .makeSlice t x y) (n:Int) (hx:a.eval x = .int .i64 0) (hy:a.eval y = .int .i64 n)
 (ht:P.underlying t=some (.slice e)) (z:Value) (bytes:Nat) (hinfo:(P.info? e).map (fun i=>(i.zero,i.size,i.bytes))=some (some z,d.sz,bytes)) (hb0:0 < bytes)
 {ok:Nat→Prop} (hfresh:ok W.heap.size) (h0:0≤n) (hl:n.toNat*bytes≤281474976710656) (HB:Below base w0 W) (hbase:base≤W.heap.size)
 (h:∀ v1 w1,d.R e w1 base ok v1 []→Below base w0 w1→W.grownBy w1 none→(∃ b,v1.ownBlock=some b∧W.heap.size≤b)→wpList P ops Q rest (a.put o.dst v1) w1):wpList P ops Q (o :: rest) a W:=by
 obtain ⟨m,rfl⟩:=Int.eq_ofNat_of_zero_le h0
 simp only [Int.toNat_natCast] at hl
 obtain ⟨i0,hi,hzz⟩:=Option.map_eq_some_iff.1 hinfo
 simp only [Prod.mk.injEq] at hzz
 obtain ⟨hz0,hz1,hz2⟩:=hzz
 have hm:m≤281474976710656:=Nat.le_trans (Nat.le_mul_of_pos_right _ hb0) hl
 have hr:=run_make (P:=P) W t e i0 z ht hi hz0 .i64 .i64 (0:Int) (m:Int) (by omega) (by omega)
  (by
    have h3:((i0.bytes*m:Nat):Int)≤281474976710656:=by rw [hz2,Nat.mul_comm];omega
    rwa [Int.natCast_mul] at h3) (by omega)
 rw [hz1] at hr
 have hrun:(execOp a.eval o).run P W = .ok (.value (.slice (some ⟨W.heap.size,0,none⟩) 0 m)) (W.alloc (.cells (madeCells z.cells (m*d.sz)) e)):=by
  simp only [Int.toNat_natCast,Int.toNat_zero] at hr
  simp [execOp,ho,hx,hy,hr]
 have hsz:(madeCells z.cells (m*d.sz)).size=m*d.sz:=by simp [size_madeCells]
 have hown:(W.alloc (.cells (madeCells z.cells (m*d.sz)) e)).ownsRow base e d.sz (.slice (some ⟨W.heap.size,0,none⟩) 0 m) 0 []:=by
  have h2:=World.ownsRow_lit (base:=base) (e:=e) (size:=d.sz) W (madeCells z.cells (m*d.sz)) m hbase (by simp [maxLen];omega) hsz
  have h4:=xO h2 (Nat.zero_le m)
  simpa using h4
 refine qQ hgd hrun (h _ _ ⟨fun k hk=>?_,[],hown,gW.none _ _⟩ (HB.alloc hbase _) (World.grownBy_alloc W _ none) ⟨W.heap.size,by simp [Value.ownBlock],Nat.le_refl _⟩)
 have:W.heap.size=k:=by simpa [Value.ownBlock] using hk
 subst this
 exact hfresh
end
end Kd
end Go.Proofs.YtpgfjbimodnkeaaGreatDoorW.PrintWords
namespace Go.Proofs.YtpgfjbimodnkeaaGreatDoor.Q
open Go.RowKit Go.Proofs.YtpgfjbimodnkeaaGreatDoorW.PrintWords Go.Proofs.YtpgfjbimodnkeaaGreatDoorW.PrintLast Go.Proofs.YtpgfjbimodnkeaaGreatDoorW.PrintMore
attribute [local go_sem] dK dJ dZ ed dC dD dN dM
def IG:Option Int→Value
 | none => .nilIface
 | some c => .iface 152 (.int .i64 c)
theorem bz:IG none = .nilIface:=rfl
theorem bC (c:Int):IG (some c) = .iface 152 (.int .i64 c):=rfl
theorem info5:(Tryz.prog.info? 5).map (fun i=>(i.zero,i.size,i.bytes))=some (some (.int .u8 0),1,1):=by kernel_rfl
theorem info9:(Tryz.prog.info? 9).map (fun i=>(i.zero,i.size,i.bytes))=some (some (.string ⟨#[]⟩),1,16):=by kernel_rfl
theorem info25:(Tryz.prog.info? 25).map (fun i=>(i.zero,i.size,i.bytes))=some (some (.agg #[(.int .i64 0),(.string ⟨#[]⟩),(.slice none 0 0),(.slice none 0 0)]),4,72):=by kernel_rfl
theorem Em:(Tryz.prog.info? 32).map (fun i=>(i.zero,i.size,i.bytes))=some (some (.agg #[(.int .i64 0),(.int .i64 0),(.int .i64 0),(.slice none 0 0),(.slice none 0 0)]),5,72):=by kernel_rfl
theorem G5:(Tryz.prog.info? 44).map (fun i=>(i.zero,i.size,i.bytes))=some (some (.agg #[(.int .i64 0),(.int .i64 0)]),2,16):=by kernel_rfl
structure S44 where
 f0:Int
 f1:Int
def z44:S44:=⟨(0:Int),(0:Int)⟩
def k44:Kd S44:=Kd.iso (Kd.pair (Kd.int .i64) (Kd.int .i64)) (fun x:S44=>(x.f0,x.f1))
theorem Et {w:World} {x:S44} {cs:List Value} (h:k44.K w x cs):cs=[.int .i64 x.f0,.int .i64 x.f1]:=by
 obtain ⟨_,_,rfl,rfl,rfl⟩:=h
 exact rfl
theorem FQ (w:World) (base:Nat) (ok:Nat→Prop) (x:S44)  : k44.M w base ok x [.int .i64 x.f0,.int .i64 x.f1]:=⟨[.int .i64 x.f0],[.int .i64 x.f1],rfl,rfl,rfl⟩
def kW (xs:List S44) (i:Int):S44:=xs.getD i.toNat z44
theorem G7 {w:World} {A:Option Addr} {n:Nat} {xs:List S44} (h:Kd.C k44 w A n xs) (i:Int) (h0:0≤i) (h1:i < n):∃ ad ,A=some ad∧w.cell? (ad.add (i.toNat*2))=some (.int .i64 (kW xs i).f0)∧w.cell? ⟨(ad.add (i.toNat*2)).block,(ad.add (i.toNat*2)).off+1,none⟩=some (.int .i64 (kW xs i).f1):=by
 obtain ⟨ad,c,e,_,hK,hc0⟩:=Kd.Ea h z44 i h0 h1
 have hc:∀ j u,c[j]?=some u→w.cell? (ad.add (i.toNat*2+j))=some u:=hc0
 obtain rfl:=Et hK
 exact ⟨ad,e,hc 0 _ rfl,by rw [← jT _ _ 1 (by omega)];exact hc 1 _ rfl⟩
structure S32 where
 f0:Int
 f1:Int
 f2:Int
 f3:(List S44)
 f4:(List S32)
def z32:S32:=⟨(0:Int),(0:Int),(0:Int),([]:List S44),([]:List S32)⟩
def F32 (d:Kd S32):Kd S32:=Kd.iso (Kd.pair (Kd.int .i64) (Kd.pair (Kd.int .i64) (Kd.pair (Kd.int .i64) (Kd.pair (Kd.slice 44 k44) (Kd.slice 32 d))))) (fun x:S32=>(x.f0,x.f1,x.f2,x.f3,x.f4))
theorem Du:Kd.mQ F32:=Kd.xE _ (Kd.kH (Kd.jR _) (Kd.kH (Kd.jR _) (Kd.kH (Kd.jR _) (Kd.kH (Kd.jR _) (Kd.tV 32 Kd.zZ)))))
theorem Ip:Kd.Sub F32 [32,44]:=Kd.zW _ (Kd.lw (Kd.kE _ (by decide)) (Kd.lw (Kd.kE _ (by decide)) (Kd.lw (Kd.kE _ (by decide)) (Kd.lw (Kd.kE _ (by decide)) (Kd.uM 32 (by decide) Kd.Dt)))))
theorem IM:∀ n,(Kd.upto F32 5 [32,44] n).sz=5:=Kd.zY (fun _=>rfl)
def k32:Kd S32:=Kd.fix F32 5 [32,44] IM (Kd.yD Ip)
theorem CW {w:World} {x:S32} {cs:List Value} (h:k32.K w x cs):∃ A3 c3 A4 c4,cs=[.int .i64 x.f0,.int .i64 x.f1,.int .i64 x.f2,.slice A3 x.f3.length c3,.slice A4 x.f4.length c4]∧x.f3.length≤c3∧k44.C w A3 x.f3.length x.f3∧x.f4.length≤c4∧k32.C w A4 x.f4.length x.f4:=by
 obtain ⟨n,h⟩:=h
 cases n with
 | zero=>exact h.elim
 | succ n =>
   obtain ⟨_,_,rfl,rfl,⟨_,_,rfl,rfl,⟨_,_,rfl,rfl,⟨_,_,rfl,⟨A3,c3,rfl,l3,g3⟩,⟨A4,c4,rfl,l4,g4⟩⟩⟩⟩⟩:=h
   exact ⟨A3,c3,A4,c4,rfl,l3,g3,l4,Kd.GL g4⟩
theorem zJ (w:World) (base:Nat) (ok:Nat→Prop) (x:S32) {v3:Value} (g3:k44.R 44 w base ok v3 x.f3) {v4:Value} (g4:k32.R 32 w base ok v4 x.f4):k32.M w base ok x [.int .i64 x.f0,.int .i64 x.f1,.int .i64 x.f2,v3,v4]:=by
 obtain ⟨n4,q4⟩:=Kd.tq Du g4
 have r4:=Kd.vw Du IM (show n4≤n4 by omega) q4
 exact ⟨n4+1,⟨[.int .i64 x.f0],[.int .i64 x.f1,.int .i64 x.f2,v3,v4],rfl,rfl,⟨[.int .i64 x.f1],[.int .i64 x.f2,v3,v4],rfl,rfl,⟨[.int .i64 x.f2],[v3,v4],rfl,rfl,⟨[v3],[v4],rfl,⟨v3,rfl,g3⟩,⟨v4,rfl,r4⟩⟩⟩⟩⟩⟩
def iY (xs:List S32) (i:Int):S32:=xs.getD i.toNat z32
theorem H5 {w:World} {A:Option Addr} {n:Nat} {xs:List S32} (h:Kd.C k32 w A n xs) (i:Int) (h0:0≤i) (h1:i < n):∃ ad A3 c3 A4 c4,A=some ad∧w.cell? (ad.add (i.toNat*5))=some (.int .i64 (iY xs i).f0)∧w.cell? ⟨(ad.add (i.toNat*5)).block,(ad.add (i.toNat*5)).off+1,none⟩=some (.int .i64 (iY xs i).f1)∧w.cell? ⟨(ad.add (i.toNat*5)).block,(ad.add (i.toNat*5)).off+2,none⟩=some (.int .i64 (iY xs i).f2)∧w.cell? ⟨(ad.add (i.toNat*5)).block,(ad.add (i.toNat*5)).off+3,none⟩=some (.slice A3 (iY xs i).f3.length c3)∧w.cell? ⟨(ad.add (i.toNat*5)).block,(ad.add (i.toNat*5)).off+4,none⟩=some (.slice A4 (iY xs i).f4.length c4)∧(iY xs i).f3.length≤c3∧k44.C w A3 (iY xs i).f3.length (iY xs i).f3∧(iY xs i).f4.length≤c4∧k32.C w A4 (iY xs i).f4.length (iY xs i).f4:=by
 obtain ⟨ad,c,e,_,hK,hc0⟩:=Kd.Ea h z32 i h0 h1
 have hc:∀ j u,c[j]?=some u→w.cell? (ad.add (i.toNat*5+j))=some u:=hc0
 obtain ⟨A3,c3,A4,c4,rfl,l3,g3,l4,g4⟩:=CW hK
 exact ⟨ad,A3,c3,A4,c4,e,hc 0 _ rfl,by rw [← jT _ _ 1 (by omega)];exact hc 1 _ rfl,by rw [← jT _ _ 2 (by omega)];exact hc 2 _ rfl,by rw [← jT _ _ 3 (by omega)];exact hc 3 _ rfl,by rw [← jT _ _ 4 (by omega)];exact hc 4 _ rfl,l3,g3,l4,g4⟩
structure S25 where
 f0:Int
 f1:ByteArray
 f2:(List ByteArray)
 f3:(List S25)
def z25:S25:=⟨(0:Int),(⟨#[]⟩:ByteArray),([]:List ByteArray),([]:List S25)⟩
def F25 (d:Kd S25):Kd S25:=Kd.iso (Kd.pair (Kd.int .i64) (Kd.pair Kd.string (Kd.pair (Kd.slice 9 Kd.string) (Kd.slice 25 d)))) (fun x:S25=>(x.f0,x.f1,x.f2,x.f3))
theorem vZ:Kd.mQ F25:=Kd.xE _ (Kd.kH (Kd.jR _) (Kd.kH (Kd.jR _) (Kd.kH (Kd.jR _) (Kd.tV 25 Kd.zZ))))
theorem Ii:Kd.Sub F25 [9,25]:=Kd.zW _ (Kd.lw (Kd.kE _ (by decide)) (Kd.lw (Kd.kE _ (by decide)) (Kd.lw (Kd.kE _ (by decide)) (Kd.uM 25 (by decide) Kd.Dt))))
theorem Hy:∀ n,(Kd.upto F25 4 [9,25] n).sz=4:=Kd.zY (fun _=>rfl)
def k25:Kd S25:=Kd.fix F25 4 [9,25] Hy (Kd.yD Ii)
theorem Es {w:World} {x:S25} {cs:List Value} (h:k25.K w x cs):∃ A2 c2 A3 c3,cs=[.int .i64 x.f0,.string x.f1,.slice A2 x.f2.length c2,.slice A3 x.f3.length c3]∧x.f2.length≤c2∧Kd.string.C w A2 x.f2.length x.f2∧x.f3.length≤c3∧k25.C w A3 x.f3.length x.f3:=by
 obtain ⟨n,h⟩:=h
 cases n with
 | zero=>exact h.elim
 | succ n =>
   obtain ⟨_,_,rfl,rfl,⟨_,_,rfl,rfl,⟨_,_,rfl,⟨A2,c2,rfl,l2,g2⟩,⟨A3,c3,rfl,l3,g3⟩⟩⟩⟩:=h
   exact ⟨A2,c2,A3,c3,rfl,l2,g2,l3,Kd.GL g3⟩
theorem DY (w:World) (x:S25) {A2:Option Addr} {c2:Nat} (l2:x.f2.length≤c2) (g2:Kd.string.C w A2 x.f2.length x.f2) {A3:Option Addr} {c3:Nat} (l3:x.f3.length≤c3) (g3:k25.C w A3 x.f3.length x.f3):k25.K w x [.int .i64 x.f0,.string x.f1,.slice A2 x.f2.length c2,.slice A3 x.f3.length c3]:=by
 obtain ⟨n3,q3⟩:=Kd.zC vZ g3
 have r3:=Kd.Ce vZ Hy (show n3≤n3 by omega) q3
 exact ⟨n3+1,⟨[.int .i64 x.f0],[.string x.f1,.slice A2 x.f2.length c2,.slice A3 x.f3.length c3],rfl,rfl,⟨[.string x.f1],[.slice A2 x.f2.length c2,.slice A3 x.f3.length c3],rfl,rfl,⟨[.slice A2 x.f2.length c2],[.slice A3 x.f3.length c3],rfl,⟨A2,c2,rfl,l2,g2⟩,⟨A3,c3,rfl,l3,r3⟩⟩⟩⟩⟩
theorem Fz (w:World) (base:Nat) (ok:Nat→Prop) (x:S25) {v2:Value} (g2:Kd.string.R 9 w base ok v2 x.f2) {v3:Value} (g3:k25.R 25 w base ok v3 x.f3):k25.M w base ok x [.int .i64 x.f0,.string x.f1,v2,v3]:=by
 obtain ⟨n3,q3⟩:=Kd.tq vZ g3
 have r3:=Kd.vw vZ Hy (show n3≤n3 by omega) q3
 exact ⟨n3+1,⟨[.int .i64 x.f0],[.string x.f1,v2,v3],rfl,rfl,⟨[.string x.f1],[v2,v3],rfl,rfl,⟨[v2],[v3],rfl,⟨v2,rfl,g2⟩,⟨v3,rfl,r3⟩⟩⟩⟩⟩
def gV (xs:List S25) (i:Int):S25:=xs.getD i.toNat z25
theorem qG {w:World} {A:Option Addr} {n:Nat} {xs:List S25} (h:Kd.C k25 w A n xs) (i:Int) (h0:0≤i) (h1:i < n):∃ ad A2 c2 A3 c3,A=some ad∧w.cell? (ad.add (i.toNat*4))=some (.int .i64 (gV xs i).f0)∧w.cell? ⟨(ad.add (i.toNat*4)).block,(ad.add (i.toNat*4)).off+1,none⟩=some (.string (gV xs i).f1)∧w.cell? ⟨(ad.add (i.toNat*4)).block,(ad.add (i.toNat*4)).off+2,none⟩=some (.slice A2 (gV xs i).f2.length c2)∧w.cell? ⟨(ad.add (i.toNat*4)).block,(ad.add (i.toNat*4)).off+3,none⟩=some (.slice A3 (gV xs i).f3.length c3)∧(gV xs i).f2.length≤c2∧Kd.string.C w A2 (gV xs i).f2.length (gV xs i).f2∧(gV xs i).f3.length≤c3∧k25.C w A3 (gV xs i).f3.length (gV xs i).f3:=by
 obtain ⟨ad,c,e,_,hK,hc0⟩:=Kd.Ea h z25 i h0 h1
 have hc:∀ j u,c[j]?=some u→w.cell? (ad.add (i.toNat*4+j))=some u:=hc0
 obtain ⟨A2,c2,A3,c3,rfl,l2,g2,l3,g3⟩:=Es hK
 exact ⟨ad,A2,c2,A3,c3,e,hc 0 _ rfl,by rw [← jT _ _ 1 (by omega)];exact hc 1 _ rfl,by rw [← jT _ _ 2 (by omega)];exact hc 2 _ rfl,by rw [← jT _ _ 3 (by omega)];exact hc 3 _ rfl,l2,g2,l3,g3⟩
end Go.Proofs.YtpgfjbimodnkeaaGreatDoor.Q
namespace Go.Proofs.YtpgfjbimodnkeaaGreatDoor.Dec
open Go Go.RowKit Go.Proofs.YtpgfjbimodnkeaaGreatDoorW.PrintWords Go.Proofs.YtpgfjbimodnkeaaGreatDoorW.PrintLast Go.Proofs.YtpgfjbimodnkeaaGreatDoorW.PrintMore
attribute [local go_sem] dK dJ dZ ed
theorem wJ (w:World) (s t:ByteArray) (ht:t.size=8) (h105:bt t 0=105) (hs:s.size≤1000000) (h:0 < s.size→bt s 0≠73∧bt s 0≠105) :
 Calls Tryz.prog 159 #[.string s,.string t] w fun e w'=>e = .returned (.int .i64 0)∧aj w w':=by
 have h8:0 < t.size:=by omega
 have hy:((t[0]'h8).toNat:Int)=105:=(cZ t 0 (by simpa using h8)).trans h105
 clear h105
 by_cases h0:s.size=0
 ·go_enter Tryz.func159,Tryz.ntmps159
  go_wp2
  go_loopg [6,7] 0 (fun kq v6 v7 w'=>v6 = .int .i64 0∧w'=w)
  case atStart=>exact ⟨rfl,rfl⟩
  case round =>
   obtain ⟨rfl,rfl⟩:=hrel
   go_wp2
   go_ret
   exact ⟨rfl,aj.refl _⟩
 ·have hp:0 < s.size:=by omega
  obtain ⟨ha,hb⟩:=h hp
  have hx:((s[0]'hp).toNat:Int)=bt s 0:=cZ s 0 (by simpa using hp)
  obtain ⟨r1,r2⟩:=eG s 0
  generalize bt s 0=c at hx r1 r2 ha hb
  have f1:(c != 105)=true:=bne_iff_ne.mpr hb
  have f2:(c+32 != 105)=true:=bne_iff_ne.mpr (by omega)
  go_enter Tryz.func159,Tryz.ntmps159
  go_wp2
  all_goals
   go_loopg [6,7] 0 (fun kq v6 v7 w'=>v6 = .int .i64 0∧w'=w)
   case atStart=>exact ⟨rfl,rfl⟩
   case round =>
    obtain ⟨rfl,rfl⟩:=hrel
    go_wp2
    all_goals go_ret
    all_goals exact ⟨rfl,aj.refl _⟩
theorem EW (s:ByteArray) (h:1 < s.size):bt (s.extract 1 s.size) 0=bt s 1:=by
 have h1:(0:Int).toNat < (s.extract 1 s.size).size:=by simp [ByteArray.size_extract];omega
 have h2:(1:Int).toNat < s.size:=by simpa using h
 rw [bt,dif_pos h1,bt,dif_pos h2]
 simp [ByteArray.getElem_extract]
theorem uC (w:World) (s:ByteArray) (hs:s.size≤1000000) (h:0 < s.size→bt s 0≠73∧bt s 0≠105∧bt s 0≠78∧bt s 0≠110) (h2:1 < s.size→bt s 1≠73∧bt s 1≠105) :
 Calls Tryz.prog 145 #[.string s] w fun e w'=>e = .returned (.tuple #[.float .f64 0,.int .i64 0,.bool false])∧aj w w':=by
 by_cases h0:s.size=0
 ·have c1:((s.size:Int) == 0)=true:=beq_iff_eq.mpr (by omega)
  go_enter Tryz.func145,Tryz.ntmps145
  go_wp2
  all_goals refine bodyPost_ret (eF (rs:=[.tmp 2,.tmp 3,.tmp 4]) rfl (by simp) (.tmp (.tmp (.tmp .nil)))) rfl ?_
  all_goals exact ⟨rfl,aj.refl _⟩
 ·have c1:((s.size:Int) == 0)=false:=beq_eq_false_iff_ne.mpr (by omega)
  have hp:0 < s.size:=by omega
  obtain ⟨ha,hb,hc,hd⟩:=h hp
  have hpre:=fun W=>wJ W (s.extract 1 s.size) { data:=#[105,110,102,105,110,105,116,121] } rfl rfl (by simp [ByteArray.size_extract];omega) (fun h3=>by
   have h4:1 < s.size:=by simp [ByteArray.size_extract] at h3;omega
   rw [EW s h4];exact h2 h4)
  have hx:((s[0]'hp).toNat:Int)=bt s 0:=cZ s 0 (by simpa using hp)
  generalize bt s 0=c at hx ha hb hc hd
  have f1:(c == 73)=false:=beq_eq_false_iff_ne.mpr ha
  have f2:(c == 105)=false:=beq_eq_false_iff_ne.mpr hb
  have f3:(c == 78)=false:=beq_eq_false_iff_ne.mpr hc
  have f4:(c == 110)=false:=beq_eq_false_iff_ne.mpr hd
  go_enter Tryz.func145,Tryz.ntmps145
  go_wp2_with (first | (go_at_call 159;(with_reducible refine (hpre _).mono ?_);rintro e w4 ⟨rfl,⟨m4,rfl⟩⟩))
  all_goals refine bodyPost_ret (eF (rs:=[.tmp 2,.tmp 3,.tmp 4]) rfl (by simp) (.tmp (.tmp (.tmp .nil)))) rfl ?_
  all_goals exact ⟨rfl,by repeat (first | exact aj.refl _ | apply aj.step)⟩
end Go.Proofs.YtpgfjbimodnkeaaGreatDoor.Dec
namespace Go.Proofs.YtpgfjbimodnkeaaGreatDoor.Q
open Go.RowKit Go.Proofs.YtpgfjbimodnkeaaGreatDoorW.PrintWords Go.Proofs.YtpgfjbimodnkeaaGreatDoorW.PrintLast Go.Proofs.YtpgfjbimodnkeaaGreatDoorW.PrintMore
attribute [local go_sem] dK dJ dZ ed dC dD dN dM
def iD.f (a0:Int):Option (Int):=some (Go.bits .or .u8 a0 32)
theorem iD.calls (a0:Int) (r:Int) (w:World) (h:iD.f a0=some r) :
 Calls Tryz.prog 137 #[.int .u8 a0] w fun e w'=>e = .returned (.int .u8 r)∧aj w w':=by
 have H:(some (Go.bits .or .u8 a0 32))=some r:=h
 clear h
 obtain rfl:=Option.some.inj H
 go_enter Tryz.func137,Tryz.ntmps137
 go_wp2
 go_ret
 exact ⟨by first | rfl | (simp;done) | (simp [*];done),by repeat (first | exact aj.refl _ | apply aj.step)⟩
end Go.Proofs.YtpgfjbimodnkeaaGreatDoor.Q
namespace Go.Proofs.YtpgfjbimodnkeaaGreatDoor.Dec
def val (a:Nat→Nat):Nat→Nat→Nat
 | _,0=>0
 | i,n+1=>(a i - 48)*10 ^ n+val a (i+1) n
def kZ (c:Nat):Prop:=48≤c∧c≤57
theorem sD {a:Nat→Nat}:∀ n i,(∀ j,i≤j→j < i+n→kZ (a j))→val a i n < 10 ^ n
 | 0,_,_=>by simp [val]
 | n+1,i,h=>by
   have h1:=sD n (i+1) (fun j h1 h2=>h j (by omega) (by omega))
   have h2:=h i (Nat.le_refl _) (by omega)
   unfold kZ at h2
   have h3:(a i - 48)*10 ^ n≤9*10 ^ n:=Nat.mul_le_mul_right _ (by omega)
   have h4:10 ^ (n+1)=10*10 ^ n:=by rw [Nat.pow_succ,Nat.mul_comm]
   simp only [val]
   omega
theorem GU {a:Nat→Nat} {n i:Nat} (h:kZ (a i)) (h0:a i≠48):10 ^ n≤val a i (n+1):=by
 unfold kZ at h
 have h3:1*10 ^ n≤(a i - 48)*10 ^ n:=Nat.mul_le_mul_right _ (by omega)
 simp only [val]
 omega
theorem uI (a:Nat→Nat) (i m K:Nat) :
 (a i - 48)*K+val a (i+1) m*K / 10 ^ m=val a i (m+1)*K / 10 ^ m:=by
 have hp:0 < 10 ^ m:=Nat.pow_pos (by decide)
 have:val a i (m+1)*K=val a (i+1) m*K+10 ^ m*((a i - 48)*K):=by
  simp only [val,Nat.add_mul]
  rw [Nat.mul_comm (10 ^ m),Nat.mul_assoc,Nat.mul_assoc,Nat.mul_comm K,Nat.add_comm]
 rw [this,Nat.add_mul_div_left _ _ hp,Nat.add_comm]
theorem yI (a:Nat→Nat) (i m K:Nat) :
 ((a i - 48)*K+val a (i+1) m*K / 10 ^ m) / 10=val a i (m+1)*K / 10 ^ (m+1):=by
 have hp:0 < 10 ^ m:=Nat.pow_pos (by decide)
 have h1:(a i - 48)*K+val a (i+1) m*K / 10 ^ m=val a i (m+1)*K / 10 ^ m:=by
  have:val a i (m+1)*K=val a (i+1) m*K+10 ^ m*((a i - 48)*K):=by
   simp only [val,Nat.add_mul]
   rw [Nat.mul_comm (10 ^ m),Nat.mul_assoc,Nat.mul_assoc,Nat.mul_comm K,Nat.add_comm]
  rw [this,Nat.add_mul_div_left _ _ hp,Nat.add_comm]
 rw [h1,Nat.div_div_eq_div_mul,Nat.pow_succ]
def less (a c:Nat→Nat):Nat→Nat→Nat→Nat→Bool
 | _,_,_,0=>false
 | _,0,_,_+1=>true
 | i,n+1,j,m+1=>if a i=c j then less a c (i+1) n (j+1) m else decide (a i < c j)
theorem uG {a c:Nat→Nat}:∀ m n i j,(∀ k,i≤k→k < i+n→kZ (a k))→(∀ k,j≤k→k < j+m→kZ (c k))→(0 < m→c (j+m - 1)≠48) →
 (less a c i n j m=true→val a i n*10 ^ m < val c j m*10 ^ n)∧(less a c i n j m=false→val c j m*10 ^ n≤val a i n*10 ^ m)
 | 0,n,i,j,ha,hc,hl=>by simp [less,val]
 | m+1,0,i,j,ha,hc,hl=>by
   refine ⟨fun _=>?_,fun h=>by simp [less] at h⟩
   have hpos:∀ m j,(∀ k,j≤k→k < j+(m+1)→kZ (c k))→c (j+(m+1) - 1)≠48→0 < val c j (m+1):=by
    intro m
    induction m with
    | zero =>
      intro j hc hl
      have h2:=hc j (by omega) (by omega)
      unfold kZ at h2
      have:c j≠48:=by simpa using hl
      simp [val];omega
    | succ m ih =>
      intro j hc hl
      have:=ih (j+1) (fun k h1 h2=>hc k (by omega) (by omega)) (by
       have e:j+1+(m+1) - 1=j+(m+1+1) - 1:=by omega
       rw [e];exact hl)
      rw [val]
      omega
   have:=hpos m j hc (hl (by omega))
   simpa [val] using this
 | m+1,n+1,i,j,ha,hc,hl=>by
   have ih:=uG m n (i+1) (j+1) (fun k h1 h2=>ha k (by omega) (by omega)) (fun k h1 h2=>hc k (by omega) (by omega)) (fun h=>by
    have e:j+1+m - 1=j+(m+1) - 1:=by omega
    rw [e];exact hl (by omega))
   have ha0:=ha i (by omega) (by omega)
   have hc0:=hc j (by omega) (by omega)
   have va:=sD (a:=a) n (i+1) (fun k h1 h2=>ha k (by omega) (by omega))
   have vc:=sD (a:=c) m (j+1) (fun k h1 h2=>hc k (by omega) (by omega))
   unfold kZ at ha0 hc0
   have e1:val a i (n+1)*10 ^ (m+1)=(a i - 48)*(10 ^ n*10 ^ m*10)+val a (i+1) n*10 ^ m*10:=by
    simp only [val,Nat.add_mul,Nat.pow_succ,Nat.mul_assoc]
   have e2:val c j (m+1)*10 ^ (n+1)=(c j - 48)*(10 ^ n*10 ^ m*10)+val c (j+1) m*10 ^ n*10:=by
    simp only [val,Nat.add_mul,Nat.pow_succ,Nat.mul_assoc]
    rw [Nat.mul_left_comm (10 ^ m)]
   have b1:val a (i+1) n*10 ^ m*10 < 10 ^ n*10 ^ m*10:=by
    have:=Nat.mul_lt_mul_of_pos_right va (show 0 < 10 ^ m from Nat.pow_pos (by decide))
    omega
   have b2:val c (j+1) m*10 ^ n*10 < 10 ^ n*10 ^ m*10:=by
    have:=Nat.mul_lt_mul_of_pos_right vc (show 0 < 10 ^ n from Nat.pow_pos (by decide))
    have e:10 ^ m*10 ^ n=10 ^ n*10 ^ m:=Nat.mul_comm _ _
    omega
   rw [e1,e2]
   by_cases heq:a i=c j
   ·simp only [less,heq,if_true]
    refine ⟨fun h=>?_,fun h=>?_⟩
    ·have:=ih.1 h;omega
    ·have:=ih.2 h;omega
   ·simp only [less,heq,if_false,decide_eq_true_eq,decide_eq_false_iff_not]
    refine ⟨fun h=>?_,fun h=>?_⟩
    ·have:(a i - 48+1)*(10 ^ n*10 ^ m*10)≤(c j - 48)*(10 ^ n*10 ^ m*10):=Nat.mul_le_mul_right _ (by omega)
     rw [Nat.add_mul] at this;omega
    ·have:(c j - 48+1)*(10 ^ n*10 ^ m*10)≤(a i - 48)*(10 ^ n*10 ^ m*10):=Nat.mul_le_mul_right _ (by omega)
     rw [Nat.add_mul] at this;omega
structure GK (k D L:Nat) (c:Nat→Nat):Prop where
 dig:∀ j,j < L→kZ (c j)
 last:0 < L→c (L - 1)≠48
 low:10 ^ (D - 1)≤2 ^ k
 high:2 ^ k < 10 ^ D
 cut:val c 0 L*2 ^ k=10 ^ (L+D - 1)
 pos:0 < D
theorem wE {a c:Nat→Nat} {k D L nd:Nat} (hC:GK k D L c) (hnd:0 < nd) (ha:∀ j,j < nd→kZ (a j)) (h0:a 0≠48) :
 let delta:=if less a c 0 nd 0 L then D - 1 else D
 val a 0 nd*2 ^ k / 10 ^ nd < 10 ^ delta∧(0 < delta→10 ^ (delta - 1)≤val a 0 nd*2 ^ k / 10 ^ nd):=by
 intro delta
 have hp:∀ n,0 < 10 ^ n:=fun n=>Nat.pow_pos (by decide)
 have hs:=uG (a:=a) (c:=c) L nd 0 0 (fun j _ h=>ha j (by omega)) (fun j _ h=>hC.dig j (by omega)) (fun h=>by simpa using hC.last h)
 have hv:val a 0 nd < 10 ^ nd:=sD nd 0 (fun j _ h=>ha j (by omega))
 have hv1:10 ^ (nd - 1)≤val a 0 nd:=by
  obtain ⟨n,rfl⟩:∃ n,nd=n+1:=⟨nd - 1,by omega⟩
  exact GU (ha 0 (by omega)) h0
 have hD:=hC.pos
 have e1:10 ^ (L+D - 1)=10 ^ L*10 ^ (D - 1):=by rw [← Nat.pow_add];congr 1;omega
 cases hl:less a c 0 nd 0 L with
 | true =>
   have hd:delta=D - 1:=by simp [delta,hl]
   have h1:=hs.1 hl
   rw [hd]
   constructor
   ·rw [Nat.div_lt_iff_lt_mul (hp nd)]
    have h2:val a 0 nd*10 ^ L*2 ^ k < val c 0 L*10 ^ nd*2 ^ k:=Nat.mul_lt_mul_of_pos_right h1 (Nat.pow_pos (by decide))
    have h3:val c 0 L*10 ^ nd*2 ^ k=10 ^ L*(10 ^ (D - 1)*10 ^ nd):=by
     rw [Nat.mul_right_comm,hC.cut,e1,Nat.mul_assoc]
    have h4:val a 0 nd*10 ^ L*2 ^ k=10 ^ L*(val a 0 nd*2 ^ k):=by
     rw [Nat.mul_comm (val a 0 nd),Nat.mul_assoc]
    rw [h3,h4] at h2
    exact Nat.lt_of_mul_lt_mul_left h2
   ·intro hpos
    rw [Nat.le_div_iff_mul_le (hp nd)]
    have h2:10 ^ (nd - 1)*10 ^ (D - 1)≤val a 0 nd*2 ^ k:=Nat.mul_le_mul hv1 hC.low
    have h3:10 ^ (nd - 1)*10 ^ (D - 1)=10 ^ (D - 1 - 1)*10 ^ nd:=by
     rw [← Nat.pow_add,← Nat.pow_add];congr 1;omega
    omega
 | false =>
   have hd:delta=D:=by simp [delta,hl]
   have h1:=hs.2 hl
   rw [hd]
   constructor
   ·rw [Nat.div_lt_iff_lt_mul (hp nd)]
    have h2:val a 0 nd*2 ^ k < 10 ^ nd*2 ^ k:=Nat.mul_lt_mul_of_pos_right hv (Nat.pow_pos (by decide))
    have h3:10 ^ nd*2 ^ k≤10 ^ nd*10 ^ D:=Nat.mul_le_mul_left _ (Nat.le_of_lt hC.high)
    rw [Nat.mul_comm (10 ^ D)]
    omega
   ·intro _
    rw [Nat.le_div_iff_mul_le (hp nd)]
    have h2:val c 0 L*10 ^ nd*2 ^ k≤val a 0 nd*10 ^ L*2 ^ k:=Nat.mul_le_mul_right _ h1
    have h3:val c 0 L*10 ^ nd*2 ^ k=10 ^ L*(10 ^ (D - 1)*10 ^ nd):=by
     rw [Nat.mul_right_comm,hC.cut,e1,Nat.mul_assoc]
    have h4:val a 0 nd*10 ^ L*2 ^ k=10 ^ L*(val a 0 nd*2 ^ k):=by
     rw [Nat.mul_comm (val a 0 nd),Nat.mul_assoc]
    rw [h3,h4] at h2
    exact Nat.le_of_mul_le_mul_left h2 (hp L)
open Go Go.RowKit Go.Proofs.YtpgfjbimodnkeaaGreatDoorW.PrintWords
def dI (W:World) (g:Nat) (a:Nat→Int) (nd dp:Int) (neg tr:Bool):Prop :=
 ∃ (cs:Array Value) (T:TypeId),W.heap[g]?=some (.cells cs T (0,0))∧cs.size=804∧(∀ i,i < 800→cs[i]?=some (.int .u8 (a i))) ∧
  cs[800]?=some (.int .i64 nd)∧cs[801]?=some (.int .i64 dp)∧cs[802]?=some (.bool neg)∧cs[803]?=some (.bool tr)
section
variable {W W1:World} {g:Nat} {a:Nat→Int} {nd dp:Int} {neg tr:Bool}
theorem dI.drewN (h:dI W g a nd dp neg tr) (m:Nat):dI (W.drewN m) g a nd dp neg tr:=h
theorem dI.frozen (h:dI W g a nd dp neg tr) (i:Nat):W.frozen? ⟨g,i,none⟩=false:=by
 obtain ⟨cs,T,h1,_⟩:=h
 exact ak h1 i
theorem dI.dig (h:dI W g a nd dp neg tr) {i:Nat} (hi:i < 800):W.cell? ⟨g,i,none⟩=some (.int .u8 (a i)):=by
 obtain ⟨cs,T,h1,_,h2,_⟩:=h
 exact (ah h1 i).trans (h2 i hi)
theorem dI.jH (h:dI W g a nd dp neg tr):W.cell? ⟨g,800,none⟩=some (.int .i64 nd):=by
 obtain ⟨cs,T,h1,_,_,h2,_⟩:=h
 exact (ah h1 _).trans h2
theorem dI.jV (h:dI W g a nd dp neg tr):W.cell? ⟨g,801,none⟩=some (.int .i64 dp):=by
 obtain ⟨cs,T,h1,_,_,_,h2,_⟩:=h
 exact (ah h1 _).trans h2
theorem dI.at_neg (h:dI W g a nd dp neg tr):W.cell? ⟨g,802,none⟩=some (.bool neg):=by
 obtain ⟨cs,T,h1,_,_,_,_,h2,_⟩:=h
 exact (ah h1 _).trans h2
theorem dI.kQ (h:dI W g a nd dp neg tr):W.cell? ⟨g,803,none⟩=some (.bool tr):=by
 obtain ⟨cs,T,h1,_,_,_,_,_,h2⟩:=h
 exact (ah h1 _).trans h2
theorem dI.pF (h:dI W g a nd dp neg tr) (x:Int):dI (W.setCell ⟨g,800,none⟩ (.int .i64 x)) g a x dp neg tr:=by
 obtain ⟨cs,T,h1,hs,h2,h3,h4,h5,h6⟩:=h
 exact ⟨_,T,dW h1 800 _,by simpa using hs,fun i hi=>by rw [Array.getElem?_setIfInBounds_ne (by omega)];exact h2 i hi,by rw [Array.getElem?_setIfInBounds_self_of_lt (by omega)],by rw [Array.getElem?_setIfInBounds_ne (by omega)];exact h4,by rw [Array.getElem?_setIfInBounds_ne (by omega)];exact h5,by rw [Array.getElem?_setIfInBounds_ne (by omega)];exact h6⟩
theorem dI.qN (h:dI W g a nd dp neg tr) (x:Int):dI (W.setCell ⟨g,801,none⟩ (.int .i64 x)) g a nd x neg tr:=by
 obtain ⟨cs,T,h1,hs,h2,h3,h4,h5,h6⟩:=h
 exact ⟨_,T,dW h1 801 _,by simpa using hs,fun i hi=>by rw [Array.getElem?_setIfInBounds_ne (by omega)];exact h2 i hi,by rw [Array.getElem?_setIfInBounds_ne (by omega)];exact h3,by rw [Array.getElem?_setIfInBounds_self_of_lt (by omega)],by rw [Array.getElem?_setIfInBounds_ne (by omega)];exact h5,by rw [Array.getElem?_setIfInBounds_ne (by omega)];exact h6⟩
theorem dI.FM (h:dI W g a nd dp neg tr) (x:Bool):dI (W.setCell ⟨g,802,none⟩ (.bool x)) g a nd dp x tr:=by
 obtain ⟨cs,T,h1,hs,h2,h3,h4,h5,h6⟩:=h
 exact ⟨_,T,dW h1 802 _,by simpa using hs,fun i hi=>by rw [Array.getElem?_setIfInBounds_ne (by omega)];exact h2 i hi,by rw [Array.getElem?_setIfInBounds_ne (by omega)];exact h3,by rw [Array.getElem?_setIfInBounds_ne (by omega)];exact h4,by rw [Array.getElem?_setIfInBounds_self_of_lt (by omega)],by rw [Array.getElem?_setIfInBounds_ne (by omega)];exact h6⟩
theorem dI.wI (h:dI W g a nd dp neg tr) (x:Bool):dI (W.setCell ⟨g,803,none⟩ (.bool x)) g a nd dp neg x:=by
 obtain ⟨cs,T,h1,hs,h2,h3,h4,h5,h6⟩:=h
 exact ⟨_,T,dW h1 803 _,by simpa using hs,fun i hi=>by rw [Array.getElem?_setIfInBounds_ne (by omega)];exact h2 i hi,by rw [Array.getElem?_setIfInBounds_ne (by omega)];exact h3,by rw [Array.getElem?_setIfInBounds_ne (by omega)];exact h4,by rw [Array.getElem?_setIfInBounds_ne (by omega)];exact h5,by rw [Array.getElem?_setIfInBounds_self_of_lt (by omega)]⟩
def upd (a:Nat→Int) (i:Nat) (x:Int):Nat→Int:=fun j=>if j=i then x else a j
theorem dI.nC (h:dI W g a nd dp neg tr) {i:Nat} (hi:i < 800) (x:Int):dI (W.setCell ⟨g,i,none⟩ (.int .u8 x)) g (upd a i x) nd dp neg tr:=by
 obtain ⟨cs,T,h1,hs,h2,h3,h4,h5,h6⟩:=h
 refine ⟨_,T,dW h1 i _,by simpa using hs,fun j hj=>?_,by rw [Array.getElem?_setIfInBounds_ne (by omega)];exact h3,by rw [Array.getElem?_setIfInBounds_ne (by omega)];exact h4,by rw [Array.getElem?_setIfInBounds_ne (by omega)];exact h5,by rw [Array.getElem?_setIfInBounds_ne (by omega)];exact h6⟩
 by_cases hj2:j=i
 ·subst hj2
  rw [Array.getElem?_setIfInBounds_self_of_lt (by omega)]
  simp [upd]
 ·rw [Array.getElem?_setIfInBounds_ne (by omega)]
  simp [upd,hj2,h2 j hj]
structure Good (a:Nat→Int) (nd:Int):Prop where
 low:0≤nd
 high:nd≤800
 dig:∀ i:Nat,(i:Int) < nd→48≤a i∧a i≤57
 first:0 < nd→a 0≠48
end
theorem add0 (g m:Nat):(⟨g,0,none⟩:Addr).add m=⟨g,m,none⟩:=by
 unfold Addr.add
 split
 ·subst_vars;rfl
 ·simp
theorem Good.less {a:Nat→Int} {n n':Int} (h:Good a n) (h0:0≤n') (hl:n'≤n):Good a n' :=
 ⟨h0,Int.le_trans hl h.high,fun i hi=>h.dig i (by omega),fun hp=>h.first (by omega)⟩
theorem dI.drewN' {W:World} {g:Nat} {a:Nat→Int} {nd dp:Int} {neg tr:Bool} (h:dI W g a nd dp neg tr) (m:Nat):dI (W.drewN m) g a nd dp neg tr:=h
structure wY (e:Ending):Prop where mk :: (out:∃ b,e = .returned (.bool b))
structure G6 (e:Ending):Prop where mk :: (out:∃ n:Int,e = .returned (.int .u64 n)∧0≤n∧n < 18446744073709551616)
end Go.Proofs.YtpgfjbimodnkeaaGreatDoor.Dec
