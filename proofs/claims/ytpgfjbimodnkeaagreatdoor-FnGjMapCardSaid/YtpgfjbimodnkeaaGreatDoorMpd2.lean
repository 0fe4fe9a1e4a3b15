/- FnGjMap: whatever text comes in, the law returns true and the text reads afterwards as before; with the thirteen package-level variables that its row lists as the program's own text lays them (the tied card) (part 2 of 19: lemmas for its last part) -/
import Derived.Laws.StructEq
import Derived.Test.YtpgfjbimodnkeaaGreatDoorProg
import Derived.Below
import Derived.Deep.Draws
import Derived.Deep.AppendLies
import Derived.Maps.AppendAt
import Derived.OwnWalk
import Derived.Laws.BytesArg
import Derived.Laws.MakeOwn
import Derived.Laws.OwnMore
import Derived.Deep.OwnRows
import Derived.Tactics
import Derived.Lib.ConvBytes
import Derived.Laws.Slices
import Derived.WalkKit
import Derived.KernelRfl
import Derived.RowKit3
import Derived.Deep.LoopGhost
import Derived.Deep.QuietTactic
import Derived.BigQuiet
import Derived.WideLaws
import Derived.Deep.DeepCutAuto
import Derived.Deep.CutBlock
import Derived.Deep.RegionHeld3
import Derived.Laws.Rows
import Derived.Lib.AppendStr
import Derived.ArgAppend
import Derived.Laws.IdiomCopy
import Derived.OrdersHeld
import Derived.Laws.BitsLemmas
import Derived.RowKit
import Derived.WalkMore
import Derived.Test.YtpgfjbimodnkeaaGreatDoorMpd1
set_option maxHeartbeats 16000000
set_option maxRecDepth 100000
set_option linter.unusedVariables false
set_option linter.unusedSimpArgs false
namespace Go.Proofs.YtpgfjbimodnkeaaGreatDoorW.PrintWords
theorem gV.one {α:Type} {R:α→List Value→Prop} {ps:List α} {cs:List Value} {p:α} {v:Value} (hp:R p [v]) (h:gV R 1 ps cs):gV R 1 (p :: ps) (v :: cs):=by
 refine ⟨by simp [h.1],fun j q hq=>?_⟩
 cases j with
 | zero =>
   simp only [List.getElem?_cons_zero,Option.some.injEq] at hq
   subst hq
   simpa using hp
 | succ j =>
   simp only [List.getElem?_cons_succ] at hq
   have h1:=h.2 j q hq
   simpa [Nat.mul_one] using h1
open Go.RowKit
section
variable {P:Program} {ops:Array Oper} {rest:List Oper} {o:Oper} {a:Act} {Q:Exit→Act→World→Prop} {W:World}
theorem qO (hw:Region.wanted o (yielded ops a.tmps)=true) (h:wpList P ops Q ({ o with guard:=none } :: rest) a W):wpList P ops Q (o :: rest) a W:=by
 have h1:Region.wanted { o with guard:=none } (yielded ops a.tmps)=true:=rfl
 unfold wpList at h ⊢
 rw [if_pos h1] at h
 rw [if_pos hw]
 exact h
end
end Go.Proofs.YtpgfjbimodnkeaaGreatDoorW.PrintWords
namespace Go.Proofs.YtpgfjbimodnkeaaGreatDoorW.PrintMore
open Go.RowKit Go.Proofs.YtpgfjbimodnkeaaGreatDoorW.PrintWords
theorem dm (k k':IntKind) (x y:Int):Builtin.max2 (.int k x) (.int k' y)=pure (.int k (if x < y then y else x)):=by simp only [Builtin.max2,gt_iff_lt]
theorem di (k k':IntKind) (x y:Int):Builtin.min2 (.int k x) (.int k' y)=pure (.int k (if y < x then y else x)):=by simp only [Builtin.min2]
theorem dL (ats:Array TypeId) (ty:TypeId) (a b:Value):Builtin.max_ ats ty #[a,b]=(Builtin.max2 a b >>= fun s=>pure s):=by simp only [Builtin.max_,List.foldlM_cons,List.foldlM_nil]
theorem dK (ats:Array TypeId) (ty:TypeId) (a b:Value):Builtin.min_ ats ty #[a,b]=(Builtin.min2 a b >>= fun s=>pure s):=by simp only [Builtin.min_,List.foldlM_cons,List.foldlM_nil]
theorem cu (ats:Array TypeId) (ty:TypeId) (a b c:Value):Builtin.max_ ats ty #[a,b,c]=(Builtin.max2 a b >>= fun s=>Builtin.max2 s c >>= fun s=>pure s):=by simp only [Builtin.max_,List.foldlM_cons,List.foldlM_nil]
theorem bZ (ats:Array TypeId) (ty:TypeId) (a b c:Value):Builtin.min_ ats ty #[a,b,c]=(Builtin.min2 a b >>= fun s=>Builtin.min2 s c >>= fun s=>pure s):=by simp only [Builtin.min_,List.foldlM_cons,List.foldlM_nil]
theorem dD (ats:Array TypeId) (ty:TypeId) (a b c d:Value):Builtin.max_ ats ty #[a,b,c,d]=(Builtin.max2 a b >>= fun s=>Builtin.max2 s c >>= fun s=>Builtin.max2 s d >>= fun s=>pure s):=by simp only [Builtin.max_,List.foldlM_cons,List.foldlM_nil]
theorem dC (ats:Array TypeId) (ty:TypeId) (a b c d:Value):Builtin.min_ ats ty #[a,b,c,d]=(Builtin.min2 a b >>= fun s=>Builtin.min2 s c >>= fun s=>Builtin.min2 s d >>= fun s=>pure s):=by simp only [Builtin.min_,List.foldlM_cons,List.foldlM_nil]
end Go.Proofs.YtpgfjbimodnkeaaGreatDoorW.PrintMore
namespace Go.Proofs.YtpgfjbimodnkeaaGreatDoorW.PrintWords
open Go.RowKit
section
variable {P:Program} {ops:Array Oper} {rest:List Oper} {o:Oper} {a:Act} {Q:Exit→Act→World→Prop} {W:World}
theorem bD {f:FuncId} {az:Array Operand} {ts:Array TypeId} (_ho:o.op = .call { callee:=.value (.func f),args:=az,argTypes:=ts }) (h:wpList P ops Q (o :: rest) a W):wpList P ops Q (o :: rest) a W:=h
theorem dH {b:Builtin} {xs:Array Operand} {ts:Array TypeId} (_ho:o.op = .call { callee:=.builtin b,args:=xs,argTypes:=ts }) (h:wpList P ops Q (o :: rest) a W):wpList P ops Q (o :: rest) a W:=h
end
theorem jR (w:World) (n:Nat):w.drewN n=w.drewN n:=rfl
end Go.Proofs.YtpgfjbimodnkeaaGreatDoorW.PrintWords
namespace Go.Proofs.YtpgfjbimodnkeaaGreatDoorW.PrintWords
open Go.RowKit
namespace Kd
def V {α:Type} (d:Kd α) (_e:Nat) (W:World) (_base:Nat) (ok:Nat→Prop) (v:Value) (xs:List α):Prop:=∃ A c,v = .slice A xs.length c∧xs.length≤c∧F d W ok A xs.length xs
section
variable {α β:Type} {d:Kd α} {e base base' n m c g N' lo hi:Nat} {ok ok' S:Nat→Prop} {w W w1:World} {A:Option Addr} {ad:Addr} {u v v1:Value} {xs:List α}
theorem sZ {M:Nat→Prop} (h:d.R e w1 W.heap.size ok v xs) (hle:w.heap.size≤W.heap.size) (hM:∀ k,w.heap.size≤k→M k):d.R e w1 W.heap.size (fun k=>M k∧ok k) v xs:=dJ (jw h) (fun k hk=>⟨hM k (Nat.le_trans hle hk.2.1),hk.1⟩)
end
end Kd
end Go.Proofs.YtpgfjbimodnkeaaGreatDoorW.PrintWords
namespace Go.Proofs.YtpgfjbimodnkeaaGreatDoorW.PrintWords
open Go.RowKit
@[go_sem] theorem Bf {P:Program} {w:World} {a:Addr} {m:Mode} (k:FloatKind) (b:Nat):(store a (.float k b) m).run P w=stored P w a (.float k b) m:=run_store P w a _ m rfl
namespace Kd
section
variable {α:Type} {P:Program} {ops:Array Oper} {Q:Exit→Act→World→Prop} {rest:List Oper} {o:Oper} {a:Act}
theorem yK (d:Kd α) {w0 W:World} (base e:Nat) (hgd:o.guard=none) {N:Tmp} (_hd:o.dst=some N) (t:TypeId) (x y:Operand) (ho:o.op = .makeSlice t x y) (n:Int) (hx:a.eval x = .int .i64 0) (hy:a.eval y = .int .i64 n)
 (ht:P.underlying t=some (.slice e)) (z:Value) (bytes:Nat) (hinfo:(P.info? e).map (fun i=>(i.zero,i.size,i.bytes))=some (some z,d.sz,bytes)) (hb0:0 < bytes)
 {ok:Nat→Prop} (hfresh:ok W.heap.size) (h0:0≤n) (hl:n.toNat*bytes≤281474976710656) (HB:Below base w0 W) (hbase:base≤W.heap.size)
 (h:∀ v1 w1,d.R e w1 base ok v1 []→Below base w0 w1→W.grownBy w1 none→(∃ b,v1.ownBlock=some b∧W.heap.size≤b)→wpList P ops Q rest (a.put o.dst v1) w1):wpList P ops Q (o :: rest) a W:=by
 obtain ⟨m,rfl⟩:=Int.eq_ofNat_of_zero_le h0
 simp only [Int.toNat_natCast] at hl
 obtain ⟨i0,hi,hzz⟩:=Option.map_eq_some_iff.1 hinfo
 simp only [Prod.mk.injEq] at hzz
 obtain ⟨hz0,hz1,hz2⟩:=hzz
 have hm:m≤281474976710656:=Nat.le_trans (Nat.le_mul_of_pos_right _ hb0) hl
 have hr:=run_make (P:=P) W t e i0 z ht hi hz0 .i64 .i64 (0:Int) (m:Int) (by omega) (by omega)
  (by
    have h3:((i0.bytes*m:Nat):Int)≤281474976710656:=by rw [hz2,Nat.mul_comm];omega
    rwa [Int.natCast_mul] at h3) (by omega)
 rw [hz1] at hr
 have hrun:(execOp a.eval o).run P W = .ok (.value (.slice (some ⟨W.heap.size,0,none⟩) 0 m)) (W.alloc (.cells (madeCells z.cells (m*d.sz)) e)):=by
  simp only [Int.toNat_natCast,Int.toNat_zero] at hr
  simp [execOp,ho,hx,hy,hr]
 have hsz:(madeCells z.cells (m*d.sz)).size=m*d.sz:=by simp [size_madeCells]
 have hown:(W.alloc (.cells (madeCells z.cells (m*d.sz)) e)).ownsRow base e d.sz (.slice (some ⟨W.heap.size,0,none⟩) 0 m) 0 []:=by
  have h2:=World.ownsRow_lit (base:=base) (e:=e) (size:=d.sz) W (madeCells z.cells (m*d.sz)) m hbase (by simp [maxLen];omega) hsz
  have h4:=vC h2 (Nat.zero_le m)
  simpa using h4
 refine oI hgd hrun (h _ _ ⟨fun k hk=>?_,[],hown,gV.none _ _⟩ (HB.alloc hbase _) (World.grownBy_alloc W _ none) ⟨W.heap.size,by simp [Value.ownBlock],Nat.le_refl _⟩)
 have:W.heap.size=k:=by simpa [Value.ownBlock] using hk
 subst this
 exact hfresh
end
end Kd
end Go.Proofs.YtpgfjbimodnkeaaGreatDoorW.PrintWords
namespace Go.Proofs.YtpgfjbimodnkeaaGreatDoor.Q
open Go.RowKit Go.Proofs.YtpgfjbimodnkeaaGreatDoorW.PrintWords Go.Proofs.YtpgfjbimodnkeaaGreatDoorW.PrintLast Go.Proofs.YtpgfjbimodnkeaaGreatDoorW.PrintMore
attribute [local go_sem] dm di dL dK cu bZ dD dC
def Ed:Option Int→Value
 | none => .nilIface
 | some c => .iface 152 (.int .i64 c)
theorem aZ:Ed none = .nilIface:=rfl
theorem bf (c:Int):Ed (some c) = .iface 152 (.int .i64 c):=rfl
theorem info5:(Tryz.prog.info? 5).map (fun i=>(i.zero,i.size,i.bytes))=some (some (.int .u8 0),1,1):=by kernel_rfl
theorem info9:(Tryz.prog.info? 9).map (fun i=>(i.zero,i.size,i.bytes))=some (some (.string ⟨#[]⟩),1,16):=by kernel_rfl
theorem info25:(Tryz.prog.info? 25).map (fun i=>(i.zero,i.size,i.bytes))=some (some (.agg #[(.int .i64 0),(.string ⟨#[]⟩),(.slice none 0 0),(.slice none 0 0)]),4,72):=by kernel_rfl
theorem AC:(Tryz.prog.info? 32).map (fun i=>(i.zero,i.size,i.bytes))=some (some (.agg #[(.int .i64 0),(.int .i64 0),(.int .i64 0),(.slice none 0 0),(.slice none 0 0)]),5,72):=by kernel_rfl
theorem DY:(Tryz.prog.info? 44).map (fun i=>(i.zero,i.size,i.bytes))=some (some (.agg #[(.int .i64 0),(.int .i64 0)]),2,16):=by kernel_rfl
structure S44 where
 f0:Int
 f1:Int
def z44:S44:=⟨(0:Int),(0:Int)⟩
def k44:Kd S44:=Kd.iso (Kd.pair (Kd.int .i64) (Kd.int .i64)) (fun x:S44=>(x.f0,x.f1))
theorem Ah {w:World} {x:S44} {cs:List Value} (h:k44.K w x cs):cs=[.int .i64 x.f0,.int .i64 x.f1]:=by
 obtain ⟨_,_,rfl,rfl,rfl⟩:=h
 exact rfl
theorem CP (w:World) (base:Nat) (ok:Nat→Prop) (x:S44)  : k44.M w base ok x [.int .i64 x.f0,.int .i64 x.f1]:=⟨[.int .i64 x.f0],[.int .i64 x.f1],rfl,rfl,rfl⟩
def kC (xs:List S44) (i:Int):S44:=xs.getD i.toNat z44
theorem DW {w:World} {A:Option Addr} {n:Nat} {xs:List S44} (h:Kd.C k44 w A n xs) (i:Int) (h0:0≤i) (h1:i < n):∃ ad ,A=some ad∧w.cell? (ad.add (i.toNat*2))=some (.int .i64 (kC xs i).f0)∧w.cell? ⟨(ad.add (i.toNat*2)).block,(ad.add (i.toNat*2)).off+1,none⟩=some (.int .i64 (kC xs i).f1):=by
 obtain ⟨ad,c,e,_,hK,hc0⟩:=Kd.zn h z44 i h0 h1
 have hc:∀ j u,c[j]?=some u→w.cell? (ad.add (i.toNat*2+j))=some u:=hc0
 obtain rfl:=Ah hK
 exact ⟨ad,e,hc 0 _ rfl,by rw [← jD _ _ 1 (by omega)];exact hc 1 _ rfl⟩
structure S32 where
 f0:Int
 f1:Int
 f2:Int
 f3:(List S44)
 f4:(List S32)
def z32:S32:=⟨(0:Int),(0:Int),(0:Int),([]:List S44),([]:List S32)⟩
def F32 (d:Kd S32):Kd S32:=Kd.iso (Kd.pair (Kd.int .i64) (Kd.pair (Kd.int .i64) (Kd.pair (Kd.int .i64) (Kd.pair (Kd.slice 44 k44) (Kd.slice 32 d))))) (fun x:S32=>(x.f0,x.f1,x.f2,x.f3,x.f4))
theorem Aa:Kd.nD F32:=Kd.vF _ (Kd.jS (Kd.jA _) (Kd.jS (Kd.jA _) (Kd.jS (Kd.jA _) (Kd.jS (Kd.jA _) (Kd.qj 32 Kd.xn)))))
theorem Ec:Kd.Sub F32 [32,44]:=Kd.xm _ (Kd.kK (Kd.jU _ (by decide)) (Kd.kK (Kd.jU _ (by decide)) (Kd.kK (Kd.jU _ (by decide)) (Kd.kK (Kd.jU _ (by decide)) (Kd.rU 32 (by decide) Kd.zi)))))
theorem Ea:∀ n,(Kd.upto F32 5 [32,44] n).sz=5:=Kd.wQ (fun _=>rfl)
def k32:Kd S32:=Kd.fix F32 5 [32,44] Ea (Kd.vU Ec)
theorem AZ {w:World} {x:S32} {cs:List Value} (h:k32.K w x cs):∃ A3 c3 A4 c4,cs=[.int .i64 x.f0,.int .i64 x.f1,.int .i64 x.f2,.slice A3 x.f3.length c3,.slice A4 x.f4.length c4]∧x.f3.length≤c3∧k44.C w A3 x.f3.length x.f3∧x.f4.length≤c4∧k32.C w A4 x.f4.length x.f4:=by
 obtain ⟨n,h⟩:=h
 cases n with
 | zero=>exact h.elim
 | succ n =>
   obtain ⟨_,_,rfl,rfl,⟨_,_,rfl,rfl,⟨_,_,rfl,rfl,⟨_,_,rfl,⟨A3,c3,rfl,l3,g3⟩,⟨A4,c4,rfl,l4,g4⟩⟩⟩⟩⟩:=h
   exact ⟨A3,c3,A4,c4,rfl,l3,g3,l4,Kd.CX g4⟩
theorem xA (w:World) (base:Nat) (ok:Nat→Prop) (x:S32) {v3:Value} (g3:k44.R 44 w base ok v3 x.f3) {v4:Value} (g4:k32.R 32 w base ok v4 x.f4):k32.M w base ok x [.int .i64 x.f0,.int .i64 x.f1,.int .i64 x.f2,v3,v4]:=by
 obtain ⟨n4,q4⟩:=Kd.qf Aa g4
 have r4:=Kd.sF Aa Ea (show n4≤n4 by omega) q4
 exact ⟨n4+1,⟨[.int .i64 x.f0],[.int .i64 x.f1,.int .i64 x.f2,v3,v4],rfl,rfl,⟨[.int .i64 x.f1],[.int .i64 x.f2,v3,v4],rfl,rfl,⟨[.int .i64 x.f2],[v3,v4],rfl,rfl,⟨[v3],[v4],rfl,⟨v3,rfl,g3⟩,⟨v4,rfl,r4⟩⟩⟩⟩⟩⟩
def iG (xs:List S32) (i:Int):S32:=xs.getD i.toNat z32
theorem D7 {w:World} {A:Option Addr} {n:Nat} {xs:List S32} (h:Kd.C k32 w A n xs) (i:Int) (h0:0≤i) (h1:i < n):∃ ad A3 c3 A4 c4,A=some ad∧w.cell? (ad.add (i.toNat*5))=some (.int .i64 (iG xs i).f0)∧w.cell? ⟨(ad.add (i.toNat*5)).block,(ad.add (i.toNat*5)).off+1,none⟩=some (.int .i64 (iG xs i).f1)∧w.cell? ⟨(ad.add (i.toNat*5)).block,(ad.add (i.toNat*5)).off+2,none⟩=some (.int .i64 (iG xs i).f2)∧w.cell? ⟨(ad.add (i.toNat*5)).block,(ad.add (i.toNat*5)).off+3,none⟩=some (.slice A3 (iG xs i).f3.length c3)∧w.cell? ⟨(ad.add (i.toNat*5)).block,(ad.add (i.toNat*5)).off+4,none⟩=some (.slice A4 (iG xs i).f4.length c4)∧(iG xs i).f3.length≤c3∧k44.C w A3 (iG xs i).f3.length (iG xs i).f3∧(iG xs i).f4.length≤c4∧k32.C w A4 (iG xs i).f4.length (iG xs i).f4:=by
 obtain ⟨ad,c,e,_,hK,hc0⟩:=Kd.zn h z32 i h0 h1
 have hc:∀ j u,c[j]?=some u→w.cell? (ad.add (i.toNat*5+j))=some u:=hc0
 obtain ⟨A3,c3,A4,c4,rfl,l3,g3,l4,g4⟩:=AZ hK
 exact ⟨ad,A3,c3,A4,c4,e,hc 0 _ rfl,by rw [← jD _ _ 1 (by omega)];exact hc 1 _ rfl,by rw [← jD _ _ 2 (by omega)];exact hc 2 _ rfl,by rw [← jD _ _ 3 (by omega)];exact hc 3 _ rfl,by rw [← jD _ _ 4 (by omega)];exact hc 4 _ rfl,l3,g3,l4,g4⟩
structure S25 where
 f0:Int
 f1:ByteArray
 f2:(List ByteArray)
 f3:(List S25)
def z25:S25:=⟨(0:Int),(⟨#[]⟩:ByteArray),([]:List ByteArray),([]:List S25)⟩
def F25 (d:Kd S25):Kd S25:=Kd.iso (Kd.pair (Kd.int .i64) (Kd.pair Kd.string (Kd.pair (Kd.slice 9 Kd.string) (Kd.slice 25 d)))) (fun x:S25=>(x.f0,x.f1,x.f2,x.f3))
theorem zQ:Kd.nD F25:=Kd.vF _ (Kd.jS (Kd.jA _) (Kd.jS (Kd.jA _) (Kd.jS (Kd.jA _) (Kd.qj 25 Kd.xn))))
theorem Eo:Kd.Sub F25 [9,25]:=Kd.xm _ (Kd.kK (Kd.jU _ (by decide)) (Kd.kK (Kd.jU _ (by decide)) (Kd.kK (Kd.jU _ (by decide)) (Kd.rU 25 (by decide) Kd.zi))))
theorem Ep:∀ n,(Kd.upto F25 4 [9,25] n).sz=4:=Kd.wQ (fun _=>rfl)
def k25:Kd S25:=Kd.fix F25 4 [9,25] Ep (Kd.vU Eo)
theorem AB {w:World} {x:S25} {cs:List Value} (h:k25.K w x cs):∃ A2 c2 A3 c3,cs=[.int .i64 x.f0,.string x.f1,.slice A2 x.f2.length c2,.slice A3 x.f3.length c3]∧x.f2.length≤c2∧Kd.string.C w A2 x.f2.length x.f2∧x.f3.length≤c3∧k25.C w A3 x.f3.length x.f3:=by
 obtain ⟨n,h⟩:=h
 cases n with
 | zero=>exact h.elim
 | succ n =>
   obtain ⟨_,_,rfl,rfl,⟨_,_,rfl,rfl,⟨_,_,rfl,⟨A2,c2,rfl,l2,g2⟩,⟨A3,c3,rfl,l3,g3⟩⟩⟩⟩:=h
   exact ⟨A2,c2,A3,c3,rfl,l2,g2,l3,Kd.CX g3⟩
theorem BV (w:World) (base:Nat) (ok:Nat→Prop) (x:S25) {v2:Value} (g2:Kd.string.R 9 w base ok v2 x.f2) {v3:Value} (g3:k25.R 25 w base ok v3 x.f3):k25.M w base ok x [.int .i64 x.f0,.string x.f1,v2,v3]:=by
 obtain ⟨n3,q3⟩:=Kd.qf zQ g3
 have r3:=Kd.sF zQ Ep (show n3≤n3 by omega) q3
 exact ⟨n3+1,⟨[.int .i64 x.f0],[.string x.f1,v2,v3],rfl,rfl,⟨[.string x.f1],[v2,v3],rfl,rfl,⟨[v2],[v3],rfl,⟨v2,rfl,g2⟩,⟨v3,rfl,r3⟩⟩⟩⟩⟩
def iR (xs:List S25) (i:Int):S25:=xs.getD i.toNat z25
theorem sW {w:World} {A:Option Addr} {n:Nat} {xs:List S25} (h:Kd.C k25 w A n xs) (i:Int) (h0:0≤i) (h1:i < n):∃ ad A2 c2 A3 c3,A=some ad∧w.cell? (ad.add (i.toNat*4))=some (.int .i64 (iR xs i).f0)∧w.cell? ⟨(ad.add (i.toNat*4)).block,(ad.add (i.toNat*4)).off+1,none⟩=some (.string (iR xs i).f1)∧w.cell? ⟨(ad.add (i.toNat*4)).block,(ad.add (i.toNat*4)).off+2,none⟩=some (.slice A2 (iR xs i).f2.length c2)∧w.cell? ⟨(ad.add (i.toNat*4)).block,(ad.add (i.toNat*4)).off+3,none⟩=some (.slice A3 (iR xs i).f3.length c3)∧(iR xs i).f2.length≤c2∧Kd.string.C w A2 (iR xs i).f2.length (iR xs i).f2∧(iR xs i).f3.length≤c3∧k25.C w A3 (iR xs i).f3.length (iR xs i).f3:=by
 obtain ⟨ad,c,e,_,hK,hc0⟩:=Kd.zn h z25 i h0 h1
 have hc:∀ j u,c[j]?=some u→w.cell? (ad.add (i.toNat*4+j))=some u:=hc0
 obtain ⟨A2,c2,A3,c3,rfl,l2,g2,l3,g3⟩:=AB hK
 exact ⟨ad,A2,c2,A3,c3,e,hc 0 _ rfl,by rw [← jD _ _ 1 (by omega)];exact hc 1 _ rfl,by rw [← jD _ _ 2 (by omega)];exact hc 2 _ rfl,by rw [← jD _ _ 3 (by omega)];exact hc 3 _ rfl,l2,g2,l3,g3⟩
end Go.Proofs.YtpgfjbimodnkeaaGreatDoor.Q
namespace Go.Proofs.YtpgfjbimodnkeaaGreatDoor.Dec
open Go Go.RowKit Go.Proofs.YtpgfjbimodnkeaaGreatDoorW.PrintWords Go.Proofs.YtpgfjbimodnkeaaGreatDoorW.PrintLast Go.Proofs.YtpgfjbimodnkeaaGreatDoorW.PrintMore
attribute [local go_sem] dm di dL dK
theorem uk (w:World) (s t:ByteArray) (ht:t.size=8) (h105:bt t 0=105) (hs:s.size≤1000000) (h:0 < s.size→bt s 0≠73∧bt s 0≠105) :
 Calls Tryz.prog 159 #[.string s,.string t] w fun e w'=>e = .returned (.int .i64 0)∧ai w w':=by
 have h8:0 < t.size:=by omega
 have hy:((t[0]'h8).toNat:Int)=105:=(dI t 0 (by simpa using h8)).trans h105
 clear h105
 by_cases h0:s.size=0
 ·go_enter Tryz.func159,Tryz.ntmps159
  go_wp2
  go_loopg [6,7] 0 (fun kq v6 v7 w'=>v6 = .int .i64 0∧w'=w)
  case atStart=>exact ⟨rfl,rfl⟩
  case round =>
   obtain ⟨rfl,rfl⟩:=hrel
   go_wp2
   go_ret
   exact ⟨rfl,ai.refl _⟩
 ·have hp:0 < s.size:=by omega
  obtain ⟨ha,hb⟩:=h hp
  have hx:((s[0]'hp).toNat:Int)=bt s 0:=dI s 0 (by simpa using hp)
  obtain ⟨r1,r2⟩:=fP s 0
  generalize bt s 0=c at hx r1 r2 ha hb
  have f1:(c != 105)=true:=bne_iff_ne.mpr hb
  have f2:(c+32 != 105)=true:=bne_iff_ne.mpr (by omega)
  go_enter Tryz.func159,Tryz.ntmps159
  go_wp2
  all_goals
   go_loopg [6,7] 0 (fun kq v6 v7 w'=>v6 = .int .i64 0∧w'=w)
   case atStart=>exact ⟨rfl,rfl⟩
   case round =>
    obtain ⟨rfl,rfl⟩:=hrel
    go_wp2
    all_goals go_ret
    all_goals exact ⟨rfl,ai.refl _⟩
theorem BD (s:ByteArray) (h:1 < s.size):bt (s.extract 1 s.size) 0=bt s 1:=by
 have h1:(0:Int).toNat < (s.extract 1 s.size).size:=by simp [ByteArray.size_extract];omega
 have h2:(1:Int).toNat < s.size:=by simpa using h
 rw [bt,dif_pos h1,bt,dif_pos h2]
 simp [ByteArray.getElem_extract]
theorem qZ (w:World) (s:ByteArray) (hs:s.size≤1000000) (h:0 < s.size→bt s 0≠73∧bt s 0≠105∧bt s 0≠78∧bt s 0≠110) (h2:1 < s.size→bt s 1≠73∧bt s 1≠105) :
 Calls Tryz.prog 145 #[.string s] w fun e w'=>e = .returned (.tuple #[.float .f64 0,.int .i64 0,.bool false])∧ai w w':=by
 by_cases h0:s.size=0
 ·have c1:((s.size:Int) == 0)=true:=beq_iff_eq.mpr (by omega)
  go_enter Tryz.func145,Tryz.ntmps145
  go_wp2
  all_goals refine bodyPost_ret (fE (rs:=[.tmp 2,.tmp 3,.tmp 4]) rfl (by simp) (.tmp (.tmp (.tmp .nil)))) rfl ?_
  all_goals exact ⟨rfl,ai.refl _⟩
 ·have c1:((s.size:Int) == 0)=false:=beq_eq_false_iff_ne.mpr (by omega)
  have hp:0 < s.size:=by omega
  obtain ⟨ha,hb,hc,hd⟩:=h hp
  have hpre:=fun W=>uk W (s.extract 1 s.size) { data:=#[105,110,102,105,110,105,116,121] } rfl rfl (by simp [ByteArray.size_extract];omega) (fun h3=>by
   have h4:1 < s.size:=by simp [ByteArray.size_extract] at h3;omega
   rw [BD s h4];exact h2 h4)
  have hx:((s[0]'hp).toNat:Int)=bt s 0:=dI s 0 (by simpa using hp)
  generalize bt s 0=c at hx ha hb hc hd
  have f1:(c == 73)=false:=beq_eq_false_iff_ne.mpr ha
  have f2:(c == 105)=false:=beq_eq_false_iff_ne.mpr hb
  have f3:(c == 78)=false:=beq_eq_false_iff_ne.mpr hc
  have f4:(c == 110)=false:=beq_eq_false_iff_ne.mpr hd
  go_enter Tryz.func145,Tryz.ntmps145
  go_wp2_with (first | (go_at_call 159;(with_reducible refine (hpre _).mono ?_);rintro e w4 ⟨rfl,⟨m4,rfl⟩⟩))
  all_goals refine bodyPost_ret (fE (rs:=[.tmp 2,.tmp 3,.tmp 4]) rfl (by simp) (.tmp (.tmp (.tmp .nil)))) rfl ?_
  all_goals exact ⟨rfl,by repeat (first | exact ai.refl _ | apply ai.step)⟩
end Go.Proofs.YtpgfjbimodnkeaaGreatDoor.Dec
namespace Go.Proofs.YtpgfjbimodnkeaaGreatDoor.Q
open Go.RowKit Go.Proofs.YtpgfjbimodnkeaaGreatDoorW.PrintWords Go.Proofs.YtpgfjbimodnkeaaGreatDoorW.PrintLast Go.Proofs.YtpgfjbimodnkeaaGreatDoorW.PrintMore
attribute [local go_sem] dm di dL dK cu bZ dD dC
def gB.f (a0:Int):Option (Int):=some (Go.bits .or .u8 a0 32)
theorem gB.calls (a0:Int) (r:Int) (w:World) (h:gB.f a0=some r) :
 Calls Tryz.prog 137 #[.int .u8 a0] w fun e w'=>e = .returned (.int .u8 r)∧ai w w':=by
 have H:(some (Go.bits .or .u8 a0 32))=some r:=h
 clear h
 obtain rfl:=Option.some.inj H
 go_enter Tryz.func137,Tryz.ntmps137
 go_wp2
 go_ret
 exact ⟨by first | rfl | (simp;done) | (simp [*];done),by repeat (first | exact ai.refl _ | apply ai.step)⟩
end Go.Proofs.YtpgfjbimodnkeaaGreatDoor.Q
namespace Go.Proofs.YtpgfjbimodnkeaaGreatDoor.Dec
def val (a:Nat→Nat):Nat→Nat→Nat
 | _,0=>0
 | i,n+1=>(a i - 48)*10 ^ n+val a (i+1) n
def kE (c:Nat):Prop:=48≤c∧c≤57
theorem qy {a:Nat→Nat}:∀ n i,(∀ j,i≤j→j < i+n→kE (a j))→val a i n < 10 ^ n
 | 0,_,_=>by simp [val]
 | n+1,i,h=>by
   have h1:=qy n (i+1) (fun j h1 h2=>h j (by omega) (by omega))
   have h2:=h i (Nat.le_refl _) (by omega)
   unfold kE at h2
   have h3:(a i - 48)*10 ^ n≤9*10 ^ n:=Nat.mul_le_mul_right _ (by omega)
   have h4:10 ^ (n+1)=10*10 ^ n:=by rw [Nat.pow_succ,Nat.mul_comm]
   simp only [val]
   omega
theorem DK {a:Nat→Nat} {n i:Nat} (h:kE (a i)) (h0:a i≠48):10 ^ n≤val a i (n+1):=by
 unfold kE at h
 have h3:1*10 ^ n≤(a i - 48)*10 ^ n:=Nat.mul_le_mul_right _ (by omega)
 simp only [val]
 omega
theorem rM (a:Nat→Nat) (i m K:Nat) :
 (a i - 48)*K+val a (i+1) m*K / 10 ^ m=val a i (m+1)*K / 10 ^ m:=by
 have hp:0 < 10 ^ m:=Nat.pow_pos (by decide)
 have:val a i (m+1)*K=val a (i+1) m*K+10 ^ m*((a i - 48)*K):=by
  simp only [val,Nat.add_mul]
  rw [Nat.mul_comm (10 ^ m),Nat.mul_assoc,Nat.mul_assoc,Nat.mul_comm K,Nat.add_comm]
 rw [this,Nat.add_mul_div_left _ _ hp,Nat.add_comm]
theorem vG (a:Nat→Nat) (i m K:Nat) :
 ((a i - 48)*K+val a (i+1) m*K / 10 ^ m) / 10=val a i (m+1)*K / 10 ^ (m+1):=by
 have hp:0 < 10 ^ m:=Nat.pow_pos (by decide)
 have h1:(a i - 48)*K+val a (i+1) m*K / 10 ^ m=val a i (m+1)*K / 10 ^ m:=by
  have:val a i (m+1)*K=val a (i+1) m*K+10 ^ m*((a i - 48)*K):=by
   simp only [val,Nat.add_mul]
   rw [Nat.mul_comm (10 ^ m),Nat.mul_assoc,Nat.mul_assoc,Nat.mul_comm K,Nat.add_comm]
  rw [this,Nat.add_mul_div_left _ _ hp,Nat.add_comm]
 rw [h1,Nat.div_div_eq_div_mul,Nat.pow_succ]
def less (a c:Nat→Nat):Nat→Nat→Nat→Nat→Bool
 | _,_,_,0=>false
 | _,0,_,_+1=>true
 | i,n+1,j,m+1=>if a i=c j then less a c (i+1) n (j+1) m else decide (a i < c j)
theorem rH {a c:Nat→Nat}:∀ m n i j,(∀ k,i≤k→k < i+n→kE (a k))→(∀ k,j≤k→k < j+m→kE (c k))→(0 < m→c (j+m - 1)≠48) →
 (less a c i n j m=true→val a i n*10 ^ m < val c j m*10 ^ n)∧(less a c i n j m=false→val c j m*10 ^ n≤val a i n*10 ^ m)
 | 0,n,i,j,ha,hc,hl=>by simp [less,val]
 | m+1,0,i,j,ha,hc,hl=>by
   refine ⟨fun _=>?_,fun h=>by simp [less] at h⟩
   have hpos:∀ m j,(∀ k,j≤k→k < j+(m+1)→kE (c k))→c (j+(m+1) - 1)≠48→0 < val c j (m+1):=by
    intro m
    induction m with
    | zero =>
      intro j hc hl
      have h2:=hc j (by omega) (by omega)
      unfold kE at h2
      have:c j≠48:=by simpa using hl
      simp [val];omega
    | succ m ih =>
      intro j hc hl
      have:=ih (j+1) (fun k h1 h2=>hc k (by omega) (by omega)) (by
       have e:j+1+(m+1) - 1=j+(m+1+1) - 1:=by omega
       rw [e];exact hl)
      rw [val]
      omega
   have:=hpos m j hc (hl (by omega))
   simpa [val] using this
 | m+1,n+1,i,j,ha,hc,hl=>by
   have ih:=rH m n (i+1) (j+1) (fun k h1 h2=>ha k (by omega) (by omega)) (fun k h1 h2=>hc k (by omega) (by omega)) (fun h=>by
    have e:j+1+m - 1=j+(m+1) - 1:=by omega
    rw [e];exact hl (by omega))
   have ha0:=ha i (by omega) (by omega)
   have hc0:=hc j (by omega) (by omega)
   have va:=qy (a:=a) n (i+1) (fun k h1 h2=>ha k (by omega) (by omega))
   have vc:=qy (a:=c) m (j+1) (fun k h1 h2=>hc k (by omega) (by omega))
   unfold kE at ha0 hc0
   have e1:val a i (n+1)*10 ^ (m+1)=(a i - 48)*(10 ^ n*10 ^ m*10)+val a (i+1) n*10 ^ m*10:=by
    simp only [val,Nat.add_mul,Nat.pow_succ,Nat.mul_assoc]
   have e2:val c j (m+1)*10 ^ (n+1)=(c j - 48)*(10 ^ n*10 ^ m*10)+val c (j+1) m*10 ^ n*10:=by
    simp only [val,Nat.add_mul,Nat.pow_succ,Nat.mul_assoc]
    rw [Nat.mul_left_comm (10 ^ m)]
   have b1:val a (i+1) n*10 ^ m*10 < 10 ^ n*10 ^ m*10:=by
    have:=Nat.mul_lt_mul_of_pos_right va (show 0 < 10 ^ m from Nat.pow_pos (by decide))
    omega
   have b2:val c (j+1) m*10 ^ n*10 < 10 ^ n*10 ^ m*10:=by
    have:=Nat.mul_lt_mul_of_pos_right vc (show 0 < 10 ^ n from Nat.pow_pos (by decide))
    have e:10 ^ m*10 ^ n=10 ^ n*10 ^ m:=Nat.mul_comm _ _
    omega
   rw [e1,e2]
   by_cases heq:a i=c j
   ·simp only [less,heq,if_true]
    refine ⟨fun h=>?_,fun h=>?_⟩
    ·have:=ih.1 h;omega
    ·have:=ih.2 h;omega
   ·simp only [less,heq,if_false,decide_eq_true_eq,decide_eq_false_iff_not]
    refine ⟨fun h=>?_,fun h=>?_⟩
    ·have:(a i - 48+1)*(10 ^ n*10 ^ m*10)≤(c j - 48)*(10 ^ n*10 ^ m*10):=Nat.mul_le_mul_right _ (by omega)
     rw [Nat.add_mul] at this;omega
    ·have:(c j - 48+1)*(10 ^ n*10 ^ m*10)≤(a i - 48)*(10 ^ n*10 ^ m*10):=Nat.mul_le_mul_right _ (by omega)
     rw [Nat.add_mul] at this;omega
structure Df (k D L:Nat) (c:Nat→Nat):Prop where
 dig:∀ j,j < L→kE (c j)
 last:0 < L→c (L - 1)≠48
 low:10 ^ (D - 1)≤2 ^ k
 high:2 ^ k < 10 ^ D
 cut:val c 0 L*2 ^ k=10 ^ (L+D - 1)
 pos:0 < D
theorem tZ {a c:Nat→Nat} {k D L nd:Nat} (hC:Df k D L c) (hnd:0 < nd) (ha:∀ j,j < nd→kE (a j)) (h0:a 0≠48) :
 let delta:=if less a c 0 nd 0 L then D - 1 else D
 val a 0 nd*2 ^ k / 10 ^ nd < 10 ^ delta∧(0 < delta→10 ^ (delta - 1)≤val a 0 nd*2 ^ k / 10 ^ nd):=by
 intro delta
 have hp:∀ n,0 < 10 ^ n:=fun n=>Nat.pow_pos (by decide)
 have hs:=rH (a:=a) (c:=c) L nd 0 0 (fun j _ h=>ha j (by omega)) (fun j _ h=>hC.dig j (by omega)) (fun h=>by simpa using hC.last h)
 have hv:val a 0 nd < 10 ^ nd:=qy nd 0 (fun j _ h=>ha j (by omega))
 have hv1:10 ^ (nd - 1)≤val a 0 nd:=by
  obtain ⟨n,rfl⟩:∃ n,nd=n+1:=⟨nd - 1,by omega⟩
  exact DK (ha 0 (by omega)) h0
 have hD:=hC.pos
 have e1:10 ^ (L+D - 1)=10 ^ L*10 ^ (D - 1):=by rw [← Nat.pow_add];congr 1;omega
 cases hl:less a c 0 nd 0 L with
 | true =>
   have hd:delta=D - 1:=by simp [delta,hl]
   have h1:=hs.1 hl
   rw [hd]
   constructor
   ·rw [Nat.div_lt_iff_lt_mul (hp nd)]
    have h2:val a 0 nd*10 ^ L*2 ^ k < val c 0 L*10 ^ nd*2 ^ k:=Nat.mul_lt_mul_of_pos_right h1 (Nat.pow_pos (by decide))
    have h3:val c 0 L*10 ^ nd*2 ^ k=10 ^ L*(10 ^ (D - 1)*10 ^ nd):=by
     rw [Nat.mul_right_comm,hC.cut,e1,Nat.mul_assoc]
    have h4:val a 0 nd*10 ^ L*2 ^ k=10 ^ L*(val a 0 nd*2 ^ k):=by
     rw [Nat.mul_comm (val a 0 nd),Nat.mul_assoc]
    rw [h3,h4] at h2
    exact Nat.lt_of_mul_lt_mul_left h2
   ·intro hpos
    rw [Nat.le_div_iff_mul_le (hp nd)]
    have h2:10 ^ (nd - 1)*10 ^ (D - 1)≤val a 0 nd*2 ^ k:=Nat.mul_le_mul hv1 hC.low
    have h3:10 ^ (nd - 1)*10 ^ (D - 1)=10 ^ (D - 1 - 1)*10 ^ nd:=by
     rw [← Nat.pow_add,← Nat.pow_add];congr 1;omega
    omega
 | false =>
   have hd:delta=D:=by simp [delta,hl]
   have h1:=hs.2 hl
   rw [hd]
   constructor
   ·rw [Nat.div_lt_iff_lt_mul (hp nd)]
    have h2:val a 0 nd*2 ^ k < 10 ^ nd*2 ^ k:=Nat.mul_lt_mul_of_pos_right hv (Nat.pow_pos (by decide))
    have h3:10 ^ nd*2 ^ k≤10 ^ nd*10 ^ D:=Nat.mul_le_mul_left _ (Nat.le_of_lt hC.high)
    rw [Nat.mul_comm (10 ^ D)]
    omega
   ·intro _
    rw [Nat.le_div_iff_mul_le (hp nd)]
    have h2:val c 0 L*10 ^ nd*2 ^ k≤val a 0 nd*10 ^ L*2 ^ k:=Nat.mul_le_mul_right _ h1
    have h3:val c 0 L*10 ^ nd*2 ^ k=10 ^ L*(10 ^ (D - 1)*10 ^ nd):=by
     rw [Nat.mul_right_comm,hC.cut,e1,Nat.mul_assoc]
    have h4:val a 0 nd*10 ^ L*2 ^ k=10 ^ L*(val a 0 nd*2 ^ k):=by
     rw [Nat.mul_comm (val a 0 nd),Nat.mul_assoc]
    rw [h3,h4] at h2
    exact Nat.le_of_mul_le_mul_left h2 (hp L)
open Go Go.RowKit Go.Proofs.YtpgfjbimodnkeaaGreatDoorW.PrintWords
def dB (W:World) (g:Nat) (a:Nat→Int) (nd dp:Int) (neg tr:Bool):Prop :=
 ∃ (cs:Array Value) (T:TypeId),W.heap[g]?=some (.cells cs T (0,0))∧cs.size=804∧(∀ i,i < 800→cs[i]?=some (.int .u8 (a i))) ∧
  cs[800]?=some (.int .i64 nd)∧cs[801]?=some (.int .i64 dp)∧cs[802]?=some (.bool neg)∧cs[803]?=some (.bool tr)
section
variable {W W1:World} {g:Nat} {a:Nat→Int} {nd dp:Int} {neg tr:Bool}
theorem dB.drewN (h:dB W g a nd dp neg tr) (m:Nat):dB (W.drewN m) g a nd dp neg tr:=h
theorem dB.frozen (h:dB W g a nd dp neg tr) (i:Nat):W.frozen? ⟨g,i,none⟩=false:=by
 obtain ⟨cs,T,h1,_⟩:=h
 exact ax h1 i
theorem dB.dig (h:dB W g a nd dp neg tr) {i:Nat} (hi:i < 800):W.cell? ⟨g,i,none⟩=some (.int .u8 (a i)):=by
 obtain ⟨cs,T,h1,_,h2,_⟩:=h
 exact (ak h1 i).trans (h2 i hi)
theorem dB.je (h:dB W g a nd dp neg tr):W.cell? ⟨g,800,none⟩=some (.int .i64 nd):=by
 obtain ⟨cs,T,h1,_,_,h2,_⟩:=h
 exact (ak h1 _).trans h2
theorem dB.jC (h:dB W g a nd dp neg tr):W.cell? ⟨g,801,none⟩=some (.int .i64 dp):=by
 obtain ⟨cs,T,h1,_,_,_,h2,_⟩:=h
 exact (ak h1 _).trans h2
theorem dB.at_neg (h:dB W g a nd dp neg tr):W.cell? ⟨g,802,none⟩=some (.bool neg):=by
 obtain ⟨cs,T,h1,_,_,_,_,h2,_⟩:=h
 exact (ak h1 _).trans h2
theorem dB.jX (h:dB W g a nd dp neg tr):W.cell? ⟨g,803,none⟩=some (.bool tr):=by
 obtain ⟨cs,T,h1,_,_,_,_,_,h2⟩:=h
 exact (ak h1 _).trans h2
theorem dB.nM (h:dB W g a nd dp neg tr) (x:Int):dB (W.setCell ⟨g,800,none⟩ (.int .i64 x)) g a x dp neg tr:=by
 obtain ⟨cs,T,h1,hs,h2,h3,h4,h5,h6⟩:=h
 exact ⟨_,T,jP h1 800 _,by simpa using hs,fun i hi=>by rw [Array.getElem?_setIfInBounds_ne (by omega)];exact h2 i hi,by rw [Array.getElem?_setIfInBounds_self_of_lt (by omega)],by rw [Array.getElem?_setIfInBounds_ne (by omega)];exact h4,by rw [Array.getElem?_setIfInBounds_ne (by omega)];exact h5,by rw [Array.getElem?_setIfInBounds_ne (by omega)];exact h6⟩
theorem dB.oM (h:dB W g a nd dp neg tr) (x:Int):dB (W.setCell ⟨g,801,none⟩ (.int .i64 x)) g a nd x neg tr:=by
 obtain ⟨cs,T,h1,hs,h2,h3,h4,h5,h6⟩:=h
 exact ⟨_,T,jP h1 801 _,by simpa using hs,fun i hi=>by rw [Array.getElem?_setIfInBounds_ne (by omega)];exact h2 i hi,by rw [Array.getElem?_setIfInBounds_ne (by omega)];exact h3,by rw [Array.getElem?_setIfInBounds_self_of_lt (by omega)],by rw [Array.getElem?_setIfInBounds_ne (by omega)];exact h5,by rw [Array.getElem?_setIfInBounds_ne (by omega)];exact h6⟩
theorem dB.BN (h:dB W g a nd dp neg tr) (x:Bool):dB (W.setCell ⟨g,802,none⟩ (.bool x)) g a nd dp x tr:=by
 obtain ⟨cs,T,h1,hs,h2,h3,h4,h5,h6⟩:=h
 exact ⟨_,T,jP h1 802 _,by simpa using hs,fun i hi=>by rw [Array.getElem?_setIfInBounds_ne (by omega)];exact h2 i hi,by rw [Array.getElem?_setIfInBounds_ne (by omega)];exact h3,by rw [Array.getElem?_setIfInBounds_ne (by omega)];exact h4,by rw [Array.getElem?_setIfInBounds_self_of_lt (by omega)],by rw [Array.getElem?_setIfInBounds_ne (by omega)];exact h6⟩
theorem dB.tX (h:dB W g a nd dp neg tr) (x:Bool):dB (W.setCell ⟨g,803,none⟩ (.bool x)) g a nd dp neg x:=by
 obtain ⟨cs,T,h1,hs,h2,h3,h4,h5,h6⟩:=h
 exact ⟨_,T,jP h1 803 _,by simpa using hs,fun i hi=>by rw [Array.getElem?_setIfInBounds_ne (by omega)];exact h2 i hi,by rw [Array.getElem?_setIfInBounds_ne (by omega)];exact h3,by rw [Array.getElem?_setIfInBounds_ne (by omega)];exact h4,by rw [Array.getElem?_setIfInBounds_ne (by omega)];exact h5,by rw [Array.getElem?_setIfInBounds_self_of_lt (by omega)]⟩
def upd (a:Nat→Int) (i:Nat) (x:Int):Nat→Int:=fun j=>if j=i then x else a j
theorem dB.lD (h:dB W g a nd dp neg tr) {i:Nat} (hi:i < 800) (x:Int):dB (W.setCell ⟨g,i,none⟩ (.int .u8 x)) g (upd a i x) nd dp neg tr:=by
 obtain ⟨cs,T,h1,hs,h2,h3,h4,h5,h6⟩:=h
 refine ⟨_,T,jP h1 i _,by simpa using hs,fun j hj=>?_,by rw [Array.getElem?_setIfInBounds_ne (by omega)];exact h3,by rw [Array.getElem?_setIfInBounds_ne (by omega)];exact h4,by rw [Array.getElem?_setIfInBounds_ne (by omega)];exact h5,by rw [Array.getElem?_setIfInBounds_ne (by omega)];exact h6⟩
 by_cases hj2:j=i
 ·subst hj2
  rw [Array.getElem?_setIfInBounds_self_of_lt (by omega)]
  simp [upd]
 ·rw [Array.getElem?_setIfInBounds_ne (by omega)]
  simp [upd,hj2,h2 j hj]
structure Good (a:Nat→Int) (nd:Int):Prop where
 low:0≤nd
 high:nd≤800
 dig:∀ i:Nat,(i:Int) < nd→48≤a i∧a i≤57
 first:0 < nd→a 0≠48
end
theorem add0 (g m:Nat):(⟨g,0,none⟩:Addr).add m=⟨g,m,none⟩:=by
 unfold Addr.add
 split
 ·subst_vars;rfl
 ·simp
theorem Good.less {a:Nat→Int} {n n':Int} (h:Good a n) (h0:0≤n') (hl:n'≤n):Good a n' :=
 ⟨h0,Int.le_trans hl h.high,fun i hi=>h.dig i (by omega),fun hp=>h.first (by omega)⟩
theorem dB.drewN' {W:World} {g:Nat} {a:Nat→Int} {nd dp:Int} {neg tr:Bool} (h:dB W g a nd dp neg tr) (m:Nat):dB (W.drewN m) g a nd dp neg tr:=h
structure sU (e:Ending):Prop where mk :: (out:∃ b,e = .returned (.bool b))
structure D6 (e:Ending):Prop where mk :: (out:∃ n:Int,e = .returned (.int .u64 n)∧0≤n∧n < 18446744073709551616)
open Go Go.RowKit Go.Proofs.YtpgfjbimodnkeaaGreatDoorW.PrintWords Go.Proofs.YtpgfjbimodnkeaaGreatDoorW.PrintLast Go.Proofs.YtpgfjbimodnkeaaGreatDoorW.PrintMore
def Di (s:ByteArray):Prop:=∀ i:Nat,i < s.size→bt s (i:Int)≠95∧Go.bits .or .u8 (bt s (i:Int)) 32≠120
structure Eb (s:ByteArray) (e:Ending):Prop where mk :: (out:∃ (m x:Int) (ng tr:Bool) (i:Nat) (ok:Bool),e = .returned (.tuple #[.int .u64 m,.int .i64 x,.bool ng,.bool tr,.bool false,.int .i64 (i:Int),.bool ok])∧i≤s.size∧0≤m∧m < 18446744073709551616∧-1000000000≤x∧x≤1000000000)
theorem oO {n:Nat} (t:List Value) (h:t.length=n):t=(List.range n).map (fun i=>t.getD i undef):=by
 subst h
 apply List.ext_getElem
 ·simp
 ·intro i h1 h2
  simp [List.getD_eq_getElem?_getD,h1]
theorem oJ {P:Program} {Q:Exit→Act→World→Prop} {a:Act} {w:World} {x y:Code} (J:Act→World→Prop) (hy:∀ a w,J a w→y.wp P Q a w)
 (hx:∀ K:Act→World→Prop,(∀ a w,J a w→K a w)→x.wp P (Exit.then K Q) a w):(Code.seq x y).wp P Q a w:=wp_seq_k fun K hK=>hx K (fun a w h=>hK a w (hy a w h))
theorem kY (x:Int):0≤IntKind.u64.wrap x∧IntKind.u64.wrap x < 18446744073709551616:=by
 simp [IntKind.wrap,IntKind.bits,IntKind.signed];omega
structure RfD (B:Int) (v13 v14 v15 v16 v17:Value):Prop where mk :: (out:∃ (b13 b14:Bool) (x15 x16 x17:Int),v13 = .bool b13∧v14 = .bool b14∧v15 = .int .i64 x15∧v16 = .int .i64 x16∧v17 = .int .i64 x17∧-B≤x15∧x15≤B∧-B≤x16∧x16≤B∧-B≤x17∧x17≤B)
def RfJ (s:ByteArray) (w:World) (C:Value→Value→Value→Prop) (D:Value→Value→Value→Value→Value→Prop) (E:Value→Prop) (f:Act) (W:World):Prop :=
 ∃ (i:Nat) (m:Int) (ng tr:Bool) (u1 v10 v11 v12 v13 v14 v15 v16 v17 v18 v19 v20:Value) (t:List Value),f=⟨(.string s :: u1 :: .int .u64 m :: .int .i64 0 :: .bool ng :: .bool tr :: .bool false :: .int .i64 (i:Int) :: .bool false :: .bool false :: v10 :: v11 :: v12 :: v13 :: v14 :: v15 :: v16 :: v17 :: v18 :: v19 :: v20 :: t).toArray,[]⟩∧t.length=232∧C v10 v11 v12∧D v13 v14 v15 v16 v17∧E v19∧i≤s.size∧0≤m∧m < 18446744073709551616∧ai w W
theorem Ap (w:World) (s:ByteArray) (hs:s.size≤1000000) (hcs:Di s) :
 Calls Tryz.prog 146 #[.string s] w fun e w'=>Eb s e∧ai w w':=by
 have hx0:=hcs
 by_cases h0:s.size=0
 ·have c0:decide ((s.size:Int)≤0)=true:=decide_eq_true (by omega)
  have c0':decide (s.size≤0)=true:=decide_eq_true (by omega)
  have hi0:0≤s.size:=by omega
  have hW:=ai.refl w
  obtain ⟨i,hi⟩:∃ i:Nat,i=0:=⟨0,rfl⟩
  go_enter Tryz.func146,Tryz.ntmps146
  go_wp2
  go_step3
  go_wp2
  all_goals (try simp only [Exit.noGoto_ret])
  all_goals refine bodyPost_ret (fE (rs:=[.tmp 2,.tmp 3,.tmp 4,.tmp 5,.tmp 6,.tmp 7,.tmp 8]) rfl (by simp) (.tmp (.tmp (.tmp (.tmp (.tmp (.tmp (.tmp .nil)))))))) rfl ?_
  all_goals first | exact ⟨⟨_,_,_,_,i,_,rfl,by omega,by omega,by omega,by omega,by omega⟩,by repeat (first | exact hW | exact ai.refl _ | apply ai.step)⟩ | exact ⟨⟨_,_,_,_,i+1,_,rfl,by omega,by omega,by omega,by omega,by omega⟩,by repeat (first | exact hW | exact ai.refl _ | apply ai.step)⟩ | exact ⟨⟨_,_,_,_,0,_,rfl,by omega,by omega,by omega,by omega,by omega⟩,by repeat (first | exact hW | exact ai.refl _ | apply ai.step)⟩
 have c0:decide ((s.size:Int)≤0)=false:=decide_eq_false (by omega)
 have c0':decide (s.size≤0)=false:=decide_eq_false (by omega)
 have p1:(0:Int)≤0:=by omega
 have q1:(0:Int) < (s.size:Int):=by omega
 have q1':0 < s.size:=by omega
 have hx:((s[0]'q1').toNat:Int)=bt s 0:=dI s 0 (by simpa using q1')
 have hW:=ai.refl w
 go_enter Tryz.func146,Tryz.ntmps146
 repeat (first | (refine oJ (x:=Code.seq (Code.region 3 _ _) _) (RfJ s w (fun _ _ _=>True) (fun _ _ _ _ _=>True) (fun _=>True)) ?_ (fun K hK=>?_)) | go_values | go_guarded | go_step | go_step3 | go_upon | go_back | (simp only [Int.not_lt,Int.not_le] at *;go_simp) | (go_values <;> (try go_simp)))
 rotate_left
 ·go_wp2
  all_goals first | ((refine ⟨0,_,_,_,_,_,_,_,_,_,_,_,_,_,_,_,_,rfl,?_⟩;refine ⟨rfl,trivial,trivial,trivial,?_,?_,?_,?_⟩ <;> first | omega | (repeat (first | exact hW | exact ai.refl _ | apply ai.step)));done) | ((refine ⟨1,_,_,_,_,_,_,_,_,_,_,_,_,_,_,_,_,rfl,?_⟩;refine ⟨rfl,trivial,trivial,trivial,?_,?_,?_,?_⟩ <;> first | omega | (repeat (first | exact hW | exact ai.refl _ | apply ai.step)));done)
 rintro f W ⟨i,m,ng,tr,u1,v10,v11,v12,v13,v14,v15,v16,v17,v18,v19,v20,t,rfl,ht,hC,hD,hE,hi1,hm0,hm1,hW⟩
 obtain ⟨v,rfl⟩:∃ v:Nat→Value,t=[v 0,v 1,v 2,v 3,v 4,v 5,v 6,v 7,v 8,v 9,v 10,v 11,v 12,v 13,v 14,v 15,v 16,v 17,v 18,v 19,v 20,v 21,v 22,v 23,v 24,v 25,v 26,v 27,v 28,v 29,v 30,v 31,v 32,v 33,v 34,v 35,v 36,v 37,v 38,v 39,v 40,v 41,v 42,v 43,v 44,v 45,v 46,v 47,v 48,v 49,v 50,v 51,v 52,v 53,v 54,v 55,v 56,v 57,v 58,v 59,v 60,v 61,v 62,v 63,v 64,v 65,v 66,v 67,v 68,v 69,v 70,v 71,v 72,v 73,v 74,v 75,v 76,v 77,v 78,v 79,v 80,v 81,v 82,v 83,v 84,v 85,v 86,v 87,v 88,v 89,v 90,v 91,v 92,v 93,v 94,v 95,v 96,v 97,v 98,v 99,v 100,v 101,v 102,v 103,v 104,v 105,v 106,v 107,v 108,v 109,v 110,v 111,v 112,v 113,v 114,v 115,v 116,v 117,v 118,v 119,v 120,v 121,v 122,v 123,v 124,v 125,v 126,v 127,v 128,v 129,v 130,v 131,v 132,v 133,v 134,v 135,v 136,v 137,v 138,v 139,v 140,v 141,v 142,v 143,v 144,v 145,v 146,v 147,v 148,v 149,v 150,v 151,v 152,v 153,v 154,v 155,v 156,v 157,v 158,v 159,v 160,v 161,v 162,v 163,v 164,v 165,v 166,v 167,v 168,v 169,v 170,v 171,v 172,v 173,v 174,v 175,v 176,v 177,v 178,v 179,v 180,v 181,v 182,v 183,v 184,v 185,v 186,v 187,v 188,v 189,v 190,v 191,v 192,v 193,v 194,v 195,v 196,v 197,v 198,v 199,v 200,v 201,v 202,v 203,v 204,v 205,v 206,v 207,v 208,v 209,v 210,v 211,v 212,v 213,v 214,v 215,v 216,v 217,v 218,v 219,v 220,v 221,v 222,v 223,v 224,v 225,v 226,v 227,v 228,v 229,v 230,v 231]:=⟨fun i=>t.getD i undef,oO t ht⟩
 clear ht
 clear hC hD hE hx0 hx p1 q1
 repeat (first | (refine oJ (x:=Code.seq (Code.region 12 _ _) _) (RfJ s w (fun v10 v11 v12=>v10 = .int .u64 10∧v11 = .int .i64 19∧v12 = .int .u8 101) (fun _ _ _ _ _=>True) (fun _=>True)) ?_ (fun K hK=>?_)) | go_values | go_guarded | go_step | go_step3 | go_upon | go_back | (simp only [Int.not_lt,Int.not_le] at *;go_simp) | (go_values <;> (try go_simp)))
 rotate_left
 ·have mk:∀ (K:Act→World→Prop) (f:Act) (W:World),RfJ s w (fun v10 v11 v12=>v10 = .int .u64 10∧v11 = .int .i64 19∧v12 = .int .u8 101) (fun _ _ _ _ _=>True) (fun _=>True) f W→True:=fun _ _ _ _=>trivial
  clear mk
  by_cases h2:i+2 < s.size
  ·have d1:decide ((i:Int)+2 < (s.size:Int))=true:=decide_eq_true (by omega)
   have d1b:decide (i+2 < s.size)=true:=decide_eq_true h2
   have hi:i < s.size:=by omega
   have hi2:i+1 < s.size:=by omega
   have p1:(0:Int)≤((i:Nat):Int):=by omega
   have q1:((i:Nat):Int) < (s.size:Int):=by omega
   have x1:((s[i]'hi).toNat:Int)=bt s ((i:Nat):Int):=dI s ((i:Nat):Int) (by simpa using hi)
   obtain ⟨r1a,r1b⟩:=fP s ((i:Nat):Int)
   obtain ⟨n1a,n1b⟩:=hcs (i) hi
   generalize bt s ((i:Nat):Int)=c at x1 r1a r1b n1a n1b
   replace p1:=eq_true p1
   replace q1:=eq_true q1
   have p2:(0:Int)≤(i:Int)+1:=by omega
   have q2:(i:Int)+1 < (s.size:Int):=by omega
   have x2:((s[i+1]'(by omega:i+1 < s.size)).toNat:Int)=bt s ((i+1:Nat):Int):=dI s ((i+1:Nat):Int) (by simpa using (by omega:i+1 < s.size))
   obtain ⟨r2a,r2b⟩:=fP s ((i+1:Nat):Int)
   obtain ⟨n2a,n2b⟩:=hcs (i+1) (by omega:i+1 < s.size)
   generalize bt s ((i+1:Nat):Int)=c2 at x2 r2a r2b n2a n2b
   replace p2:=eq_true p2
   replace q2:=eq_true q2
   by_cases k1:c=48
   ·have k1b:(c == 48)=true:=beq_iff_eq.mpr k1
    obtain ⟨L,hL⟩:∃ L,Go.bits .or .u8 c2 32=L:=⟨_,rfl⟩
    have hlower:=fun W=>Go.Proofs.YtpgfjbimodnkeaaGreatDoor.Q.gB.calls c2 L W (by rw [Go.Proofs.YtpgfjbimodnkeaaGreatDoor.Q.gB.f,hL])
    rw [hL] at n2b
    have hLb:(L == 120)=false:=beq_eq_false_iff_ne.mpr n2b
    clear hL
    go_wp2_with (first | (go_at_call 137;refine (hlower _).mono ?_;rintro e w5 ⟨rfl,⟨m5,rfl⟩⟩))
    (refine ⟨i,_,_,_,_,_,_,_,_,_,_,_,_,_,_,_,_,rfl,?_⟩;refine ⟨rfl,⟨rfl,rfl,rfl⟩,trivial,trivial,?_,?_,?_,?_⟩ <;> first | omega | (repeat (first | exact hW | exact ai.refl _ | apply ai.step)))
   ·have k1b:(c == 48)=false:=beq_eq_false_iff_ne.mpr k1
    go_wp2
    (refine ⟨i,_,_,_,_,_,_,_,_,_,_,_,_,_,_,_,_,rfl,?_⟩;refine ⟨rfl,⟨rfl,rfl,rfl⟩,trivial,trivial,?_,?_,?_,?_⟩ <;> first | omega | (repeat (first | exact hW | exact ai.refl _ | apply ai.step)))
  ·have d1:decide ((i:Int)+2 < (s.size:Int))=false:=decide_eq_false (by omega)
   have d1b:decide (i+2 < s.size)=false:=decide_eq_false h2
   go_wp2
   (refine ⟨i,_,_,_,_,_,_,_,_,_,_,_,_,_,_,_,_,rfl,?_⟩;refine ⟨rfl,⟨rfl,rfl,rfl⟩,trivial,trivial,?_,?_,?_,?_⟩ <;> first | omega | (repeat (first | exact hW | exact ai.refl _ | apply ai.step)))
 rintro f W ⟨i,m,ng,tr,u1,v10,v11,v12,v13,v14,v15,v16,v17,v18,v19,v20,t,rfl,ht,hC,hD,hE,hi1,hm0,hm1,hW⟩
 obtain ⟨v,rfl⟩:∃ v:Nat→Value,t=[v 0,v 1,v 2,v 3,v 4,v 5,v 6,v 7,v 8,v 9,v 10,v 11,v 12,v 13,v 14,v 15,v 16,v 17,v 18,v 19,v 20,v 21,v 22,v 23,v 24,v 25,v 26,v 27,v 28,v 29,v 30,v 31,v 32,v 33,v 34,v 35,v 36,v 37,v 38,v 39,v 40,v 41,v 42,v 43,v 44,v 45,v 46,v 47,v 48,v 49,v 50,v 51,v 52,v 53,v 54,v 55,v 56,v 57,v 58,v 59,v 60,v 61,v 62,v 63,v 64,v 65,v 66,v 67,v 68,v 69,v 70,v 71,v 72,v 73,v 74,v 75,v 76,v 77,v 78,v 79,v 80,v 81,v 82,v 83,v 84,v 85,v 86,v 87,v 88,v 89,v 90,v 91,v 92,v 93,v 94,v 95,v 96,v 97,v 98,v 99,v 100,v 101,v 102,v 103,v 104,v 105,v 106,v 107,v 108,v 109,v 110,v 111,v 112,v 113,v 114,v 115,v 116,v 117,v 118,v 119,v 120,v 121,v 122,v 123,v 124,v 125,v 126,v 127,v 128,v 129,v 130,v 131,v 132,v 133,v 134,v 135,v 136,v 137,v 138,v 139,v 140,v 141,v 142,v 143,v 144,v 145,v 146,v 147,v 148,v 149,v 150,v 151,v 152,v 153,v 154,v 155,v 156,v 157,v 158,v 159,v 160,v 161,v 162,v 163,v 164,v 165,v 166,v 167,v 168,v 169,v 170,v 171,v 172,v 173,v 174,v 175,v 176,v 177,v 178,v 179,v 180,v 181,v 182,v 183,v 184,v 185,v 186,v 187,v 188,v 189,v 190,v 191,v 192,v 193,v 194,v 195,v 196,v 197,v 198,v 199,v 200,v 201,v 202,v 203,v 204,v 205,v 206,v 207,v 208,v 209,v 210,v 211,v 212,v 213,v 214,v 215,v 216,v 217,v 218,v 219,v 220,v 221,v 222,v 223,v 224,v 225,v 226,v 227,v 228,v 229,v 230,v 231]:=⟨fun i=>t.getD i undef,oO t ht⟩
 clear ht
 obtain ⟨rfl,rfl,rfl⟩:=hC
 clear hD hE
 repeat (first | (refine oJ (x:=Code.block 1 _) (RfJ s w (fun v10 v11 v12=>v10 = .int .u64 10∧v11 = .int .i64 19∧v12 = .int .u8 101) (RfD 5000000) (fun _=>True)) ?_ (fun K hK=>?_)) | go_values | go_guarded | go_step | go_step3 | go_upon | go_back | (simp only [Int.not_lt,Int.not_le] at *;go_simp) | (go_values <;> (try go_simp)))
 rotate_left
 ·go_wp2
  go_loopg [2,5,7,9,13,14,15,16,17] s.size (fun kq z2 z5 z7 z9 z13 z14 z15 z16 z17 w'=>∃ (i:Nat) (m:Int) (tr b13 b14:Bool) (x15 x16 x17:Int),z7 = .int .i64 (i:Int)∧z2 = .int .u64 m∧z5 = .bool tr∧z9 = .bool false∧z13 = .bool b13∧z14 = .bool b14∧z15 = .int .i64 x15∧z16 = .int .i64 x16∧z17 = .int .i64 x17∧s.size - i≤kq∧i≤s.size∧0≤m∧m < 18446744073709551616∧0≤x15∧x15≤i∧0≤x16∧x16≤i∧-(i:Int)≤x17∧x17≤i∧ai w w')
  case atStart=>exact ⟨i,m,tr,false,false,0,0,0,rfl,rfl,rfl,rfl,rfl,rfl,rfl,rfl,rfl,by omega,by omega,hm0,hm1,by omega,by omega,by omega,by omega,by omega,by omega,by repeat (first | exact hW | exact ai.refl _ | apply ai.step)⟩
  case round =>
   clear hW hi1 hm0 hm1
   obtain ⟨i,m,tr,b13,b14,x15,x16,x17,rfl,rfl,rfl,rfl,rfl,rfl,rfl,rfl,rfl,hkq,hi1,hm0,hm1,y1,y2,y3,y4,y5,y6,hW⟩:=hrel
   obtain ⟨mw,rfl⟩:=hW
   have hW:ai w (w.drewN mw):=⟨⟨mw,rfl⟩⟩
   by_cases hi:i < s.size
   ·have c1:decide ((i:Int) < (s.size:Int))=true:=decide_eq_true (by omega)
    have c1':decide (i < s.size)=true:=decide_eq_true hi
    have p1:(0:Int)≤((i:Nat):Int):=by omega
    have q1:((i:Nat):Int) < (s.size:Int):=by omega
    have x1:((s[i]'hi).toNat:Int)=bt s ((i:Nat):Int):=dI s ((i:Nat):Int) (by simpa using hi)
    obtain ⟨r1a,r1b⟩:=fP s ((i:Nat):Int)
    obtain ⟨n1a,n1b⟩:=hcs (i) hi
    generalize bt s ((i:Nat):Int)=c at x1 r1a r1b n1a n1b
    replace p1:=eq_true p1
    replace q1:=eq_true q1
    have k1b:(c == 95)=false:=beq_eq_false_iff_ne.mpr n1a
    by_cases k2:c=46
    ·have k2b:(c == 46)=true:=beq_iff_eq.mpr k2
     cases b13 with
     | true =>
       go_wp2
       all_goals ((refine ⟨i,_,_,_,_,_,_,_,_,_,_,_,_,_,_,_,_,rfl,?_⟩;refine ⟨rfl,⟨rfl,rfl,rfl⟩,⟨_,_,_,_,_,rfl,rfl,rfl,rfl,rfl,?_,?_,?_,?_,?_,?_⟩,trivial,?_,?_,?_,?_⟩ <;> first | omega | (repeat (first | exact hW | exact ai.refl _ | apply ai.step))))
     | false =>
       go_wp2
       go_roundg (s.size - (i+1))
       case measure=>omega
       case rel=>exact ⟨i+1,m,tr,true,b14,x15,x16,x15,by first | rfl | (congr 1;omega),by first | rfl | (congr 1;omega),rfl,rfl,rfl,rfl,by first | rfl | (congr 1;omega),by first | rfl | (congr 1;omega),by first | rfl | (congr 1;omega),Nat.le_refl _,by omega,hm0,hm1,by omega,by omega,by omega,by omega,by omega,by omega,by repeat (first | exact hW | exact ai.refl _ | apply ai.step)⟩
    ·have k2b:(c == 46)=false:=beq_eq_false_iff_ne.mpr k2
     by_cases k3:48≤c∧c≤57
     ·obtain ⟨k3,k4⟩:=k3
      have k3b:decide (48≤c)=true:=decide_eq_true k3
      have k4b:decide (c≤57)=true:=decide_eq_true k4
      by_cases k5:c=48
      ·have k5b:(c == 48)=true:=beq_iff_eq.mpr k5
       have k5c:(c != 48)=false:=bne_eq_false_iff_eq.mpr k5
       by_cases k6:x15=0
       ·have k6b:(x15 == 0)=true:=beq_iff_eq.mpr k6
        go_wp2
        go_roundg (s.size - (i+1))
        case measure=>omega
        case rel=>exact ⟨i+1,m,tr,b13,true,x15,x16,x17 - 1,by first | rfl | (congr 1;omega),by first | rfl | (congr 1;omega),rfl,rfl,rfl,rfl,by first | rfl | (congr 1;omega),by first | rfl | (congr 1;omega),by first | rfl | (congr 1;omega),Nat.le_refl _,by omega,hm0,hm1,by omega,by omega,by omega,by omega,by omega,by omega,by repeat (first | exact hW | exact ai.refl _ | apply ai.step)⟩
       ·have k6b:(x15 == 0)=false:=beq_eq_false_iff_ne.mpr k6
        by_cases k7:x16 < 19
        ·have k7b:decide (x16 < 19)=true:=decide_eq_true k7
         go_wp2
         go_roundg (s.size - (i+1))
         case measure=>omega
         case rel=>exact ⟨i+1,_,tr,b13,true,x15+1,x16+1,x17,by first | rfl | (congr 1;omega),by first | rfl | (congr 1;omega),rfl,rfl,rfl,rfl,by first | rfl | (congr 1;omega),by first | rfl | (congr 1;omega),by first | rfl | (congr 1;omega),Nat.le_refl _,by omega,by first | omega | exact (kY _).1,by first | omega | exact (kY _).2,by omega,by omega,by omega,by omega,by omega,by omega,by repeat (first | exact hW | exact ai.refl _ | apply ai.step)⟩
        ·have k7b:decide (x16 < 19)=false:=decide_eq_false k7
         go_wp2
         go_roundg (s.size - (i+1))
         case measure=>omega
         case rel=>exact ⟨i+1,m,tr,b13,true,x15+1,x16,x17,by first | rfl | (congr 1;omega),by first | rfl | (congr 1;omega),rfl,rfl,rfl,rfl,by first | rfl | (congr 1;omega),by first | rfl | (congr 1;omega),by first | rfl | (congr 1;omega),Nat.le_refl _,by omega,hm0,hm1,by omega,by omega,by omega,by omega,by omega,by omega,by repeat (first | exact hW | exact ai.refl _ | apply ai.step)⟩
      ·have k5b:(c == 48)=false:=beq_eq_false_iff_ne.mpr k5
       have k5c:(c != 48)=true:=bne_iff_ne.mpr k5
       by_cases k7:x16 < 19
       ·have k7b:decide (x16 < 19)=true:=decide_eq_true k7
        go_wp2
        go_roundg (s.size - (i+1))
        case measure=>omega
        case rel=>exact ⟨i+1,_,tr,b13,true,x15+1,x16+1,x17,by first | rfl | (congr 1;omega),by first | rfl | (congr 1;omega),rfl,rfl,rfl,rfl,by first | rfl | (congr 1;omega),by first | rfl | (congr 1;omega),by first | rfl | (congr 1;omega),Nat.le_refl _,by omega,by first | omega | exact (kY _).1,by first | omega | exact (kY _).2,by omega,by omega,by omega,by omega,by omega,by omega,by repeat (first | exact hW | exact ai.refl _ | apply ai.step)⟩
       ·have k7b:decide (x16 < 19)=false:=decide_eq_false k7
        go_wp2
        go_roundg (s.size - (i+1))
        case measure=>omega
        case rel=>exact ⟨i+1,m,true,b13,true,x15+1,x16,x17,by first | rfl | (congr 1;omega),by first | rfl | (congr 1;omega),rfl,rfl,rfl,rfl,by first | rfl | (congr 1;omega),by first | rfl | (congr 1;omega),by first | rfl | (congr 1;omega),Nat.le_refl _,by omega,hm0,hm1,by omega,by omega,by omega,by omega,by omega,by omega,by repeat (first | exact hW | exact ai.refl _ | apply ai.step)⟩
     ·have k3x:decide (48≤c)=false∨(decide (48≤c)=true∧decide (c≤57)=false):=by
       by_cases h48:48≤c
       ·exact .inr ⟨decide_eq_true h48,decide_eq_false (by omega)⟩
       ·exact .inl (decide_eq_false h48)
      rcases k3x with k3b | ⟨k3b,k3c⟩
      all_goals go_wp2
      all_goals ((refine ⟨i,_,_,_,_,_,_,_,_,_,_,_,_,_,_,_,_,rfl,?_⟩;refine ⟨rfl,⟨rfl,rfl,rfl⟩,⟨_,_,_,_,_,rfl,rfl,rfl,rfl,rfl,?_,?_,?_,?_,?_,?_⟩,trivial,?_,?_,?_,?_⟩ <;> first | omega | (repeat (first | exact hW | exact ai.refl _ | apply ai.step))))
   ·have c1:decide ((i:Int) < (s.size:Int))=false:=decide_eq_false (by omega)
    have c1':decide (i < s.size)=false:=decide_eq_false hi
    go_wp2
    all_goals ((refine ⟨i,_,_,_,_,_,_,_,_,_,_,_,_,_,_,_,_,rfl,?_⟩;refine ⟨rfl,⟨rfl,rfl,rfl⟩,⟨_,_,_,_,_,rfl,rfl,rfl,rfl,rfl,?_,?_,?_,?_,?_,?_⟩,trivial,?_,?_,?_,?_⟩ <;> first | omega | (repeat (first | exact hW | exact ai.refl _ | apply ai.step))))
 rintro f W ⟨i,m,ng,tr,u1,v10,v11,v12,v13,v14,v15,v16,v17,v18,v19,v20,t,rfl,ht,hC,hD,hE,hi1,hm0,hm1,hW⟩
 obtain ⟨v,rfl⟩:∃ v:Nat→Value,t=[v 0,v 1,v 2,v 3,v 4,v 5,v 6,v 7,v 8,v 9,v 10,v 11,v 12,v 13,v 14,v 15,v 16,v 17,v 18,v 19,v 20,v 21,v 22,v 23,v 24,v 25,v 26,v 27,v 28,v 29,v 30,v 31,v 32,v 33,v 34,v 35,v 36,v 37,v 38,v 39,v 40,v 41,v 42,v 43,v 44,v 45,v 46,v 47,v 48,v 49,v 50,v 51,v 52,v 53,v 54,v 55,v 56,v 57,v 58,v 59,v 60,v 61,v 62,v 63,v 64,v 65,v 66,v 67,v 68,v 69,v 70,v 71,v 72,v 73,v 74,v 75,v 76,v 77,v 78,v 79,v 80,v 81,v 82,v 83,v 84,v 85,v 86,v 87,v 88,v 89,v 90,v 91,v 92,v 93,v 94,v 95,v 96,v 97,v 98,v 99,v 100,v 101,v 102,v 103,v 104,v 105,v 106,v 107,v 108,v 109,v 110,v 111,v 112,v 113,v 114,v 115,v 116,v 117,v 118,v 119,v 120,v 121,v 122,v 123,v 124,v 125,v 126,v 127,v 128,v 129,v 130,v 131,v 132,v 133,v 134,v 135,v 136,v 137,v 138,v 139,v 140,v 141,v 142,v 143,v 144,v 145,v 146,v 147,v 148,v 149,v 150,v 151,v 152,v 153,v 154,v 155,v 156,v 157,v 158,v 159,v 160,v 161,v 162,v 163,v 164,v 165,v 166,v 167,v 168,v 169,v 170,v 171,v 172,v 173,v 174,v 175,v 176,v 177,v 178,v 179,v 180,v 181,v 182,v 183,v 184,v 185,v 186,v 187,v 188,v 189,v 190,v 191,v 192,v 193,v 194,v 195,v 196,v 197,v 198,v 199,v 200,v 201,v 202,v 203,v 204,v 205,v 206,v 207,v 208,v 209,v 210,v 211,v 212,v 213,v 214,v 215,v 216,v 217,v 218,v 219,v 220,v 221,v 222,v 223,v 224,v 225,v 226,v 227,v 228,v 229,v 230,v 231]:=⟨fun i=>t.getD i undef,oO t ht⟩
 clear ht
 obtain ⟨rfl,rfl,rfl⟩:=hC
 obtain ⟨b13,b14,x15,x16,x17,rfl,rfl,rfl,rfl,rfl,y1,y2,y3,y4,y5,y6⟩:=hD
 clear hE
 cases b14 with
 | false =>
   go_wp2
   all_goals (try simp only [Exit.noGoto_ret])
   all_goals refine bodyPost_ret (fE (rs:=[.tmp 2,.tmp 3,.tmp 4,.tmp 5,.tmp 6,.tmp 7,.tmp 8]) rfl (by simp) (.tmp (.tmp (.tmp (.tmp (.tmp (.tmp (.tmp .nil)))))))) rfl ?_
   all_goals first | exact ⟨⟨_,_,_,_,i,_,rfl,by omega,by omega,by omega,by omega,by omega⟩,by repeat (first | exact hW | exact ai.refl _ | apply ai.step)⟩ | exact ⟨⟨_,_,_,_,i+1,_,rfl,by omega,by omega,by omega,by omega,by omega⟩,by repeat (first | exact hW | exact ai.refl _ | apply ai.step)⟩ | exact ⟨⟨_,_,_,_,0,_,rfl,by omega,by omega,by omega,by omega,by omega⟩,by repeat (first | exact hW | exact ai.refl _ | apply ai.step)⟩
 | true =>
   repeat (first | (refine oJ (x:=Code.seq (Code.region 52 _ _) _) (RfJ s w (fun v10 v11 v12=>v10 = .int .u64 10∧v11 = .int .i64 19∧v12 = .int .u8 101) (RfD 5000000) (fun _=>True)) ?_ (fun K hK=>?_)) | go_values | go_guarded | go_step | go_step3 | go_upon | go_back | (simp only [Int.not_lt,Int.not_le] at *;go_simp) | (go_values <;> (try go_simp)))
   rotate_left
   ·cases b13
    all_goals go_wp2
    all_goals ((refine ⟨i,_,_,_,_,_,_,_,_,_,_,_,_,_,_,_,_,rfl,?_⟩;refine ⟨rfl,⟨rfl,rfl,rfl⟩,⟨_,_,_,_,_,rfl,rfl,rfl,rfl,rfl,?_,?_,?_,?_,?_,?_⟩,trivial,?_,?_,?_,?_⟩ <;> first | omega | (repeat (first | exact hW | exact ai.refl _ | apply ai.step))))
   rintro f W ⟨i,m,ng,tr,u1,v10,v11,v12,v13,v14,v15,v16,v17,v18,v19,v20,t,rfl,ht,hC,hD,hE,hi1,hm0,hm1,hW⟩
   obtain ⟨v,rfl⟩:∃ v:Nat→Value,t=[v 0,v 1,v 2,v 3,v 4,v 5,v 6,v 7,v 8,v 9,v 10,v 11,v 12,v 13,v 14,v 15,v 16,v 17,v 18,v 19,v 20,v 21,v 22,v 23,v 24,v 25,v 26,v 27,v 28,v 29,v 30,v 31,v 32,v 33,v 34,v 35,v 36,v 37,v 38,v 39,v 40,v 41,v 42,v 43,v 44,v 45,v 46,v 47,v 48,v 49,v 50,v 51,v 52,v 53,v 54,v 55,v 56,v 57,v 58,v 59,v 60,v 61,v 62,v 63,v 64,v 65,v 66,v 67,v 68,v 69,v 70,v 71,v 72,v 73,v 74,v 75,v 76,v 77,v 78,v 79,v 80,v 81,v 82,v 83,v 84,v 85,v 86,v 87,v 88,v 89,v 90,v 91,v 92,v 93,v 94,v 95,v 96,v 97,v 98,v 99,v 100,v 101,v 102,v 103,v 104,v 105,v 106,v 107,v 108,v 109,v 110,v 111,v 112,v 113,v 114,v 115,v 116,v 117,v 118,v 119,v 120,v 121,v 122,v 123,v 124,v 125,v 126,v 127,v 128,v 129,v 130,v 131,v 132,v 133,v 134,v 135,v 136,v 137,v 138,v 139,v 140,v 141,v 142,v 143,v 144,v 145,v 146,v 147,v 148,v 149,v 150,v 151,v 152,v 153,v 154,v 155,v 156,v 157,v 158,v 159,v 160,v 161,v 162,v 163,v 164,v 165,v 166,v 167,v 168,v 169,v 170,v 171,v 172,v 173,v 174,v 175,v 176,v 177,v 178,v 179,v 180,v 181,v 182,v 183,v 184,v 185,v 186,v 187,v 188,v 189,v 190,v 191,v 192,v 193,v 194,v 195,v 196,v 197,v 198,v 199,v 200,v 201,v 202,v 203,v 204,v 205,v 206,v 207,v 208,v 209,v 210,v 211,v 212,v 213,v 214,v 215,v 216,v 217,v 218,v 219,v 220,v 221,v 222,v 223,v 224,v 225,v 226,v 227,v 228,v 229,v 230,v 231]:=⟨fun i=>t.getD i undef,oO t ht⟩
   clear ht
   obtain ⟨rfl,rfl,rfl⟩:=hC
   obtain ⟨b13,b14,x15,x16,x17,rfl,rfl,rfl,rfl,rfl,y1,y2,y3,y4,y5,y6⟩:=hD
   clear hE
   repeat (first | (refine oJ (x:=Code.seq (Code.region 57 _ _) _) (RfJ s w (fun v10 v11 v12=>v10 = .int .u64 10∧v11 = .int .i64 19∧v12 = .int .u8 101) (RfD 9000000) (fun _=>True)) ?_ (fun K hK=>?_)) | go_values | go_guarded | go_step | go_step3 | go_upon | go_back | (simp only [Int.not_lt,Int.not_le] at *;go_simp) | (go_values <;> (try go_simp)))
   rotate_left
   ·by_cases hi:i < s.size
    ·have c1:decide ((i:Int) < (s.size:Int))=true:=decide_eq_true (by omega)
     have c1':decide (i < s.size)=true:=decide_eq_true hi
     have p1:(0:Int)≤((i:Nat):Int):=by omega
     have q1:((i:Nat):Int) < (s.size:Int):=by omega
     have x1:((s[i]'hi).toNat:Int)=bt s ((i:Nat):Int):=dI s ((i:Nat):Int) (by simpa using hi)
     obtain ⟨r1a,r1b⟩:=fP s ((i:Nat):Int)
     obtain ⟨n1a,n1b⟩:=hcs (i) hi
     generalize bt s ((i:Nat):Int)=c at x1 r1a r1b n1a n1b
     replace p1:=eq_true p1
     replace q1:=eq_true q1
     obtain ⟨L,hL⟩:∃ L,Go.bits .or .u8 c 32=L:=⟨_,rfl⟩
     have hlower:=fun W=>Go.Proofs.YtpgfjbimodnkeaaGreatDoor.Q.gB.calls c L W (by rw [Go.Proofs.YtpgfjbimodnkeaaGreatDoor.Q.gB.f,hL])
     by_cases hL2:L=101
     ·have hLb:(L == 101)=true:=beq_iff_eq.mpr hL2
      clear hL
      by_cases h1:i+1 < s.size
      ·have d1:decide ((s.size:Int)≤(i:Int)+1)=false:=decide_eq_false (by omega)
       have d1b:decide (s.size≤i+1)=false:=decide_eq_false (by omega)
       have p2:(0:Int)≤(i:Int)+1:=by omega
       have q2:(i:Int)+1 < (s.size:Int):=by omega
       have x2:((s[i+1]'(by omega:i+1 < s.size)).toNat:Int)=bt s ((i+1:Nat):Int):=dI s ((i+1:Nat):Int) (by simpa using (by omega:i+1 < s.size))
       obtain ⟨r2a,r2b⟩:=fP s ((i+1:Nat):Int)
       obtain ⟨n2a,n2b⟩:=hcs (i+1) (by omega:i+1 < s.size)
       generalize bt s ((i+1:Nat):Int)=c2 at x2 r2a r2b n2a n2b
       replace p2:=eq_true p2
       replace q2:=eq_true q2
       repeat (first | (refine oJ (x:=Code.seq (Code.region 61 _ _) _) (RfJ s w (fun v10 v11 v12=>v10 = .int .u64 10∧v11 = .int .i64 19∧v12 = .int .u8 101) (RfD 5000000) (fun v19=>v19 = .int .i64 1∨v19 = .int .i64 (-1))) ?_ (fun K hK=>?_)) | (go_at_call 137;refine (hlower _).mono ?_;rintro e w5 ⟨rfl,⟨m5,rfl⟩⟩) | go_values | go_guarded | go_step | go_step3 | go_upon | go_back | (simp only [Int.not_lt,Int.not_le] at *;go_simp) | (go_values <;> (try go_simp)))
       rotate_left
       ·go_wp2
        all_goals first | ((refine ⟨i+1,_,_,_,_,_,_,_,_,_,_,_,_,_,_,_,_,rfl,?_⟩;refine ⟨rfl,⟨rfl,rfl,rfl⟩,⟨_,_,_,_,_,rfl,rfl,rfl,rfl,rfl,?_,?_,?_,?_,?_,?_⟩,.inl rfl,?_,?_,?_,?_⟩ <;> first | omega | (repeat (first | exact hW | exact ai.refl _ | apply ai.step)));done) | ((refine ⟨i+2,_,_,_,_,_,_,_,_,_,_,_,_,_,_,_,_,rfl,?_⟩;refine ⟨rfl,⟨rfl,rfl,rfl⟩,⟨_,_,_,_,_,rfl,rfl,rfl,rfl,rfl,?_,?_,?_,?_,?_,?_⟩,.inl rfl,?_,?_,?_,?_⟩ <;> first | omega | (repeat (first | exact hW | exact ai.refl _ | apply ai.step)));done) | ((refine ⟨i+2,_,_,_,_,_,_,_,_,_,_,_,_,_,_,_,_,rfl,?_⟩;refine ⟨rfl,⟨rfl,rfl,rfl⟩,⟨_,_,_,_,_,rfl,rfl,rfl,rfl,rfl,?_,?_,?_,?_,?_,?_⟩,.inr rfl,?_,?_,?_,?_⟩ <;> first | omega | (repeat (first | exact hW | exact ai.refl _ | apply ai.step)));done)
       clear p1 q1 x1 r1a r1b n1a n1b p2 q2 x2 r2a r2b n2a n2b c1 c1' d1 d1b hi h1
       rintro f W ⟨i,m,ng,tr,u1,v10,v11,v12,v13,v14,v15,v16,v17,v18,v19,v20,t,rfl,ht,hC,hD,hE,hi1,hm0,hm1,hW⟩
       obtain ⟨v,rfl⟩:∃ v:Nat→Value,t=[v 0,v 1,v 2,v 3,v 4,v 5,v 6,v 7,v 8,v 9,v 10,v 11,v 12,v 13,v 14,v 15,v 16,v 17,v 18,v 19,v 20,v 21,v 22,v 23,v 24,v 25,v 26,v 27,v 28,v 29,v 30,v 31,v 32,v 33,v 34,v 35,v 36,v 37,v 38,v 39,v 40,v 41,v 42,v 43,v 44,v 45,v 46,v 47,v 48,v 49,v 50,v 51,v 52,v 53,v 54,v 55,v 56,v 57,v 58,v 59,v 60,v 61,v 62,v 63,v 64,v 65,v 66,v 67,v 68,v 69,v 70,v 71,v 72,v 73,v 74,v 75,v 76,v 77,v 78,v 79,v 80,v 81,v 82,v 83,v 84,v 85,v 86,v 87,v 88,v 89,v 90,v 91,v 92,v 93,v 94,v 95,v 96,v 97,v 98,v 99,v 100,v 101,v 102,v 103,v 104,v 105,v 106,v 107,v 108,v 109,v 110,v 111,v 112,v 113,v 114,v 115,v 116,v 117,v 118,v 119,v 120,v 121,v 122,v 123,v 124,v 125,v 126,v 127,v 128,v 129,v 130,v 131,v 132,v 133,v 134,v 135,v 136,v 137,v 138,v 139,v 140,v 141,v 142,v 143,v 144,v 145,v 146,v 147,v 148,v 149,v 150,v 151,v 152,v 153,v 154,v 155,v 156,v 157,v 158,v 159,v 160,v 161,v 162,v 163,v 164,v 165,v 166,v 167,v 168,v 169,v 170,v 171,v 172,v 173,v 174,v 175,v 176,v 177,v 178,v 179,v 180,v 181,v 182,v 183,v 184,v 185,v 186,v 187,v 188,v 189,v 190,v 191,v 192,v 193,v 194,v 195,v 196,v 197,v 198,v 199,v 200,v 201,v 202,v 203,v 204,v 205,v 206,v 207,v 208,v 209,v 210,v 211,v 212,v 213,v 214,v 215,v 216,v 217,v 218,v 219,v 220,v 221,v 222,v 223,v 224,v 225,v 226,v 227,v 228,v 229,v 230,v 231]:=⟨fun i=>t.getD i undef,oO t ht⟩
       clear ht
       obtain ⟨rfl,rfl,rfl⟩:=hC
       obtain ⟨b13,b14,x15,x16,x17,rfl,rfl,rfl,rfl,rfl,y1,y2,y3,y4,y5,y6⟩:=hD
       rcases hE with rfl | rfl
       all_goals
        by_cases hi:i < s.size
        ·have d1:decide ((s.size:Int)≤(i:Int))=false:=decide_eq_false (by omega)
         have d1b:decide (s.size≤i)=false:=decide_eq_false (by omega)
         have p1:(0:Int)≤((i:Nat):Int):=by omega
         have q1:((i:Nat):Int) < (s.size:Int):=by omega
         have x1:((s[i]'hi).toNat:Int)=bt s ((i:Nat):Int):=dI s ((i:Nat):Int) (by simpa using hi)
         obtain ⟨r1a,r1b⟩:=fP s ((i:Nat):Int)
         obtain ⟨n1a,n1b⟩:=hcs (i) hi
         generalize bt s ((i:Nat):Int)=c at x1 r1a r1b n1a n1b
         replace p1:=eq_true p1
         replace q1:=eq_true q1
         by_cases m1:48≤c∧c≤57
         ·have m1b:decide (c < 48)=false:=decide_eq_false (by omega)
          have m1c:decide (57 < c)=false:=decide_eq_false (by omega)
          go_wp2
          go_loopg [7,9,20] s.size (fun kq z7 z9 z20 w'=>∃ (i:Nat) (e3:Int),z7 = .int .i64 (i:Int)∧z9 = .bool false∧z20 = .int .i64 e3∧s.size - i≤kq∧i≤s.size∧0≤e3∧e3≤200000∧ai w w')
          case atStart=>exact ⟨i,0,rfl,rfl,rfl,by omega,by omega,by omega,by omega,by repeat (first | exact hW | exact ai.refl _ | apply ai.step)⟩
          case round =>
           clear hW
           obtain ⟨i,e3,rfl,rfl,rfl,hkq,hi1,he0,he1,hW⟩:=hrel
           obtain ⟨mw,rfl⟩:=hW
           have hW:ai w (w.drewN mw):=⟨⟨mw,rfl⟩⟩
           by_cases h3:i < s.size
           ·have c1:decide ((i:Int) < (s.size:Int))=true:=decide_eq_true (by omega)
            have c1':decide (i < s.size)=true:=decide_eq_true h3
            have p9:(0:Int)≤((i:Nat):Int):=by omega
            have q9:((i:Nat):Int) < (s.size:Int):=by omega
            have x9:((s[i]'h3).toNat:Int)=bt s ((i:Nat):Int):=dI s ((i:Nat):Int) (by simpa using h3)
            obtain ⟨r9a,r9b⟩:=fP s ((i:Nat):Int)
            obtain ⟨n9a,n9b⟩:=hcs (i) h3
            generalize bt s ((i:Nat):Int)=d at x9 r9a r9b n9a n9b
            replace p9:=eq_true p9
            replace q9:=eq_true q9
            have k8d:(d == 95)=false:=beq_eq_false_iff_ne.mpr n9a
            by_cases k8:48≤d∧d≤57
            ·have k8b:decide (48≤d)=true:=decide_eq_true k8.1
             have k8c:decide (d≤57)=true:=decide_eq_true k8.2
             by_cases k9:e3 < 10000
             ·have k9b:decide (e3 < 10000)=true:=decide_eq_true k9
              go_wp2
              go_roundg (s.size - (i+1))
              case measure=>omega
              case rel=>exact ⟨i+1,e3*10+d - 48,by first | rfl | (congr 1;omega),rfl,by first | rfl | (congr 1;omega),Nat.le_refl _,by omega,by omega,by omega,by repeat (first | exact hW | exact ai.refl _ | apply ai.step)⟩
             ·have k9b:decide (e3 < 10000)=false:=decide_eq_false k9
              go_wp2
              go_roundg (s.size - (i+1))
              case measure=>omega
              case rel=>exact ⟨i+1,e3,by first | rfl | (congr 1;omega),rfl,rfl,Nat.le_refl _,by omega,by omega,by omega,by repeat (first | exact hW | exact ai.refl _ | apply ai.step)⟩
            ·by_cases k8b:48≤d
             ·have k8c:decide (48≤d)=true:=decide_eq_true k8b
              have k8e:decide (d≤57)=false:=decide_eq_false (by omega)
              go_wp2
              all_goals ((refine ⟨i,_,_,_,_,_,_,_,_,_,_,_,_,_,_,_,_,rfl,?_⟩;refine ⟨rfl,⟨rfl,rfl,rfl⟩,⟨_,_,_,_,_,rfl,rfl,rfl,rfl,rfl,?_,?_,?_,?_,?_,?_⟩,trivial,?_,?_,?_,?_⟩ <;> first | omega | (repeat (first | exact hW | exact ai.refl _ | apply ai.step))))
             ·have k8c:decide (48≤d)=false:=decide_eq_false k8b
              go_wp2
              all_goals ((refine ⟨i,_,_,_,_,_,_,_,_,_,_,_,_,_,_,_,_,rfl,?_⟩;refine ⟨rfl,⟨rfl,rfl,rfl⟩,⟨_,_,_,_,_,rfl,rfl,rfl,rfl,rfl,?_,?_,?_,?_,?_,?_⟩,trivial,?_,?_,?_,?_⟩ <;> first | omega | (repeat (first | exact hW | exact ai.refl _ | apply ai.step))))
           ·have c1:decide ((i:Int) < (s.size:Int))=false:=decide_eq_false (by omega)
            have c1':decide (i < s.size)=false:=decide_eq_false h3
            go_wp2
            all_goals ((refine ⟨i,_,_,_,_,_,_,_,_,_,_,_,_,_,_,_,_,rfl,?_⟩;refine ⟨rfl,⟨rfl,rfl,rfl⟩,⟨_,_,_,_,_,rfl,rfl,rfl,rfl,rfl,?_,?_,?_,?_,?_,?_⟩,trivial,?_,?_,?_,?_⟩ <;> first | omega | (repeat (first | exact hW | exact ai.refl _ | apply ai.step))))
         ·by_cases m2:c < 48
          ·have m2b:decide (c < 48)=true:=decide_eq_true m2
           go_wp2
           all_goals (try simp only [Exit.noGoto_ret])
           all_goals refine bodyPost_ret (fE (rs:=[.tmp 2,.tmp 3,.tmp 4,.tmp 5,.tmp 6,.tmp 7,.tmp 8]) rfl (by simp) (.tmp (.tmp (.tmp (.tmp (.tmp (.tmp (.tmp .nil)))))))) rfl ?_
           all_goals first | exact ⟨⟨_,_,_,_,i,_,rfl,by omega,by omega,by omega,by omega,by omega⟩,by repeat (first | exact hW | exact ai.refl _ | apply ai.step)⟩ | exact ⟨⟨_,_,_,_,i+1,_,rfl,by omega,by omega,by omega,by omega,by omega⟩,by repeat (first | exact hW | exact ai.refl _ | apply ai.step)⟩ | exact ⟨⟨_,_,_,_,0,_,rfl,by omega,by omega,by omega,by omega,by omega⟩,by repeat (first | exact hW | exact ai.refl _ | apply ai.step)⟩
          ·have m2b:decide (c < 48)=false:=decide_eq_false m2
           have m2c:decide (57 < c)=true:=decide_eq_true (by omega)
           go_wp2
           all_goals (try simp only [Exit.noGoto_ret])
           all_goals refine bodyPost_ret (fE (rs:=[.tmp 2,.tmp 3,.tmp 4,.tmp 5,.tmp 6,.tmp 7,.tmp 8]) rfl (by simp) (.tmp (.tmp (.tmp (.tmp (.tmp (.tmp (.tmp .nil)))))))) rfl ?_
           all_goals first | exact ⟨⟨_,_,_,_,i,_,rfl,by omega,by omega,by omega,by omega,by omega⟩,by repeat (first | exact hW | exact ai.refl _ | apply ai.step)⟩ | exact ⟨⟨_,_,_,_,i+1,_,rfl,by omega,by omega,by omega,by omega,by omega⟩,by repeat (first | exact hW | exact ai.refl _ | apply ai.step)⟩ | exact ⟨⟨_,_,_,_,0,_,rfl,by omega,by omega,by omega,by omega,by omega⟩,by repeat (first | exact hW | exact ai.refl _ | apply ai.step)⟩
        ·have d1:decide ((s.size:Int)≤(i:Int))=true:=decide_eq_true (by omega)
         have d1b:decide (s.size≤i)=true:=decide_eq_true (by omega)
         go_wp2
         all_goals (try simp only [Exit.noGoto_ret])
         all_goals refine bodyPost_ret (fE (rs:=[.tmp 2,.tmp 3,.tmp 4,.tmp 5,.tmp 6,.tmp 7,.tmp 8]) rfl (by simp) (.tmp (.tmp (.tmp (.tmp (.tmp (.tmp (.tmp .nil)))))))) rfl ?_
         all_goals first | exact ⟨⟨_,_,_,_,i,_,rfl,by omega,by omega,by omega,by omega,by omega⟩,by repeat (first | exact hW | exact ai.refl _ | apply ai.step)⟩ | exact ⟨⟨_,_,_,_,i+1,_,rfl,by omega,by omega,by omega,by omega,by omega⟩,by repeat (first | exact hW | exact ai.refl _ | apply ai.step)⟩ | exact ⟨⟨_,_,_,_,0,_,rfl,by omega,by omega,by omega,by omega,by omega⟩,by repeat (first | exact hW | exact ai.refl _ | apply ai.step)⟩
      ·have d1:decide ((s.size:Int)≤(i:Int)+1)=true:=decide_eq_true (by omega)
       have d1b:decide (s.size≤i+1)=true:=decide_eq_true (by omega)
       go_wp2_with (first | (go_at_call 137;refine (hlower _).mono ?_;rintro e w5 ⟨rfl,⟨m5,rfl⟩⟩))
       all_goals (try simp only [Exit.noGoto_ret])
       all_goals refine bodyPost_ret (fE (rs:=[.tmp 2,.tmp 3,.tmp 4,.tmp 5,.tmp 6,.tmp 7,.tmp 8]) rfl (by simp) (.tmp (.tmp (.tmp (.tmp (.tmp (.tmp (.tmp .nil)))))))) rfl ?_
       all_goals first | exact ⟨⟨_,_,_,_,i,_,rfl,by omega,by omega,by omega,by omega,by omega⟩,by repeat (first | exact hW | exact ai.refl _ | apply ai.step)⟩ | exact ⟨⟨_,_,_,_,i+1,_,rfl,by omega,by omega,by omega,by omega,by omega⟩,by repeat (first | exact hW | exact ai.refl _ | apply ai.step)⟩ | exact ⟨⟨_,_,_,_,0,_,rfl,by omega,by omega,by omega,by omega,by omega⟩,by repeat (first | exact hW | exact ai.refl _ | apply ai.step)⟩
     ·have hLb:(L == 101)=false:=beq_eq_false_iff_ne.mpr hL2
      clear hL
      go_wp2_with (first | (go_at_call 137;refine (hlower _).mono ?_;rintro e w5 ⟨rfl,⟨m5,rfl⟩⟩))
      (refine ⟨i,_,_,_,_,_,_,_,_,_,_,_,_,_,_,_,_,rfl,?_⟩;refine ⟨rfl,⟨rfl,rfl,rfl⟩,⟨_,_,_,_,_,rfl,rfl,rfl,rfl,rfl,?_,?_,?_,?_,?_,?_⟩,trivial,?_,?_,?_,?_⟩ <;> first | omega | (repeat (first | exact hW | exact ai.refl _ | apply ai.step)))
    ·have c1:decide ((i:Int) < (s.size:Int))=false:=decide_eq_false (by omega)
     have c1':decide (i < s.size)=false:=decide_eq_false hi
     go_wp2
     (refine ⟨i,_,_,_,_,_,_,_,_,_,_,_,_,_,_,_,_,rfl,?_⟩;refine ⟨rfl,⟨rfl,rfl,rfl⟩,⟨_,_,_,_,_,rfl,rfl,rfl,rfl,rfl,?_,?_,?_,?_,?_,?_⟩,trivial,?_,?_,?_,?_⟩ <;> first | omega | (repeat (first | exact hW | exact ai.refl _ | apply ai.step)))
   rintro f W ⟨i,m,ng,tr,u1,v10,v11,v12,v13,v14,v15,v16,v17,v18,v19,v20,t,rfl,ht,hC,hD,hE,hi1,hm0,hm1,hW⟩
   obtain ⟨v,rfl⟩:∃ v:Nat→Value,t=[v 0,v 1,v 2,v 3,v 4,v 5,v 6,v 7,v 8,v 9,v 10,v 11,v 12,v 13,v 14,v 15,v 16,v 17,v 18,v 19,v 20,v 21,v 22,v 23,v 24,v 25,v 26,v 27,v 28,v 29,v 30,v 31,v 32,v 33,v 34,v 35,v 36,v 37,v 38,v 39,v 40,v 41,v 42,v 43,v 44,v 45,v 46,v 47,v 48,v 49,v 50,v 51,v 52,v 53,v 54,v 55,v 56,v 57,v 58,v 59,v 60,v 61,v 62,v 63,v 64,v 65,v 66,v 67,v 68,v 69,v 70,v 71,v 72,v 73,v 74,v 75,v 76,v 77,v 78,v 79,v 80,v 81,v 82,v 83,v 84,v 85,v 86,v 87,v 88,v 89,v 90,v 91,v 92,v 93,v 94,v 95,v 96,v 97,v 98,v 99,v 100,v 101,v 102,v 103,v 104,v 105,v 106,v 107,v 108,v 109,v 110,v 111,v 112,v 113,v 114,v 115,v 116,v 117,v 118,v 119,v 120,v 121,v 122,v 123,v 124,v 125,v 126,v 127,v 128,v 129,v 130,v 131,v 132,v 133,v 134,v 135,v 136,v 137,v 138,v 139,v 140,v 141,v 142,v 143,v 144,v 145,v 146,v 147,v 148,v 149,v 150,v 151,v 152,v 153,v 154,v 155,v 156,v 157,v 158,v 159,v 160,v 161,v 162,v 163,v 164,v 165,v 166,v 167,v 168,v 169,v 170,v 171,v 172,v 173,v 174,v 175,v 176,v 177,v 178,v 179,v 180,v 181,v 182,v 183,v 184,v 185,v 186,v 187,v 188,v 189,v 190,v 191,v 192,v 193,v 194,v 195,v 196,v 197,v 198,v 199,v 200,v 201,v 202,v 203,v 204,v 205,v 206,v 207,v 208,v 209,v 210,v 211,v 212,v 213,v 214,v 215,v 216,v 217,v 218,v 219,v 220,v 221,v 222,v 223,v 224,v 225,v 226,v 227,v 228,v 229,v 230,v 231]:=⟨fun i=>t.getD i undef,oO t ht⟩
   clear ht
   obtain ⟨rfl,rfl,rfl⟩:=hC
   obtain ⟨b13,b14,x15,x16,x17,rfl,rfl,rfl,rfl,rfl,y1,y2,y3,y4,y5,y6⟩:=hD
   by_cases km:m=0
   ·have kmb:(m != 0)=false:=bne_eq_false_iff_eq.mpr km
    go_wp2
    all_goals (try simp only [Exit.noGoto_ret])
    all_goals refine bodyPost_ret (fE (rs:=[.tmp 2,.tmp 3,.tmp 4,.tmp 5,.tmp 6,.tmp 7,.tmp 8]) rfl (by simp) (.tmp (.tmp (.tmp (.tmp (.tmp (.tmp (.tmp .nil)))))))) rfl ?_
    all_goals first | exact ⟨⟨_,_,_,_,i,_,rfl,by omega,by omega,by omega,by omega,by omega⟩,by repeat (first | exact hW | exact ai.refl _ | apply ai.step)⟩ | exact ⟨⟨_,_,_,_,i+1,_,rfl,by omega,by omega,by omega,by omega,by omega⟩,by repeat (first | exact hW | exact ai.refl _ | apply ai.step)⟩ | exact ⟨⟨_,_,_,_,0,_,rfl,by omega,by omega,by omega,by omega,by omega⟩,by repeat (first | exact hW | exact ai.refl _ | apply ai.step)⟩
   ·have kmb:(m != 0)=true:=bne_iff_ne.mpr km
    go_wp2
    all_goals (try simp only [Exit.noGoto_ret])
    all_goals refine bodyPost_ret (fE (rs:=[.tmp 2,.tmp 3,.tmp 4,.tmp 5,.tmp 6,.tmp 7,.tmp 8]) rfl (by simp) (.tmp (.tmp (.tmp (.tmp (.tmp (.tmp (.tmp .nil)))))))) rfl ?_
    all_goals first | exact ⟨⟨_,_,_,_,i,_,rfl,by omega,by omega,by omega,by omega,by omega⟩,by repeat (first | exact hW | exact ai.refl _ | apply ai.step)⟩ | exact ⟨⟨_,_,_,_,i+1,_,rfl,by omega,by omega,by omega,by omega,by omega⟩,by repeat (first | exact hW | exact ai.refl _ | apply ai.step)⟩ | exact ⟨⟨_,_,_,_,0,_,rfl,by omega,by omega,by omega,by omega,by omega⟩,by repeat (first | exact hW | exact ai.refl _ | apply ai.step)⟩
end Go.Proofs.YtpgfjbimodnkeaaGreatDoor.Dec
