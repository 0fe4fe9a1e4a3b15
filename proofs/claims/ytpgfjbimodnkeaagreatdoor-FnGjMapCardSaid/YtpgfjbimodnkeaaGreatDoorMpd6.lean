/- FnGjMap: whatever text comes in, the law returns true and the text reads afterwards as before; with the thirteen package-level variables that its row lists as the program's own text lays them (the tied card) (part 6 of 19: lemmas for its last part) -/
import Derived.WalkMore
import Derived.Laws.Cover2
import Derived.Shelf.LaysM
import Derived.Shelf.Strconv.Clone
import Derived.Shelf.Strconv.SyntaxError
import Derived.Shelf.Strconv.RangeError
import Derived.Test.YtpgfjbimodnkeaaGreatDoorProg
import Derived.Lib.IfaceEq
import Derived.Shelf.Strings.BuilderK
import Derived.Lib.RuneBytes
import Derived.Laws.IdiomCopy
import Derived.Test.YtpgfjbimodnkeaaGreatDoorMpd1
import Derived.Test.YtpgfjbimodnkeaaGreatDoorMpd2
import Derived.Test.YtpgfjbimodnkeaaGreatDoorMpd3
import Derived.Test.YtpgfjbimodnkeaaGreatDoorMpd4
import Derived.Test.YtpgfjbimodnkeaaGreatDoorMpd5
set_option maxHeartbeats 16000000
set_option maxRecDepth 100000
set_option linter.unusedVariables false
set_option linter.unusedSimpArgs false
namespace Go.Proofs.YtpgfjbimodnkeaaGreatDoor.Dec
open Go Go.RowKit Go.Proofs.YtpgfjbimodnkeaaGreatDoorW.PrintWords Go.Proofs.YtpgfjbimodnkeaaGreatDoorW.PrintLast Go.Proofs.YtpgfjbimodnkeaaGreatDoorW.PrintMore
theorem l7 (n:Int) (w:World):(callFunc 155 #[.int .u64 n]).run Tryz.prog w = .ok (.value (.float .f64 n.toNat)) w:=by
 rw [run_callFunc_extern Tryz.func155 (by kernel_rfl) (by kernel_rfl) (by kernel_rfl) (e:=Extern.MathFloatBits.float64frombits) (by kernel_rfl)]
 rfl
attribute [local go_sem] l7
structure Ak (e:Ending):Prop where mk :: (out:∃ (b:Nat) (v:Value),e = .returned (.tuple #[.float .f64 b,v])∧(v = .nilIface∨v = .iface 152 (.int .i64 1)))
theorem vN (w:World) (m x:Int) (hx:-1000000≤x∧x≤1000000) :
 Calls Tryz.prog 171 #[.int .u64 m,.int .i64 x] w fun e w'=>Ak e∧ai w w':=by
 go_enter Tryz.func171,Tryz.ntmps171
 go_wp2
 all_goals go_ret2
 all_goals first | exact ⟨⟨_,_,rfl,.inl rfl⟩,ai.refl _⟩ | exact ⟨⟨_,_,rfl,.inr rfl⟩,ai.refl _⟩
open Go.Proofs.YtpgfjbimodnkeaaGreatDoor.Q
attribute [local go_sem] dm di dL dK l7
theorem Tabs.mono {B B':Nat} {w:World} (h:Tabs B w) (h1:B≤B') (h2:B'≤w.heap.size):Tabs B' w:=by
 obtain ⟨b1,c1,g1,g2,g3⟩:=h.pow
 obtain ⟨b2,c2,k1,k2,k3⟩:=h.ten
 obtain ⟨b3,c3,l1,l2,l3⟩:=h.left
 exact ⟨Nat.le_trans h.low h1,h2,h.Du,h.Dv,h.opt,h.mr,h.mW,h.bias,⟨b1,c1,Nat.lt_of_lt_of_le g1 h1,g2,g3⟩,⟨b2,c2,Nat.lt_of_lt_of_le k1 h1,k2,k3⟩,h.tab,⟨b3,c3,Nat.lt_of_lt_of_le l1 h1,l2,l3⟩⟩
theorem uh (w:World) (B:Nat) (d p sg:Int) (hd0:0≤d) (hd1:d < 18446744073709551616) (hp0:-345≤p) (hp1:p≤310) (hT:Tabs B w) :
 Calls Tryz.prog 157 #[.int .u64 d,.int .i64 p,.int .u64 sg] w fun e w'=>Ak e∧Below w.heap.size w w':=by
 have hlen:=fun W=>yX W d hd0 hd1
 obtain ⟨lp,hlp⟩:∃ lp:Int,(wrap64 (p*108853)) / 32768=lp:=⟨_,rfl⟩
 have hlog:=fun W=>jc.calls p lp W (by rw [jc.f,hlp])
 have hlp0:-1200≤lp∧lp≤1100:=by
  have h1:wrap64 (p*108853)=p*108853:=by unfold wrap64;omega
  rw [h1] at hlp
  omega
 clear hlp
 have hb2:∀ (b:Bool) (W:World),Calls Tryz.prog 165 #[.bool b] W fun e w'=>(∃ k:Int,e = .returned (.int .i64 k)∧0≤k∧k≤1)∧ai W w':=fun b W=>by
  cases b with
  | true=>exact (jb.calls true 1 W rfl).mono (fun e w' h=>⟨⟨1,h.1,by omega,by omega⟩,h.2⟩)
  | false=>exact (jb.calls false 0 W rfl).mono (fun e w' h=>⟨⟨0,h.1,by omega,by omega⟩,h.2⟩)
 have hum:∀ (W:World),Calls Tryz.prog 166 #[.int .u64 9007199254740992] W fun e w'=>(∃ k:Int,e = .returned (.int .u64 k))∧ai W w':=fun W=>(kU.calls 9007199254740992 _ W rfl).mono (fun e w' h=>⟨⟨_,h.1⟩,h.2⟩)
 have hrd:∀ (u:Int) (W:World),Calls Tryz.prog 168 #[.int .u64 u] W fun e w'=>(∃ k:Int,e = .returned (.int .u64 k))∧ai W w':=fun u W=>(iE.calls u _ W rfl).mono (fun e w' h=>⟨⟨_,h.1⟩,h.2⟩)
 have hTg:=hT.mono hT.size (Nat.le_refl _)
 have hpre:∀ (k:Nat) (e:Int),Calls Tryz.prog 163 #[.pointer (some ⟨w.heap.size,0,none⟩),.int .i64 e,.int .i64 p,.int .i64 lp] ((w.drewN k).alloc (Obj.cells #[Value.int IntKind.u64 0,Value.int IntKind.u64 0,Value.int IntKind.i64 0] 207))
  fun r w'=>r = .returned (.tuple #[])∧(∃ x y z,kW w' w.heap.size x y z)∧Below w.heap.size w w':=by
  intro k e
  have h1:Below w.heap.size w ((w.drewN k).alloc (Obj.cells #[Value.int IntKind.u64 0,Value.int IntKind.u64 0,Value.int IntKind.i64 0] 207)):=ah (ag (Below.refl _ _) k) _
  refine (qh _ w.heap.size e p lp 0 0 0 ⟨207,by simpa using heap_alloc_new (w.drewN k) (Obj.cells #[Value.int IntKind.u64 0,Value.int IntKind.u64 0,Value.int IntKind.i64 0] 207)⟩ (hTg.below h1) (by omega) (by omega)).mono ?_
  rintro r w' ⟨h2,h3,h4⟩
  exact ⟨h2,h3,h1.trans h4⟩
 go_enter Tryz.func157,Tryz.ntmps157
 go_wp2_with (first | (go_at_call 114;(with_reducible refine (hlen _).mono ?_);rintro e w4 ⟨⟨b,rfl,hb0,hb1⟩,⟨m4,rfl⟩⟩) | (go_at_call 162;(with_reducible refine (hlog _).mono ?_);rintro e w4 ⟨rfl,⟨m4,rfl⟩⟩) | (go_at_call 163;(with_reducible refine (hpre _ _).mono ?_);rintro e wp ⟨rfl,⟨x,y,z,hI⟩,hBp⟩;have s2:=hI.at2) |
  (go_at_call 164;(with_reducible refine (ul _ _ _ x y z hI).mono ?_);rintro e w4 ⟨⟨u,rfl⟩,⟨m5,rfl⟩⟩) | (go_at_call 166;(with_reducible refine (hum _).mono ?_);rintro e w4 ⟨⟨q,rfl⟩,⟨m6,rfl⟩⟩) | (go_at_call 165;(with_reducible refine (hb2 _ _).mono ?_);rintro e w4 ⟨⟨k,rfl,hk0,hk1⟩,⟨m7,rfl⟩⟩) |
  (go_at_call 168;(with_reducible refine (hrd _ _).mono ?_);rintro e w4 ⟨⟨q2,rfl⟩,⟨m8,rfl⟩⟩) | (go_at_call 171;refine (vN _ _ _ (by first | omega | (split <;> omega))).mono ?_;rintro e w4 ⟨⟨bb,v,rfl,hv⟩,⟨m9,rfl⟩⟩))
 all_goals go_ret2
 all_goals first | exact ⟨⟨_,_,rfl,.inl rfl⟩,by repeat (first | exact hBp | apply ag)⟩ | exact ⟨⟨_,_,rfl,hv⟩,by repeat (first | exact hBp | apply ag)⟩
attribute [local go_sem] l7
structure C9 (s:ByteArray) (e:Ending):Prop where mk :: (out:∃ (b i:Nat) (v:Value),e = .returned (.tuple #[.float .f64 b,.int .i64 (i:Int),v])∧(v = .nilIface∨v = .iface 152 (.int .i64 1)∨v = .iface 152 (.int .i64 2)))
structure mg (s:ByteArray):Prop where
 ch:Di s
 vM:∀ i:Nat,i < s.size→bt s (i:Int)≠73∧bt s (i:Int)≠105∧bt s (i:Int)≠78∧bt s (i:Int)≠110
theorem BI:Tryz.zeroCells190=(List.replicate 800 (Value.int .u8 0) ++ [Value.int .i64 0,Value.int .i64 0,Value.bool false,Value.bool false]).toArray:=by kernel_rfl
theorem row_of {v a b c d:Value} (n:Nat) (cs:Array Value) (h:cs=(List.replicate n v ++ [a,b,c,d]).toArray) :
 cs.size=n+4∧(∀ i,i < n→cs[i]?=some v)∧cs[n]?=some a∧cs[n+1]?=some b∧cs[n+2]?=some c∧cs[n+3]?=some d:=by
 subst h
 refine ⟨by simp,fun i hi=>?_,?_,?_,?_,?_⟩
 ·rw [List.getElem?_toArray,List.getElem?_append_left (by simpa using hi),List.getElem?_replicate,if_pos hi]
 all_goals
  rw [List.getElem?_toArray,List.getElem?_append_right (by simp)]
  simp
theorem Cj (W:World):dB (W.alloc (Obj.cells Tryz.zeroCells190 190)) W.heap.size (fun _=>0) 0 0 false false:=by
 obtain ⟨h1,h2,h3,h4,h5,h6⟩:=row_of 800 _ BI
 exact ⟨Tryz.zeroCells190,190,by simpa using heap_alloc_new W (Obj.cells Tryz.zeroCells190 190),h1,h2,h3,h4,h5,h6⟩
structure CU (w:World) (g:Nat) (W:World):Prop where mk :: (out:Below w.heap.size w W∧Tabs g W∧∃ a nd dp neg tr,dB W g a nd dp neg tr∧Good a nd∧-1000000000≤dp∧dp≤1000000000∧w.heap.size≤g)
theorem ww (w:World) (B:Nat) (s:ByteArray) (hs:s.size≤1000000) (hN:mg s) (hT:Tabs B w) :
 Calls Tryz.prog 140 #[.string s] w fun e w'=>C9 s e∧Below w.heap.size w w':=by
 have hsp:=fun W=>qZ W s hs (fun h=>hN.vM 0 h) (fun h=>⟨(hN.vM 1 h).1,(hN.vM 1 h).2.1⟩)
 have hrf:=fun W=>Ap W s hs hN.ch
 have hb2:∀ (b:Bool) (W:World),Calls Tryz.prog 154 #[.bool b] W fun e w'=>e = .returned (.int .u64 (bi b))∧ai W w':=fun b W=>Go.Proofs.YtpgfjbimodnkeaaGreatDoor.Q.ik.calls b _ W (by cases b <;> rfl)
 have t4:=hT.opt
 have hu:=@kY
 have hpf:∀ (W:World) (d p sg:Int) (hp0:-345≤p) (hp1:p≤310) (hd:0≤d∧d < 18446744073709551616) (hW:Below w.heap.size w W),Calls Tryz.prog 157 #[.int .u64 d,.int .i64 p,.int .u64 sg] W fun e w'=>Ak e∧Below w.heap.size w w':=by
  intro W d p sg hp0 hp1 hd hW
  have hTW:Tabs B W:=hT.below (iy hW hT.size)
  refine (uh W B d p sg hd.1 hd.2 hp0 hp1 hTW).mono ?_
  rintro e w' ⟨h1,h2⟩
  exact ⟨h1,hW.trans (iy h2 hW.size)⟩
 have hset:∀ (W:World) (i:Nat),Below w.heap.size w W→Calls Tryz.prog 152 #[.pointer (some ⟨W.heap.size,0,none⟩),.string (s.extract 0 i)] (W.alloc (Obj.cells Tryz.zeroCells190 190)) fun e w'=>sU e∧CU w W.heap.size w':=by
  intro W i hW
  have h0:Below W.heap.size W (W.alloc (Obj.cells Tryz.zeroCells190 190)):=ah (Below.refl _ _) _
  refine (yc _ W.heap.size (s.extract 0 i) _ false false (Cj W) (by simp [ByteArray.size_extract];omega)).mono ?_
  rintro e w' ⟨h1,a,nd,dp,ng,tr,h2,h3,h4,h5,h6⟩
  have h7:=h0.trans h6
  have hTW:Tabs B W:=hT.below (iy hW hT.size)
  exact ⟨h1,⟨hW.trans (iy h7 hW.size),(hTW.mono hTW.size (Nat.le_refl _)).below h7,a,nd,dp,ng,tr,h2,h3,h4,h5,hW.size⟩⟩
 have hfb:∀ (g:Nat) (W:World),CU w g W→Calls Tryz.prog 153 #[.pointer (some ⟨g,0,none⟩),.pointer (some ⟨5,0,none⟩)] W fun e w'=>CY e∧Below w.heap.size w w':=by
  rintro g W ⟨h1,h2,a,nd,dp,ng,tr,h3,h4,h5,h6,h7⟩
  refine (pK W g a nd dp ng tr h3 h4 ⟨h5,h6⟩ h2).mono ?_
  rintro e w' ⟨h8,h9⟩
  exact ⟨h8,h1.trans (iy h9 h7)⟩
 go_enter Tryz.func140,Tryz.ntmps140
 go_wp2_with (first | (go_at_call 145;(with_reducible refine (hsp _).mono ?_);rintro e w4 ⟨rfl,⟨m4,rfl⟩⟩) | (go_at_call 146;(with_reducible refine (hrf _).mono ?_);rintro e w4 ⟨⟨m,x,ng,tr,i,ok,rfl,hi,hm0,hm1,hx0,hx1⟩,⟨m5,rfl⟩⟩) | (go_at_call 154;(with_reducible refine (hb2 _ _).mono ?_);rintro e w4 ⟨rfl,⟨m6,rfl⟩⟩) | (go_at_call 156;(with_reducible refine (uO _ B _ _ _ (by omega) (by omega) (by omega) (hT.below (by repeat (first | exact Below.refl _ _ | apply ag)))).mono ?_);rintro e w4 ⟨⟨b1,o1,rfl⟩,⟨m7,rfl⟩⟩) | (go_at_call 157;(with_reducible refine (hpf _ _ _ _ (by omega) (by omega) (by first | exact ⟨by omega,by omega⟩ | exact kY _) (by repeat (first | assumption | exact Below.refl _ _ | apply ag))).mono ?_);rintro e w4 ⟨⟨b2,v2,rfl,hv2⟩,hB4⟩;have hv3:v2=Value.nilIface∨v2=Value.iface 152 (Value.int .i64 1)∨v2=Value.iface 152 (Value.int .i64 2):=hv2.elim .inl (fun h => .inr (.inl h))) | (go_at_call 152;(with_reducible refine (hset _ _ (by assumption)).mono ?_);rintro e w6 ⟨⟨b3,rfl⟩,hP⟩;have hB6:=hP.out.1) | (go_at_call 153;(with_reducible refine (hfb _ _ (by assumption)).mono ?_);rintro e w7 ⟨⟨n7,o7,rfl⟩,hB7⟩))
 all_goals refine bodyPost_ret (fE (rs:=[.tmp 2,.tmp 3,.tmp 4]) rfl (by simp) (.tmp (.tmp (.tmp .nil)))) rfl ?_
 all_goals first | exact ⟨⟨_,i,_,rfl,.inl rfl⟩,by repeat (first | assumption | exact Below.refl _ _ | apply ag)⟩ | exact ⟨⟨_,i,_,rfl,.inr (.inl rfl)⟩,by repeat (first | assumption | exact Below.refl _ _ | apply ag)⟩ | exact ⟨⟨_,i,_,rfl,.inr (.inr rfl)⟩,by repeat (first | assumption | exact Below.refl _ _ | apply ag)⟩ | exact ⟨⟨_,i,_,rfl,by assumption⟩,by repeat (first | assumption | exact Below.refl _ _ | apply ag)⟩
structure Em (e:Ending):Prop where mk :: (out:∃ (b:Nat) (v:Value),e = .returned (.tuple #[.float .f64 b,v])∧(v = .nilIface∨v = .iface 152 (.int .i64 1)∨v = .iface 152 (.int .i64 2)))
theorem yL (w:World) (B:Nat) (s:ByteArray) (hs:s.size≤1000000) (hN:mg s) (hT:Tabs B w) :
 Calls Tryz.prog 123 #[.string s,.int .i64 64] w fun e w'=>C9 s e∧Below w.heap.size w w':=by
 have ha:=ww w B s hs hN hT
 go_enter Tryz.func123,Tryz.ntmps123
 go_wp2_with (first | (go_at_call 140;(with_reducible refine ha.mono ?_);rintro e w4 ⟨⟨b,i,v,rfl,hv⟩,hB⟩))
 all_goals refine bodyPost_ret (fE (rs:=[.tmp 4,.tmp 5,.tmp 6]) rfl (by simp) (.tmp (.tmp (.tmp .nil)))) rfl ?_
 all_goals exact ⟨⟨_,i,_,rfl,hv⟩,hB⟩
theorem uz (w:World) (B:Nat) (s:ByteArray) (hs:s.size≤1000000) (hN:mg s) (hT:Tabs B w) :
 Calls Tryz.prog 102 #[.string s,.int .i64 64] w fun e w'=>Em e∧Below w.heap.size w w':=by
 have ha:=yL w B s hs hN hT
 go_enter Tryz.func102,Tryz.ntmps102
 go_wp2_with (first | (go_at_call 123;(with_reducible refine ha.mono ?_);rintro e w4 ⟨⟨b,i,v,rfl,hv⟩,hB⟩))
 all_goals go_ret2
 all_goals first | exact ⟨⟨_,_,rfl,hv⟩,hB⟩ | exact ⟨⟨_,_,rfl,.inr (.inr rfl)⟩,hB⟩
end Go.Proofs.YtpgfjbimodnkeaaGreatDoor.Dec
namespace Go.Proofs
open Go.Shelf
def Tryz.sQ:Go.Shelf.Ren:=⟨fun | 279=>124 | 316=>141 | n=>n,fun | 9=>9 | 168=>153 | 75=>123 | 210=>168 | 3=>3 | 4=>4 | 37=>99 | 0=>0 | 127=>198 | 80=>240 | 5=>5 | n=>n,fun | 15=>1 | n=>n⟩
theorem Tryz.laysM279:Go.Proofs.LaysM.n279 Tryz.prog Tryz.sQ:={
 mixed:=by kernel_rfl
 f279:=Tryz.func124.trans (congrArg some (by kernel_rfl))
 f316:=Tryz.func141.trans (congrArg some (by kernel_rfl))
 t0:=Tryz.underlying0
 a0:=Tryz.isAgg0
 z0:=Tryz.sizeOf0
 v0:=Tryz.zeroValue0
 t3:=Tryz.underlying3
 a3:=Tryz.isAgg3
 z3:=Tryz.sizeOf3
 v3:=Tryz.zeroValue3
 t4:=Tryz.underlying4
 a4:=Tryz.isAgg4
 z4:=Tryz.sizeOf4
 v4:=Tryz.zeroValue4
 t9:=Tryz.underlying9
 a9:=Tryz.isAgg9
 z9:=Tryz.sizeOf9
 v9:=Tryz.zeroValue9
 t37:=Tryz.underlying99
 a37:=Tryz.isAgg99
 z37:=Tryz.sizeOf99
 v37:=Tryz.zeroValue99
 t75:=Tryz.underlying123
 a75:=Tryz.isAgg123
 z75:=Tryz.sizeOf123
 v75:=Tryz.zeroValue123
 t127:=Tryz.underlying198
 a127:=Tryz.isAgg198
 z127:=Tryz.sizeOf198
 v127:=Tryz.zeroValue198
 t168:=Tryz.underlying153
 a168:=Tryz.isAgg153
 z168:=Tryz.sizeOf153
 v168:=Tryz.zeroValue153
 t210:=Tryz.underlying168
 a210:=Tryz.isAgg168
 z210:=Tryz.sizeOf168
 v210:=Tryz.zeroValue168
 g15:=by kernel_rfl
 t5:=Tryz.underlying5
 a5:=Tryz.isAgg5
 z5:=Tryz.sizeOf5
 v5:=Tryz.zeroValue5
 t80:=Tryz.underlying240
 a80:=Tryz.isAgg240
 z80:=Tryz.sizeOf240
 v80:=Tryz.zeroValue240
 i0:=by kernel_rfl
 i3:=by kernel_rfl
 i4:=by kernel_rfl
 i5:=by kernel_rfl
 i9:=by kernel_rfl
 i37:=by kernel_rfl
 i75:=by kernel_rfl
 i80:=by kernel_rfl
 i127:=by kernel_rfl
 i168:=by kernel_rfl
 i210:=by kernel_rfl
 m15:=by kernel_rfl }
open Go.RowKit in
theorem Tryz.strconv_syntaxError (fn s:ByteArray) (ev:Value) (w:World) (hlim:s.size≤281474976710656) (hv:w.cell? ⟨1,0,none⟩=some ev) (hev:ev = .nilIface∨∃ te pe,ev = .iface te pe) :
 Calls Tryz.prog 124 #[.string fn,.string s] w fun e w'=>∃ N,e = .returned (.pointer (some ⟨N,0,none⟩))∧w.heap.size≤N∧w'.heap[N]?=some (.cells #[.string fn,.string s,ev] 168 (0,0))∧Below w.heap.size w w':=Any.strconv_syntaxError Tryz.laysM279 fn s ev w hlim hv hev
def Tryz.tJ:Go.Shelf.Ren:=⟨fun | 280=>125 | 316=>141 | n=>n,fun | 9=>9 | 168=>153 | 75=>123 | 210=>168 | 3=>3 | 4=>4 | 37=>99 | 0=>0 | 127=>198 | 80=>240 | 5=>5 | n=>n,fun | 16=>2 | n=>n⟩
theorem Tryz.laysM280:Go.Proofs.LaysM.n280 Tryz.prog Tryz.tJ:={
 mixed:=by kernel_rfl
 f280:=Tryz.func125.trans (congrArg some (by kernel_rfl))
 f316:=Tryz.func141.trans (congrArg some (by kernel_rfl))
 t0:=Tryz.underlying0
 a0:=Tryz.isAgg0
 z0:=Tryz.sizeOf0
 v0:=Tryz.zeroValue0
 t3:=Tryz.underlying3
 a3:=Tryz.isAgg3
 z3:=Tryz.sizeOf3
 v3:=Tryz.zeroValue3
 t4:=Tryz.underlying4
 a4:=Tryz.isAgg4
 z4:=Tryz.sizeOf4
 v4:=Tryz.zeroValue4
 t9:=Tryz.underlying9
 a9:=Tryz.isAgg9
 z9:=Tryz.sizeOf9
 v9:=Tryz.zeroValue9
 t37:=Tryz.underlying99
 a37:=Tryz.isAgg99
 z37:=Tryz.sizeOf99
 v37:=Tryz.zeroValue99
 t75:=Tryz.underlying123
 a75:=Tryz.isAgg123
 z75:=Tryz.sizeOf123
 v75:=Tryz.zeroValue123
 t127:=Tryz.underlying198
 a127:=Tryz.isAgg198
 z127:=Tryz.sizeOf198
 v127:=Tryz.zeroValue198
 t168:=Tryz.underlying153
 a168:=Tryz.isAgg153
 z168:=Tryz.sizeOf153
 v168:=Tryz.zeroValue153
 t210:=Tryz.underlying168
 a210:=Tryz.isAgg168
 z210:=Tryz.sizeOf168
 v210:=Tryz.zeroValue168
 g16:=by kernel_rfl
 t5:=Tryz.underlying5
 a5:=Tryz.isAgg5
 z5:=Tryz.sizeOf5
 v5:=Tryz.zeroValue5
 t80:=Tryz.underlying240
 a80:=Tryz.isAgg240
 z80:=Tryz.sizeOf240
 v80:=Tryz.zeroValue240
 i0:=by kernel_rfl
 i3:=by kernel_rfl
 i4:=by kernel_rfl
 i5:=by kernel_rfl
 i9:=by kernel_rfl
 i37:=by kernel_rfl
 i75:=by kernel_rfl
 i80:=by kernel_rfl
 i127:=by kernel_rfl
 i168:=by kernel_rfl
 i210:=by kernel_rfl
 m16:=by kernel_rfl }
open Go.RowKit in
theorem Tryz.strconv_rangeError (fn s:ByteArray) (ev:Value) (w:World) (hlim:s.size≤281474976710656) (hv:w.cell? ⟨2,0,none⟩=some ev) (hev:ev = .nilIface∨∃ te pe,ev = .iface te pe) :
 Calls Tryz.prog 125 #[.string fn,.string s] w fun e w'=>∃ N,e = .returned (.pointer (some ⟨N,0,none⟩))∧w.heap.size≤N∧w'.heap[N]?=some (.cells #[.string fn,.string s,ev] 168 (0,0))∧Below w.heap.size w w':=Any.strconv_rangeError Tryz.laysM280 fn s ev w hlim hv hev
end Go.Proofs
namespace Go.Proofs.YtpgfjbimodnkeaaGreatDoor.Dec
open Go Go.RowKit Go.Proofs.YtpgfjbimodnkeaaGreatDoorW.PrintWords Go.Proofs.YtpgfjbimodnkeaaGreatDoorW.PrintLast Go.Proofs.YtpgfjbimodnkeaaGreatDoorW.PrintMore
structure zP (e:Ending):Prop where mk :: (out:∃ (t:TypeId) (v:Value),e = .returned (.iface t v))
theorem rf (w:World) (B:Nat) (fn s:ByteArray) (x y:Int) (v:Value) (hs:s.size≤1000000) (hT:Tabs B w) (hv:v = .iface 152 (.int .i64 1)∨v = .iface 152 (.int .i64 2)) :
 Calls Tryz.prog 103 #[.string fn,.string s,.int .i64 x,.int .i64 y,v] w fun e w'=>zP e∧Below w.heap.size w w':=by
 obtain ⟨ts,vs,hes⟩:=hT.Du
 obtain ⟨tr,vr,her⟩:=hT.Dv
 have h1:=Tryz.strconv_syntaxError fn s _ w (by omega) hes (.inr ⟨_,_,rfl⟩)
 have h2:=Tryz.strconv_rangeError fn s _ w (by omega) her (.inr ⟨_,_,rfl⟩)
 have hq11:∀ W,(binOp .eql 123 (.iface 152 (.int .i64 1)) (.iface 152 (.int .i64 1))).run Tryz.prog W = .ok (.bool true) W:=fun W=>Lib.run_eql_iface_int W 1 1 Tryz.underlying123 (by kernel_rfl) Tryz.underlying152
 have hq12:∀ W,(binOp .eql 123 (.iface 152 (.int .i64 1)) (.iface 152 (.int .i64 2))).run Tryz.prog W = .ok (.bool false) W:=fun W=>Lib.run_eql_iface_int W 1 2 Tryz.underlying123 (by kernel_rfl) Tryz.underlying152
 have hq22:∀ W,(binOp .eql 123 (.iface 152 (.int .i64 2)) (.iface 152 (.int .i64 2))).run Tryz.prog W = .ok (.bool true) W:=fun W=>Lib.run_eql_iface_int W 2 2 Tryz.underlying123 (by kernel_rfl) Tryz.underlying152
 rcases hv with rfl | rfl
 all_goals
  go_enter Tryz.func103,Tryz.ntmps103
  go_wp2_with (first | (go_at_call 124;(with_reducible refine h1.mono ?_);rintro e w4 ⟨N,rfl,hN,hh,hB⟩) | (go_at_call 125;(with_reducible refine h2.mono ?_);rintro e w4 ⟨N,rfl,hN,hh,hB⟩))
  all_goals go_ret
  all_goals exact ⟨⟨_,_,rfl⟩,hB⟩
structure Dq (e:Ending):Prop where mk :: (out:∃ (b:Nat) (v:Value),e = .returned (.tuple #[.float .f64 b,v]))
theorem vY (w:World) (B:Nat) (s:ByteArray) (hs:s.size≤1000000) (hN:mg s) (hT:Tabs B w) :
 Calls Tryz.prog 87 #[.string s,.int .i64 64] w fun e w'=>Dq e∧Below w.heap.size w w':=by
 have ha:=uz w B s hs hN hT
 have hte:∀ (fn:ByteArray) (x y:Int) (v:Value) (W:World),Below w.heap.size w W→(v = .iface 152 (.int .i64 1)∨v = .iface 152 (.int .i64 2))→Calls Tryz.prog 103 #[.string fn,.string s,.int .i64 x,.int .i64 y,v] W fun e w'=>zP e∧Below w.heap.size w w':=by
  intro fn x y v W hW hv
  refine (rf W B fn s x y v hs (hT.below (iy hW hT.size)) hv).mono ?_
  rintro e w' ⟨h1,h2⟩
  exact ⟨h1,hW.trans (iy h2 hW.size)⟩
 go_enter Tryz.func87,Tryz.ntmps87
 go_wp2_with (first | (go_at_call 102;(with_reducible refine ha.mono ?_);rintro e w4 ⟨⟨b,v,rfl,hv⟩,hB⟩;rcases hv with rfl | rfl | rfl) | (go_at_call 103;(with_reducible refine (hte _ _ _ _ _ hB (by first | exact .inl rfl | exact .inr rfl)).mono ?_);rintro e w5 ⟨⟨t,v,rfl⟩,hB5⟩))
 all_goals go_ret2
 all_goals first | exact ⟨⟨_,_,rfl⟩,hB5⟩ | exact ⟨⟨_,_,rfl⟩,hB⟩
end Go.Proofs.YtpgfjbimodnkeaaGreatDoor.Dec
namespace Go.Proofs.YtpgfjbimodnkeaaGreatDoor.Scan
open Go Go.RowKit Go.Proofs.YtpgfjbimodnkeaaGreatDoorW.PrintWords
theorem lb {n:Nat} (h:n≤65536):n≤1099511627776:=Nat.le_trans h (by decide)
inductive Str (s:ByteArray):Nat→Nat→Prop
 | close (p:Nat):p < s.size→bt s p=34→Str s p p
 | plain (p q:Nat):p < s.size→bt s p≠34→bt s p≠92→Str s (p+1) q→Str s p q
 | esc (p q:Nat):p+1 < s.size→bt s p=92→Str s (p+2) q→Str s p q
def slashes (s:ByteArray) (a:Nat):Nat→Nat
 | 0=>0
 | k+1=>if a≤k∧bt s k=92 then slashes s a k+1 else 0
theorem uf (s:ByteArray) (a k:Nat) (h:k≤a):slashes s a k=0:=by
 cases k with
 | zero=>rfl
 | succ k=>rw [slashes,if_neg (by omega)]
structure Quo (s:ByteArray) (a q:Nat):Prop where
 one:1≤a
 open_:bt s ((a - 1:Nat):Int)=34
 le:a≤q
 lt:q < s.size
 mark:bt s q=34
 even:slashes s a q % 2=0
 odd:∀ k,a≤k→k < q→bt s k=34→slashes s a k % 2=1
theorem yM {s:ByteArray} {a p q:Nat} (h:Str s p q) (ha:a≤p) (he:slashes s a p % 2=0) :
 p≤q∧q < s.size∧bt s q=34∧slashes s a q % 2=0∧∀ k,p≤k→k < q→bt s k=34→slashes s a k % 2=1:=by
 induction h with
 | close p h0 h1=>exact ⟨Nat.le_refl _,h0,h1,he,fun k h2 h3=>by omega⟩
 | plain p q h0 h1 h2 h3 ih =>
   have e:slashes s a (p+1)=0:=by rw [slashes,if_neg (fun h=>h2 h.2)]
   obtain ⟨i1,i2,i3,i4,i5⟩:=ih (by omega) (by rw [e])
   refine ⟨by omega,i2,i3,i4,fun k h4 h5 h6=>?_⟩
   by_cases hk:k=p
   ·subst hk;exact absurd h6 h1
   ·exact i5 k (by omega) h5 h6
 | esc p q h0 h1 h3 ih =>
   have e:slashes s a (p+1)=slashes s a p+1:=by rw [slashes,if_pos ⟨ha,h1⟩]
   have e2:slashes s a (p+2) % 2=0:=by
    by_cases hb:bt s ((p+1:Nat):Int)=92
    ·rw [slashes,if_pos ⟨by omega,hb⟩,e];omega
    ·rw [slashes,if_neg (fun h=>hb h.2)]
   obtain ⟨i1,i2,i3,i4,i5⟩:=ih (by omega) e2
   refine ⟨by omega,i2,i3,i4,fun k h4 h5 h6=>?_⟩
   by_cases hk:k=p
   ·subst hk;rw [h1] at h6;omega
   ·by_cases hk1:k=p+1
    ·subst hk1;rw [e];omega
    ·exact i5 k (by omega) h5 h6
theorem Str.quo {s:ByteArray} {a q:Nat} (h:Str s a q) (h1:1≤a) (h2:bt s ((a - 1:Nat):Int)=34):Quo s a q:=by
 obtain ⟨i1,i2,i3,i4,i5⟩:=yM h (Nat.le_refl a) (by rw [uf s a a (Nat.le_refl a)])
 exact ⟨h1,h2,i1,i2,i3,i4,i5⟩
theorem Quo.same {s:ByteArray} {a q p:Nat} (h:Quo s a q) (h1:a≤p) (h2:p≤q) (hm:bt s p=34) (he:slashes s a p % 2=0):p=q:=by
 rcases Nat.lt_or_ge p q with hl | hl
 ·have:=h.odd p h1 hl hm;omega
 ·omega
theorem lJ (s:ByteArray) (a m:Nat):slashes s a m≤m:=by
 induction m with
 | zero=>simp [slashes]
 | succ m ih=>rw [slashes];split <;> omega
def vch (c:Int):Int:=if c=34 then 2 else if c=123∨c=91∨c=40 then 3 else if c=125∨c=93∨c=41 then 1 else 0
inductive Sq (s:ByteArray):Nat→Nat→Nat→Prop
 | last (i:Nat):i < s.size→vch (bt s i)=1→Sq s i 1 (i+1)
 | skip (i d e:Nat):i < s.size→vch (bt s i)=0→Sq s (i+1) d e→Sq s i d e
 | opens (i d e:Nat):1≤d→i < s.size→vch (bt s i)=3→Sq s (i+1) (d+1) e→Sq s i d e
 | close (i d e:Nat):i < s.size→vch (bt s i)=1→Sq s (i+1) (d+1) e→Sq s i (d+2) e
 | str (i q d e:Nat):i < s.size→vch (bt s i)=2→Quo s (i+1) q→Sq s (q+1) d e→Sq s i d e
theorem Sq.bound {s:ByteArray} {i d e:Nat} (h:Sq s i d e):i < s.size∧i < e∧e≤s.size∧1≤d∧d+i≤s.size:=by
 induction h with
 | last i h0 h1=>omega
 | skip i d e h0 h1 h2 ih=>omega
 | opens i d e hd h0 h1 h2 ih=>omega
 | close i d e h0 h1 h2 ih=>omega
 | str i q d e h0 h1 h2 h3 ih=>have:=h2.le;have:=h2.lt;omega
def iK (s:ByteArray) (i j:Nat):Prop:=∀ d e,Sq s j d e→Sq s i d e
theorem iK.refl (s:ByteArray) (i:Nat):iK s i i:=fun _ _ h=>h
theorem iK.trans {s:ByteArray} {i j k:Nat} (h:iK s i j) (h':iK s j k):iK s i k:=fun d e h2=>h d e (h' d e h2)
theorem iK.one {s:ByteArray} {i:Nat} (h:i < s.size) (h0:vch (bt s i)=0):iK s i (i+1):=fun d e h2 => .skip i d e h h0 h2
theorem iK.quoted {s:ByteArray} {i q:Nat} (h:i < s.size) (h0:bt s i=34) (hq:Quo s (i+1) q):iK s i (q+1):=fun d e h2 => .str i q d e h (by rw [h0];rfl) hq h2
theorem iK.many {s:ByteArray} {i:Nat}:∀ n:Nat,i+n≤s.size→(∀ k,i≤k→k < i+n→vch (bt s k)=0)→iK s i (i+n)
 | 0,_,_=>iK.refl s i
 | n+1,h,hk=>(iK.many n (by omega) (fun k h1 h2=>hk k h1 (by omega))).trans (iK.one (by omega) (hk _ (by omega) (by omega)))
theorem iK.bracket {s:ByteArray} {i j:Nat} (hi:i < s.size) (ho:vch (bt s i)=3) (hj:j < s.size) (hc:vch (bt s j)=1) (h:iK s (i+1) j):iK s i (j+1):=fun d e h2=>by
 have hd:=h2.bound
 obtain ⟨d,rfl⟩:∃ m,d=m+1:=⟨d - 1,by omega⟩
 exact .opens i _ e (by omega) hi ho (h _ _ (.close j d e hj hc h2))
theorem iK.closes {s:ByteArray} {i j:Nat} (hj:j < s.size) (hc:vch (bt s j)=1) (h:iK s (i+1) j):Sq s (i+1) 1 (j+1):=h _ _ (.last j hj hc)
end Go.Proofs.YtpgfjbimodnkeaaGreatDoor.Scan
namespace Go.Proofs.YtpgfjbimodnkeaaGreatDoor.Dec
open Go Go.RowKit Go.Proofs.YtpgfjbimodnkeaaGreatDoorW.PrintWords
def iC (c:Int):Prop:=(48≤c∧c≤57)∨(97≤c∧c≤102)∨(65≤c∧c≤70)
def jo (c:Int):Int:=if 48≤c∧c≤57 then c - 48 else if 97≤c∧c≤102 then c - 87 else c - 55
theorem jf {c:Int} (h:iC c):0≤jo c∧jo c≤15:=by
 unfold jo;rcases h with h | h | h
 ·rw [if_pos h];omega
 ·rw [if_neg (by omega),if_pos h];omega
 ·rw [if_neg (by omega),if_neg (by omega)];omega
def iD (r:Int):List Int :=
 if r≤127 then [r] else if r≤2047 then [192+r / 64,128+r % 64]
 else if r≤65535 then [224+r / 4096,128+r / 64 % 64,128+r % 64]
 else [240+r / 262144,128+r / 4096 % 64,128+r / 64 % 64,128+r % 64]
theorem gu (r:Int):1≤(iD r).length∧(iD r).length≤4:=by
 unfold iD
 split
 ·simp
 split
 ·simp
 split <;> simp
def kw (c:Int):Int:=if c=98 then 8 else if c=102 then 12 else if c=110 then 10 else if c=114 then 13 else if c=116 then 9 else c
def fC (c:Int):Prop:=c=92∨c=47∨c=98∨c=102∨c=110∨c=114∨c=116∨c=34
def dN (s:ByteArray) (p:Int):Int:=((jo (bt s p)*16+jo (bt s (p+1)))*16+jo (bt s (p+2)))*16+jo (bt s (p+3))
def oK (s:ByteArray) (p:Int):Prop:=iC (bt s p)∧iC (bt s (p+1))∧iC (bt s (p+2))∧iC (bt s (p+3))
theorem kF {s:ByteArray} {p:Int} (h:oK s p):0≤dN s p∧dN s p≤65535:=by
 obtain ⟨h0,h1,h2,h3⟩:=h
 have h0:=jf h0
 have h1:=jf h1
 have h2:=jf h2
 have h3:=jf h3
 unfold dN
 omega
inductive Unq (s:ByteArray):Nat→List Int→Prop
 | done (i:Nat):i=s.size→Unq s i []
 | plain (i:Nat) (l:List Int):i < s.size→32≤bt s i→bt s i≠92→Unq s (i+1) l→Unq s i (bt s i :: l)
 | short (i:Nat) (l:List Int):i+1 < s.size→bt s i=92→fC (bt s ((i:Int)+1))→Unq s (i+2) l→Unq s i (kw (bt s ((i:Int)+1)) :: l)
 | uni (i:Nat) (l:List Int):i+6≤s.size→bt s i=92→bt s ((i:Int)+1)=117→oK s ((i:Int)+2)→¬ (55296≤dN s ((i:Int)+2)∧dN s ((i:Int)+2)≤57343) →
    Unq s (i+6) l→Unq s i (iD (dN s ((i:Int)+2)) ++ l)
 | pair (i:Nat) (l:List Int):i+12≤s.size→bt s i=92→bt s ((i:Int)+1)=117→oK s ((i:Int)+2)→55296≤dN s ((i:Int)+2)→dN s ((i:Int)+2)≤56319 →
    bt s ((i:Int)+6)=92→bt s ((i:Int)+7)=117→oK s ((i:Int)+8)→56320≤dN s ((i:Int)+8)→dN s ((i:Int)+8)≤57343 →
    Unq s (i+12) l→Unq s i (iD (65536+(dN s ((i:Int)+2) - 55296)*1024+(dN s ((i:Int)+8) - 56320)) ++ l)
theorem Unq.size {s:ByteArray} {i:Nat} {l:List Int} (h:Unq s i l):i+l.length≤s.size:=by
 induction h with
 | done i h=>simp;omega
 | plain i l h0 _ _ _ ih=>simp only [List.length_cons];omega
 | short i l h0 _ _ _ ih=>simp only [List.length_cons];omega
 | uni i l h0 _ _ _ _ _ ih=>have:=gu (dN s ((i:Int)+2));simp only [List.length_append];omega
 | pair i l h0 _ _ _ _ _ _ _ _ _ _ _ ih=>have:=gu (65536+(dN s ((i:Int)+2) - 55296)*1024+(dN s ((i:Int)+8) - 56320));simp only [List.length_append];omega
theorem jg (s:ByteArray) (a b j:Nat) (hj:a+j < b) (hb:b≤s.size):bt (s.extract a b) j=bt s ((a+j:Nat):Int):=by
 unfold bt
 simp only [Int.toNat_natCast]
 have h':j < (s.extract a b).size:=by rw [ByteArray.size_extract];omega
 rw [dif_pos h',dif_pos (by omega:a+j < s.size),ByteArray.getElem_extract]
theorem toList_inj {x y:ByteArray} (h:x.toList=y.toList):x=y:=by
 rw [ByteArray.toList_eq,ByteArray.toList_eq] at h
 exact WideShapes.bytes_inj h
theorem lL (s:ByteArray) (i:Nat) (h:s.size≤i):bt s i=0:=by
 unfold bt
 rw [dif_neg (by simp;omega)]
theorem gy {i:Int} (h0:-9223372036854775808≤i) (h1:i≤9223372036854775807):wrap64 i=i:=by
 unfold wrap64
 omega
end Go.Proofs.YtpgfjbimodnkeaaGreatDoor.Dec
namespace Go.Proofs.YtpgfjbimodnkeaaGreatDoor.Scan
def Evt {α:Type} (g:Nat→Option α) (r:α):Prop:=∃ K,∀ k,K≤k→g k=some r
section
variable {α β:Type}
theorem Evt.pure (r:α):Evt (fun _=>some r) r:=⟨0,fun _ _=>rfl⟩
theorem Evt.of {a:Option α} {r:α} (h:a=some r):Evt (fun _=>a) r:=⟨0,fun _ _=>h⟩
theorem Evt.bind {g:Nat→Option α} {x:α} {f:Nat→α→Option β} {r:β} (h:Evt g x) (h':Evt (fun k=>f k x) r):Evt (fun k=>(g k).bind (f k)) r:=by
 obtain ⟨K,hK⟩:=h
 obtain ⟨L,hL⟩:=h'
 refine ⟨K+L,fun k hk=>?_⟩
 show (g k).bind (f k)=some r
 rw [hK k (by omega)]
 exact hL k (by omega)
theorem Evt.aI {a:Option α} {x:α} {f:Nat→α→Option β} {r:β} (h:a=some x) (h':Evt (fun k=>f k x) r):Evt (fun k=>a.bind (f k)) r:=by
 subst h;exact h'
theorem Evt.step {g h:Nat→Option α} {r:α} (he:∀ k,g (k+1)=h k) (hh:Evt h r):Evt g r:=by
 obtain ⟨K,hK⟩:=hh
 refine ⟨K+1,fun k hk=>?_⟩
 obtain ⟨m,rfl⟩:∃ m,k=m+1:=⟨k - 1,by omega⟩
 rw [he];exact hK m (by omega)
theorem Evt.congr {g h:Nat→Option α} {r:α} (he:∀ k,g k=h k) (hh:Evt h r):Evt g r:=by
 obtain ⟨K,hK⟩:=hh
 exact ⟨K,fun k hk=>(he k).trans (hK k hk)⟩
theorem Evt.uniq {g:Nat→Option α} {r r':α} (h:Evt g r) (h':Evt g r'):r=r':=by
 obtain ⟨K,hK⟩:=h
 obtain ⟨L,hL⟩:=h'
 have h1:=hK (K+L) (by omega)
 rw [hL (K+L) (by omega)] at h1
 exact (Option.some.inj h1).symm
theorem Evt.pos {c:Prop} [Decidable c] {g h:Nat→Option α} {r:α} (hc:c) (hh:Evt g r):Evt (fun k=>if c then g k else h k) r :=
 Evt.congr (fun _=>if_pos hc) hh
theorem Evt.neg {c:Prop} [Decidable c] {g h:Nat→Option α} {r:α} (hc:¬ c) (hh:Evt h r):Evt (fun k=>if c then g k else h k) r :=
 Evt.congr (fun _=>if_neg hc) hh
theorem Evt.at {g:Nat→Option α} {r:α} (h:Evt g r):∃ k,g k=some r:=by
 obtain ⟨K,hK⟩:=h
 exact ⟨K,hK K (Nat.le_refl _)⟩
end
end Go.Proofs.YtpgfjbimodnkeaaGreatDoor.Scan
namespace Go.Proofs.YtpgfjbimodnkeaaGreatDoor.Dec
open Go Go.RowKit Go.Proofs.YtpgfjbimodnkeaaGreatDoorW.PrintWords Go.Proofs.YtpgfjbimodnkeaaGreatDoorW.PrintLast Go.Proofs.YtpgfjbimodnkeaaGreatDoorW.PrintMore
def hexN (s:ByteArray):Nat→Int
 | 0=>0
 | k+1=>hexN s k*16+jo (bt s k)
theorem pz (s:ByteArray) (k:Nat) (h:∀ j:Nat,j < k→iC (bt s j)):0≤hexN s k∧hexN s k < 16 ^ k:=by
 induction k with
 | zero=>simp [hexN]
 | succ k ih =>
   have h1:=ih (fun j hj=>h j (by omega))
   have h2:=jf (h k (by omega))
   simp only [hexN,Int.pow_succ]
   omega
theorem AV:∀ c:Fin 6,Go.bits .or .u8 (65+(c.val:Int)) 32=97+c.val:=by decide
theorem AQ:∀ c:Fin 6,Go.bits .or .u8 (97+(c.val:Int)) 32=97+c.val:=by decide
theorem xX {c:Int} (h:(97≤c∧c≤102)∨(65≤c∧c≤70)):Go.bits .or .u8 c 32=jo c+87:=by
 unfold jo
 rw [if_neg (by omega)]
 rcases h with h | h
 ·rw [if_pos h]
  have:=AQ ⟨(c - 97).toNat,by omega⟩
  simp only at this
  rw [show (97:Int)+((c - 97).toNat:Int)=c by omega] at this
  rw [this];omega
 ·rw [if_neg (by omega)]
  have:=AV ⟨(c - 65).toNat,by omega⟩
  simp only at this
  rw [show (65:Int)+((c - 65).toNat:Int)=c by omega] at this
  rw [this];omega
theorem BK (s:ByteArray) (j:Nat):((s.data.toList.getD j 0).toNat:Int)=bt s j:=by
 unfold bt
 by_cases h:j < s.size
 ·have h':((j:Int).toNat) < s.size:=by simpa using h
  rw [dif_pos h']
  have h2:j < s.data.toList.length:=by simpa using h
  rw [List.getD_eq_getElem?_getD,List.getElem?_eq_getElem h2]
  simp
  rfl
 ·have h':¬ ((j:Int).toNat) < s.size:=by simpa using h
  rw [dif_neg h']
  have h2:¬ j < s.data.toList.length:=by simpa using h
  simp only [List.getD_eq_getElem?_getD]
  rw [List.getElem?_eq_none (by omega)]
  rfl
theorem vV (a0:Int) (w:World):Calls Tryz.prog 137 #[.int .u8 a0] w fun e w'=>e = .returned (.int .u8 (Go.bits .or .u8 a0 32))∧w'=w:=by
 go_enter Tryz.func137,Tryz.ntmps137
 go_wp2
 go_ret
 exact ⟨rfl,rfl⟩
theorem zC (w:World) (s:ByteArray) (hs:s.size=4) (hh:∀ j:Nat,j < 4→iC (bt s j)) :
 Calls Tryz.prog 122 #[.string s,.int .i64 16,.int .i64 64] w fun e w'=>e = .returned (.tuple #[.int .u64 (hexN s 4),.nilIface])∧Below w.heap.size w w':=by
 have hemp:s.toList.isEmpty=false:=by
  rw [← decide_eq_emptyBytes]
  exact decide_eq_false (fun h=>by rw [h] at hs;exact absurd hs (by decide))
 have hcv:=Lib.run_convert_string_bytes (P:=Tryz.prog) w 9 99 5 s (u:=.string) Tryz.underlying9 Tryz.underlying99 Tryz.underlying5
 rw [hs] at hcv
 have hB:∀ j:Nat,j < 4→(Lib.bytesWorld w 5 s).cell? ⟨w.heap.size,j,none⟩=some (.int .u8 (bt s j)):=fun j hj=>by
  rw [Lib.bytesWorld_cell w 5 s j (by omega),BK]
 have hbel:=ae.mk (show Below w.heap.size w (Lib.bytesWorld w 5 s) from ⟨rfl,rfl,rfl,by rw [Lib.bytesWorld_size];omega,fun k hk=>Lib.bytesWorld_at_old w 5 s k hk⟩)
 obtain ⟨W1,hW1⟩:∃ W1,W1=Lib.bytesWorld w 5 s:=⟨_,rfl⟩
 rw [← hW1] at hcv hB hbel
 clear hW1
 have hmv:IntKind.u64.wrap (IntKind.u64.wrap 18446744073709551616 - 1)=18446744073709551615:=by
  rw [IntKind.wrap_u64,IntKind.wrap_u64]
  decide
 replace hB:=ae.mk hB
 replace hh:=ae.mk hh
 have hS:=ae.mk hs
 clear hs
 go_enter Tryz.func122,Tryz.ntmps122
 go_wp2
 go_loopg [12,13,101] 5 (fun kq vu vn vi w'=>∃ (k:Nat) (a:Int),vu = .bool false∧vn = .int .u64 a∧vi = .int .i64 k∧ae (k≤4∧a=hexN s k∧kq+k=5)∧w'=W1)
 case atStart=>exact ⟨0,0,rfl,rfl,rfl,⟨by omega,rfl,rfl⟩,rfl⟩
 case round =>
  obtain ⟨k,a,rfl,rfl,rfl,hA,rfl⟩:=hrel
  obtain ⟨hk,ha,hkq⟩:=hA.out
  clear hA
  by_cases hkn:k < 4
  ·have hc:=hB.out k hkn
   have hd:=hh.out k hkn
   have hv:=jf hd
   have hb:=pz s k (fun j hj=>hh.out j (by omega))
   have hp:(16:Int) ^ k≤4096:=by
    have:k=0∨k=1∨k=2∨k=3:=by omega
    rcases this with rfl | rfl | rfl | rfl <;> decide
   rw [← ha] at hb
   have hn:hexN s (k+1)=a*16+jo (bt s k):=by rw [ha];rfl
   have a0:0≤a:=hb.1
   have a1:a < 4096:=by omega
   have HN:ae (k+1≤4∧a*16+jo (bt s k)=hexN s (k+1)∧gk - 1+(k+1)=5):=⟨by omega,hn.symm,by omega⟩
   clear ha hn hb hp
   generalize bt s k=c at *
   by_cases hdig:48≤c∧c≤57
   ·have he:jo c=c - 48:=if_pos hdig
    rw [he] at HN hv
    replace he:=ae.mk he
    obtain ⟨h0,h1⟩:=hdig
    replace hd:=ae.mk hd
    replace hkq:=ae.mk hkq
    go_wp2
    go_roundg (gk - 1)
    case measure=>have:=hkq.out;omega
    case rel=>exact ⟨k+1,a*16+(c - 48),rfl,(by first | rfl | (congr 1;omega)),(by first | rfl | (congr 1;omega)),HN,rfl⟩
   ·have hl:(97≤c∧c≤102)∨(65≤c∧c≤70):=by rcases hd with h | h | h;exact absurd h hdig;exact .inl h;exact .inr h
    have hlow:=xX hl
    have h58:57 < c:=by omega
    have hv10:10≤jo c:=by unfold jo;rw [if_neg hdig];split <;> omega
    have hf:∀ W,Calls Tryz.prog 137 #[.int .u8 c] W fun e w'=>e = .returned (.int .u8 (jo c+87))∧w'=W:=fun W=>hlow ▸ vV c W
    replace hd:=ae.mk hd
    replace hl:=ae.mk hl
    replace hlow:=ae.mk hlow
    replace hkq:=ae.mk hkq
    have hc0:0≤c:=by omega
    have h95:(c == 95)=false:=beq_eq_false_iff_ne.mpr (by have:=hl.out;omega)
    clear hdig
    generalize jo c=d at *
    go_wp2_with (first | (go_at_call 137;(with_reducible refine (hf _).mono ?_);rintro e w4 ⟨rfl,rfl⟩))
    go_roundg (gk - 1)
    case measure=>have:=hkq.out;omega
    case rel=>exact ⟨k+1,a*16+d,rfl,(by first | rfl | (congr 1;omega)),(by first | rfl | (congr 1;omega)),HN,rfl⟩
  ·have hkk:k=4:=by omega
   subst hkk
   subst ha
   replace hkq:=ae.mk hkq
   go_wp2
   go_ret2
   exact ⟨rfl,hbel.out⟩
theorem xU (w:World) (s:ByteArray) (hs:s.size=4) (hh:∀ j:Nat,j < 4→iC (bt s j)) :
 Calls Tryz.prog 100 #[.string s,.int .i64 16,.int .i64 64] w fun e w'=>e = .returned (.tuple #[.int .u64 (hexN s 4),.nilIface])∧Below w.heap.size w w':=by
 have hc:=fun W=>zC W s hs hh
 clear hs hh
 go_enter Tryz.func100,Tryz.ntmps100
 go_wp2_with (first | (go_at_call 122;(with_reducible refine (hc _).mono ?_);rintro e w4 ⟨rfl,hB⟩))
 go_ret2
 exact ⟨rfl,hB⟩
theorem uH (s t:ByteArray):∀ k:Nat,(∀ j:Nat,j < k→bt s j=bt t j)→hexN s k=hexN t k
 | 0,_=>rfl
 | k+1,h=>by simp only [hexN];rw [uH s t k (fun j hj=>h j (by omega)),h k (by omega)]
theorem uG (s:ByteArray) (n j:Nat) (hj:j < n):bt (s.extract 0 n) j=bt s j:=by
 unfold bt
 simp only [Int.toNat_natCast]
 by_cases h:j < s.size
 ·have h':j < (s.extract 0 n).size:=by rw [ByteArray.size_extract];omega
  rw [dif_pos h',dif_pos h,ByteArray.getElem_extract]
  simp
 ·have h':¬ j < (s.extract 0 n).size:=by rw [ByteArray.size_extract];omega
  rw [dif_neg h',dif_neg h]
theorem tK (w:World) (s:ByteArray) (hs:4≤s.size) (hh:∀ j:Nat,j < 4→iC (bt s j)) :
 Calls Tryz.prog 80 #[.string s] w fun e w'=>e = .returned (.int .i32 (hexN s 4))∧Below w.heap.size w w':=by
 have hc:∀ W,Calls Tryz.prog 100 #[.string (s.extract 0 4),.int .i64 16,.int .i64 64] W fun e w'=>e = .returned (.tuple #[.int .u64 (hexN s 4),.nilIface])∧Below W.heap.size W w':=fun W=>by
  have h:=xU W (s.extract 0 4) (by rw [ByteArray.size_extract];omega) (fun j hj=>by rw [uG s 4 j hj];exact hh j hj)
  rw [uH (s.extract 0 4) s 4 (fun j hj=>uG s 4 j hj)] at h
  exact h
 have hb:=pz s 4 hh
 generalize hexN s 4=n at *
 have h0:0≤n:=hb.1
 have h1:n < 65536:=hb.2
 have hs4:(4:Int)≤(s.size:Int):=by omega
 clear hb hh
 go_enter Tryz.func80,Tryz.ntmps80
 go_wp2_with (first | (go_at_call 100;(with_reducible refine (hc _).mono ?_);rintro e w4 ⟨rfl,hB⟩))
 go_ret
 exact ⟨rfl,hB⟩
theorem Cm (b off len cap:Nat) (r:Int) (h0:128≤r) (h1:r≤2047) (w:World) (hl:2≤len) (c0 c1:Value)
 (hc0:w.cell? ⟨b,off,none⟩=some c0) (hc1:w.cell? ⟨b,off+1,none⟩=some c1) (hf0:w.frozen? ⟨b,off,none⟩=false) (hf1:w.frozen? ⟨b,off+1,none⟩=false) :
 Calls Tryz.prog 101 #[.slice (some ⟨b,off,none⟩) len cap,.int .i32 r] w fun e w'=>e = .returned (.int .i64 2)∧w'=w.setCells b off [.int .u8 (192+r / 64),.int .u8 (128+r % 64)]:=by
 go_enter Tryz.func101,Tryz.ntmps101
 go_wp2
 go_ret
 exact ⟨rfl,rfl⟩
theorem sV (b off len cap:Nat) (r:Int) (h0:2048≤r) (h1:r < 55296) (w:World) (hl:3≤len) (c0 c1 c2:Value)
 (hc0:w.cell? ⟨b,off,none⟩=some c0) (hc1:w.cell? ⟨b,off+1,none⟩=some c1) (hc2:w.cell? ⟨b,off+2,none⟩=some c2)
 (hf0:w.frozen? ⟨b,off,none⟩=false) (hf1:w.frozen? ⟨b,off+1,none⟩=false) (hf2:w.frozen? ⟨b,off+2,none⟩=false) :
 Calls Tryz.prog 101 #[.slice (some ⟨b,off,none⟩) len cap,.int .i32 r] w fun e w'=>e = .returned (.int .i64 3)∧w'=w.setCells b off [.int .u8 (224+r / 4096),.int .u8 (128+r / 64 % 64),.int .u8 (128+r % 64)]:=by
 go_enter Tryz.func101,Tryz.ntmps101
 go_wp2
 go_ret
 exact ⟨rfl,rfl⟩
theorem tu (b off len cap:Nat) (r:Int) (h0:57343 < r) (h1:r≤65535) (w:World) (hl:3≤len) (c0 c1 c2:Value)
 (hc0:w.cell? ⟨b,off,none⟩=some c0) (hc1:w.cell? ⟨b,off+1,none⟩=some c1) (hc2:w.cell? ⟨b,off+2,none⟩=some c2)
 (hf0:w.frozen? ⟨b,off,none⟩=false) (hf1:w.frozen? ⟨b,off+1,none⟩=false) (hf2:w.frozen? ⟨b,off+2,none⟩=false) :
 Calls Tryz.prog 101 #[.slice (some ⟨b,off,none⟩) len cap,.int .i32 r] w fun e w'=>e = .returned (.int .i64 3)∧w'=w.setCells b off [.int .u8 (224+r / 4096),.int .u8 (128+r / 64 % 64),.int .u8 (128+r % 64)]:=by
 go_enter Tryz.func101,Tryz.ntmps101
 go_wp2
 go_ret
 exact ⟨rfl,rfl⟩
theorem zT (b off len cap:Nat) (r:Int) (h0:65536≤r) (h1:r≤1114111) (w:World) (hl:4≤len) (c0 c1 c2 c3:Value)
 (hc0:w.cell? ⟨b,off,none⟩=some c0) (hc1:w.cell? ⟨b,off+1,none⟩=some c1) (hc2:w.cell? ⟨b,off+2,none⟩=some c2) (hc3:w.cell? ⟨b,off+3,none⟩=some c3)
 (hf0:w.frozen? ⟨b,off,none⟩=false) (hf1:w.frozen? ⟨b,off+1,none⟩=false) (hf2:w.frozen? ⟨b,off+2,none⟩=false) (hf3:w.frozen? ⟨b,off+3,none⟩=false) :
 Calls Tryz.prog 101 #[.slice (some ⟨b,off,none⟩) len cap,.int .i32 r] w fun e w'=>e = .returned (.int .i64 4)∧w'=w.setCells b off [.int .u8 (240+r / 262144),.int .u8 (128+r / 4096 % 64),.int .u8 (128+r / 64 % 64),.int .u8 (128+r % 64)]:=by
 go_enter Tryz.func101,Tryz.ntmps101
 go_wp2
 go_ret
 exact ⟨rfl,rfl⟩
def xR:List Int→Nat→List Int→List Int
 | xs,_,[]=>xs
 | xs,o,b :: bs=>xR (xs.set o b) (o+1) bs
theorem uX:∀ (bs ys zs:List Int),bs.length≤zs.length→xR (ys ++ zs) ys.length bs=ys ++ (bs ++ zs.drop bs.length)
 | [],ys,zs,_=>by simp [xR]
 | b :: bs,ys,[],h=>by simp at h
 | b :: bs,ys,z :: zs,h=>by
   have h1:=uX bs (ys ++ [b]) zs (by simpa using h)
   simp only [xR]
   rw [show (ys ++ z :: zs).set ys.length b=(ys ++ [b]) ++ zs by simp [List.set_append],show ys.length+1=(ys ++ [b]).length by simp,h1]
   simp
theorem oh {g n cap base:Nat} {e:TypeId}:∀ (bs:List Int) (o:Nat) (W:World) (xs:List Int),W.ownsRow base e 1 (.slice (some ⟨g,0,none⟩) n cap) n (nums .u8 xs) →
 (W.setCells g o (nums .u8 bs)).ownsRow base e 1 (.slice (some ⟨g,0,none⟩) n cap) n (nums .u8 (xR xs o bs))∧W.grownBy (W.setCells g o (nums .u8 bs)) (some g)
 | [],o,W,xs,h=>⟨h,⟨rfl,rfl,rfl,Nat.le_refl _,fun _ _ _=>rfl⟩⟩
 | b :: bs,o,W,xs,h=>by
   have h1:=yz h (o:Int) b
   have h2:=oh bs (o+1) _ _ h1.1
   exact ⟨h2.1,World.grownBy.trans h1.2 h2.2⟩
theorem BR (b off len cap:Nat) (r:Int) (h0:0≤r) (h1:r≤127) (w:World) (hl:1≤len) (c0:Value)
 (hc0:w.cell? ⟨b,off,none⟩=some c0) (hf0:w.frozen? ⟨b,off,none⟩=false) :
 Calls Tryz.prog 83 #[.slice (some ⟨b,off,none⟩) len cap,.int .i32 r] w fun e w'=>e = .returned (.int .i64 1)∧w'=w.setCells b off [.int .u8 r]:=by
 go_enter Tryz.func83,Tryz.ntmps83
 go_wp2
 go_ret
 exact ⟨rfl,rfl⟩
theorem ui (p:Value) (r:Int) (h0:128≤r) (h1:r≤1114111) (w:World) (k:Int) (W':World)
 (hc:Calls Tryz.prog 101 #[p,.int .i32 r] w fun e w'=>e = .returned (.int .i64 k)∧w'=W') :
 Calls Tryz.prog 83 #[p,.int .i32 r] w fun e w'=>e = .returned (.int .i64 k)∧w'=W':=by
 go_enter Tryz.func83,Tryz.ntmps83
 go_wp2_with (first | (go_at_call 101;(with_reducible refine hc.mono ?_);rintro e w4 ⟨rfl,rfl⟩))
 go_ret
 exact ⟨rfl,rfl⟩
theorem Ce (b off cap:Nat) (r:Int) (h0:0≤r) (h1:r≤1114111) (hs:¬ (55296≤r∧r≤57343)) (w:World) (c0 c1 c2 c3:Value)
 (hc0:w.cell? ⟨b,off,none⟩=some c0) (hc1:w.cell? ⟨b,off+1,none⟩=some c1) (hc2:w.cell? ⟨b,off+2,none⟩=some c2) (hc3:w.cell? ⟨b,off+3,none⟩=some c3)
 (hf0:w.frozen? ⟨b,off,none⟩=false) (hf1:w.frozen? ⟨b,off+1,none⟩=false) (hf2:w.frozen? ⟨b,off+2,none⟩=false) (hf3:w.frozen? ⟨b,off+3,none⟩=false) :
 Calls Tryz.prog 83 #[.slice (some ⟨b,off,none⟩) 8 cap,.int .i32 r] w fun e w'=>e = .returned (.int .i64 (iD r).length)∧w'=w.setCells b off (nums .u8 (iD r)):=by
 unfold iD
 split
 ·exact BR b off 8 cap r h0 (by omega) w (by omega) c0 hc0 hf0
 split
 ·exact ui _ r (by omega) h1 w _ _ (Cm b off 8 cap r (by omega) (by omega) w (by omega) c0 c1 hc0 hc1 hf0 hf1)
 split
 ·by_cases h:r < 55296
  ·exact ui _ r (by omega) h1 w _ _ (sV b off 8 cap r (by omega) h w (by omega) c0 c1 c2 hc0 hc1 hc2 hf0 hf1 hf2)
  ·exact ui _ r (by omega) h1 w _ _ (tu b off 8 cap r (by omega) (by omega) w (by omega) c0 c1 c2 hc0 hc1 hc2 hf0 hf1 hf2)
 ·exact ui _ r (by omega) h1 w _ _ (zT b off 8 cap r (by omega) (by omega) w (by omega) c0 c1 c2 c3 hc0 hc1 hc2 hc3 hf0 hf1 hf2 hf3)
theorem qX (base g cap m:Nat) (ys:List Int) (hm:m=ys.length) (r:Int) (h0:0≤r) (h1:r≤1114111) (hs:¬ (55296≤r∧r≤57343)) (w:World)
 (HO:w.ownsRow base 5 1 (.slice (some ⟨g,0,none⟩) (m+8) cap) (m+8) (nums .u8 (ys ++ List.replicate 8 0))) (cap':Nat) :
 Calls Tryz.prog 83 #[.slice (some ⟨g,m,none⟩) 8 cap',.int .i32 r] w fun e w'=>e = .returned (.int .i64 (iD r).length) ∧
  w'.ownsRow base 5 1 (.slice (some ⟨g,0,none⟩) (m+(iD r).length) cap) (m+(iD r).length) (nums .u8 (ys ++ iD r))∧w.grownBy w' (some g):=by
 have hl:(nums .u8 (ys ++ List.replicate 8 0)).length=m+8:=by simp [nums,hm]
 have hc:∀ j,j < 4→∃ c,w.cell? ⟨g,m+j,none⟩=some c:=fun j hj=>by
  rw [HO.cellAt (m+j) (by omega)]
  exact ⟨_,List.getElem?_eq_getElem (by omega)⟩
 obtain ⟨c0,hc0⟩:=hc 0 (by omega)
 obtain ⟨c1,hc1⟩:=hc 1 (by omega)
 obtain ⟨c2,hc2⟩:=hc 2 (by omega)
 obtain ⟨c3,hc3⟩:=hc 3 (by omega)
 refine (Ce g m cap' r h0 h1 hs w c0 c1 c2 c3 hc0 hc1 hc2 hc3 (HO.frozenAt _) (HO.frozenAt _) (HO.frozenAt _) (HO.frozenAt _)).mono ?_
 rintro e w' ⟨rfl,rfl⟩
 have hz:=gu r
 have h2:=oh (iD r) m w _ HO
 refine ⟨rfl,?_,h2.2⟩
 have h3:=vC h2.1 (m:=m+(iD r).length) (by omega)
 have h4:(nums .u8 (xR (ys ++ List.replicate 8 0) m (iD r))).take ((m+(iD r).length)*1)=nums .u8 (ys ++ iD r):=by
  rw [hm,uX _ _ _ (by simp;omega)]
  simp only [nums,← List.map_take,Nat.mul_one]
  rw [← List.append_assoc,List.take_left' (by simp)]
 rw [h4] at h3
 exact h3
end Go.Proofs.YtpgfjbimodnkeaaGreatDoor.Dec
namespace Go.Proofs.YtpgfjbimodnkeaaGreatDoor.Q
open Go.RowKit Go.Proofs.YtpgfjbimodnkeaaGreatDoorW.PrintWords Go.Proofs.YtpgfjbimodnkeaaGreatDoorW.PrintLast Go.Proofs.YtpgfjbimodnkeaaGreatDoorW.PrintMore
attribute [local go_sem] dm di dL dK cu bZ dD dC
attribute [local go_sem] dm di dL dK cu bZ dD dC
def jk.f (a0:Int) (a1:Int):Option (Int):=if 55296≤a0 then (if a0 < 56320 then (if 56320≤a1 then (if a1 < 57344 then (some (wrap32 ((Go.bits .or .i32 (wrap32 ((wrap32 (a0 - 55296))*1024)) (wrap32 (a1 - 56320)))+65536))) else (some 65533)) else (some 65533)) else (some 65533)) else (some 65533)
theorem jk.calls (a0:Int) (a1:Int) (r:Int) (w:World) (h:jk.f a0 a1=some r) :
 Calls Tryz.prog 82 #[.int .i32 a0,.int .i32 a1] w fun e w'=>e = .returned (.int .i32 r)∧ai w w':=by
 have H:(if 55296≤a0 then (if a0 < 56320 then (if 56320≤a1 then (if a1 < 57344 then (some (wrap32 ((Go.bits .or .i32 (wrap32 ((wrap32 (a0 - 55296))*1024)) (wrap32 (a1 - 56320)))+65536))) else (some 65533)) else (some 65533)) else (some 65533)) else (some 65533))=some r:=h
 clear h
 by_cases c3:55296≤a0
 ·rw [if_pos c3] at H
  have c3b0:decide (55296≤a0)=true:=decide_eq_true c3
  clear c3
  by_cases c4:a0 < 56320
  ·rw [if_pos c4] at H
   have c4b0:decide (a0 < 56320)=true:=decide_eq_true c4
   clear c4
   by_cases c5:56320≤a1
   ·rw [if_pos c5] at H
    have c5b0:decide (56320≤a1)=true:=decide_eq_true c5
    clear c5
    by_cases c6:a1 < 57344
    ·rw [if_pos c6] at H
     have c6b0:decide (a1 < 57344)=true:=decide_eq_true c6
     clear c6
     obtain rfl:=Option.some.inj H
     go_enter Tryz.func82,Tryz.ntmps82
     go_wp2
     go_ret
     exact ⟨by first | rfl | (simp;done) | (simp [*];done),by repeat (first | exact ai.refl _ | apply ai.step)⟩
    ·rw [if_neg c6] at H
     have c6b0:decide (a1 < 57344)=false:=decide_eq_false c6
     clear c6
     obtain rfl:=Option.some.inj H
     go_enter Tryz.func82,Tryz.ntmps82
     go_wp2
     go_ret
     exact ⟨by first | rfl | (simp;done) | (simp [*];done),by repeat (first | exact ai.refl _ | apply ai.step)⟩
   ·rw [if_neg c5] at H
    have c5b0:decide (56320≤a1)=false:=decide_eq_false c5
    clear c5
    obtain rfl:=Option.some.inj H
    go_enter Tryz.func82,Tryz.ntmps82
    go_wp2
    go_ret
    exact ⟨by first | rfl | (simp;done) | (simp [*];done),by repeat (first | exact ai.refl _ | apply ai.step)⟩
  ·rw [if_neg c4] at H
   have c4b0:decide (a0 < 56320)=false:=decide_eq_false c4
   clear c4
   obtain rfl:=Option.some.inj H
   go_enter Tryz.func82,Tryz.ntmps82
   go_wp2
   go_ret
   exact ⟨by first | rfl | (simp;done) | (simp [*];done),by repeat (first | exact ai.refl _ | apply ai.step)⟩
 ·rw [if_neg c3] at H
  have c3b0:decide (55296≤a0)=false:=decide_eq_false c3
  clear c3
  obtain rfl:=Option.some.inj H
  go_enter Tryz.func82,Tryz.ntmps82
  go_wp2
  go_ret
  exact ⟨by first | rfl | (simp;done) | (simp [*];done),by repeat (first | exact ai.refl _ | apply ai.step)⟩
end Go.Proofs.YtpgfjbimodnkeaaGreatDoor.Q
namespace Go.Proofs.YtpgfjbimodnkeaaGreatDoor.Dec
open Go Go.RowKit Go.Proofs.YtpgfjbimodnkeaaGreatDoorW.PrintWords Go.Proofs.YtpgfjbimodnkeaaGreatDoorW.PrintLast Go.Proofs.YtpgfjbimodnkeaaGreatDoorW.PrintMore
theorem xy (s:ByteArray) (p j:Nat):bt (s.extract p s.size) j=bt s ((p:Int)+j):=by
 unfold bt
 simp only [Int.toNat_natCast,show ((p:Int)+(j:Int)).toNat=p+j by omega]
 by_cases h:p+j < s.size
 ·have h':j < (s.extract p s.size).size:=by rw [ByteArray.size_extract];omega
  rw [dif_pos h',dif_pos h,ByteArray.getElem_extract]
 ·have h':¬ j < (s.extract p s.size).size:=by rw [ByteArray.size_extract];omega
  rw [dif_neg h',dif_neg h]
theorem oV (s:ByteArray) (p:Nat) (hp:p+4≤s.size) (hh:oK s p) (w:World) :
 Calls Tryz.prog 80 #[.string (s.extract p s.size)] w fun e w'=>e = .returned (.int .i32 (dN s p))∧Below w.heap.size w w':=by
 obtain ⟨h0,h1,h2,h3⟩:=hh
 have h:=tK w (s.extract p s.size) (by rw [ByteArray.size_extract];omega) (fun j hj=>by
  rw [xy]
  have:j=0∨j=1∨j=2∨j=3:=by omega
  rcases this with rfl | rfl | rfl | rfl
  ·simpa using h0
  ·exact h1
  ·exact h2
  ·exact h3)
 have e:hexN (s.extract p s.size) 4=dN s p:=by
  simp only [hexN,dN,xy]
  simp
 rwa [e] at h
theorem su (n:Int) (w:World) (b:Bool) (hb:decide (55296≤n∧n < 57344)=b):Calls Tryz.prog 81 #[.int .i32 n] w fun e w'=>e = .returned (.bool b)∧w'=w:=by
 by_cases h:55296≤n
 ·have h1:b=decide (n < 57344):=by rw [← hb];simp [h]
  go_enter Tryz.func81,Tryz.ntmps81
  go_wp2
  go_ret
  exact ⟨by rw [h1];rfl,rfl⟩
 ·have h1:b=false:=by rw [← hb];simp [h]
  subst h1
  clear hb
  have h2:decide (55296≤n)=false:=decide_eq_false h
  go_enter Tryz.func81,Tryz.ntmps81
  go_wp2
  go_ret
  exact ⟨rfl,rfl⟩
theorem uQ (n m:Int) (hn:55296≤n) (hn1:n≤56319) (hm:56320≤m) (hm1:m≤57343) (w:World):Calls Tryz.prog 82 #[.int .i32 n,.int .i32 m] w fun e w'=>e = .returned (.int .i32 (65536+(n - 55296)*1024+(m - 56320)))∧ai w w':=by
 refine Q.jk.calls n m _ w ?_
 unfold Q.jk.f
 rw [if_pos hn,if_pos (by omega),if_pos hm,if_pos (by omega)]
 have hw:∀ x:Int,0≤x→x < 2147483648→wrap32 x=x:=fun x h0 h1=>by unfold wrap32;omega
 rw [hw (n - 55296) (by omega) (by omega),hw ((n - 55296)*1024) (by omega) (by omega),hw (m - 56320) (by omega) (by omega),
  bits_join .i32 31 (by decide) wraps_i32 10 ((n - 55296)*1024) (m - 56320) (by omega) (by omega) (by omega) (by omega) (by omega) (by omega),hw _ (by omega) (by omega)]
 congr 1
 omega
theorem rQ (W:World) (e:TypeId) (k:IntKind) (xs:List Int) (hm:xs.length≤9223372036854775807):ql (W.alloc (.cells (nums k xs).toArray e)) k (some ⟨W.heap.size,0,none⟩) xs.length xs:=by
 obtain ⟨A,c,he,hr⟩:=yO (CJ W W.heap.size e k xs (Nat.le_refl _) hm)
 injection he with h1 h2 h3
 subst h1
 exact hr
theorem qx (s:ByteArray) (i:Nat):∀ h:i < s.size,((s[i]'h).toNat:Int)=bt s i:=fun h=>dI s i h
theorem ou (s:ByteArray) (i k:Nat):∀ h:i+k < s.size,((s[i+k]'h).toNat:Int)=bt s ((i:Int)+k):=fun h=>by rw [qx];simp
theorem sJ {w:World} {base n sz:Nat} {e:TypeId} {v:Value} {xs:List Value} (h:w.ownsRow base e sz v n xs) (h0:0 < n):∃ g cap,v = .slice (some ⟨g,0,none⟩) n cap∧base≤g∧n≤cap:=by
 rcases h.2 with ⟨_,hz⟩ | ⟨g,cap,cur,rfl,hbg,hhg,hnc,hcm,hcs,htk⟩
 ·omega
 ·exact ⟨g,cap,rfl,hbg,hnc⟩
theorem sD (g n cap m:Nat) (hm:m≤n) (hnc:n≤cap) (hlt:m < cap) (W:World):(Instr.slice 99 (.slice (some ⟨g,0,none⟩) n cap) (some (.int .i64 (m:Int))) none none).run Tryz.prog W = .ok (.slice (some ⟨g,m,none⟩) (n - m) (cap - m)) W:=by
 have hu:Tryz.prog.underlying 99=some (.slice (Tryz.prog.elem 99)):=by kernel_rfl
 have hel:Tryz.prog.elem 99=5:=by kernel_rfl
 obtain ⟨i0,hi,hzz⟩:=Option.map_eq_some_iff.1 Q.info5
 simp only [Prod.mk.injEq] at hzz
 rw [run_slice_l W 99 (some ⟨g,0,none⟩) n cap hu .i64 (m:Int) (Int.natCast_nonneg _) (by omega),hel]
 simp [sizeOf,typeInfo,hi,hzz.2.1,sliced,Result.andThen,Addr.add]
 by_cases h:m=0
 ·subst h;simp
 ·simp [h];omega
theorem vg (g n cap m:Nat) (hm:m≤cap) (W:World):(Instr.slice 99 (.slice (some ⟨g,0,none⟩) n cap) none (some (.int .i64 (m:Int))) none).run Tryz.prog W = .ok (.slice (some ⟨g,0,none⟩) m cap) W:=by
 have hu:Tryz.prog.underlying 99=some (.slice (Tryz.prog.elem 99)):=by kernel_rfl
 have hel:Tryz.prog.elem 99=5:=by kernel_rfl
 obtain ⟨i0,hi,hzz⟩:=Option.map_eq_some_iff.1 Q.info5
 simp only [Prod.mk.injEq] at hzz
 rw [run_slice_h W 99 (some ⟨g,0,none⟩) n cap hu .i64 (m:Int) (Int.natCast_nonneg _) (by omega),hel]
 simp [sizeOf,typeInfo,hi,hzz.2.1,sliced,Result.andThen,Addr.add]
structure UnR (s:ByteArray) (l:List Int) (B:Nat) (w:World) (kq:Nat) (v3:Value) (xs:List Int) (i:Nat) (w':World):Prop where
 un:∃ rest,Unq s i rest∧xs ++ rest=l
 hi:i≤s.size
 hk:kq=s.size+1 - i
 own:w'.ownsRow B 5 1 v3 xs.length (nums .u8 xs)
 bel:Below B w w'
theorem qL (w:World) (s:ByteArray) (l:List Int) (hs:s.size≤1000000) (hu:Unq s 0 l) :
 Calls Tryz.prog 61 #[.string s] w fun e w'=>e = .returned (.string (strOfNums l))∧Below w.heap.size w w':=by
 have hu':=ae.mk hu
 clear hu
 have hS:=ae.mk hs
 have hL:ae (l.length≤1000000):=⟨by have:=hu'.out.size;omega⟩
 clear hs
 go_enter Tryz.func61,Tryz.ntmps61
 go_wp2_with (first | ((with_reducible refine gm (N:=9) rfl ?_);refine Kd.yK (Kd.int .u8) (w0:=w) w.heap.size 5 rfl (N:=9) rfl 99 _ _ rfl s.size rfl rfl Tryz.underlying99 (.int .u8 0) 1 Q.info5 (by decide) (ok:=fun _=>True) trivial (by omega) (by have:=hS.out;omega) (Below.refl _ _) (Nat.le_refl _) ?_;intro v1 w1 ho hb hg hat;have hown0:=ae.mk (Kd.uB ho);have hbel0:=ae.mk hb;clear ho hb hg hat))
 go_loopg [3,4] (s.size+1) (fun kq v3 v4 w'=>∃ (xs:List Int) (i:Nat),v4 = .int .i64 i∧ae (UnR s l w.heap.size w kq v3 xs i w'))
 case atStart=>exact ⟨[],0,rfl,⟨⟨l,hu'.out,rfl⟩,by omega,rfl,hown0.out,hbel0.out⟩⟩
 case round =>
  clear hown0 hbel0 hu'
  obtain ⟨xs,i,rfl,hA⟩:=hrel
  obtain ⟨⟨rest,hun,hxs⟩,hi,hk,hown,hbel⟩:=hA.out
  clear hA
  have hsz:=hun.size
  have hlen:ae (xs.length+8≤2000000∧xs.length≤l.length):=⟨by have:=hL.out;have:=congrArg List.length hxs;rw [List.length_append] at this;omega⟩
  replace hown:=ae.mk hown
  replace hbel:=ae.mk hbel
  replace hxs:=ae.mk hxs
  replace hk:=ae.mk hk
  clear hsz
  have hs6:(s.size:Int)≤1000000:=by have:=hS.out;omega
  cases hun with
  | done _ he =>
    subst he
    have hcv:=qI (P:=Tryz.prog) Tryz.underlying99 Tryz.underlying5 Tryz.underlying9 hown.out
    go_wp2
    go_ret
    exact ⟨by rw [← hxs.out,List.append_nil];rfl,hbel.out⟩
  | plain _ rest h0 h1 h2 hun =>
    have hb:=qx s i
    have hr:=fP s i
    have p0:(0≤(i:Int))=True:=eq_true (by omega)
    have p1:((i:Int) < (s.size:Int))=True:=eq_true (by omega)
    have e92:(bt s i == 92)=false:=beq_eq_false_iff_ne.mpr h2
    have d32:decide (bt s i < 32)=false:=decide_eq_false (by omega)
    replace hun:=ae.mk hun
    generalize bt s i=c at *
    go_wp2_with (first | ((with_reducible refine dH (b:=.append) (xs:=#[.tmp 16,.tmp 20]) rfl ?_);at_builtin;refine fA (w0:=w) w.heap.size rfl (.tmp 16) (.tmp 20) 99 5 .u8 1 rfl Tryz.underlying99 Q.info5 (by decide) u3 xs c rfl rfl ?aO ?aB ?aS ?aL ?_;(case aO=>exact hown.out);(case aB=>exact hbel.out);(case aS=>exact hbel.out.size);(case aL=>have:=hlen.out;omega);intro v1 w1 ho hb hg hat;have hown1:=ae.mk ho;have hbel1:=ae.mk hb;clear ho hb hg hat))
    go_roundg (s.size+1 - (i+1))
    case measure=>have:=hk.out;omega
    case rel=>exact ⟨xs ++ [c],i+1,by first | rfl | (congr 1;omega),⟨⟨⟨rest,hun.out,by simpa using hxs.out⟩,by omega,rfl,hown1.out,hbel1.out⟩⟩⟩
  | short _ rest h0 h1 h2 hun =>
    have hb:=qx s i
    have hb1:=ou s i 1
    rw [h1] at hb
    have p0:(0≤(i:Int))=True:=eq_true (by omega)
    have p1:((i:Int) < (s.size:Int))=True:=eq_true (by omega)
    have p2:((i:Int)+1 < (s.size:Int))=True:=eq_true (by omega)
    replace hun:=ae.mk hun
    simp only [Int.natCast_one] at hb1
    unfold fC at h2
    generalize bt s ((i:Int)+1)=c at *
    replace h1:=ae.mk h1
    have h2':c=92∨c=47∨c=98∨c=102∨c=110∨c=114∨c=116∨c=34:=h2
    clear h2
    rcases h2' with rfl | rfl | rfl | rfl | rfl | rfl | rfl | rfl
    ·go_wp2_with (first | ((with_reducible refine dH (b:=.append) (xs:=#[.tmp 49,.tmp 50]) rfl ?_);at_builtin;refine fA (w0:=w) w.heap.size rfl (.tmp 49) (.tmp 50) 99 5 .u8 1 rfl Tryz.underlying99 Q.info5 (by decide) u3 xs 92 rfl rfl ?aO ?aB ?aS ?aL ?_;(case aO=>exact hown.out);(case aB=>exact hbel.out);(case aS=>exact hbel.out.size);(case aL=>have:=hlen.out;omega);intro v1 w1 ho hb hg hat;have hown1:=ae.mk ho;have hbel1:=ae.mk hb;clear ho hb hg hat))
     go_roundg (s.size+1 - (i+2))
     case measure=>have:=hk.out;omega
     case rel=>exact ⟨xs ++ [92],i+2,by first | rfl | (congr 1;omega),⟨⟨⟨rest,hun.out,by have:=hxs.out;simpa [kw] using this⟩,by omega,rfl,hown1.out,hbel1.out⟩⟩⟩
    ·go_wp2_with (first | ((with_reducible refine dH (b:=.append) (xs:=#[.tmp 54,.tmp 55]) rfl ?_);at_builtin;refine fA (w0:=w) w.heap.size rfl (.tmp 54) (.tmp 55) 99 5 .u8 1 rfl Tryz.underlying99 Q.info5 (by decide) u3 xs 47 rfl rfl ?aO ?aB ?aS ?aL ?_;(case aO=>exact hown.out);(case aB=>exact hbel.out);(case aS=>exact hbel.out.size);(case aL=>have:=hlen.out;omega);intro v1 w1 ho hb hg hat;have hown1:=ae.mk ho;have hbel1:=ae.mk hb;clear ho hb hg hat))
     go_roundg (s.size+1 - (i+2))
     case measure=>have:=hk.out;omega
     case rel=>exact ⟨xs ++ [47],i+2,by first | rfl | (congr 1;omega),⟨⟨⟨rest,hun.out,by have:=hxs.out;simpa [kw] using this⟩,by omega,rfl,hown1.out,hbel1.out⟩⟩⟩
    ·go_wp2_with (first | ((with_reducible refine dH (b:=.append) (xs:=#[.tmp 59,.tmp 60]) rfl ?_);at_builtin;refine fA (w0:=w) w.heap.size rfl (.tmp 59) (.tmp 60) 99 5 .u8 1 rfl Tryz.underlying99 Q.info5 (by decide) u3 xs 8 rfl rfl ?aO ?aB ?aS ?aL ?_;(case aO=>exact hown.out);(case aB=>exact hbel.out);(case aS=>exact hbel.out.size);(case aL=>have:=hlen.out;omega);intro v1 w1 ho hb hg hat;have hown1:=ae.mk ho;have hbel1:=ae.mk hb;clear ho hb hg hat))
     go_roundg (s.size+1 - (i+2))
     case measure=>have:=hk.out;omega
     case rel=>exact ⟨xs ++ [8],i+2,by first | rfl | (congr 1;omega),⟨⟨⟨rest,hun.out,by have:=hxs.out;simpa [kw] using this⟩,by omega,rfl,hown1.out,hbel1.out⟩⟩⟩
    ·go_wp2_with (first | ((with_reducible refine dH (b:=.append) (xs:=#[.tmp 64,.tmp 65]) rfl ?_);at_builtin;refine fA (w0:=w) w.heap.size rfl (.tmp 64) (.tmp 65) 99 5 .u8 1 rfl Tryz.underlying99 Q.info5 (by decide) u3 xs 12 rfl rfl ?aO ?aB ?aS ?aL ?_;(case aO=>exact hown.out);(case aB=>exact hbel.out);(case aS=>exact hbel.out.size);(case aL=>have:=hlen.out;omega);intro v1 w1 ho hb hg hat;have hown1:=ae.mk ho;have hbel1:=ae.mk hb;clear ho hb hg hat))
     go_roundg (s.size+1 - (i+2))
     case measure=>have:=hk.out;omega
     case rel=>exact ⟨xs ++ [12],i+2,by first | rfl | (congr 1;omega),⟨⟨⟨rest,hun.out,by have:=hxs.out;simpa [kw] using this⟩,by omega,rfl,hown1.out,hbel1.out⟩⟩⟩
    ·go_wp2_with (first | ((with_reducible refine dH (b:=.append) (xs:=#[.tmp 69,.tmp 70]) rfl ?_);at_builtin;refine fA (w0:=w) w.heap.size rfl (.tmp 69) (.tmp 70) 99 5 .u8 1 rfl Tryz.underlying99 Q.info5 (by decide) u3 xs 10 rfl rfl ?aO ?aB ?aS ?aL ?_;(case aO=>exact hown.out);(case aB=>exact hbel.out);(case aS=>exact hbel.out.size);(case aL=>have:=hlen.out;omega);intro v1 w1 ho hb hg hat;have hown1:=ae.mk ho;have hbel1:=ae.mk hb;clear ho hb hg hat))
     go_roundg (s.size+1 - (i+2))
     case measure=>have:=hk.out;omega
     case rel=>exact ⟨xs ++ [10],i+2,by first | rfl | (congr 1;omega),⟨⟨⟨rest,hun.out,by have:=hxs.out;simpa [kw] using this⟩,by omega,rfl,hown1.out,hbel1.out⟩⟩⟩
    ·go_wp2_with (first | ((with_reducible refine dH (b:=.append) (xs:=#[.tmp 74,.tmp 75]) rfl ?_);at_builtin;refine fA (w0:=w) w.heap.size rfl (.tmp 74) (.tmp 75) 99 5 .u8 1 rfl Tryz.underlying99 Q.info5 (by decide) u3 xs 13 rfl rfl ?aO ?aB ?aS ?aL ?_;(case aO=>exact hown.out);(case aB=>exact hbel.out);(case aS=>exact hbel.out.size);(case aL=>have:=hlen.out;omega);intro v1 w1 ho hb hg hat;have hown1:=ae.mk ho;have hbel1:=ae.mk hb;clear ho hb hg hat))
     go_roundg (s.size+1 - (i+2))
     case measure=>have:=hk.out;omega
     case rel=>exact ⟨xs ++ [13],i+2,by first | rfl | (congr 1;omega),⟨⟨⟨rest,hun.out,by have:=hxs.out;simpa [kw] using this⟩,by omega,rfl,hown1.out,hbel1.out⟩⟩⟩
    ·go_wp2_with (first | ((with_reducible refine dH (b:=.append) (xs:=#[.tmp 79,.tmp 80]) rfl ?_);at_builtin;refine fA (w0:=w) w.heap.size rfl (.tmp 79) (.tmp 80) 99 5 .u8 1 rfl Tryz.underlying99 Q.info5 (by decide) u3 xs 9 rfl rfl ?aO ?aB ?aS ?aL ?_;(case aO=>exact hown.out);(case aB=>exact hbel.out);(case aS=>exact hbel.out.size);(case aL=>have:=hlen.out;omega);intro v1 w1 ho hb hg hat;have hown1:=ae.mk ho;have hbel1:=ae.mk hb;clear ho hb hg hat))
     go_roundg (s.size+1 - (i+2))
     case measure=>have:=hk.out;omega
     case rel=>exact ⟨xs ++ [9],i+2,by first | rfl | (congr 1;omega),⟨⟨⟨rest,hun.out,by have:=hxs.out;simpa [kw] using this⟩,by omega,rfl,hown1.out,hbel1.out⟩⟩⟩
    ·go_wp2_with (first | ((with_reducible refine dH (b:=.append) (xs:=#[.tmp 84,.tmp 85]) rfl ?_);at_builtin;refine fA (w0:=w) w.heap.size rfl (.tmp 84) (.tmp 85) 99 5 .u8 1 rfl Tryz.underlying99 Q.info5 (by decide) u3 xs 34 rfl rfl ?aO ?aB ?aS ?aL ?_;(case aO=>exact hown.out);(case aB=>exact hbel.out);(case aS=>exact hbel.out.size);(case aL=>have:=hlen.out;omega);intro v1 w1 ho hb hg hat;have hown1:=ae.mk ho;have hbel1:=ae.mk hb;clear ho hb hg hat))
     go_roundg (s.size+1 - (i+2))
     case measure=>have:=hk.out;omega
     case rel=>exact ⟨xs ++ [34],i+2,by first | rfl | (congr 1;omega),⟨⟨⟨rest,hun.out,by have:=hxs.out;simpa [kw] using this⟩,by omega,rfl,hown1.out,hbel1.out⟩⟩⟩
  | uni _ rest h0 h1 h2 h3 h4 hun =>
    have hb:=qx s i
    have hb1:=ou s i 1
    simp only [Int.natCast_one] at hb1
    rw [h1] at hb
    rw [h2] at hb1
    have p0:(0≤(i:Int))=True:=eq_true (by omega)
    have p1:((i:Int) < (s.size:Int))=True:=eq_true (by omega)
    have p2:((i:Int)+1 < (s.size:Int))=True:=eq_true (by omega)
    have hbd:=kF h3
    have hrun:=fun W=>oV s (i+2) (by omega) (by rw [show ((i+2:Nat):Int)=(i:Int)+2 by omega];exact h3) W
    rw [show ((i+2:Nat):Int)=(i:Int)+2 by omega] at hrun
    obtain ⟨r,hr⟩:∃ r,dN s ((i:Int)+2)=r:=⟨_,rfl⟩
    rw [hr] at hrun hbd h4
    have hsur:=fun W=>su r W false (decide_eq_false (by omega))
    have hsl:∀ wx:World,(Instr.slice 9 (.string s) (some (.int .i64 ((i:Int)+2))) none none).run Tryz.prog wx = .ok (.string (s.extract (i+2) s.size)) wx:=fun wx=>by
     have h:=run_slice_string_l (P:=Tryz.prog) wx 9 s Tryz.underlying9 .i64 ((i:Int)+2) (by omega) (by omega)
     rwa [show ((i:Int)+2).toNat=i+2 by omega] at h
    replace hun:=ae.mk hun
    replace h1:=ae.mk h1
    replace h2:=ae.mk h2
    replace h3:=ae.mk h3
    replace h4:=ae.mk h4
    replace hr:=ae.mk hr
    replace hbd:=ae.mk hbd
    have hxl:(xs.length:Int)≤2000000:=by have:=hlen.out;omega
    have hxl2:xs.length≤2000000:=by have:=hlen.out;omega
    have hz4:((iD r).length:Int)≤4:=by have:=gu r;omega
    go_wp2_with (first | (go_at_call 80;(with_reducible refine (hrun _).mono ?_);rintro e w4 ⟨rfl,hB4⟩) | (go_at_call 81;(with_reducible refine (hsur _).mono ?_);rintro e w5 ⟨rfl,rfl⟩) | ((with_reducible refine dH (b:=.append) (xs:=#[.tmp 132,.tmp 133]) rfl ?_);at_builtin;refine lm (w0:=w) w.heap.size rfl (.tmp 132) (.tmp 133) 99 5 .u8 1 rfl Tryz.underlying99 Q.info5 (by decide) u3 xs (List.replicate 8 0) _ 8 8 rfl rfl ?aO ?aR ?aB ?aS ?aL ?_;(case aO=>exact iq hown.out (hB4.alloc hB4.size _));(case aR=>exact rQ _ 5 .u8 (List.replicate 8 0) (by decide));(case aB=>exact dR hbel.out hbel.out.size (hB4.alloc hB4.size _));(case aS=>exact (dR hbel.out hbel.out.size (hB4.alloc hB4.size _)).size);(case aL=>have:=hlen.out;omega);intro v2 w6 ho hb6 hg6 hat6;rw [show (xs ++ List.replicate 8 (0:Int)).length=xs.length+8 by simp] at ho;obtain ⟨g,cap,rfl,hbg,hncap⟩:=sJ ho (by omega);have hcut:=sD g (xs.length+8) cap xs.length (by omega) hncap (by omega);have hcut2:=vg g (xs.length+8) cap (xs.length+(iD r).length) (by have:=gu r;omega);simp only [Nat.add_sub_cancel_left] at hcut;have henc:=qX w.heap.size g cap xs.length xs rfl r (by have:=hbd.out;omega) (by have:=hbd.out;omega) (by have:=h4.out;omega) w6 ho (cap - xs.length);have hbel6:=ae.mk hb6;have ho6:=ae.mk ho;clear ho hb6 hg6 hat6) | (go_at_call 83;(with_reducible refine henc.mono ?_);rintro e w7 ⟨rfl,ho7,hg7⟩;have hown7:=ae.mk ho7;have hgr7:=ae.mk hg7;clear ho7 hg7))
    go_roundg (s.size+1 - (i+6))
    case measure=>have:=hk.out;omega
    case rel=>exact ⟨xs ++ iD r,i+6,by first | rfl | (congr 1;omega),⟨⟨⟨rest,hun.out,by have:=hxs.out;rw [hr.out] at this;rw [List.append_assoc];exact this⟩,by omega,rfl,by rw [List.length_append];exact hown7.out,lZ hbel6.out (some g) hbel6.out.size hgr7.out (fun k hk=>by injection hk with hk;omega)⟩⟩⟩
  | pair _ rest h0 h1 h2 h3 h4 h5 h6 h7 h8 h9 h10 hun =>
    have hb:=qx s i
    have hb1:=ou s i 1
    simp only [Int.natCast_one] at hb1
    rw [h1] at hb
    rw [h2] at hb1
    have p0:(0≤(i:Int))=True:=eq_true (by omega)
    have p1:((i:Int) < (s.size:Int))=True:=eq_true (by omega)
    have p2:((i:Int)+1 < (s.size:Int))=True:=eq_true (by omega)
    have hbd:=kF h3
    have hrun:=fun W=>oV s (i+2) (by omega) (by rw [show ((i+2:Nat):Int)=(i:Int)+2 by omega];exact h3) W
    rw [show ((i+2:Nat):Int)=(i:Int)+2 by omega] at hrun
    have hb6:=ou s i 6
    have hb7:=ou s i 7
    simp only [show ((6:Nat):Int)=6 from rfl] at hb6
    simp only [show ((7:Nat):Int)=7 from rfl] at hb7
    rw [h6] at hb6
    rw [h7] at hb7
    have p3:((i:Int)+6 < (s.size:Int))=True:=eq_true (by omega)
    have p4:((i:Int)+7 < (s.size:Int))=True:=eq_true (by omega)
    have hbd2:=kF h8
    have hrun2:=fun W=>oV s (i+8) (by omega) (by rw [show ((i+8:Nat):Int)=(i:Int)+8 by omega];exact h8) W
    rw [show ((i+8:Nat):Int)=(i:Int)+8 by omega] at hrun2
    obtain ⟨r1,hr1⟩:∃ r1,dN s ((i:Int)+2)=r1:=⟨_,rfl⟩
    obtain ⟨r2,hr2⟩:∃ r2,dN s ((i:Int)+8)=r2:=⟨_,rfl⟩
    rw [hr1] at hrun hbd h4 h5
    rw [hr2] at hrun2 hbd2 h9 h10
    obtain ⟨r,hr⟩:∃ r,65536+(r1 - 55296)*1024+(r2 - 56320)=r:=⟨_,rfl⟩
    have hrb:65536≤r∧r≤1114111:=by omega
    have hsur:=fun W=>su r1 W true (decide_eq_true (by omega))
    have hdec:=fun W=>uQ r1 r2 (by omega) (by omega) (by omega) (by omega) W
    rw [hr] at hdec
    have hz6:(s.extract (i+6) s.size).size=s.size - (i+6):=by rw [ByteArray.size_extract];omega
    have hsl6:∀ wx:World,(Instr.slice 9 (.string s) (some (.int .i64 ((i:Int)+1+5))) none none).run Tryz.prog wx = .ok (.string (s.extract (i+6) s.size)) wx:=fun wx=>by
     have h:=run_slice_string_l (P:=Tryz.prog) wx 9 s Tryz.underlying9 .i64 ((i:Int)+1+5) (by omega) (by omega)
     rwa [show ((i:Int)+1+5).toNat=i+6 by omega] at h
    have hsl8:∀ wx:World,(Instr.slice 9 (.string s) (some (.int .i64 ((i:Int)+1+5+2))) none none).run Tryz.prog wx = .ok (.string (s.extract (i+8) s.size)) wx:=fun wx=>by
     have h:=run_slice_string_l (P:=Tryz.prog) wx 9 s Tryz.underlying9 .i64 ((i:Int)+1+5+2) (by omega) (by omega)
     rwa [show ((i:Int)+1+5+2).toNat=i+8 by omega] at h
    have hge:decide ((6:Int)≤((s.size - (i+6):Nat):Int))=true:=decide_eq_true (by omega)
    have hsl:∀ wx:World,(Instr.slice 9 (.string s) (some (.int .i64 ((i:Int)+2))) none none).run Tryz.prog wx = .ok (.string (s.extract (i+2) s.size)) wx:=fun wx=>by
     have h:=run_slice_string_l (P:=Tryz.prog) wx 9 s Tryz.underlying9 .i64 ((i:Int)+2) (by omega) (by omega)
     rwa [show ((i:Int)+2).toNat=i+2 by omega] at h
    replace hun:=ae.mk hun
    replace h1:=ae.mk h1
    replace h2:=ae.mk h2
    replace h3:=ae.mk h3
    replace h4:=ae.mk h4
    replace h5:=ae.mk h5
    replace h6:=ae.mk h6
    replace h7:=ae.mk h7
    replace h8:=ae.mk h8
    replace h9:=ae.mk h9
    replace h10:=ae.mk h10
    replace hr:=ae.mk hr
    replace hr1:=ae.mk hr1
    replace hr2:=ae.mk hr2
    replace hbd2:=ae.mk hbd2
    replace hrb:=ae.mk hrb
    replace hbd:=ae.mk hbd
    have hxl:(xs.length:Int)≤2000000:=by have:=hlen.out;omega
    have hxl2:xs.length≤2000000:=by have:=hlen.out;omega
    have hz4:((iD r).length:Int)≤4:=by have:=gu r;omega
    go_wp2_with (first | (go_at_call 80;(with_reducible refine (hrun _).mono ?_);rintro e w4 ⟨rfl,hB4⟩) | (go_at_call 81;(with_reducible refine (hsur _).mono ?_);rintro e w5 ⟨rfl,rfl⟩) | (go_at_call 80;(with_reducible refine (hrun2 _).mono ?_);rintro e w8 ⟨rfl,hB8⟩) | (go_at_call 82;(with_reducible refine (hdec _).mono ?_);rintro e w9 ⟨rfl,hD9⟩;replace hB4:=dR (dR hB4 hB4.size hB8) (dR hB4 hB4.size hB8).size hD9.below) | ((with_reducible refine dH (b:=.append) (xs:=#[.tmp 132,.tmp 133]) rfl ?_);at_builtin;refine lm (w0:=w) w.heap.size rfl (.tmp 132) (.tmp 133) 99 5 .u8 1 rfl Tryz.underlying99 Q.info5 (by decide) u3 xs (List.replicate 8 0) _ 8 8 rfl rfl ?aO ?aR ?aB ?aS ?aL ?_;(case aO=>exact iq hown.out (hB4.alloc hB4.size _));(case aR=>exact rQ _ 5 .u8 (List.replicate 8 0) (by decide));(case aB=>exact dR hbel.out hbel.out.size (hB4.alloc hB4.size _));(case aS=>exact (dR hbel.out hbel.out.size (hB4.alloc hB4.size _)).size);(case aL=>have:=hlen.out;omega);intro v2 w6 ho hb6 hg6 hat6;rw [show (xs ++ List.replicate 8 (0:Int)).length=xs.length+8 by simp] at ho;obtain ⟨g,cap,rfl,hbg,hncap⟩:=sJ ho (by omega);have hcut:=sD g (xs.length+8) cap xs.length (by omega) hncap (by omega);have hcut2:=vg g (xs.length+8) cap (xs.length+(iD r).length) (by have:=gu r;omega);simp only [Nat.add_sub_cancel_left] at hcut;have henc:=qX w.heap.size g cap xs.length xs rfl r (by have:=hrb.out;omega) (by have:=hrb.out;omega) (by have:=hrb.out;omega) w6 ho (cap - xs.length);have hbel6:=ae.mk hb6;have ho6:=ae.mk ho;clear ho hb6 hg6 hat6) | (go_at_call 83;(with_reducible refine henc.mono ?_);rintro e w7 ⟨rfl,ho7,hg7⟩;have hown7:=ae.mk ho7;have hgr7:=ae.mk hg7;clear ho7 hg7))
    go_roundg (s.size+1 - (i+12))
    case measure=>have:=hk.out;omega
    case rel=>exact ⟨xs ++ iD r,i+12,by first | rfl | (congr 1;omega),⟨⟨⟨rest,hun.out,by have:=hxs.out;rw [hr1.out,hr2.out,hr.out] at this;rw [List.append_assoc];exact this⟩,by omega,rfl,by rw [List.length_append];exact hown7.out,lZ hbel6.out (some g) hbel6.out.size hgr7.out (fun k hk=>by injection hk with hk;omega)⟩⟩⟩
end Go.Proofs.YtpgfjbimodnkeaaGreatDoor.Dec
