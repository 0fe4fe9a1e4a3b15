/- FnGjGroupText: whatever text comes in, the law returns true and the text reads afterwards as before; with the fourteen package-level variables that its row lists as the text of the program lays them (the tied card) (part 17 of 33: lemmas for its last part) -/
import Derived.LoopN
import Derived.Test.YtpgfjbimodnkeaaGreatDoorGrp9
import Derived.Test.YtpgfjbimodnkeaaGreatDoorGrp10
import Derived.Test.YtpgfjbimodnkeaaGreatDoorGrp11
import Derived.Test.YtpgfjbimodnkeaaGreatDoorGrp16
set_option maxHeartbeats 16000000
set_option maxRecDepth 100000
set_option linter.unusedVariables false
set_option linter.unusedSimpArgs false
namespace Go.Proofs.YtpgfjbimodnkeaaGreatDoor.Dec
open Go Go.RowKit Go.Proofs.YtpgfjbimodnkeaaGreatDoorW.PrintWords Go.Proofs.YtpgfjbimodnkeaaGreatDoorW.PrintLast Go.Proofs.YtpgfjbimodnkeaaGreatDoorW.PrintMore Go.Proofs.YtpgfjbimodnkeaaGreatDoor.Scan
abbrev resV (k:Int) (raw str:ByteArray) (num:Nat) (idx:Int):Value:=.agg #[.int .i64 k,.string raw,.string str,.float .f64 num,.int .i64 idx,.slice none 0 0]
theorem rE {P:Program} {fn:Func} {p u v:Tmp} {ty:TypeId} (h:fn.results=#[.tmp u,.cell p ty,.tmp v]) (tmps:Array Value) (w:World) (g:Nat) (t:TypeId) (cs:Array Value) (fr:Nat × Nat) (d:TypeDesc)
 (hp:tmps.getD p undef = .pointer (some ⟨g,0,none⟩)) (hg:w.heap[g]?=some (.cells cs t fr))
 (hu:P.underlying ty=some d) (hd:(match d with | .struct _ | .array _ _=>true | _=>false)=true) (hi:(P.info? ty).map (·.size)=some cs.size) :
 (results fn tmps).run P w = .ok (.tuple #[tmps.getD u undef,.agg cs,tmps.getD v undef]) w:=by
 have hp':tmps[p]?.getD undef = .pointer (some ⟨g,0,none⟩):=by simpa using hp
 simp [results,h,hp',asAddr,run_loadVar_row w g t ty cs fr d hg hu hd hi]
theorem lK (w:World) (B:Nat) (s:ByteArray) (hs:s.size≤65536) (i e:Nat) (hi:i < s.size) (hb:bt s i=123∨bt s i=91) (hsq:Sq s (i+1) 1 e) (hT:Tabs B w) :
 Calls Tryz.prog 62 #[.string s,.int .i64 i,.bool true] w fun r w'=>r = .returned (.tuple #[.int .i64 e,resV 5 (s.extract i e) ⟨#[]⟩ 0 i,.bool true])∧Below w.heap.size w w':=by
 have hbd:=hsq.bound
 have hsqc:=fun W (hW:Tabs B W)=>wZ W B s hs i e hi hsq hW
 have hx:=jc s i
 have p0:(0≤(i:Int))=True:=eq_true (by omega)
 have p1:((i:Int) < (s.size:Int))=True:=eq_true (by omega)
 have hie:i≤e:=by omega
 have hes:e≤s.size:=by omega
 have hsz:(s.extract i e).size=e - i:=by rw [ByteArray.size_extract];omega
 have hmin:min (e:Int) (s.size:Int)=e:=Int.min_eq_left (by omega)
 replace hbd:=ae.mk hbd
 replace hsq:=ae.mk hsq
 replace hT:=ae.mk hT
 have hTB:∀ W,Below w.heap.size w W→Tabs B W:=fun W h=>hT.out.below (eX h hT.out.size)
 rcases hb with hb | hb
 ·rw [hb] at hx
  go_enter Tryz.func62,Tryz.ntmps62
  go_wp2
  refine wp_loop_rounds 1 ?_
  rw [rounds_succ]
  go_wp2_with (first | (go_at_call 84;(with_reducible refine (hsqc _ (hTB _ (by repeat (with_reducible first | exact Below.refl _ _ | apply ai | apply dm | apply ag | (refine Below.setCell ?_ (by first | exact Nat.le_refl _ | exact Nat.le_succ _) _))))).mono ?_);rintro r w4 ⟨rfl,⟨n4,rfl⟩⟩))
  go_region
  all_goals (try go_wp2)
  all_goals (try simp only [Exit.inBlock,Exit.then])
  refine bodyPost_ret (v:=.tuple #[.int .i64 e,resV 5 (s.extract i e) ⟨#[]⟩ 0 i,.bool true]) ?_ rfl ?_
  ·simp [results,go_sem]
   all_goals omega
  ·exact ⟨rfl,(by repeat (with_reducible first | exact Below.refl _ _ | apply ai | apply dm | apply ag | (refine Below.setCell ?_ (by first | exact Nat.le_refl _ | exact Nat.le_succ _) _)))⟩
 ·rw [hb] at hx
  go_enter Tryz.func62,Tryz.ntmps62
  go_wp2
  refine wp_loop_rounds 1 ?_
  rw [rounds_succ]
  go_wp2_with (first | (go_at_call 84;(with_reducible refine (hsqc _ (hTB _ (by repeat (with_reducible first | exact Below.refl _ _ | apply ai | apply dm | apply ag | (refine Below.setCell ?_ (by first | exact Nat.le_refl _ | exact Nat.le_succ _) _))))).mono ?_);rintro r w4 ⟨rfl,⟨n4,rfl⟩⟩))
  go_region
  all_goals (try go_wp2)
  all_goals (try simp only [Exit.inBlock,Exit.then])
  refine bodyPost_ret (v:=.tuple #[.int .i64 e,resV 5 (s.extract i e) ⟨#[]⟩ 0 i,.bool true]) ?_ rfl ?_
  ·simp [results,go_sem]
   all_goals omega
  ·exact ⟨rfl,(by repeat (with_reducible first | exact Below.refl _ _ | apply ai | apply dm | apply ag | (refine Below.setCell ?_ (by first | exact Nat.le_refl _ | exact Nat.le_succ _) _)))⟩
theorem yY (w:World) (s:ByteArray) (hs:s.size≤65536) (i q:Nat) (hi:i < s.size) (hb:bt s i=34) (hq:gm s (i+1) q) (v:ByteArray) (hv:Says s (i+1) q v) :
 Calls Tryz.prog 62 #[.string s,.int .i64 i,.bool true] w fun r w'=>r = .returned (.tuple #[.int .i64 ((q+1:Nat):Int),resV 3 (s.extract i (q+1)) v 0 0,.bool true])∧Below w.heap.size w w':=by
 have hQ:=hq.str.quo (show 1≤i+1 by omega) (by simpa using hb)
 have hqb:=hq.bound
 obtain ⟨ve,hps,hve⟩:=qy (lb hs) hQ
 obtain ⟨k,hk⟩:=hps.at
 have hpsc:=fun W=>Q.aU.calls k s ((i+1:Nat):Int) _ _ _ _ W hk
 rw [Nat.add_sub_cancel,show ((i+1:Nat):Int)=(i:Int)+1 by omega] at hpsc
 obtain ⟨x,hx0⟩:∃ x,s.extract i (q+1)=x:=⟨_,rfl⟩
 obtain ⟨m,hm⟩:∃ m,q=i+1+m:=⟨q - (i+1),by omega⟩
 have hxz:x.size=m+2:=by rw [← hx0,ByteArray.size_extract];omega
 have hcut:x.extract 1 (m+1)=s.extract (i+1) q:=by rw [← hx0,pz s i (q+1) 1 (m+1) (by omega) (by omega),show i+(m+1)=q by omega]
 obtain ⟨y,hy⟩:∃ y,s.extract (i+1) q=y:=⟨_,rfl⟩
 have hsl:∀ wx:World,(Instr.slice 9 (.string x) (some (.int .i64 1)) (some (.int .i64 ((m:Int)+2 - 1))) none).run Tryz.prog wx = .ok (.string y) wx:=fun wx=>by
  rw [show (m:Int)+2 - 1=(m:Int)+1 by omega]
  have h:=run_slice_string (P:=Tryz.prog) wx 9 x .i64 .i64 1 ((m:Int)+1) Tryz.underlying9 (by omega) (by omega) (by omega)
  rwa [show (1:Int).toNat=1 from rfl,show ((m:Int)+1).toNat=m+1 by omega,hcut,hy] at h
 rw [hx0] at hpsc
 have hyz:y.size≤1000000:=by rw [← hy,ByteArray.size_extract];omega
 have hys:∃ l,Unq y 0 l∧v=strOfNums l:=by rw [← hy];exact hv.unq
 have hyp:ve=false→y=v:=fun h=>by
  rw [← hy]
  exact (hv.plain (by omega) (hve h)).symm
 obtain ⟨l,hl,hvl⟩:=hys
 have hun:=fun W=>nO W y l hyz hl
 rw [← hvl] at hun
 have hx:=jc s i
 have p0:(0≤(i:Int))=True:=eq_true (by omega)
 have p1:((i:Int) < (s.size:Int))=True:=eq_true (by omega)
 rw [hb] at hx
 have hmb:m≤65536:=by omega
 have hlen:(x.size:Int)=(m:Int)+2:=by omega
 have hun2:∀ W,Below w.heap.size w W→Calls Tryz.prog 61 #[.string y] W fun e w'=>e = .returned (.string v)∧Below W.heap.size W w'∧Below w.heap.size w w':=fun W h=>(hun W).mono (fun e w' hh=>⟨hh.1,hh.2,dX h h.size hh.2⟩)
 rw [hx0]
 clear hx0 hcut hy hve hps hk hqb hQ hq hv hl hvl hun hm hyz hxz
 replace hb:=ae.mk hb
 have hne:w.heap.size≠w.heap.size+1:=by omega
 have hn0:((w.alloc (.cells #[.int .i64 0,.string ⟨#[]⟩,.string ⟨#[]⟩,.float .f64 0,.int .i64 0,.slice none 0 0] 67 (0,0):Obj)).alloc (.cells #[.int .i64 0,.string ⟨#[]⟩,.string ⟨#[]⟩,.float .f64 0,.int .i64 0,.slice none 0 0] 67 (0,0):Obj)).heap[w.heap.size]?=some (.cells #[.int .i64 0,.string ⟨#[]⟩,.string ⟨#[]⟩,.float .f64 0,.int .i64 0,.slice none 0 0] 67 (0,0):Obj):=aN (dP w _) _
 have hn1:((w.alloc (.cells #[.int .i64 0,.string ⟨#[]⟩,.string ⟨#[]⟩,.float .f64 0,.int .i64 0,.slice none 0 0] 67 (0,0):Obj)).alloc (.cells #[.int .i64 0,.string ⟨#[]⟩,.string ⟨#[]⟩,.float .f64 0,.int .i64 0,.slice none 0 0] 67 (0,0):Obj)).heap[w.heap.size+1]?=some (.cells #[.int .i64 0,.string ⟨#[]⟩,.string ⟨#[]⟩,.float .f64 0,.int .i64 0,.slice none 0 0] 67 (0,0):Obj):=by
  have:=dP (w.alloc (.cells #[.int .i64 0,.string ⟨#[]⟩,.string ⟨#[]⟩,.float .f64 0,.int .i64 0,.slice none 0 0] 67 (0,0):Obj)) (.cells #[.int .i64 0,.string ⟨#[]⟩,.string ⟨#[]⟩,.float .f64 0,.int .i64 0,.slice none 0 0] 67 (0,0):Obj)
  simpa using this
 replace hn0:=ae.mk hn0
 replace hn1:=ae.mk hn1
 cases ve with
 | false =>
   have hyv:=hyp rfl
   subst hyv
   clear hyp
   go_enter Tryz.func62,Tryz.ntmps62
   go_wp2
   refine wp_loop_rounds 1 ?_
   rw [rounds_succ]
   go_wp2_with (first | (go_at_call 60;(with_reducible refine (hpsc _).mono ?_);rintro r w4 ⟨rfl,⟨n4,rfl⟩⟩))
   go_region
   all_goals (try go_wp2)
   all_goals (try simp only [Exit.inBlock,Exit.then])
   refine bodyPost_ret (v:=.tuple #[.int .i64 ((q+1:Nat):Int),resV 3 x y 0 0,.bool true]) ?_ rfl ?_
   ·simp [results,go_sem]
    try omega
   ·exact ⟨rfl,(by repeat (with_reducible first | exact Below.refl _ _ | apply ai | apply dm | apply ag | (refine Below.setCell ?_ (by first | exact Nat.le_refl _ | exact Nat.le_succ _) _)))⟩
 | true =>
   clear hyp
   go_enter Tryz.func62,Tryz.ntmps62
   go_wp2
   refine wp_loop_rounds 1 ?_
   rw [rounds_succ]
   go_wp2_with (first | (go_at_call 60;(with_reducible refine (hpsc _).mono ?_);rintro r w4 ⟨rfl,⟨n4,rfl⟩⟩) | (go_at_call 61;(with_reducible refine (hun2 _ (by repeat (with_reducible first | exact Below.refl _ _ | apply ai | apply dm | apply ag | (refine Below.setCell ?_ (by first | exact Nat.le_refl _ | exact Nat.le_succ _) _)))).mono ?_);rintro r w5 ⟨rfl,hB5,hBz⟩;have k1:=bU (g:=w.heap.size+1) (o:=.cells #[.int .i64 3,.string x,.string ⟨#[]⟩,.float .f64 0,.int .i64 0,.slice none 0 0] 67 (0,0)) ((dW (dW (aZ hn1.out n4) 0 _) 1 _).trans rfl) hB5;have k0:=bU (g:=w.heap.size) (o:=(.cells #[.int .i64 0,.string ⟨#[]⟩,.string ⟨#[]⟩,.float .f64 0,.int .i64 0,.slice none 0 0] 67 (0,0):Obj)) (by repeat (with_reducible first | exact hn0.out | exact hn1.out | apply aZ | (refine cu ?_ _ _ rfl) | (refine bW ?_ hne _) | (refine bW ?_ hne.symm _))) hB5;have c10:=(ah k1 0).trans rfl;have c00:=(ah k0 0).trans rfl;have f10:=ak k1 0;have f00:=ak k0 0;have c11:=(ah k1 1).trans rfl;have c01:=(ah k0 1).trans rfl;have f11:=ak k1 1;have f01:=ak k0 1;have c12:=(ah k1 2).trans rfl;have c02:=(ah k0 2).trans rfl;have f12:=ak k1 2;have f02:=ak k0 2;have c13:=(ah k1 3).trans rfl;have c03:=(ah k0 3).trans rfl;have f13:=ak k1 3;have f03:=ak k0 3;have c14:=(ah k1 4).trans rfl;have c04:=(ah k0 4).trans rfl;have f14:=ak k1 4;have f04:=ak k0 4;have c15:=(ah k1 5).trans rfl;have c05:=(ah k0 5).trans rfl;have f15:=ak k1 5;have f05:=ak k0 5;replace k1:=ae.mk k1;replace k0:=ae.mk k0;clear hB5))
   go_region
   all_goals (try go_wp2)
   all_goals (try simp only [Exit.inBlock,Exit.then])
   refine bodyPost_ret (v:=.tuple #[.int .i64 ((q+1:Nat):Int),resV 3 x v 0 0,.bool true]) ?_ rfl ?_
   ·refine rE (fn:=Tryz.f62) (p:=7) (u:=6) (v:=8) (ty:=67) rfl _ _ w.heap.size 67 #[.int .i64 3,.string x,.string v,.float .f64 0,.int .i64 0,.slice none 0 0] (0,0) _ ?_ ?_ Tryz.underlying67 rfl (by kernel_rfl)
    ·rfl
    ·first | exact ((bH (dW (dW (dW (dW (dW (dW (bW (p:=⟨w.heap.size+1,2,none⟩) k0.out hne (.string v)) 0 _) 1 _) 2 _) 3 _) 4 _) 5 _)).trans rfl) | exact ((aZ (dW (dW (dW (dW (dW (dW (bW (p:=⟨w.heap.size+1,2,none⟩) k0.out hne (.string v)) 0 _) 1 _) 2 _) 3 _) 4 _) 5 _) _).trans rfl)
   ·exact ⟨rfl,(by repeat (with_reducible first | exact hBz | exact Below.refl _ _ | apply ai | apply dm | apply ag | (refine Below.setCell ?_ (by first | exact Nat.le_refl _ | exact Nat.le_succ _) _)))⟩
theorem Dx (c:Int) (h:kU c):Go.bits .or .u8 c 32≠120:=by
 have hc:c=43∨c=45∨c=46∨c=48∨c=49∨c=50∨c=51∨c=52∨c=53∨c=54∨c=55∨c=56∨c=57∨c=69∨c=101:=by unfold kU at h;omega
 rcases hc with rfl | rfl | rfl | rfl | rfl | rfl | rfl | rfl | rfl | rfl | rfl | rfl | rfl | rfl | rfl <;> decide
theorem Ej {s:ByteArray} {i e:Nat} (h:gJ s kU i e) (he:e≤s.size):oq (s.extract i e):=by
 have hb:∀ j:Nat,j < (s.extract i e).size→kU (bt (s.extract i e) j):=fun j hj=>by
  rw [ByteArray.size_extract] at hj
  rw [ji s i e j (by omega) he]
  exact h.all _ (by omega) (by omega)
 refine ⟨fun j hj=>?_,fun j hj=>?_⟩
 ·have:=hb j hj
  generalize bt (s.extract i e) j=c at *
  refine ⟨by unfold kU at this;omega,?_⟩
  exact Dx c this
 ·have:=hb j hj
  unfold kU at this
  omega
theorem yJ (w:World) (B:Nat) (s:ByteArray) (hs:s.size≤65536) (i e:Nat) (hie:i < e) (hes:e≤s.size) (hsp:gJ s kU i e) (hb:bt s i=45∨(48≤bt s i∧bt s i≤57)) (hA:After s e) (hT:Tabs B w) :
 Calls Tryz.prog 62 #[.string s,.int .i64 i,.bool true] w fun r w'=>(∃ b,r = .returned (.tuple #[.int .i64 e,resV 2 (s.extract i e) ⟨#[]⟩ b 0,.bool true]))∧Below w.heap.size w w':=by
 obtain ⟨k,hk⟩:=(xe (lb hs) hie hsp hes hA).at
 have hnum:=fun W=>Q.dH.calls k s i _ _ W hk
 have hns:=Ej hsp hes
 have hxs:(s.extract i e).size≤1000000:=by rw [ByteArray.size_extract];omega
 have hpf:=fun W (hW:Tabs B W)=>zD W B (s.extract i e) hxs hns hW
 have hi:i < s.size:=by omega
 have hx:=jc s i
 have p0:(0≤(i:Int))=True:=eq_true (by omega)
 have p1:((i:Int) < (s.size:Int))=True:=eq_true (by omega)
 have hcv:bt s i=45∨bt s i=48∨bt s i=49∨bt s i=50∨bt s i=51∨bt s i=52∨bt s i=53∨bt s i=54∨bt s i=55∨bt s i=56∨bt s i=57:=by omega
 replace hsp:=ae.mk hsp
 replace hA:=ae.mk hA
 replace hns:=ae.mk hns
 replace hk:=ae.mk hk
 replace hxs:=ae.mk hxs
 replace hT:=ae.mk hT
 have hTB:∀ W,Below w.heap.size w W→Tabs B W:=fun W h=>hT.out.below (eX h hT.out.size)
 have hpf2:∀ W,Below w.heap.size w W→Calls Tryz.prog 87 #[.string (s.extract i e),.int .i64 64] W fun e w'=>Gq e∧Below W.heap.size W w'∧Below w.heap.size w w':=fun W h=>(hpf W (hTB W h)).mono (fun e w' hh=>⟨hh.1,hh.2,dX h h.size hh.2⟩)
 replace hpf:=ae.mk hpf
 have hne:w.heap.size≠w.heap.size+1:=by omega
 clear hb
 have hn0:((w.alloc (.cells #[.int .i64 0,.string ⟨#[]⟩,.string ⟨#[]⟩,.float .f64 0,.int .i64 0,.slice none 0 0] 67 (0,0):Obj)).alloc (.cells #[.int .i64 0,.string ⟨#[]⟩,.string ⟨#[]⟩,.float .f64 0,.int .i64 0,.slice none 0 0] 67 (0,0):Obj)).heap[w.heap.size]?=some (.cells #[.int .i64 0,.string ⟨#[]⟩,.string ⟨#[]⟩,.float .f64 0,.int .i64 0,.slice none 0 0] 67 (0,0):Obj):=aN (dP w _) _
 have hn1:((w.alloc (.cells #[.int .i64 0,.string ⟨#[]⟩,.string ⟨#[]⟩,.float .f64 0,.int .i64 0,.slice none 0 0] 67 (0,0):Obj)).alloc (.cells #[.int .i64 0,.string ⟨#[]⟩,.string ⟨#[]⟩,.float .f64 0,.int .i64 0,.slice none 0 0] 67 (0,0):Obj)).heap[w.heap.size+1]?=some (.cells #[.int .i64 0,.string ⟨#[]⟩,.string ⟨#[]⟩,.float .f64 0,.int .i64 0,.slice none 0 0] 67 (0,0):Obj):=by
  have:=dP (w.alloc (.cells #[.int .i64 0,.string ⟨#[]⟩,.string ⟨#[]⟩,.float .f64 0,.int .i64 0,.slice none 0 0] 67 (0,0):Obj)) (.cells #[.int .i64 0,.string ⟨#[]⟩,.string ⟨#[]⟩,.float .f64 0,.int .i64 0,.slice none 0 0] 67 (0,0):Obj)
  simpa using this
 replace hn0:=ae.mk hn0
 replace hn1:=ae.mk hn1
 rcases hcv with hcv | hcv | hcv | hcv | hcv | hcv | hcv | hcv | hcv | hcv | hcv
 all_goals
  rw [hcv] at hx
  replace hcv:=ae.mk hcv
  go_enter Tryz.func62,Tryz.ntmps62
  go_wp2
  refine wp_loop_rounds 1 ?_
  rw [rounds_succ]
  go_wp2_with (first | (go_at_call 86;(with_reducible refine (hnum _).mono ?_);rintro r w4 ⟨rfl,⟨n4,rfl⟩⟩) | (go_at_call 87;(with_reducible refine (hpf2 _ (by repeat (with_reducible first | exact Below.refl _ _ | apply ai | apply dm | apply ag | (refine Below.setCell ?_ (by first | exact Nat.le_refl _ | exact Nat.le_succ _) _)))).mono ?_);rintro r w5 ⟨⟨b,ev,rfl⟩,hB5,hBz⟩;have k1:=bU (g:=w.heap.size+1) (o:=.cells #[.int .i64 2,.string (s.extract i e),.string ⟨#[]⟩,   .float .f64 0,.int .i64 0,.slice none 0 0] 67 (0,0)) ((dW (dW (aZ hn1.out n4) 1 _) 0 _).trans rfl) hB5;have k0:=bU (g:=w.heap.size) (o:=(.cells #[.int .i64 0,.string ⟨#[]⟩,.string ⟨#[]⟩,.float .f64 0,.int .i64 0,.slice none 0 0] 67 (0,0):Obj)) (by repeat (with_reducible first | exact hn0.out | exact hn1.out | apply aZ | (refine cu ?_ _ _ rfl) | (refine bW ?_ hne _) | (refine bW ?_ hne.symm _))) hB5;have c10:=(ah k1 0).trans rfl;have c00:=(ah k0 0).trans rfl;have f10:=ak k1 0;have f00:=ak k0 0;have c11:=(ah k1 1).trans rfl;have c01:=(ah k0 1).trans rfl;have f11:=ak k1 1;have f01:=ak k0 1;have c12:=(ah k1 2).trans rfl;have c02:=(ah k0 2).trans rfl;have f12:=ak k1 2;have f02:=ak k0 2;have c13:=(ah k1 3).trans rfl;have c03:=(ah k0 3).trans rfl;have f13:=ak k1 3;have f03:=ak k0 3;have c14:=(ah k1 4).trans rfl;have c04:=(ah k0 4).trans rfl;have f14:=ak k1 4;have f04:=ak k0 4;have c15:=(ah k1 5).trans rfl;have c05:=(ah k0 5).trans rfl;have f15:=ak k1 5;have f05:=ak k0 5;replace k1:=ae.mk k1;replace k0:=ae.mk k0;clear hB5))
  go_region
  all_goals (try go_wp2)
  all_goals (try simp only [Exit.inBlock,Exit.then])
  refine bodyPost_ret (v:=.tuple #[.int .i64 e,resV 2 (s.extract i e) ⟨#[]⟩ b 0,.bool true]) ?_ rfl ?_
  ·refine rE (fn:=Tryz.f62) (p:=7) (u:=6) (v:=8) (ty:=67) rfl _ _ w.heap.size 67 #[.int .i64 2,.string (s.extract i e),.string ⟨#[]⟩,.float .f64 b,.int .i64 0,.slice none 0 0] (0,0) _ ?_ ?_ Tryz.underlying67 rfl (by kernel_rfl)
   ·rfl
   ·first | exact ((bH (dW (dW (dW (dW (dW (dW (bW (p:=⟨w.heap.size+1,3,none⟩) k0.out hne (.float .f64 b)) 0 _) 1 _) 2 _) 3 _) 4 _) 5 _)).trans rfl) | exact ((aZ (dW (dW (dW (dW (dW (dW (bW (p:=⟨w.heap.size+1,3,none⟩) k0.out hne (.float .f64 b)) 0 _) 1 _) 2 _) 3 _) 4 _) 5 _) _).trans rfl)
  ·exact ⟨⟨b,rfl⟩,(by repeat (with_reducible first | exact hBz | exact Below.refl _ _ | apply ai | apply dm | apply ag | (refine Below.setCell ?_ (by first | exact Nat.le_refl _ | exact Nat.le_succ _) _)))⟩
theorem Ez (w:World) (s:ByteArray) (hs:s.size≤65536) (i:Nat) (hw:Word s i nD) (hA:After s (i+4)) :
 Calls Tryz.prog 62 #[.string s,.int .i64 i,.bool true] w fun r w'=>r = .returned (.tuple #[.int .i64 ((i+4:Nat):Int),resV 0 (s.extract i (i+4)) ⟨#[]⟩ 0 0,.bool true])∧Below w.heap.size w w':=by
 obtain ⟨k,hk⟩:=(lY (lb hs) hw (by decide) nz hA).at
 have hlit:=fun W=>Q.di.calls k s i _ _ W hk
 have hle:=hw.le
 have h0:=hw.at 0 (by decide)
 have h1:=hw.at 1 (by decide)
 rw [show nD.size=4 from rfl] at hlit hle
 rw [show bt nD (0:Nat)=110 from rfl,Nat.add_zero] at h0
 rw [show bt nD (1:Nat)=117 from rfl] at h1
 have hi:i < s.size:=by omega
 have hx:=jc s i
 have p0:(0≤(i:Int))=True:=eq_true (by omega)
 have p1:((i:Int) < (s.size:Int))=True:=eq_true (by omega)
 have hx1:=lN s i 1
 rw [show ((i+1:Nat):Int)=(i:Int)+1 by omega] at h1
 simp only [Int.natCast_one] at hx1
 rw [h1] at hx1
 rw [h0] at hx
 have p2:((i:Int)+1 < (s.size:Int))=True:=eq_true (by omega)
 replace hw:=ae.mk hw
 replace hA:=ae.mk hA
 replace h0:=ae.mk h0
 replace h1:=ae.mk h1
 replace hk:=ae.mk hk
 ·go_enter Tryz.func62,Tryz.ntmps62
  go_wp2
  refine wp_loop_rounds 1 ?_
  rw [rounds_succ]
  go_wp2_with (first | (go_at_call 85;(with_reducible refine (hlit _).mono ?_);rintro r w4 ⟨rfl,⟨n4,rfl⟩⟩))
  go_region
  all_goals (try go_wp2)
  all_goals (try simp only [Exit.inBlock,Exit.then])
  refine bodyPost_ret (v:=.tuple #[.int .i64 ((i+4:Nat):Int),resV 0 (s.extract i (i+4)) ⟨#[]⟩ 0 0,.bool true]) ?_ rfl ?_
  ·simp [results,go_sem]
   try omega
  ·exact ⟨rfl,(by repeat (with_reducible first | exact Below.refl _ _ | apply ai | apply dm | apply ag | (refine Below.setCell ?_ (by first | exact Nat.le_refl _ | exact Nat.le_succ _) _)))⟩
theorem AZ (w:World) (s:ByteArray) (hs:s.size≤65536) (i:Nat) (hw:Word s i lC) (hA:After s (i+5)) :
 Calls Tryz.prog 62 #[.string s,.int .i64 i,.bool true] w fun r w'=>r = .returned (.tuple #[.int .i64 ((i+5:Nat):Int),resV 1 (s.extract i (i+5)) ⟨#[]⟩ 0 0,.bool true])∧Below w.heap.size w w':=by
 obtain ⟨k,hk⟩:=(lY (lb hs) hw (by decide) lG hA).at
 have hlit:=fun W=>Q.di.calls k s i _ _ W hk
 have hle:=hw.le
 have h0:=hw.at 0 (by decide)
 have h1:=hw.at 1 (by decide)
 rw [show lC.size=5 from rfl] at hlit hle
 rw [show bt lC (0:Nat)=102 from rfl,Nat.add_zero] at h0
 rw [show bt lC (1:Nat)=97 from rfl] at h1
 have hi:i < s.size:=by omega
 have hx:=jc s i
 have p0:(0≤(i:Int))=True:=eq_true (by omega)
 have p1:((i:Int) < (s.size:Int))=True:=eq_true (by omega)
 have hx1:=lN s i 1
 rw [show ((i+1:Nat):Int)=(i:Int)+1 by omega] at h1
 simp only [Int.natCast_one] at hx1
 rw [h1] at hx1
 rw [h0] at hx
 have p2:((i:Int)+1 < (s.size:Int))=True:=eq_true (by omega)
 replace hw:=ae.mk hw
 replace hA:=ae.mk hA
 replace h0:=ae.mk h0
 replace h1:=ae.mk h1
 replace hk:=ae.mk hk
 ·go_enter Tryz.func62,Tryz.ntmps62
  go_wp2
  refine wp_loop_rounds 1 ?_
  rw [rounds_succ]
  go_wp2_with (first | (go_at_call 85;(with_reducible refine (hlit _).mono ?_);rintro r w4 ⟨rfl,⟨n4,rfl⟩⟩))
  go_region
  all_goals (try go_wp2)
  all_goals (try simp only [Exit.inBlock,Exit.then])
  refine bodyPost_ret (v:=.tuple #[.int .i64 ((i+5:Nat):Int),resV 1 (s.extract i (i+5)) ⟨#[]⟩ 0 0,.bool true]) ?_ rfl ?_
  ·simp [results,go_sem]
   try omega
  ·exact ⟨rfl,(by repeat (with_reducible first | exact Below.refl _ _ | apply ai | apply dm | apply ag | (refine Below.setCell ?_ (by first | exact Nat.le_refl _ | exact Nat.le_succ _) _)))⟩
theorem DD (w:World) (s:ByteArray) (hs:s.size≤65536) (i:Nat) (hw:Word s i oV) (hA:After s (i+4)) :
 Calls Tryz.prog 62 #[.string s,.int .i64 i,.bool true] w fun r w'=>r = .returned (.tuple #[.int .i64 ((i+4:Nat):Int),resV 4 (s.extract i (i+4)) ⟨#[]⟩ 0 0,.bool true])∧Below w.heap.size w w':=by
 obtain ⟨k,hk⟩:=(lY (lb hs) hw (by decide) ny hA).at
 have hlit:=fun W=>Q.di.calls k s i _ _ W hk
 have hle:=hw.le
 have h0:=hw.at 0 (by decide)
 have h1:=hw.at 1 (by decide)
 rw [show oV.size=4 from rfl] at hlit hle
 rw [show bt oV (0:Nat)=116 from rfl,Nat.add_zero] at h0
 rw [show bt oV (1:Nat)=114 from rfl] at h1
 have hi:i < s.size:=by omega
 have hx:=jc s i
 have p0:(0≤(i:Int))=True:=eq_true (by omega)
 have p1:((i:Int) < (s.size:Int))=True:=eq_true (by omega)
 have hx1:=lN s i 1
 rw [show ((i+1:Nat):Int)=(i:Int)+1 by omega] at h1
 simp only [Int.natCast_one] at hx1
 rw [h1] at hx1
 rw [h0] at hx
 have p2:((i:Int)+1 < (s.size:Int))=True:=eq_true (by omega)
 replace hw:=ae.mk hw
 replace hA:=ae.mk hA
 replace h0:=ae.mk h0
 replace h1:=ae.mk h1
 replace hk:=ae.mk hk
 ·go_enter Tryz.func62,Tryz.ntmps62
  go_wp2
  refine wp_loop_rounds 1 ?_
  rw [rounds_succ]
  go_wp2_with (first | (go_at_call 85;(with_reducible refine (hlit _).mono ?_);rintro r w4 ⟨rfl,⟨n4,rfl⟩⟩))
  go_region
  all_goals (try go_wp2)
  all_goals (try simp only [Exit.inBlock,Exit.then])
  refine bodyPost_ret (v:=.tuple #[.int .i64 ((i+4:Nat):Int),resV 4 (s.extract i (i+4)) ⟨#[]⟩ 0 0,.bool true]) ?_ rfl ?_
  ·simp [results,go_sem]
   try omega
  ·exact ⟨rfl,(by repeat (with_reducible first | exact Below.refl _ _ | apply ai | apply dm | apply ag | (refine Below.setCell ?_ (by first | exact Nat.le_refl _ | exact Nat.le_succ _) _)))⟩
end Go.Proofs.YtpgfjbimodnkeaaGreatDoor.Dec
