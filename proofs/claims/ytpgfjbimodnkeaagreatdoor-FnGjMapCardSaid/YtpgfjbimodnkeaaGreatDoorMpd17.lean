/- FnGjMap: whatever text comes in, the law returns true and the text reads afterwards as before; with the thirteen package-level variables that its row lists as the program's own text lays them (the tied card) (part 17 of 19: lemmas for its last part) -/
import Derived.Test.YtpgfjbimodnkeaaGreatDoorMpd16
set_option maxHeartbeats 16000000
set_option maxRecDepth 100000
set_option linter.unusedVariables false
set_option linter.unusedSimpArgs false
namespace Go.Proofs.YtpgfjbimodnkeaaGreatDoor.Dec
open Go Go.RowKit Go.Proofs.YtpgfjbimodnkeaaGreatDoorW.PrintWords Go.Proofs.YtpgfjbimodnkeaaGreatDoorW.PrintLast Go.Proofs.YtpgfjbimodnkeaaGreatDoorW.PrintMore Go.Proofs.YtpgfjbimodnkeaaGreatDoor.Scan Go.Proofs.YtpgfjbimodnkeaaGreatDoor.Q
theorem xN (w:World) (B:Nat) (s:ByteArray) (hs:s.size≤65536) (h0:0 < s.size) (h123:bt s (0:Nat)=123) (ns:List S44) (ks:List S32) (hns:ns.length≤65536) (hlen:ns.length=ks.length) (hT:Tabs B w) (hq:lH s 1 (toks ns ks)) :
 Calls Tryz.prog 67 #[resV 5 s ⟨#[]⟩ 0 0,.int .u8 123,.bool false] w fun e w'=>∃ ps:List (Rs × Rs),e = .returned (.agg #[.slice none 0 0,.slice none 0 0,.map (some (w.heap.size+4)),.map none,.int .u8 123])∧fH s ns ps∧gX s ks ps∧w'.ownsMap Tryz.prog 9 RV (w.heap.size+4) ps.length (mapD ps)∧Below w.heap.size w w':=by
 have i0:((0:Int) < (s.size:Int))=True:=eq_true (by omega)
 have i1:(0 < s.size)=True:=eq_true h0
 have hx:((s[0]'h0).toNat:Int)=123:=(dI s 0 (by simpa using h0)).trans h123
 have hmm:=@run_makeMap Tryz.prog
 replace hq:=ae.mk hq
 replace hT:=ae.mk hT
 replace hlen:=ae.mk hlen
 clear h123
 show Calls Tryz.prog 67 #[.agg #[.int .i64 5,.string s,.string ⟨#[]⟩,.float .f64 (0:Nat),.int .i64 0,.slice none 0 0],.int .u8 123,.bool false] w _
 go_enter Tryz.func67,Tryz.ntmps67
 go_wp2_with (fail)
 refine lU (fun _ _ _=>False) (fun _ _ _=>0) ?_ (fun l a w h=>h.elim)
 go_wp2_with (fail)
 go_loopg [8] 1 (fun kq v8 W=>v8 = .int .i64 0∧W=(((w.alloc (.cells #[.int .i64 5,.string s,.string ⟨#[]⟩,.float .f64 (0:Nat),.int .i64 0,.slice none 0 0] 67)).alloc (.cells #[.slice none 0 0,.slice none 0 0,.map none,.map none,.int .u8 0] 107)).alloc (.cells #[.int .i64 0,.string ⟨#[]⟩,.string ⟨#[]⟩,.float .f64 (0:Nat),.int .i64 0,.slice none 0 0] 67)).alloc (.cells #[.int .i64 0,.string ⟨#[]⟩,.string ⟨#[]⟩,.float .f64 (0:Nat),.int .i64 0,.slice none 0 0] 67))
 case atStart=>exact ⟨rfl,rfl⟩
 case round =>
  obtain ⟨rfl,rfl⟩:=hrel
  go_wp2_with (fail)
  go_loopg [8,10] (s.size - 1) (fun kq v8 v10 W=>∃ (p j:Nat) (b:Bool) (ps:List (Rs × Rs)) (kr vr:Rs),v8 = .int .i64 (p:Int)∧v10 = .int .i64 ((2*j+b.toNat:Nat):Int)∧ae (ML w s ns ks kq p j b ps kr vr W))
  case atStart =>
   refine ⟨1,0,false,[],rs0,rs0,rfl,rfl,⟨hq.out,rfl,rfl,trivial,trivial,(fun h=>absurd h (by decide)),zY w s⟩⟩
  case round =>
   clear hq hx i0 i1
   obtain ⟨p,j,b,ps,kr,vr,rfl,rfl,hM⟩:=hrel
   have hps:=hM.out.rest.lt
   have j0:((0:Int)≤(p:Int))=True:=eq_true (by omega)
   have j1:((p:Int) < (s.size:Int))=True:=eq_true (by omega)
   have j2:(p < s.size)=True:=eq_true hps
   have j3:decide ((p:Int) < (s.size:Int))=true:=decide_eq_true (by omega)
   have t0:((s[p]'hps).toNat:Int)=bt s p:=by simpa using dI s p (by simpa using hps)
   have hkq:=ae.mk hM.out.kq
   obtain ⟨l,hl⟩:∃ l,vT b (ns.drop j) (ks.drop j)=l:=⟨_,rfl⟩
   have hr:=hM.out.rest
   rw [hl] at hr
   cases hr with
   | done _ g1 g2 =>
     rw [g2] at t0
     replace hl:=ae.mk hl
     clear g2
     obtain ⟨hn1,hn2⟩:=hM.out.full hlen.out hl.out
     have hp5:wr.cell? ⟨w.heap.size,5,none⟩=some (.slice none 0 0):=(ak hM.out.am.kt 5).trans rfl
     replace hn1:=ae.mk hn1
     replace hn2:=ae.mk hn2
     go_wp2_with (fail)
     refine wp_label ?_
     simp only [Exit.then]
     apply_assumption
     have hnn:∀ W,(binOp .neq 65 (.slice none 0 0) (.slice none 0 0)).run Tryz.prog W = .ok (.bool false) W:=fun W=>by kernel_rfl
     go_wp2_with (fail)
     simp only [iU]
     show bodyPost Tryz.prog Tryz.f67 _ Exit.ret _ wr
     exact bodyPost_ret (results_cell_row rfl _ _ (w.heap.size+1) 107 #[.slice none 0 0,.slice none 0 0,.map (some (w.heap.size+4)),.map none,.int .u8 123] (0,0) _ rfl hM.out.am.ko Tryz.underlying107 rfl (by kernel_rfl)) rfl ⟨ps,rfl,hn1.out,hn2.out,by rw [hM.out.len];exact hM.out.am.mp,hM.out.am.bel⟩
   | skip _ _ g1 g2 g3 =>
     have hM':ML w s ns ks (s.size - (p+1)) (p+1) j b ps kr vr wr:=⟨by rw [hl];exact g3,rfl,hM.out.len,hM.out.nok,hM.out.kok,hM.out.key,hM.out.am⟩
     replace hM':=ae.mk hM'
     replace hl:=ae.mk hl
     replace g3:=ae.mk g3
     have hg:bt s p≤32∨(¬ bt s p≤32∧(bt s p=44∨bt s p=58)):=by unfold Gap Scan.blank at g2;omega
     clear g2
     rcases hg with h | ⟨h1,h2⟩
     ·have e1:(bt s p≤32)=True:=eq_true h
      clear h
      go_wp2_with (fail)
      go_roundg (s.size - (p+1))
      case measure=>have:=hkq.out;omega
      case rel=>exact ⟨p+1,j,b,ps,kr,vr,by first | rfl | (congr 1;omega),rfl,hM'⟩
     ·have e1:(bt s p≤32)=False:=eq_false h1
      have e2:(bt s p == 93)=false:=beq_eq_false_iff_ne.mpr (by omega)
      have e3:(bt s p == 125)=false:=beq_eq_false_iff_ne.mpr (by omega)
      have n1:(bt s p == 123)=false:=beq_eq_false_iff_ne.mpr (by omega)
      have n2:(bt s p == 91)=false:=beq_eq_false_iff_ne.mpr (by omega)
      have n3:(bt s p == 110)=false:=beq_eq_false_iff_ne.mpr (by omega)
      have n4:(bt s p == 116)=false:=beq_eq_false_iff_ne.mpr (by omega)
      have n5:(bt s p == 102)=false:=beq_eq_false_iff_ne.mpr (by omega)
      have n6:(bt s p == 34)=false:=beq_eq_false_iff_ne.mpr (by omega)
      have n9:(bt s p == 45)=false:=beq_eq_false_iff_ne.mpr (by omega)
      have h3:(48≤bt s p∧bt s p≤57)=False:=eq_false (by omega)
      have h4:(48≤bt s p)=False∨(48≤bt s p)=True∧(bt s p≤57)=False:=by
       rcases h2 with h | h
       ·exact .inl (eq_false (by omega))
       ·exact .inr ⟨eq_true (by omega),eq_false (by omega)⟩
      clear h1 h2 h3
      rcases h4 with n7 | ⟨n7,n8⟩
      all_goals
       go_wp2_with (fail)
       go_roundg (s.size - (p+1))
       case measure=>have:=hkq.out;omega
       case rel=>exact ⟨p+1,j,b,ps,kr,vr,by first | rfl | (congr 1;omega),rfl,hM'⟩
   | tok _ m kd nsx ksx l' g1 g2 g3 g4 =>
     have hmb:=g1.bound
     have hA:=hM.out.am
     have sl1:((p:Int)≤(s.size:Int))=True:=eq_true (by omega)
     replace hl:=ae.mk hl
     replace g4:=ae.mk g4
     have hne:=g1.first
     obtain ⟨f1,f2,f3⟩:bt s p > 32∧bt s p≠93∧bt s p≠125:=by
      rcases l9 g1 with h | h | h | h | h | h | h <;> omega
     have e1:(bt s p≤32)=False:=eq_false (by omega)
     have e2:(bt s p == 93)=false:=beq_eq_false_iff_ne.mpr f2
     have e3:(bt s p == 125)=false:=beq_eq_false_iff_ne.mpr f3
     clear hne f1 f2 f3
     go_upto_block 6 with (fail)
     refine Ac hs hT g1 g2 g3 hps hA _ ?hc _ _ ?hK
     case hc=>kernel_rfl
     case hK =>
     intro y103 y104 y105 y106 y107 y108 y109 y110 y111 y112 y113 y114 y115 y116 y117 y118 y119 y120 y121 y122 y123 y124 y125 y126 y127 y128 y129 y130 y131 y132 y133 y134 y135 y136 y137 y138 y139 y140 y141 y142 y143 y144 y145 y146 y147 y148 y149 y150 y151 y152 y153 y154 y155 y156 y157 y158 y159 y160 y161 y162 y163 y164 y165 y166 y167 y168 y169 y170 y171 y172 y173 y174 y175 y176 y177 y178 y179 y180 y181 y182 y183 vr' wc hTk hA'
     replace hTk:=ae.mk hTk
     replace hA':=ae.mk hA'
     have hsz:vr'.raw.size=m - p:=by rw [hTk.out.raw,ByteArray.size_extract];omega
     have q1:wrap64 ((vr'.raw.size:Int) - 1)=((m - p - 1:Nat):Int):=by rw [hsz];unfold wrap64;omega
     have q2:wrap64 ((p:Int)+((m - p - 1:Nat):Int))=((m - 1:Nat):Int):=by unfold wrap64;omega
     have q3:wrap64 ((p:Int)+0)=(p:Int):=by unfold wrap64;omega
     have hMr:=hM
     clear hM e1 e2 e3 t0 hA hsz
     obtain ⟨a0,a1,a2,a3,a4,a5,af⟩:=hA'.out.ja
     have hp4:wc.cell? ⟨w.heap.size,4,none⟩=some (.int .i64 0):=(ak hA'.out.kt 4).trans rfl
     have ho4:wc.cell? ⟨w.heap.size+1,4,none⟩=some (.int .u8 123):=(ak hA'.out.ko 4).trans rfl
     go_upto_region 59 with (fail)
     clear q1 q2 q3 hp4 ho4 a0 a1 a2 a3 a4 a5 af
     have hA2:=hA'.out.jq { vr' with idx:=p } 4 _ rfl
     clear hA'
     generalize hwq:wc.setCell ⟨w.heap.size+1+1,4,none⟩ (.int .i64 p)=wq at hA2 ⊢
     clear hwq
     obtain ⟨vq,hvq⟩:∃ vq:Rs,{ vr' with idx:=p }=vq:=⟨_,rfl⟩
     rw [hvq] at hA2
     have hTq:Tk s p m kd vq:=by rw [← hvq];exact ⟨hTk.out.raw,hTk.out.kind,hTk.out.str⟩
     clear hvq hTk
     replace hTq:=ae.mk hTq
     obtain ⟨a0,a1,a2,a3,a4,a5,af⟩:=hA2.ja
     obtain ⟨k0,k1,k2,k3,k4,k5,kf⟩:=hA2.zu
     have o2:wq.cell? ⟨w.heap.size+1,2,none⟩=some (.map (some (w.heap.size+4))):=(ak hA2.ko 2).trans rfl
     replace hA2:=ae.mk hA2
     cases b with
     | false =>
       have hM9:=hMr.out.name hmb.2 g4.out hl.out hTq.out hA2.out.copy
       replace hM9:=ae.mk hM9
       have hj:=hMr.out.small hns
       go_wp2_with (fail)
       go_roundg (s.size - m)
       case measure=>have:=hkq.out;omega
       case rel=>exact ⟨m,j,true,ps,vq,vq,by congr 1;omega,(by congr 1),hM9⟩
     | true =>
       obtain ⟨n,hn1,hn2⟩:=hMr.out.key rfl
       obtain ⟨b1,q1,g5,g6,g7,g8,g9,g10⟩:=hn2.at_
       have hsz:=yQ g10
       have hkey:keyOf Tryz.prog 9 (.string kr.str)=some (.string kr.str.data.toList):=WideMaps.keyOf_string_mk Tryz.underlying9 (by unfold maxLen;omega)
       have hj:=hMr.out.small hns
       have hm:=hA2.out.mp
       clear g5 g6 g7 g8 g9 g10 hn1 hn2 hsz
       cases hh:Maps.has (mapD ps) (.string kr.str.data.toList) with
       | true =>
         replace hh:=ae.mk hh
         go_wp2_with (first | (at_lookup;refine pG _ rfl _ _ 74 rfl 9 67 nI Tryz.underlying74 (um _) (w.heap.size+4) j ps rfl hm _ kr.str.data.toList rfl hkey true hh.out ?_;intro rq))
         have hA3:=hA2.out.alloc (.cells #[.int .i64 rq.k,.string rq.raw,.string rq.str,.float .f64 rq.num,.int .i64 rq.idx,.slice none 0 0] 67)
         have hA4:AM w s (mapD (ps ++ [(kr,vq)])) (j+1) kr vq (wq.alloc (.cells #[.int .i64 rq.k,.string rq.raw,.string rq.str,.float .f64 rq.num,.int .i64 rq.idx,.slice none 0 0] 67)):=by
          rw [lu]
          unfold vK
          rw [if_pos (show Maps.has (mapD ps) (kl kr)=true from hh.out)]
          exact hA3.more
         have hM9:=ae.mk (hMr.out.value hmb.2 hmb.1 g4.out hl.out hTq.out hA4)
         clear hA3 hA4 hm
         go_roundg (s.size - m)
         case measure=>have:=hkq.out;omega
         case rel=>exact ⟨m,j+1,false,ps ++ [(kr,vq)],kr,vq,by congr 1;omega,(by congr 1 <;> (try simp) <;> (try omega)),hM9⟩
       | false =>
         replace hh:=ae.mk hh
         go_wp2_with (first | (at_lookup;refine pG _ rfl _ _ 74 rfl 9 67 nI Tryz.underlying74 (um _) (w.heap.size+4) j ps rfl hm _ kr.str.data.toList rfl hkey false hh.out ?_;intro rq;have hA3:=hA2.out.alloc (.cells #[.int .i64 rq.k,.string rq.raw,.string rq.str,.float .f64 rq.num,.int .i64 rq.idx,.slice none 0 0] 67);clear a0 a1 a2 a3 a4 a5 af k0 k1 k2 k3 k4 k5 kf o2;obtain ⟨a0,a1,a2,a3,a4,a5,af⟩:=hA3.ja;obtain ⟨k0,k1,k2,k3,k4,k5,kf⟩:=hA3.zu;have o2:=(ak hA3.ko 2).trans rfl;replace hA3:=ae.mk hA3) | (at_mapUpdate;refine wpList_mapUpdate_own _ rfl _ _ _ 74 rfl 9 67 nI Tryz.underlying74 RV (w.heap.size+4) j (mapD ps) rfl hA3.out.mp (by unfold maxLen;omega) _ _ _ rfl rfl hkey (.held (rsA vq)) [] rfl ?_;intro w8 hown8 hg8))
         have hA4:AM w s (mapD (ps ++ [(kr,vq)])) (j+1) kr vq w8:=by
          rw [lu]
          unfold vK
          rw [if_neg (show ¬ Maps.has (mapD ps) (kl kr)=true by rw [show Maps.has (mapD ps) (kl kr)=false from hh.out];decide)]
          exact hA3.out.put hg8 hown8
         have hM9:=ae.mk (hMr.out.value hmb.2 hmb.1 g4.out hl.out hTq.out hA4)
         clear hA3 hA4 hm hown8 hg8
         go_roundg (s.size - m)
         case measure=>have:=hkq.out;omega
         case rel=>exact ⟨m,j+1,false,ps ++ [(kr,vq)],kr,vq,by congr 1;omega,(by congr 1 <;> (try simp) <;> (try omega)),hM9⟩
end Go.Proofs.YtpgfjbimodnkeaaGreatDoor.Dec
