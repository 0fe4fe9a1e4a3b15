/- FnGjGroupText: whatever text comes in, the law returns true and the text reads afterwards as before; with the fourteen package-level variables that its row lists as the text of the program lays them (the tied card) (part 10 of 33: lemmas for its last part) -/
import Derived.Test.YtpgfjbimodnkeaaGreatDoorGrp9
set_option maxHeartbeats 16000000
set_option maxRecDepth 100000
set_option linter.unusedVariables false
set_option linter.unusedSimpArgs false
namespace Go.Proofs.YtpgfjbimodnkeaaGreatDoor.Dec
open Go Go.RowKit Go.Proofs.YtpgfjbimodnkeaaGreatDoorW.PrintWords Go.Proofs.YtpgfjbimodnkeaaGreatDoorW.PrintLast Go.Proofs.YtpgfjbimodnkeaaGreatDoorW.PrintMore
theorem zI (s:ByteArray) (p j:Nat):bt (s.extract p s.size) j=bt s ((p:Int)+j):=by
 unfold bt
 simp only [Int.toNat_natCast,show ((p:Int)+(j:Int)).toNat=p+j by omega]
 by_cases h:p+j < s.size
 ·have h':j < (s.extract p s.size).size:=by rw [ByteArray.size_extract];omega
  rw [dif_pos h',dif_pos h,ByteArray.getElem_extract]
 ·have h':¬ j < (s.extract p s.size).size:=by rw [ByteArray.size_extract];omega
  rw [dif_neg h',dif_neg h]
theorem qH (s:ByteArray) (p:Nat) (hp:p+4≤s.size) (hh:qU s p) (w:World) :
 Calls Tryz.prog 80 #[.string (s.extract p s.size)] w fun e w'=>e = .returned (.int .i32 (dV s p))∧Below w.heap.size w w':=by
 obtain ⟨h0,h1,h2,h3⟩:=hh
 have h:=wK w (s.extract p s.size) (by rw [ByteArray.size_extract];omega) (fun j hj=>by
  rw [zI]
  have:j=0∨j=1∨j=2∨j=3:=by omega
  rcases this with rfl | rfl | rfl | rfl
  ·simpa using h0
  ·exact h1
  ·exact h2
  ·exact h3)
 have e:hexN (s.extract p s.size) 4=dV s p:=by
  simp only [hexN,dV,zI]
  simp
 rwa [e] at h
theorem uN (n:Int) (w:World) (b:Bool) (hb:decide (55296≤n∧n < 57344)=b):Calls Tryz.prog 81 #[.int .i32 n] w fun e w'=>e = .returned (.bool b)∧w'=w:=by
 by_cases h:55296≤n
 ·have h1:b=decide (n < 57344):=by rw [← hb];simp [h]
  go_enter Tryz.func81,Tryz.ntmps81
  go_wp2
  go_ret
  exact ⟨by rw [h1];rfl,rfl⟩
 ·have h1:b=false:=by rw [← hb];simp [h]
  subst h1
  clear hb
  have h2:decide (55296≤n)=false:=decide_eq_false h
  go_enter Tryz.func81,Tryz.ntmps81
  go_wp2
  go_ret
  exact ⟨rfl,rfl⟩
theorem xW (n m:Int) (hn:55296≤n) (hn1:n≤56319) (hm:56320≤m) (hm1:m≤57343) (w:World):Calls Tryz.prog 82 #[.int .i32 n,.int .i32 m] w fun e w'=>e = .returned (.int .i32 (65536+(n - 55296)*1024+(m - 56320)))∧aj w w':=by
 refine Q.jK.calls n m _ w ?_
 unfold Q.jK.f
 rw [if_pos hn,if_pos (by omega),if_pos hm,if_pos (by omega)]
 have hw:∀ x:Int,0≤x→x < 2147483648→wrap32 x=x:=fun x h0 h1=>by unfold wrap32;omega
 rw [hw (n - 55296) (by omega) (by omega),hw ((n - 55296)*1024) (by omega) (by omega),hw (m - 56320) (by omega) (by omega),
  bits_join .i32 31 (by decide) wraps_i32 10 ((n - 55296)*1024) (m - 56320) (by omega) (by omega) (by omega) (by omega) (by omega) (by omega),hw _ (by omega) (by omega)]
 congr 1
 omega
theorem uK (W:World) (e:TypeId) (k:IntKind) (xs:List Int) (hm:xs.length≤9223372036854775807):jd (W.alloc (.cells (nums k xs).toArray e)) k (some ⟨W.heap.size,0,none⟩) xs.length xs:=by
 obtain ⟨A,c,he,hr⟩:=vI (E8 W W.heap.size e k xs (Nat.le_refl _) hm)
 injection he with h1 h2 h3
 subst h1
 exact hr
theorem jc (s:ByteArray) (i:Nat):∀ h:i < s.size,((s[i]'h).toNat:Int)=bt s i:=fun h=>cZ s i h
theorem lN (s:ByteArray) (i k:Nat):∀ h:i+k < s.size,((s[i+k]'h).toNat:Int)=bt s ((i:Int)+k):=fun h=>by rw [jc];simp
theorem mH {w:World} {base n sz:Nat} {e:TypeId} {v:Value} {xs:List Value} (h:w.ownsRow base e sz v n xs) (h0:0 < n):∃ g cap,v = .slice (some ⟨g,0,none⟩) n cap∧base≤g∧n≤cap:=by
 rcases h.2 with ⟨_,hz⟩ | ⟨g,cap,cur,rfl,hbg,hhg,hnc,hcm,hcs,htk⟩
 ·omega
 ·exact ⟨g,cap,rfl,hbg,hnc⟩
theorem uZ (g n cap m:Nat) (hm:m≤n) (hnc:n≤cap) (hlt:m < cap) (W:World):(Instr.slice 99 (.slice (some ⟨g,0,none⟩) n cap) (some (.int .i64 (m:Int))) none none).run Tryz.prog W = .ok (.slice (some ⟨g,m,none⟩) (n - m) (cap - m)) W:=by
 have hu:Tryz.prog.underlying 99=some (.slice (Tryz.prog.elem 99)):=by kernel_rfl
 have hel:Tryz.prog.elem 99=5:=by kernel_rfl
 obtain ⟨i0,hi,hzz⟩:=Option.map_eq_some_iff.1 Q.info5
 simp only [Prod.mk.injEq] at hzz
 rw [run_slice_l W 99 (some ⟨g,0,none⟩) n cap hu .i64 (m:Int) (Int.natCast_nonneg _) (by omega),hel]
 simp [sizeOf,typeInfo,hi,hzz.2.1,sliced,Result.andThen,Addr.add]
 by_cases h:m=0
 ·subst h;simp
 ·simp [h];omega
theorem yC (g n cap m:Nat) (hm:m≤cap) (W:World):(Instr.slice 99 (.slice (some ⟨g,0,none⟩) n cap) none (some (.int .i64 (m:Int))) none).run Tryz.prog W = .ok (.slice (some ⟨g,0,none⟩) m cap) W:=by
 have hu:Tryz.prog.underlying 99=some (.slice (Tryz.prog.elem 99)):=by kernel_rfl
 have hel:Tryz.prog.elem 99=5:=by kernel_rfl
 obtain ⟨i0,hi,hzz⟩:=Option.map_eq_some_iff.1 Q.info5
 simp only [Prod.mk.injEq] at hzz
 rw [run_slice_h W 99 (some ⟨g,0,none⟩) n cap hu .i64 (m:Int) (Int.natCast_nonneg _) (by omega),hel]
 simp [sizeOf,typeInfo,hi,hzz.2.1,sliced,Result.andThen,Addr.add]
structure UnR (s:ByteArray) (l:List Int) (B:Nat) (w:World) (kq:Nat) (v3:Value) (xs:List Int) (i:Nat) (w':World):Prop where
 un:∃ rest,Unq s i rest∧xs ++ rest=l
 hi:i≤s.size
 hk:kq=s.size+1 - i
 own:w'.ownsRow B 5 1 v3 xs.length (nums .u8 xs)
 bel:Below B w w'
theorem nO (w:World) (s:ByteArray) (l:List Int) (hs:s.size≤1000000) (hu:Unq s 0 l) :
 Calls Tryz.prog 61 #[.string s] w fun e w'=>e = .returned (.string (strOfNums l))∧Below w.heap.size w w':=by
 have hu':=ae.mk hu
 clear hu
 have hS:=ae.mk hs
 have hL:ae (l.length≤1000000):=⟨by have:=hu'.out.size;omega⟩
 clear hs
 go_enter Tryz.func61,Tryz.ntmps61
 go_wp2_with (first | ((with_reducible refine iI (N:=9) rfl ?_);refine Kd.AQ (Kd.int .u8) (w0:=w) w.heap.size 5 rfl (N:=9) rfl 99 _ _ rfl s.size rfl rfl Tryz.underlying99 (.int .u8 0) 1 Q.info5 (by decide) (ok:=fun _=>True) trivial (by omega) (by have:=hS.out;omega) (Below.refl _ _) (Nat.le_refl _) ?_;intro v1 w1 ho hb hg hat;have hown0:=ae.mk (Kd.xg ho);have hbel0:=ae.mk hb;clear ho hb hg hat))
 go_loopg [3,4] (s.size+1) (fun kq v3 v4 w'=>∃ (xs:List Int) (i:Nat),v4 = .int .i64 i∧ae (UnR s l w.heap.size w kq v3 xs i w'))
 case atStart=>exact ⟨[],0,rfl,⟨⟨l,hu'.out,rfl⟩,by omega,rfl,hown0.out,hbel0.out⟩⟩
 case round =>
  clear hown0 hbel0 hu'
  obtain ⟨xs,i,rfl,hA⟩:=hrel
  obtain ⟨⟨rest,hun,hxs⟩,hi,hk,hown,hbel⟩:=hA.out
  clear hA
  have hsz:=hun.size
  have hlen:ae (xs.length+8≤2000000∧xs.length≤l.length):=⟨by have:=hL.out;have:=congrArg List.length hxs;rw [List.length_append] at this;omega⟩
  replace hown:=ae.mk hown
  replace hbel:=ae.mk hbel
  replace hxs:=ae.mk hxs
  replace hk:=ae.mk hk
  clear hsz
  have hs6:(s.size:Int)≤1000000:=by have:=hS.out;omega
  cases hun with
  | done _ he =>
    subst he
    have hcv:=pO (P:=Tryz.prog) Tryz.underlying99 Tryz.underlying5 Tryz.underlying9 hown.out
    go_wp2
    go_ret
    exact ⟨by rw [← hxs.out,List.append_nil];rfl,hbel.out⟩
  | plain _ rest h0 h1 h2 hun =>
    have hb:=jc s i
    have hr:=eG s i
    have p0:(0≤(i:Int))=True:=eq_true (by omega)
    have p1:((i:Int) < (s.size:Int))=True:=eq_true (by omega)
    have e92:(bt s i == 92)=false:=beq_eq_false_iff_ne.mpr h2
    have d32:decide (bt s i < 32)=false:=decide_eq_false (by omega)
    replace hun:=ae.mk hun
    generalize bt s i=c at *
    go_wp2_with (first | ((with_reducible refine cO (b:=.append) (xs:=#[.tmp 16,.tmp 20]) rfl ?_);at_builtin;refine dF (w0:=w) w.heap.size rfl (.tmp 16) (.tmp 20) 99 5 .u8 1 rfl Tryz.underlying99 Q.info5 (by decide) u3 xs c rfl rfl ?aO ?aB ?aS ?aL ?_;(case aO=>exact hown.out);(case aB=>exact hbel.out);(case aS=>exact hbel.out.size);(case aL=>have:=hlen.out;omega);intro v1 w1 ho hb hg hat;have hown1:=ae.mk ho;have hbel1:=ae.mk hb;clear ho hb hg hat))
    go_roundg (s.size+1 - (i+1))
    case measure=>have:=hk.out;omega
    case rel=>exact ⟨xs ++ [c],i+1,by first | rfl | (congr 1;omega),⟨⟨⟨rest,hun.out,by simpa using hxs.out⟩,by omega,rfl,hown1.out,hbel1.out⟩⟩⟩
  | short _ rest h0 h1 h2 hun =>
    have hb:=jc s i
    have hb1:=lN s i 1
    rw [h1] at hb
    have p0:(0≤(i:Int))=True:=eq_true (by omega)
    have p1:((i:Int) < (s.size:Int))=True:=eq_true (by omega)
    have p2:((i:Int)+1 < (s.size:Int))=True:=eq_true (by omega)
    replace hun:=ae.mk hun
    simp only [Int.natCast_one] at hb1
    unfold fU at h2
    generalize bt s ((i:Int)+1)=c at *
    replace h1:=ae.mk h1
    have h2':c=92∨c=47∨c=98∨c=102∨c=110∨c=114∨c=116∨c=34:=h2
    clear h2
    rcases h2' with rfl | rfl | rfl | rfl | rfl | rfl | rfl | rfl
    ·go_wp2_with (first | ((with_reducible refine cO (b:=.append) (xs:=#[.tmp 49,.tmp 50]) rfl ?_);at_builtin;refine dF (w0:=w) w.heap.size rfl (.tmp 49) (.tmp 50) 99 5 .u8 1 rfl Tryz.underlying99 Q.info5 (by decide) u3 xs 92 rfl rfl ?aO ?aB ?aS ?aL ?_;(case aO=>exact hown.out);(case aB=>exact hbel.out);(case aS=>exact hbel.out.size);(case aL=>have:=hlen.out;omega);intro v1 w1 ho hb hg hat;have hown1:=ae.mk ho;have hbel1:=ae.mk hb;clear ho hb hg hat))
     go_roundg (s.size+1 - (i+2))
     case measure=>have:=hk.out;omega
     case rel=>exact ⟨xs ++ [92],i+2,by first | rfl | (congr 1;omega),⟨⟨⟨rest,hun.out,by have:=hxs.out;simpa [kV] using this⟩,by omega,rfl,hown1.out,hbel1.out⟩⟩⟩
    ·go_wp2_with (first | ((with_reducible refine cO (b:=.append) (xs:=#[.tmp 54,.tmp 55]) rfl ?_);at_builtin;refine dF (w0:=w) w.heap.size rfl (.tmp 54) (.tmp 55) 99 5 .u8 1 rfl Tryz.underlying99 Q.info5 (by decide) u3 xs 47 rfl rfl ?aO ?aB ?aS ?aL ?_;(case aO=>exact hown.out);(case aB=>exact hbel.out);(case aS=>exact hbel.out.size);(case aL=>have:=hlen.out;omega);intro v1 w1 ho hb hg hat;have hown1:=ae.mk ho;have hbel1:=ae.mk hb;clear ho hb hg hat))
     go_roundg (s.size+1 - (i+2))
     case measure=>have:=hk.out;omega
     case rel=>exact ⟨xs ++ [47],i+2,by first | rfl | (congr 1;omega),⟨⟨⟨rest,hun.out,by have:=hxs.out;simpa [kV] using this⟩,by omega,rfl,hown1.out,hbel1.out⟩⟩⟩
    ·go_wp2_with (first | ((with_reducible refine cO (b:=.append) (xs:=#[.tmp 59,.tmp 60]) rfl ?_);at_builtin;refine dF (w0:=w) w.heap.size rfl (.tmp 59) (.tmp 60) 99 5 .u8 1 rfl Tryz.underlying99 Q.info5 (by decide) u3 xs 8 rfl rfl ?aO ?aB ?aS ?aL ?_;(case aO=>exact hown.out);(case aB=>exact hbel.out);(case aS=>exact hbel.out.size);(case aL=>have:=hlen.out;omega);intro v1 w1 ho hb hg hat;have hown1:=ae.mk ho;have hbel1:=ae.mk hb;clear ho hb hg hat))
     go_roundg (s.size+1 - (i+2))
     case measure=>have:=hk.out;omega
     case rel=>exact ⟨xs ++ [8],i+2,by first | rfl | (congr 1;omega),⟨⟨⟨rest,hun.out,by have:=hxs.out;simpa [kV] using this⟩,by omega,rfl,hown1.out,hbel1.out⟩⟩⟩
    ·go_wp2_with (first | ((with_reducible refine cO (b:=.append) (xs:=#[.tmp 64,.tmp 65]) rfl ?_);at_builtin;refine dF (w0:=w) w.heap.size rfl (.tmp 64) (.tmp 65) 99 5 .u8 1 rfl Tryz.underlying99 Q.info5 (by decide) u3 xs 12 rfl rfl ?aO ?aB ?aS ?aL ?_;(case aO=>exact hown.out);(case aB=>exact hbel.out);(case aS=>exact hbel.out.size);(case aL=>have:=hlen.out;omega);intro v1 w1 ho hb hg hat;have hown1:=ae.mk ho;have hbel1:=ae.mk hb;clear ho hb hg hat))
     go_roundg (s.size+1 - (i+2))
     case measure=>have:=hk.out;omega
     case rel=>exact ⟨xs ++ [12],i+2,by first | rfl | (congr 1;omega),⟨⟨⟨rest,hun.out,by have:=hxs.out;simpa [kV] using this⟩,by omega,rfl,hown1.out,hbel1.out⟩⟩⟩
    ·go_wp2_with (first | ((with_reducible refine cO (b:=.append) (xs:=#[.tmp 69,.tmp 70]) rfl ?_);at_builtin;refine dF (w0:=w) w.heap.size rfl (.tmp 69) (.tmp 70) 99 5 .u8 1 rfl Tryz.underlying99 Q.info5 (by decide) u3 xs 10 rfl rfl ?aO ?aB ?aS ?aL ?_;(case aO=>exact hown.out);(case aB=>exact hbel.out);(case aS=>exact hbel.out.size);(case aL=>have:=hlen.out;omega);intro v1 w1 ho hb hg hat;have hown1:=ae.mk ho;have hbel1:=ae.mk hb;clear ho hb hg hat))
     go_roundg (s.size+1 - (i+2))
     case measure=>have:=hk.out;omega
     case rel=>exact ⟨xs ++ [10],i+2,by first | rfl | (congr 1;omega),⟨⟨⟨rest,hun.out,by have:=hxs.out;simpa [kV] using this⟩,by omega,rfl,hown1.out,hbel1.out⟩⟩⟩
    ·go_wp2_with (first | ((with_reducible refine cO (b:=.append) (xs:=#[.tmp 74,.tmp 75]) rfl ?_);at_builtin;refine dF (w0:=w) w.heap.size rfl (.tmp 74) (.tmp 75) 99 5 .u8 1 rfl Tryz.underlying99 Q.info5 (by decide) u3 xs 13 rfl rfl ?aO ?aB ?aS ?aL ?_;(case aO=>exact hown.out);(case aB=>exact hbel.out);(case aS=>exact hbel.out.size);(case aL=>have:=hlen.out;omega);intro v1 w1 ho hb hg hat;have hown1:=ae.mk ho;have hbel1:=ae.mk hb;clear ho hb hg hat))
     go_roundg (s.size+1 - (i+2))
     case measure=>have:=hk.out;omega
     case rel=>exact ⟨xs ++ [13],i+2,by first | rfl | (congr 1;omega),⟨⟨⟨rest,hun.out,by have:=hxs.out;simpa [kV] using this⟩,by omega,rfl,hown1.out,hbel1.out⟩⟩⟩
    ·go_wp2_with (first | ((with_reducible refine cO (b:=.append) (xs:=#[.tmp 79,.tmp 80]) rfl ?_);at_builtin;refine dF (w0:=w) w.heap.size rfl (.tmp 79) (.tmp 80) 99 5 .u8 1 rfl Tryz.underlying99 Q.info5 (by decide) u3 xs 9 rfl rfl ?aO ?aB ?aS ?aL ?_;(case aO=>exact hown.out);(case aB=>exact hbel.out);(case aS=>exact hbel.out.size);(case aL=>have:=hlen.out;omega);intro v1 w1 ho hb hg hat;have hown1:=ae.mk ho;have hbel1:=ae.mk hb;clear ho hb hg hat))
     go_roundg (s.size+1 - (i+2))
     case measure=>have:=hk.out;omega
     case rel=>exact ⟨xs ++ [9],i+2,by first | rfl | (congr 1;omega),⟨⟨⟨rest,hun.out,by have:=hxs.out;simpa [kV] using this⟩,by omega,rfl,hown1.out,hbel1.out⟩⟩⟩
    ·go_wp2_with (first | ((with_reducible refine cO (b:=.append) (xs:=#[.tmp 84,.tmp 85]) rfl ?_);at_builtin;refine dF (w0:=w) w.heap.size rfl (.tmp 84) (.tmp 85) 99 5 .u8 1 rfl Tryz.underlying99 Q.info5 (by decide) u3 xs 34 rfl rfl ?aO ?aB ?aS ?aL ?_;(case aO=>exact hown.out);(case aB=>exact hbel.out);(case aS=>exact hbel.out.size);(case aL=>have:=hlen.out;omega);intro v1 w1 ho hb hg hat;have hown1:=ae.mk ho;have hbel1:=ae.mk hb;clear ho hb hg hat))
     go_roundg (s.size+1 - (i+2))
     case measure=>have:=hk.out;omega
     case rel=>exact ⟨xs ++ [34],i+2,by first | rfl | (congr 1;omega),⟨⟨⟨rest,hun.out,by have:=hxs.out;simpa [kV] using this⟩,by omega,rfl,hown1.out,hbel1.out⟩⟩⟩
  | uni _ rest h0 h1 h2 h3 h4 hun =>
    have hb:=jc s i
    have hb1:=lN s i 1
    simp only [Int.natCast_one] at hb1
    rw [h1] at hb
    rw [h2] at hb1
    have p0:(0≤(i:Int))=True:=eq_true (by omega)
    have p1:((i:Int) < (s.size:Int))=True:=eq_true (by omega)
    have p2:((i:Int)+1 < (s.size:Int))=True:=eq_true (by omega)
    have hbd:=lh h3
    have hrun:=fun W=>qH s (i+2) (by omega) (by rw [show ((i+2:Nat):Int)=(i:Int)+2 by omega];exact h3) W
    rw [show ((i+2:Nat):Int)=(i:Int)+2 by omega] at hrun
    obtain ⟨r,hr⟩:∃ r,dV s ((i:Int)+2)=r:=⟨_,rfl⟩
    rw [hr] at hrun hbd h4
    have hsur:=fun W=>uN r W false (decide_eq_false (by omega))
    have hsl:∀ wx:World,(Instr.slice 9 (.string s) (some (.int .i64 ((i:Int)+2))) none none).run Tryz.prog wx = .ok (.string (s.extract (i+2) s.size)) wx:=fun wx=>by
     have h:=run_slice_string_l (P:=Tryz.prog) wx 9 s Tryz.underlying9 .i64 ((i:Int)+2) (by omega) (by omega)
     rwa [show ((i:Int)+2).toNat=i+2 by omega] at h
    replace hun:=ae.mk hun
    replace h1:=ae.mk h1
    replace h2:=ae.mk h2
    replace h3:=ae.mk h3
    replace h4:=ae.mk h4
    replace hr:=ae.mk hr
    replace hbd:=ae.mk hbd
    have hxl:(xs.length:Int)≤2000000:=by have:=hlen.out;omega
    have hxl2:xs.length≤2000000:=by have:=hlen.out;omega
    have hz4:((iZ r).length:Int)≤4:=by have:=iw r;omega
    go_wp2_with (first | (go_at_call 80;(with_reducible refine (hrun _).mono ?_);rintro e w4 ⟨rfl,hB4⟩) | (go_at_call 81;(with_reducible refine (hsur _).mono ?_);rintro e w5 ⟨rfl,rfl⟩) | ((with_reducible refine cO (b:=.append) (xs:=#[.tmp 132,.tmp 133]) rfl ?_);at_builtin;refine jI (w0:=w) w.heap.size rfl (.tmp 132) (.tmp 133) 99 5 .u8 1 rfl Tryz.underlying99 Q.info5 (by decide) u3 xs (List.replicate 8 0) _ 8 8 rfl rfl ?aO ?aR ?aB ?aS ?aL ?_;(case aO=>exact ik hown.out (hB4.alloc hB4.size _));(case aR=>exact uK _ 5 .u8 (List.replicate 8 0) (by decide));(case aB=>exact dX hbel.out hbel.out.size (hB4.alloc hB4.size _));(case aS=>exact (dX hbel.out hbel.out.size (hB4.alloc hB4.size _)).size);(case aL=>have:=hlen.out;omega);intro v2 w6 ho hb6 hg6 hat6;rw [show (xs ++ List.replicate 8 (0:Int)).length=xs.length+8 by simp] at ho;obtain ⟨g,cap,rfl,hbg,hncap⟩:=mH ho (by omega);have hcut:=uZ g (xs.length+8) cap xs.length (by omega) hncap (by omega);have hcut2:=yC g (xs.length+8) cap (xs.length+(iZ r).length) (by have:=iw r;omega);simp only [Nat.add_sub_cancel_left] at hcut;have henc:=sK w.heap.size g cap xs.length xs rfl r (by have:=hbd.out;omega) (by have:=hbd.out;omega) (by have:=h4.out;omega) w6 ho (cap - xs.length);have hbel6:=ae.mk hb6;have ho6:=ae.mk ho;clear ho hb6 hg6 hat6) | (go_at_call 83;(with_reducible refine henc.mono ?_);rintro e w7 ⟨rfl,ho7,hg7⟩;have hown7:=ae.mk ho7;have hgr7:=ae.mk hg7;clear ho7 hg7))
    go_roundg (s.size+1 - (i+6))
    case measure=>have:=hk.out;omega
    case rel=>exact ⟨xs ++ iZ r,i+6,by first | rfl | (congr 1;omega),⟨⟨⟨rest,hun.out,by have:=hxs.out;rw [hr.out] at this;rw [List.append_assoc];exact this⟩,by omega,rfl,by rw [List.length_append];exact hown7.out,nK hbel6.out (some g) hbel6.out.size hgr7.out (fun k hk=>by injection hk with hk;omega)⟩⟩⟩
  | pair _ rest h0 h1 h2 h3 h4 h5 h6 h7 h8 h9 h10 hun =>
    have hb:=jc s i
    have hb1:=lN s i 1
    simp only [Int.natCast_one] at hb1
    rw [h1] at hb
    rw [h2] at hb1
    have p0:(0≤(i:Int))=True:=eq_true (by omega)
    have p1:((i:Int) < (s.size:Int))=True:=eq_true (by omega)
    have p2:((i:Int)+1 < (s.size:Int))=True:=eq_true (by omega)
    have hbd:=lh h3
    have hrun:=fun W=>qH s (i+2) (by omega) (by rw [show ((i+2:Nat):Int)=(i:Int)+2 by omega];exact h3) W
    rw [show ((i+2:Nat):Int)=(i:Int)+2 by omega] at hrun
    have hb6:=lN s i 6
    have hb7:=lN s i 7
    simp only [show ((6:Nat):Int)=6 from rfl] at hb6
    simp only [show ((7:Nat):Int)=7 from rfl] at hb7
    rw [h6] at hb6
    rw [h7] at hb7
    have p3:((i:Int)+6 < (s.size:Int))=True:=eq_true (by omega)
    have p4:((i:Int)+7 < (s.size:Int))=True:=eq_true (by omega)
    have hbd2:=lh h8
    have hrun2:=fun W=>qH s (i+8) (by omega) (by rw [show ((i+8:Nat):Int)=(i:Int)+8 by omega];exact h8) W
    rw [show ((i+8:Nat):Int)=(i:Int)+8 by omega] at hrun2
    obtain ⟨r1,hr1⟩:∃ r1,dV s ((i:Int)+2)=r1:=⟨_,rfl⟩
    obtain ⟨r2,hr2⟩:∃ r2,dV s ((i:Int)+8)=r2:=⟨_,rfl⟩
    rw [hr1] at hrun hbd h4 h5
    rw [hr2] at hrun2 hbd2 h9 h10
    obtain ⟨r,hr⟩:∃ r,65536+(r1 - 55296)*1024+(r2 - 56320)=r:=⟨_,rfl⟩
    have hrb:65536≤r∧r≤1114111:=by omega
    have hsur:=fun W=>uN r1 W true (decide_eq_true (by omega))
    have hdec:=fun W=>xW r1 r2 (by omega) (by omega) (by omega) (by omega) W
    rw [hr] at hdec
    have hz6:(s.extract (i+6) s.size).size=s.size - (i+6):=by rw [ByteArray.size_extract];omega
    have hsl6:∀ wx:World,(Instr.slice 9 (.string s) (some (.int .i64 ((i:Int)+1+5))) none none).run Tryz.prog wx = .ok (.string (s.extract (i+6) s.size)) wx:=fun wx=>by
     have h:=run_slice_string_l (P:=Tryz.prog) wx 9 s Tryz.underlying9 .i64 ((i:Int)+1+5) (by omega) (by omega)
     rwa [show ((i:Int)+1+5).toNat=i+6 by omega] at h
    have hsl8:∀ wx:World,(Instr.slice 9 (.string s) (some (.int .i64 ((i:Int)+1+5+2))) none none).run Tryz.prog wx = .ok (.string (s.extract (i+8) s.size)) wx:=fun wx=>by
     have h:=run_slice_string_l (P:=Tryz.prog) wx 9 s Tryz.underlying9 .i64 ((i:Int)+1+5+2) (by omega) (by omega)
     rwa [show ((i:Int)+1+5+2).toNat=i+8 by omega] at h
    have hge:decide ((6:Int)≤((s.size - (i+6):Nat):Int))=true:=decide_eq_true (by omega)
    have hsl:∀ wx:World,(Instr.slice 9 (.string s) (some (.int .i64 ((i:Int)+2))) none none).run Tryz.prog wx = .ok (.string (s.extract (i+2) s.size)) wx:=fun wx=>by
     have h:=run_slice_string_l (P:=Tryz.prog) wx 9 s Tryz.underlying9 .i64 ((i:Int)+2) (by omega) (by omega)
     rwa [show ((i:Int)+2).toNat=i+2 by omega] at h
    replace hun:=ae.mk hun
    replace h1:=ae.mk h1
    replace h2:=ae.mk h2
    replace h3:=ae.mk h3
    replace h4:=ae.mk h4
    replace h5:=ae.mk h5
    replace h6:=ae.mk h6
    replace h7:=ae.mk h7
    replace h8:=ae.mk h8
    replace h9:=ae.mk h9
    replace h10:=ae.mk h10
    replace hr:=ae.mk hr
    replace hr1:=ae.mk hr1
    replace hr2:=ae.mk hr2
    replace hbd2:=ae.mk hbd2
    replace hrb:=ae.mk hrb
    replace hbd:=ae.mk hbd
    have hxl:(xs.length:Int)≤2000000:=by have:=hlen.out;omega
    have hxl2:xs.length≤2000000:=by have:=hlen.out;omega
    have hz4:((iZ r).length:Int)≤4:=by have:=iw r;omega
    go_wp2_with (first | (go_at_call 80;(with_reducible refine (hrun _).mono ?_);rintro e w4 ⟨rfl,hB4⟩) | (go_at_call 81;(with_reducible refine (hsur _).mono ?_);rintro e w5 ⟨rfl,rfl⟩) | (go_at_call 80;(with_reducible refine (hrun2 _).mono ?_);rintro e w8 ⟨rfl,hB8⟩) | (go_at_call 82;(with_reducible refine (hdec _).mono ?_);rintro e w9 ⟨rfl,hD9⟩;replace hB4:=dX (dX hB4 hB4.size hB8) (dX hB4 hB4.size hB8).size hD9.below) | ((with_reducible refine cO (b:=.append) (xs:=#[.tmp 132,.tmp 133]) rfl ?_);at_builtin;refine jI (w0:=w) w.heap.size rfl (.tmp 132) (.tmp 133) 99 5 .u8 1 rfl Tryz.underlying99 Q.info5 (by decide) u3 xs (List.replicate 8 0) _ 8 8 rfl rfl ?aO ?aR ?aB ?aS ?aL ?_;(case aO=>exact ik hown.out (hB4.alloc hB4.size _));(case aR=>exact uK _ 5 .u8 (List.replicate 8 0) (by decide));(case aB=>exact dX hbel.out hbel.out.size (hB4.alloc hB4.size _));(case aS=>exact (dX hbel.out hbel.out.size (hB4.alloc hB4.size _)).size);(case aL=>have:=hlen.out;omega);intro v2 w6 ho hb6 hg6 hat6;rw [show (xs ++ List.replicate 8 (0:Int)).length=xs.length+8 by simp] at ho;obtain ⟨g,cap,rfl,hbg,hncap⟩:=mH ho (by omega);have hcut:=uZ g (xs.length+8) cap xs.length (by omega) hncap (by omega);have hcut2:=yC g (xs.length+8) cap (xs.length+(iZ r).length) (by have:=iw r;omega);simp only [Nat.add_sub_cancel_left] at hcut;have henc:=sK w.heap.size g cap xs.length xs rfl r (by have:=hrb.out;omega) (by have:=hrb.out;omega) (by have:=hrb.out;omega) w6 ho (cap - xs.length);have hbel6:=ae.mk hb6;have ho6:=ae.mk ho;clear ho hb6 hg6 hat6) | (go_at_call 83;(with_reducible refine henc.mono ?_);rintro e w7 ⟨rfl,ho7,hg7⟩;have hown7:=ae.mk ho7;have hgr7:=ae.mk hg7;clear ho7 hg7))
    go_roundg (s.size+1 - (i+12))
    case measure=>have:=hk.out;omega
    case rel=>exact ⟨xs ++ iZ r,i+12,by first | rfl | (congr 1;omega),⟨⟨⟨rest,hun.out,by have:=hxs.out;rw [hr1.out,hr2.out,hr.out] at this;rw [List.append_assoc];exact this⟩,by omega,rfl,by rw [List.length_append];exact hown7.out,nK hbel6.out (some g) hbel6.out.size hgr7.out (fun k hk=>by injection hk with hk;omega)⟩⟩⟩
end Go.Proofs.YtpgfjbimodnkeaaGreatDoor.Dec
