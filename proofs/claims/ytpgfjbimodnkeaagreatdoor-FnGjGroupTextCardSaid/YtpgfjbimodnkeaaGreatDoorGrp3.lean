/- FnGjGroupText: whatever text comes in, the law returns true and the text reads afterwards as before; with the fourteen package-level variables that its row lists as the text of the program lays them (the tied card) (part 3 of 33: lemmas for its last part) -/
import Derived.WalkMore
import Derived.Test.YtpgfjbimodnkeaaGreatDoorGrp2
set_option maxHeartbeats 16000000
set_option maxRecDepth 100000
set_option linter.unusedVariables false
set_option linter.unusedSimpArgs false
namespace Go.Proofs.YtpgfjbimodnkeaaGreatDoor.Dec
open Go Go.RowKit Go.Proofs.YtpgfjbimodnkeaaGreatDoorW.PrintWords Go.Proofs.YtpgfjbimodnkeaaGreatDoorW.PrintLast Go.Proofs.YtpgfjbimodnkeaaGreatDoorW.PrintMore
def Gs (s:ByteArray):Prop:=∀ i:Nat,i < s.size→bt s (i:Int)≠95∧Go.bits .or .u8 (bt s (i:Int)) 32≠120
structure Iw (s:ByteArray) (e:Ending):Prop where mk :: (out:∃ (m x:Int) (ng tr:Bool) (i:Nat) (ok:Bool),e = .returned (.tuple #[.int .u64 m,.int .i64 x,.bool ng,.bool tr,.bool false,.int .i64 (i:Int),.bool ok])∧i≤s.size∧0≤m∧m < 18446744073709551616∧-1000000000≤x∧x≤1000000000)
theorem qI {n:Nat} (t:List Value) (h:t.length=n):t=(List.range n).map (fun i=>t.getD i undef):=by
 subst h
 apply List.ext_getElem
 ·simp
 ·intro i h1 h2
  simp [List.getD_eq_getElem?_getD,h1]
theorem qK {P:Program} {Q:Exit→Act→World→Prop} {a:Act} {w:World} {x y:Code} (J:Act→World→Prop) (hy:∀ a w,J a w→y.wp P Q a w)
 (hx:∀ K:Act→World→Prop,(∀ a w,J a w→K a w)→x.wp P (Exit.then K Q) a w):(Code.seq x y).wp P Q a w:=wp_seq_k fun K hK=>hx K (fun a w h=>hK a w (hy a w h))
theorem mJ (x:Int):0≤IntKind.u64.wrap x∧IntKind.u64.wrap x < 18446744073709551616:=by
 simp [IntKind.wrap,IntKind.bits,IntKind.signed];omega
structure RfD (B:Int) (v13 v14 v15 v16 v17:Value):Prop where mk :: (out:∃ (b13 b14:Bool) (x15 x16 x17:Int),v13 = .bool b13∧v14 = .bool b14∧v15 = .int .i64 x15∧v16 = .int .i64 x16∧v17 = .int .i64 x17∧-B≤x15∧x15≤B∧-B≤x16∧x16≤B∧-B≤x17∧x17≤B)
def RfJ (s:ByteArray) (w:World) (C:Value→Value→Value→Prop) (D:Value→Value→Value→Value→Value→Prop) (E:Value→Prop) (f:Act) (W:World):Prop :=
 ∃ (i:Nat) (m:Int) (ng tr:Bool) (u1 v10 v11 v12 v13 v14 v15 v16 v17 v18 v19 v20:Value) (t:List Value),f=⟨(.string s :: u1 :: .int .u64 m :: .int .i64 0 :: .bool ng :: .bool tr :: .bool false :: .int .i64 (i:Int) :: .bool false :: .bool false :: v10 :: v11 :: v12 :: v13 :: v14 :: v15 :: v16 :: v17 :: v18 :: v19 :: v20 :: t).toArray,[]⟩∧t.length=232∧C v10 v11 v12∧D v13 v14 v15 v16 v17∧E v19∧i≤s.size∧0≤m∧m < 18446744073709551616∧aj w W
theorem Dw (w:World) (s:ByteArray) (hs:s.size≤1000000) (hcs:Gs s) :
 Calls Tryz.prog 146 #[.string s] w fun e w'=>Iw s e∧aj w w':=by
 have hx0:=hcs
 by_cases h0:s.size=0
 ·have c0:decide ((s.size:Int)≤0)=true:=decide_eq_true (by omega)
  have c0':decide (s.size≤0)=true:=decide_eq_true (by omega)
  have hi0:0≤s.size:=by omega
  have hW:=aj.refl w
  obtain ⟨i,hi⟩:∃ i:Nat,i=0:=⟨0,rfl⟩
  go_enter Tryz.func146,Tryz.ntmps146
  go_wp2
  go_step3
  go_wp2
  all_goals (try simp only [Exit.noGoto_ret])
  all_goals refine bodyPost_ret (eF (rs:=[.tmp 2,.tmp 3,.tmp 4,.tmp 5,.tmp 6,.tmp 7,.tmp 8]) rfl (by simp) (.tmp (.tmp (.tmp (.tmp (.tmp (.tmp (.tmp .nil)))))))) rfl ?_
  all_goals first | exact ⟨⟨_,_,_,_,i,_,rfl,by omega,by omega,by omega,by omega,by omega⟩,by repeat (first | exact hW | exact aj.refl _ | apply aj.step)⟩ | exact ⟨⟨_,_,_,_,i+1,_,rfl,by omega,by omega,by omega,by omega,by omega⟩,by repeat (first | exact hW | exact aj.refl _ | apply aj.step)⟩ | exact ⟨⟨_,_,_,_,0,_,rfl,by omega,by omega,by omega,by omega,by omega⟩,by repeat (first | exact hW | exact aj.refl _ | apply aj.step)⟩
 have c0:decide ((s.size:Int)≤0)=false:=decide_eq_false (by omega)
 have c0':decide (s.size≤0)=false:=decide_eq_false (by omega)
 have p1:(0:Int)≤0:=by omega
 have q1:(0:Int) < (s.size:Int):=by omega
 have q1':0 < s.size:=by omega
 have hx:((s[0]'q1').toNat:Int)=bt s 0:=cZ s 0 (by simpa using q1')
 have hW:=aj.refl w
 go_enter Tryz.func146,Tryz.ntmps146
 repeat (first | (refine qK (x:=Code.seq (Code.region 3 _ _) _) (RfJ s w (fun _ _ _=>True) (fun _ _ _ _ _=>True) (fun _=>True)) ?_ (fun K hK=>?_)) | go_values | go_guarded | go_step | go_step3 | go_upon | go_back | (simp only [Int.not_lt,Int.not_le] at *;go_simp) | (go_values <;> (try go_simp)))
 rotate_left
 ·go_wp2
  all_goals first | ((refine ⟨0,_,_,_,_,_,_,_,_,_,_,_,_,_,_,_,_,rfl,?_⟩;refine ⟨rfl,trivial,trivial,trivial,?_,?_,?_,?_⟩ <;> first | omega | (repeat (first | exact hW | exact aj.refl _ | apply aj.step)));done) | ((refine ⟨1,_,_,_,_,_,_,_,_,_,_,_,_,_,_,_,_,rfl,?_⟩;refine ⟨rfl,trivial,trivial,trivial,?_,?_,?_,?_⟩ <;> first | omega | (repeat (first | exact hW | exact aj.refl _ | apply aj.step)));done)
 rintro f W ⟨i,m,ng,tr,u1,v10,v11,v12,v13,v14,v15,v16,v17,v18,v19,v20,t,rfl,ht,hC,hD,hE,hi1,hm0,hm1,hW⟩
 obtain ⟨v,rfl⟩:∃ v:Nat→Value,t=[v 0,v 1,v 2,v 3,v 4,v 5,v 6,v 7,v 8,v 9,v 10,v 11,v 12,v 13,v 14,v 15,v 16,v 17,v 18,v 19,v 20,v 21,v 22,v 23,v 24,v 25,v 26,v 27,v 28,v 29,v 30,v 31,v 32,v 33,v 34,v 35,v 36,v 37,v 38,v 39,v 40,v 41,v 42,v 43,v 44,v 45,v 46,v 47,v 48,v 49,v 50,v 51,v 52,v 53,v 54,v 55,v 56,v 57,v 58,v 59,v 60,v 61,v 62,v 63,v 64,v 65,v 66,v 67,v 68,v 69,v 70,v 71,v 72,v 73,v 74,v 75,v 76,v 77,v 78,v 79,v 80,v 81,v 82,v 83,v 84,v 85,v 86,v 87,v 88,v 89,v 90,v 91,v 92,v 93,v 94,v 95,v 96,v 97,v 98,v 99,v 100,v 101,v 102,v 103,v 104,v 105,v 106,v 107,v 108,v 109,v 110,v 111,v 112,v 113,v 114,v 115,v 116,v 117,v 118,v 119,v 120,v 121,v 122,v 123,v 124,v 125,v 126,v 127,v 128,v 129,v 130,v 131,v 132,v 133,v 134,v 135,v 136,v 137,v 138,v 139,v 140,v 141,v 142,v 143,v 144,v 145,v 146,v 147,v 148,v 149,v 150,v 151,v 152,v 153,v 154,v 155,v 156,v 157,v 158,v 159,v 160,v 161,v 162,v 163,v 164,v 165,v 166,v 167,v 168,v 169,v 170,v 171,v 172,v 173,v 174,v 175,v 176,v 177,v 178,v 179,v 180,v 181,v 182,v 183,v 184,v 185,v 186,v 187,v 188,v 189,v 190,v 191,v 192,v 193,v 194,v 195,v 196,v 197,v 198,v 199,v 200,v 201,v 202,v 203,v 204,v 205,v 206,v 207,v 208,v 209,v 210,v 211,v 212,v 213,v 214,v 215,v 216,v 217,v 218,v 219,v 220,v 221,v 222,v 223,v 224,v 225,v 226,v 227,v 228,v 229,v 230,v 231]:=⟨fun i=>t.getD i undef,qI t ht⟩
 clear ht
 clear hC hD hE hx0 hx p1 q1
 repeat (first | (refine qK (x:=Code.seq (Code.region 12 _ _) _) (RfJ s w (fun v10 v11 v12=>v10 = .int .u64 10∧v11 = .int .i64 19∧v12 = .int .u8 101) (fun _ _ _ _ _=>True) (fun _=>True)) ?_ (fun K hK=>?_)) | go_values | go_guarded | go_step | go_step3 | go_upon | go_back | (simp only [Int.not_lt,Int.not_le] at *;go_simp) | (go_values <;> (try go_simp)))
 rotate_left
 ·have mk:∀ (K:Act→World→Prop) (f:Act) (W:World),RfJ s w (fun v10 v11 v12=>v10 = .int .u64 10∧v11 = .int .i64 19∧v12 = .int .u8 101) (fun _ _ _ _ _=>True) (fun _=>True) f W→True:=fun _ _ _ _=>trivial
  clear mk
  by_cases h2:i+2 < s.size
  ·have d1:decide ((i:Int)+2 < (s.size:Int))=true:=decide_eq_true (by omega)
   have d1b:decide (i+2 < s.size)=true:=decide_eq_true h2
   have hi:i < s.size:=by omega
   have hi2:i+1 < s.size:=by omega
   have p1:(0:Int)≤((i:Nat):Int):=by omega
   have q1:((i:Nat):Int) < (s.size:Int):=by omega
   have x1:((s[i]'hi).toNat:Int)=bt s ((i:Nat):Int):=cZ s ((i:Nat):Int) (by simpa using hi)
   obtain ⟨r1a,r1b⟩:=eG s ((i:Nat):Int)
   obtain ⟨n1a,n1b⟩:=hcs (i) hi
   generalize bt s ((i:Nat):Int)=c at x1 r1a r1b n1a n1b
   replace p1:=eq_true p1
   replace q1:=eq_true q1
   have p2:(0:Int)≤(i:Int)+1:=by omega
   have q2:(i:Int)+1 < (s.size:Int):=by omega
   have x2:((s[i+1]'(by omega:i+1 < s.size)).toNat:Int)=bt s ((i+1:Nat):Int):=cZ s ((i+1:Nat):Int) (by simpa using (by omega:i+1 < s.size))
   obtain ⟨r2a,r2b⟩:=eG s ((i+1:Nat):Int)
   obtain ⟨n2a,n2b⟩:=hcs (i+1) (by omega:i+1 < s.size)
   generalize bt s ((i+1:Nat):Int)=c2 at x2 r2a r2b n2a n2b
   replace p2:=eq_true p2
   replace q2:=eq_true q2
   by_cases k1:c=48
   ·have k1b:(c == 48)=true:=beq_iff_eq.mpr k1
    obtain ⟨L,hL⟩:∃ L,Go.bits .or .u8 c2 32=L:=⟨_,rfl⟩
    have hlower:=fun W=>Go.Proofs.YtpgfjbimodnkeaaGreatDoor.Q.iD.calls c2 L W (by rw [Go.Proofs.YtpgfjbimodnkeaaGreatDoor.Q.iD.f,hL])
    rw [hL] at n2b
    have hLb:(L == 120)=false:=beq_eq_false_iff_ne.mpr n2b
    clear hL
    go_wp2_with (first | (go_at_call 137;refine (hlower _).mono ?_;rintro e w5 ⟨rfl,⟨m5,rfl⟩⟩))
    (refine ⟨i,_,_,_,_,_,_,_,_,_,_,_,_,_,_,_,_,rfl,?_⟩;refine ⟨rfl,⟨rfl,rfl,rfl⟩,trivial,trivial,?_,?_,?_,?_⟩ <;> first | omega | (repeat (first | exact hW | exact aj.refl _ | apply aj.step)))
   ·have k1b:(c == 48)=false:=beq_eq_false_iff_ne.mpr k1
    go_wp2
    (refine ⟨i,_,_,_,_,_,_,_,_,_,_,_,_,_,_,_,_,rfl,?_⟩;refine ⟨rfl,⟨rfl,rfl,rfl⟩,trivial,trivial,?_,?_,?_,?_⟩ <;> first | omega | (repeat (first | exact hW | exact aj.refl _ | apply aj.step)))
  ·have d1:decide ((i:Int)+2 < (s.size:Int))=false:=decide_eq_false (by omega)
   have d1b:decide (i+2 < s.size)=false:=decide_eq_false h2
   go_wp2
   (refine ⟨i,_,_,_,_,_,_,_,_,_,_,_,_,_,_,_,_,rfl,?_⟩;refine ⟨rfl,⟨rfl,rfl,rfl⟩,trivial,trivial,?_,?_,?_,?_⟩ <;> first | omega | (repeat (first | exact hW | exact aj.refl _ | apply aj.step)))
 rintro f W ⟨i,m,ng,tr,u1,v10,v11,v12,v13,v14,v15,v16,v17,v18,v19,v20,t,rfl,ht,hC,hD,hE,hi1,hm0,hm1,hW⟩
 obtain ⟨v,rfl⟩:∃ v:Nat→Value,t=[v 0,v 1,v 2,v 3,v 4,v 5,v 6,v 7,v 8,v 9,v 10,v 11,v 12,v 13,v 14,v 15,v 16,v 17,v 18,v 19,v 20,v 21,v 22,v 23,v 24,v 25,v 26,v 27,v 28,v 29,v 30,v 31,v 32,v 33,v 34,v 35,v 36,v 37,v 38,v 39,v 40,v 41,v 42,v 43,v 44,v 45,v 46,v 47,v 48,v 49,v 50,v 51,v 52,v 53,v 54,v 55,v 56,v 57,v 58,v 59,v 60,v 61,v 62,v 63,v 64,v 65,v 66,v 67,v 68,v 69,v 70,v 71,v 72,v 73,v 74,v 75,v 76,v 77,v 78,v 79,v 80,v 81,v 82,v 83,v 84,v 85,v 86,v 87,v 88,v 89,v 90,v 91,v 92,v 93,v 94,v 95,v 96,v 97,v 98,v 99,v 100,v 101,v 102,v 103,v 104,v 105,v 106,v 107,v 108,v 109,v 110,v 111,v 112,v 113,v 114,v 115,v 116,v 117,v 118,v 119,v 120,v 121,v 122,v 123,v 124,v 125,v 126,v 127,v 128,v 129,v 130,v 131,v 132,v 133,v 134,v 135,v 136,v 137,v 138,v 139,v 140,v 141,v 142,v 143,v 144,v 145,v 146,v 147,v 148,v 149,v 150,v 151,v 152,v 153,v 154,v 155,v 156,v 157,v 158,v 159,v 160,v 161,v 162,v 163,v 164,v 165,v 166,v 167,v 168,v 169,v 170,v 171,v 172,v 173,v 174,v 175,v 176,v 177,v 178,v 179,v 180,v 181,v 182,v 183,v 184,v 185,v 186,v 187,v 188,v 189,v 190,v 191,v 192,v 193,v 194,v 195,v 196,v 197,v 198,v 199,v 200,v 201,v 202,v 203,v 204,v 205,v 206,v 207,v 208,v 209,v 210,v 211,v 212,v 213,v 214,v 215,v 216,v 217,v 218,v 219,v 220,v 221,v 222,v 223,v 224,v 225,v 226,v 227,v 228,v 229,v 230,v 231]:=⟨fun i=>t.getD i undef,qI t ht⟩
 clear ht
 obtain ⟨rfl,rfl,rfl⟩:=hC
 clear hD hE
 repeat (first | (refine qK (x:=Code.block 1 _) (RfJ s w (fun v10 v11 v12=>v10 = .int .u64 10∧v11 = .int .i64 19∧v12 = .int .u8 101) (RfD 5000000) (fun _=>True)) ?_ (fun K hK=>?_)) | go_values | go_guarded | go_step | go_step3 | go_upon | go_back | (simp only [Int.not_lt,Int.not_le] at *;go_simp) | (go_values <;> (try go_simp)))
 rotate_left
 ·go_wp2
  go_loopg [2,5,7,9,13,14,15,16,17] s.size (fun kq z2 z5 z7 z9 z13 z14 z15 z16 z17 w'=>∃ (i:Nat) (m:Int) (tr b13 b14:Bool) (x15 x16 x17:Int),z7 = .int .i64 (i:Int)∧z2 = .int .u64 m∧z5 = .bool tr∧z9 = .bool false∧z13 = .bool b13∧z14 = .bool b14∧z15 = .int .i64 x15∧z16 = .int .i64 x16∧z17 = .int .i64 x17∧s.size - i≤kq∧i≤s.size∧0≤m∧m < 18446744073709551616∧0≤x15∧x15≤i∧0≤x16∧x16≤i∧-(i:Int)≤x17∧x17≤i∧aj w w')
  case atStart=>exact ⟨i,m,tr,false,false,0,0,0,rfl,rfl,rfl,rfl,rfl,rfl,rfl,rfl,rfl,by omega,by omega,hm0,hm1,by omega,by omega,by omega,by omega,by omega,by omega,by repeat (first | exact hW | exact aj.refl _ | apply aj.step)⟩
  case round =>
   clear hW hi1 hm0 hm1
   obtain ⟨i,m,tr,b13,b14,x15,x16,x17,rfl,rfl,rfl,rfl,rfl,rfl,rfl,rfl,rfl,hkq,hi1,hm0,hm1,y1,y2,y3,y4,y5,y6,hW⟩:=hrel
   obtain ⟨mw,rfl⟩:=hW
   have hW:aj w (w.drewN mw):=⟨⟨mw,rfl⟩⟩
   by_cases hi:i < s.size
   ·have c1:decide ((i:Int) < (s.size:Int))=true:=decide_eq_true (by omega)
    have c1':decide (i < s.size)=true:=decide_eq_true hi
    have p1:(0:Int)≤((i:Nat):Int):=by omega
    have q1:((i:Nat):Int) < (s.size:Int):=by omega
    have x1:((s[i]'hi).toNat:Int)=bt s ((i:Nat):Int):=cZ s ((i:Nat):Int) (by simpa using hi)
    obtain ⟨r1a,r1b⟩:=eG s ((i:Nat):Int)
    obtain ⟨n1a,n1b⟩:=hcs (i) hi
    generalize bt s ((i:Nat):Int)=c at x1 r1a r1b n1a n1b
    replace p1:=eq_true p1
    replace q1:=eq_true q1
    have k1b:(c == 95)=false:=beq_eq_false_iff_ne.mpr n1a
    by_cases k2:c=46
    ·have k2b:(c == 46)=true:=beq_iff_eq.mpr k2
     cases b13 with
     | true =>
       go_wp2
       all_goals ((refine ⟨i,_,_,_,_,_,_,_,_,_,_,_,_,_,_,_,_,rfl,?_⟩;refine ⟨rfl,⟨rfl,rfl,rfl⟩,⟨_,_,_,_,_,rfl,rfl,rfl,rfl,rfl,?_,?_,?_,?_,?_,?_⟩,trivial,?_,?_,?_,?_⟩ <;> first | omega | (repeat (first | exact hW | exact aj.refl _ | apply aj.step))))
     | false =>
       go_wp2
       go_roundg (s.size - (i+1))
       case measure=>omega
       case rel=>exact ⟨i+1,m,tr,true,b14,x15,x16,x15,by first | rfl | (congr 1;omega),by first | rfl | (congr 1;omega),rfl,rfl,rfl,rfl,by first | rfl | (congr 1;omega),by first | rfl | (congr 1;omega),by first | rfl | (congr 1;omega),Nat.le_refl _,by omega,hm0,hm1,by omega,by omega,by omega,by omega,by omega,by omega,by repeat (first | exact hW | exact aj.refl _ | apply aj.step)⟩
    ·have k2b:(c == 46)=false:=beq_eq_false_iff_ne.mpr k2
     by_cases k3:48≤c∧c≤57
     ·obtain ⟨k3,k4⟩:=k3
      have k3b:decide (48≤c)=true:=decide_eq_true k3
      have k4b:decide (c≤57)=true:=decide_eq_true k4
      by_cases k5:c=48
      ·have k5b:(c == 48)=true:=beq_iff_eq.mpr k5
       have k5c:(c != 48)=false:=bne_eq_false_iff_eq.mpr k5
       by_cases k6:x15=0
       ·have k6b:(x15 == 0)=true:=beq_iff_eq.mpr k6
        go_wp2
        go_roundg (s.size - (i+1))
        case measure=>omega
        case rel=>exact ⟨i+1,m,tr,b13,true,x15,x16,x17 - 1,by first | rfl | (congr 1;omega),by first | rfl | (congr 1;omega),rfl,rfl,rfl,rfl,by first | rfl | (congr 1;omega),by first | rfl | (congr 1;omega),by first | rfl | (congr 1;omega),Nat.le_refl _,by omega,hm0,hm1,by omega,by omega,by omega,by omega,by omega,by omega,by repeat (first | exact hW | exact aj.refl _ | apply aj.step)⟩
       ·have k6b:(x15 == 0)=false:=beq_eq_false_iff_ne.mpr k6
        by_cases k7:x16 < 19
        ·have k7b:decide (x16 < 19)=true:=decide_eq_true k7
         go_wp2
         go_roundg (s.size - (i+1))
         case measure=>omega
         case rel=>exact ⟨i+1,_,tr,b13,true,x15+1,x16+1,x17,by first | rfl | (congr 1;omega),by first | rfl | (congr 1;omega),rfl,rfl,rfl,rfl,by first | rfl | (congr 1;omega),by first | rfl | (congr 1;omega),by first | rfl | (congr 1;omega),Nat.le_refl _,by omega,by first | omega | exact (mJ _).1,by first | omega | exact (mJ _).2,by omega,by omega,by omega,by omega,by omega,by omega,by repeat (first | exact hW | exact aj.refl _ | apply aj.step)⟩
        ·have k7b:decide (x16 < 19)=false:=decide_eq_false k7
         go_wp2
         go_roundg (s.size - (i+1))
         case measure=>omega
         case rel=>exact ⟨i+1,m,tr,b13,true,x15+1,x16,x17,by first | rfl | (congr 1;omega),by first | rfl | (congr 1;omega),rfl,rfl,rfl,rfl,by first | rfl | (congr 1;omega),by first | rfl | (congr 1;omega),by first | rfl | (congr 1;omega),Nat.le_refl _,by omega,hm0,hm1,by omega,by omega,by omega,by omega,by omega,by omega,by repeat (first | exact hW | exact aj.refl _ | apply aj.step)⟩
      ·have k5b:(c == 48)=false:=beq_eq_false_iff_ne.mpr k5
       have k5c:(c != 48)=true:=bne_iff_ne.mpr k5
       by_cases k7:x16 < 19
       ·have k7b:decide (x16 < 19)=true:=decide_eq_true k7
        go_wp2
        go_roundg (s.size - (i+1))
        case measure=>omega
        case rel=>exact ⟨i+1,_,tr,b13,true,x15+1,x16+1,x17,by first | rfl | (congr 1;omega),by first | rfl | (congr 1;omega),rfl,rfl,rfl,rfl,by first | rfl | (congr 1;omega),by first | rfl | (congr 1;omega),by first | rfl | (congr 1;omega),Nat.le_refl _,by omega,by first | omega | exact (mJ _).1,by first | omega | exact (mJ _).2,by omega,by omega,by omega,by omega,by omega,by omega,by repeat (first | exact hW | exact aj.refl _ | apply aj.step)⟩
       ·have k7b:decide (x16 < 19)=false:=decide_eq_false k7
        go_wp2
        go_roundg (s.size - (i+1))
        case measure=>omega
        case rel=>exact ⟨i+1,m,true,b13,true,x15+1,x16,x17,by first | rfl | (congr 1;omega),by first | rfl | (congr 1;omega),rfl,rfl,rfl,rfl,by first | rfl | (congr 1;omega),by first | rfl | (congr 1;omega),by first | rfl | (congr 1;omega),Nat.le_refl _,by omega,hm0,hm1,by omega,by omega,by omega,by omega,by omega,by omega,by repeat (first | exact hW | exact aj.refl _ | apply aj.step)⟩
     ·have k3x:decide (48≤c)=false∨(decide (48≤c)=true∧decide (c≤57)=false):=by
       by_cases h48:48≤c
       ·exact .inr ⟨decide_eq_true h48,decide_eq_false (by omega)⟩
       ·exact .inl (decide_eq_false h48)
      rcases k3x with k3b | ⟨k3b,k3c⟩
      all_goals go_wp2
      all_goals ((refine ⟨i,_,_,_,_,_,_,_,_,_,_,_,_,_,_,_,_,rfl,?_⟩;refine ⟨rfl,⟨rfl,rfl,rfl⟩,⟨_,_,_,_,_,rfl,rfl,rfl,rfl,rfl,?_,?_,?_,?_,?_,?_⟩,trivial,?_,?_,?_,?_⟩ <;> first | omega | (repeat (first | exact hW | exact aj.refl _ | apply aj.step))))
   ·have c1:decide ((i:Int) < (s.size:Int))=false:=decide_eq_false (by omega)
    have c1':decide (i < s.size)=false:=decide_eq_false hi
    go_wp2
    all_goals ((refine ⟨i,_,_,_,_,_,_,_,_,_,_,_,_,_,_,_,_,rfl,?_⟩;refine ⟨rfl,⟨rfl,rfl,rfl⟩,⟨_,_,_,_,_,rfl,rfl,rfl,rfl,rfl,?_,?_,?_,?_,?_,?_⟩,trivial,?_,?_,?_,?_⟩ <;> first | omega | (repeat (first | exact hW | exact aj.refl _ | apply aj.step))))
 rintro f W ⟨i,m,ng,tr,u1,v10,v11,v12,v13,v14,v15,v16,v17,v18,v19,v20,t,rfl,ht,hC,hD,hE,hi1,hm0,hm1,hW⟩
 obtain ⟨v,rfl⟩:∃ v:Nat→Value,t=[v 0,v 1,v 2,v 3,v 4,v 5,v 6,v 7,v 8,v 9,v 10,v 11,v 12,v 13,v 14,v 15,v 16,v 17,v 18,v 19,v 20,v 21,v 22,v 23,v 24,v 25,v 26,v 27,v 28,v 29,v 30,v 31,v 32,v 33,v 34,v 35,v 36,v 37,v 38,v 39,v 40,v 41,v 42,v 43,v 44,v 45,v 46,v 47,v 48,v 49,v 50,v 51,v 52,v 53,v 54,v 55,v 56,v 57,v 58,v 59,v 60,v 61,v 62,v 63,v 64,v 65,v 66,v 67,v 68,v 69,v 70,v 71,v 72,v 73,v 74,v 75,v 76,v 77,v 78,v 79,v 80,v 81,v 82,v 83,v 84,v 85,v 86,v 87,v 88,v 89,v 90,v 91,v 92,v 93,v 94,v 95,v 96,v 97,v 98,v 99,v 100,v 101,v 102,v 103,v 104,v 105,v 106,v 107,v 108,v 109,v 110,v 111,v 112,v 113,v 114,v 115,v 116,v 117,v 118,v 119,v 120,v 121,v 122,v 123,v 124,v 125,v 126,v 127,v 128,v 129,v 130,v 131,v 132,v 133,v 134,v 135,v 136,v 137,v 138,v 139,v 140,v 141,v 142,v 143,v 144,v 145,v 146,v 147,v 148,v 149,v 150,v 151,v 152,v 153,v 154,v 155,v 156,v 157,v 158,v 159,v 160,v 161,v 162,v 163,v 164,v 165,v 166,v 167,v 168,v 169,v 170,v 171,v 172,v 173,v 174,v 175,v 176,v 177,v 178,v 179,v 180,v 181,v 182,v 183,v 184,v 185,v 186,v 187,v 188,v 189,v 190,v 191,v 192,v 193,v 194,v 195,v 196,v 197,v 198,v 199,v 200,v 201,v 202,v 203,v 204,v 205,v 206,v 207,v 208,v 209,v 210,v 211,v 212,v 213,v 214,v 215,v 216,v 217,v 218,v 219,v 220,v 221,v 222,v 223,v 224,v 225,v 226,v 227,v 228,v 229,v 230,v 231]:=⟨fun i=>t.getD i undef,qI t ht⟩
 clear ht
 obtain ⟨rfl,rfl,rfl⟩:=hC
 obtain ⟨b13,b14,x15,x16,x17,rfl,rfl,rfl,rfl,rfl,y1,y2,y3,y4,y5,y6⟩:=hD
 clear hE
 cases b14 with
 | false =>
   go_wp2
   all_goals (try simp only [Exit.noGoto_ret])
   all_goals refine bodyPost_ret (eF (rs:=[.tmp 2,.tmp 3,.tmp 4,.tmp 5,.tmp 6,.tmp 7,.tmp 8]) rfl (by simp) (.tmp (.tmp (.tmp (.tmp (.tmp (.tmp (.tmp .nil)))))))) rfl ?_
   all_goals first | exact ⟨⟨_,_,_,_,i,_,rfl,by omega,by omega,by omega,by omega,by omega⟩,by repeat (first | exact hW | exact aj.refl _ | apply aj.step)⟩ | exact ⟨⟨_,_,_,_,i+1,_,rfl,by omega,by omega,by omega,by omega,by omega⟩,by repeat (first | exact hW | exact aj.refl _ | apply aj.step)⟩ | exact ⟨⟨_,_,_,_,0,_,rfl,by omega,by omega,by omega,by omega,by omega⟩,by repeat (first | exact hW | exact aj.refl _ | apply aj.step)⟩
 | true =>
   repeat (first | (refine qK (x:=Code.seq (Code.region 52 _ _) _) (RfJ s w (fun v10 v11 v12=>v10 = .int .u64 10∧v11 = .int .i64 19∧v12 = .int .u8 101) (RfD 5000000) (fun _=>True)) ?_ (fun K hK=>?_)) | go_values | go_guarded | go_step | go_step3 | go_upon | go_back | (simp only [Int.not_lt,Int.not_le] at *;go_simp) | (go_values <;> (try go_simp)))
   rotate_left
   ·cases b13
    all_goals go_wp2
    all_goals ((refine ⟨i,_,_,_,_,_,_,_,_,_,_,_,_,_,_,_,_,rfl,?_⟩;refine ⟨rfl,⟨rfl,rfl,rfl⟩,⟨_,_,_,_,_,rfl,rfl,rfl,rfl,rfl,?_,?_,?_,?_,?_,?_⟩,trivial,?_,?_,?_,?_⟩ <;> first | omega | (repeat (first | exact hW | exact aj.refl _ | apply aj.step))))
   rintro f W ⟨i,m,ng,tr,u1,v10,v11,v12,v13,v14,v15,v16,v17,v18,v19,v20,t,rfl,ht,hC,hD,hE,hi1,hm0,hm1,hW⟩
   obtain ⟨v,rfl⟩:∃ v:Nat→Value,t=[v 0,v 1,v 2,v 3,v 4,v 5,v 6,v 7,v 8,v 9,v 10,v 11,v 12,v 13,v 14,v 15,v 16,v 17,v 18,v 19,v 20,v 21,v 22,v 23,v 24,v 25,v 26,v 27,v 28,v 29,v 30,v 31,v 32,v 33,v 34,v 35,v 36,v 37,v 38,v 39,v 40,v 41,v 42,v 43,v 44,v 45,v 46,v 47,v 48,v 49,v 50,v 51,v 52,v 53,v 54,v 55,v 56,v 57,v 58,v 59,v 60,v 61,v 62,v 63,v 64,v 65,v 66,v 67,v 68,v 69,v 70,v 71,v 72,v 73,v 74,v 75,v 76,v 77,v 78,v 79,v 80,v 81,v 82,v 83,v 84,v 85,v 86,v 87,v 88,v 89,v 90,v 91,v 92,v 93,v 94,v 95,v 96,v 97,v 98,v 99,v 100,v 101,v 102,v 103,v 104,v 105,v 106,v 107,v 108,v 109,v 110,v 111,v 112,v 113,v 114,v 115,v 116,v 117,v 118,v 119,v 120,v 121,v 122,v 123,v 124,v 125,v 126,v 127,v 128,v 129,v 130,v 131,v 132,v 133,v 134,v 135,v 136,v 137,v 138,v 139,v 140,v 141,v 142,v 143,v 144,v 145,v 146,v 147,v 148,v 149,v 150,v 151,v 152,v 153,v 154,v 155,v 156,v 157,v 158,v 159,v 160,v 161,v 162,v 163,v 164,v 165,v 166,v 167,v 168,v 169,v 170,v 171,v 172,v 173,v 174,v 175,v 176,v 177,v 178,v 179,v 180,v 181,v 182,v 183,v 184,v 185,v 186,v 187,v 188,v 189,v 190,v 191,v 192,v 193,v 194,v 195,v 196,v 197,v 198,v 199,v 200,v 201,v 202,v 203,v 204,v 205,v 206,v 207,v 208,v 209,v 210,v 211,v 212,v 213,v 214,v 215,v 216,v 217,v 218,v 219,v 220,v 221,v 222,v 223,v 224,v 225,v 226,v 227,v 228,v 229,v 230,v 231]:=⟨fun i=>t.getD i undef,qI t ht⟩
   clear ht
   obtain ⟨rfl,rfl,rfl⟩:=hC
   obtain ⟨b13,b14,x15,x16,x17,rfl,rfl,rfl,rfl,rfl,y1,y2,y3,y4,y5,y6⟩:=hD
   clear hE
   repeat (first | (refine qK (x:=Code.seq (Code.region 57 _ _) _) (RfJ s w (fun v10 v11 v12=>v10 = .int .u64 10∧v11 = .int .i64 19∧v12 = .int .u8 101) (RfD 9000000) (fun _=>True)) ?_ (fun K hK=>?_)) | go_values | go_guarded | go_step | go_step3 | go_upon | go_back | (simp only [Int.not_lt,Int.not_le] at *;go_simp) | (go_values <;> (try go_simp)))
   rotate_left
   ·by_cases hi:i < s.size
    ·have c1:decide ((i:Int) < (s.size:Int))=true:=decide_eq_true (by omega)
     have c1':decide (i < s.size)=true:=decide_eq_true hi
     have p1:(0:Int)≤((i:Nat):Int):=by omega
     have q1:((i:Nat):Int) < (s.size:Int):=by omega
     have x1:((s[i]'hi).toNat:Int)=bt s ((i:Nat):Int):=cZ s ((i:Nat):Int) (by simpa using hi)
     obtain ⟨r1a,r1b⟩:=eG s ((i:Nat):Int)
     obtain ⟨n1a,n1b⟩:=hcs (i) hi
     generalize bt s ((i:Nat):Int)=c at x1 r1a r1b n1a n1b
     replace p1:=eq_true p1
     replace q1:=eq_true q1
     obtain ⟨L,hL⟩:∃ L,Go.bits .or .u8 c 32=L:=⟨_,rfl⟩
     have hlower:=fun W=>Go.Proofs.YtpgfjbimodnkeaaGreatDoor.Q.iD.calls c L W (by rw [Go.Proofs.YtpgfjbimodnkeaaGreatDoor.Q.iD.f,hL])
     by_cases hL2:L=101
     ·have hLb:(L == 101)=true:=beq_iff_eq.mpr hL2
      clear hL
      by_cases h1:i+1 < s.size
      ·have d1:decide ((s.size:Int)≤(i:Int)+1)=false:=decide_eq_false (by omega)
       have d1b:decide (s.size≤i+1)=false:=decide_eq_false (by omega)
       have p2:(0:Int)≤(i:Int)+1:=by omega
       have q2:(i:Int)+1 < (s.size:Int):=by omega
       have x2:((s[i+1]'(by omega:i+1 < s.size)).toNat:Int)=bt s ((i+1:Nat):Int):=cZ s ((i+1:Nat):Int) (by simpa using (by omega:i+1 < s.size))
       obtain ⟨r2a,r2b⟩:=eG s ((i+1:Nat):Int)
       obtain ⟨n2a,n2b⟩:=hcs (i+1) (by omega:i+1 < s.size)
       generalize bt s ((i+1:Nat):Int)=c2 at x2 r2a r2b n2a n2b
       replace p2:=eq_true p2
       replace q2:=eq_true q2
       repeat (first | (refine qK (x:=Code.seq (Code.region 61 _ _) _) (RfJ s w (fun v10 v11 v12=>v10 = .int .u64 10∧v11 = .int .i64 19∧v12 = .int .u8 101) (RfD 5000000) (fun v19=>v19 = .int .i64 1∨v19 = .int .i64 (-1))) ?_ (fun K hK=>?_)) | (go_at_call 137;refine (hlower _).mono ?_;rintro e w5 ⟨rfl,⟨m5,rfl⟩⟩) | go_values | go_guarded | go_step | go_step3 | go_upon | go_back | (simp only [Int.not_lt,Int.not_le] at *;go_simp) | (go_values <;> (try go_simp)))
       rotate_left
       ·go_wp2
        all_goals first | ((refine ⟨i+1,_,_,_,_,_,_,_,_,_,_,_,_,_,_,_,_,rfl,?_⟩;refine ⟨rfl,⟨rfl,rfl,rfl⟩,⟨_,_,_,_,_,rfl,rfl,rfl,rfl,rfl,?_,?_,?_,?_,?_,?_⟩,.inl rfl,?_,?_,?_,?_⟩ <;> first | omega | (repeat (first | exact hW | exact aj.refl _ | apply aj.step)));done) | ((refine ⟨i+2,_,_,_,_,_,_,_,_,_,_,_,_,_,_,_,_,rfl,?_⟩;refine ⟨rfl,⟨rfl,rfl,rfl⟩,⟨_,_,_,_,_,rfl,rfl,rfl,rfl,rfl,?_,?_,?_,?_,?_,?_⟩,.inl rfl,?_,?_,?_,?_⟩ <;> first | omega | (repeat (first | exact hW | exact aj.refl _ | apply aj.step)));done) | ((refine ⟨i+2,_,_,_,_,_,_,_,_,_,_,_,_,_,_,_,_,rfl,?_⟩;refine ⟨rfl,⟨rfl,rfl,rfl⟩,⟨_,_,_,_,_,rfl,rfl,rfl,rfl,rfl,?_,?_,?_,?_,?_,?_⟩,.inr rfl,?_,?_,?_,?_⟩ <;> first | omega | (repeat (first | exact hW | exact aj.refl _ | apply aj.step)));done)
       clear p1 q1 x1 r1a r1b n1a n1b p2 q2 x2 r2a r2b n2a n2b c1 c1' d1 d1b hi h1
       rintro f W ⟨i,m,ng,tr,u1,v10,v11,v12,v13,v14,v15,v16,v17,v18,v19,v20,t,rfl,ht,hC,hD,hE,hi1,hm0,hm1,hW⟩
       obtain ⟨v,rfl⟩:∃ v:Nat→Value,t=[v 0,v 1,v 2,v 3,v 4,v 5,v 6,v 7,v 8,v 9,v 10,v 11,v 12,v 13,v 14,v 15,v 16,v 17,v 18,v 19,v 20,v 21,v 22,v 23,v 24,v 25,v 26,v 27,v 28,v 29,v 30,v 31,v 32,v 33,v 34,v 35,v 36,v 37,v 38,v 39,v 40,v 41,v 42,v 43,v 44,v 45,v 46,v 47,v 48,v 49,v 50,v 51,v 52,v 53,v 54,v 55,v 56,v 57,v 58,v 59,v 60,v 61,v 62,v 63,v 64,v 65,v 66,v 67,v 68,v 69,v 70,v 71,v 72,v 73,v 74,v 75,v 76,v 77,v 78,v 79,v 80,v 81,v 82,v 83,v 84,v 85,v 86,v 87,v 88,v 89,v 90,v 91,v 92,v 93,v 94,v 95,v 96,v 97,v 98,v 99,v 100,v 101,v 102,v 103,v 104,v 105,v 106,v 107,v 108,v 109,v 110,v 111,v 112,v 113,v 114,v 115,v 116,v 117,v 118,v 119,v 120,v 121,v 122,v 123,v 124,v 125,v 126,v 127,v 128,v 129,v 130,v 131,v 132,v 133,v 134,v 135,v 136,v 137,v 138,v 139,v 140,v 141,v 142,v 143,v 144,v 145,v 146,v 147,v 148,v 149,v 150,v 151,v 152,v 153,v 154,v 155,v 156,v 157,v 158,v 159,v 160,v 161,v 162,v 163,v 164,v 165,v 166,v 167,v 168,v 169,v 170,v 171,v 172,v 173,v 174,v 175,v 176,v 177,v 178,v 179,v 180,v 181,v 182,v 183,v 184,v 185,v 186,v 187,v 188,v 189,v 190,v 191,v 192,v 193,v 194,v 195,v 196,v 197,v 198,v 199,v 200,v 201,v 202,v 203,v 204,v 205,v 206,v 207,v 208,v 209,v 210,v 211,v 212,v 213,v 214,v 215,v 216,v 217,v 218,v 219,v 220,v 221,v 222,v 223,v 224,v 225,v 226,v 227,v 228,v 229,v 230,v 231]:=⟨fun i=>t.getD i undef,qI t ht⟩
       clear ht
       obtain ⟨rfl,rfl,rfl⟩:=hC
       obtain ⟨b13,b14,x15,x16,x17,rfl,rfl,rfl,rfl,rfl,y1,y2,y3,y4,y5,y6⟩:=hD
       rcases hE with rfl | rfl
       all_goals
        by_cases hi:i < s.size
        ·have d1:decide ((s.size:Int)≤(i:Int))=false:=decide_eq_false (by omega)
         have d1b:decide (s.size≤i)=false:=decide_eq_false (by omega)
         have p1:(0:Int)≤((i:Nat):Int):=by omega
         have q1:((i:Nat):Int) < (s.size:Int):=by omega
         have x1:((s[i]'hi).toNat:Int)=bt s ((i:Nat):Int):=cZ s ((i:Nat):Int) (by simpa using hi)
         obtain ⟨r1a,r1b⟩:=eG s ((i:Nat):Int)
         obtain ⟨n1a,n1b⟩:=hcs (i) hi
         generalize bt s ((i:Nat):Int)=c at x1 r1a r1b n1a n1b
         replace p1:=eq_true p1
         replace q1:=eq_true q1
         by_cases m1:48≤c∧c≤57
         ·have m1b:decide (c < 48)=false:=decide_eq_false (by omega)
          have m1c:decide (57 < c)=false:=decide_eq_false (by omega)
          go_wp2
          go_loopg [7,9,20] s.size (fun kq z7 z9 z20 w'=>∃ (i:Nat) (e3:Int),z7 = .int .i64 (i:Int)∧z9 = .bool false∧z20 = .int .i64 e3∧s.size - i≤kq∧i≤s.size∧0≤e3∧e3≤200000∧aj w w')
          case atStart=>exact ⟨i,0,rfl,rfl,rfl,by omega,by omega,by omega,by omega,by repeat (first | exact hW | exact aj.refl _ | apply aj.step)⟩
          case round =>
           clear hW
           obtain ⟨i,e3,rfl,rfl,rfl,hkq,hi1,he0,he1,hW⟩:=hrel
           obtain ⟨mw,rfl⟩:=hW
           have hW:aj w (w.drewN mw):=⟨⟨mw,rfl⟩⟩
           by_cases h3:i < s.size
           ·have c1:decide ((i:Int) < (s.size:Int))=true:=decide_eq_true (by omega)
            have c1':decide (i < s.size)=true:=decide_eq_true h3
            have p9:(0:Int)≤((i:Nat):Int):=by omega
            have q9:((i:Nat):Int) < (s.size:Int):=by omega
            have x9:((s[i]'h3).toNat:Int)=bt s ((i:Nat):Int):=cZ s ((i:Nat):Int) (by simpa using h3)
            obtain ⟨r9a,r9b⟩:=eG s ((i:Nat):Int)
            obtain ⟨n9a,n9b⟩:=hcs (i) h3
            generalize bt s ((i:Nat):Int)=d at x9 r9a r9b n9a n9b
            replace p9:=eq_true p9
            replace q9:=eq_true q9
            have k8d:(d == 95)=false:=beq_eq_false_iff_ne.mpr n9a
            by_cases k8:48≤d∧d≤57
            ·have k8b:decide (48≤d)=true:=decide_eq_true k8.1
             have k8c:decide (d≤57)=true:=decide_eq_true k8.2
             by_cases k9:e3 < 10000
             ·have k9b:decide (e3 < 10000)=true:=decide_eq_true k9
              go_wp2
              go_roundg (s.size - (i+1))
              case measure=>omega
              case rel=>exact ⟨i+1,e3*10+d - 48,by first | rfl | (congr 1;omega),rfl,by first | rfl | (congr 1;omega),Nat.le_refl _,by omega,by omega,by omega,by repeat (first | exact hW | exact aj.refl _ | apply aj.step)⟩
             ·have k9b:decide (e3 < 10000)=false:=decide_eq_false k9
              go_wp2
              go_roundg (s.size - (i+1))
              case measure=>omega
              case rel=>exact ⟨i+1,e3,by first | rfl | (congr 1;omega),rfl,rfl,Nat.le_refl _,by omega,by omega,by omega,by repeat (first | exact hW | exact aj.refl _ | apply aj.step)⟩
            ·by_cases k8b:48≤d
             ·have k8c:decide (48≤d)=true:=decide_eq_true k8b
              have k8e:decide (d≤57)=false:=decide_eq_false (by omega)
              go_wp2
              all_goals ((refine ⟨i,_,_,_,_,_,_,_,_,_,_,_,_,_,_,_,_,rfl,?_⟩;refine ⟨rfl,⟨rfl,rfl,rfl⟩,⟨_,_,_,_,_,rfl,rfl,rfl,rfl,rfl,?_,?_,?_,?_,?_,?_⟩,trivial,?_,?_,?_,?_⟩ <;> first | omega | (repeat (first | exact hW | exact aj.refl _ | apply aj.step))))
             ·have k8c:decide (48≤d)=false:=decide_eq_false k8b
              go_wp2
              all_goals ((refine ⟨i,_,_,_,_,_,_,_,_,_,_,_,_,_,_,_,_,rfl,?_⟩;refine ⟨rfl,⟨rfl,rfl,rfl⟩,⟨_,_,_,_,_,rfl,rfl,rfl,rfl,rfl,?_,?_,?_,?_,?_,?_⟩,trivial,?_,?_,?_,?_⟩ <;> first | omega | (repeat (first | exact hW | exact aj.refl _ | apply aj.step))))
           ·have c1:decide ((i:Int) < (s.size:Int))=false:=decide_eq_false (by omega)
            have c1':decide (i < s.size)=false:=decide_eq_false h3
            go_wp2
            all_goals ((refine ⟨i,_,_,_,_,_,_,_,_,_,_,_,_,_,_,_,_,rfl,?_⟩;refine ⟨rfl,⟨rfl,rfl,rfl⟩,⟨_,_,_,_,_,rfl,rfl,rfl,rfl,rfl,?_,?_,?_,?_,?_,?_⟩,trivial,?_,?_,?_,?_⟩ <;> first | omega | (repeat (first | exact hW | exact aj.refl _ | apply aj.step))))
         ·by_cases m2:c < 48
          ·have m2b:decide (c < 48)=true:=decide_eq_true m2
           go_wp2
           all_goals (try simp only [Exit.noGoto_ret])
           all_goals refine bodyPost_ret (eF (rs:=[.tmp 2,.tmp 3,.tmp 4,.tmp 5,.tmp 6,.tmp 7,.tmp 8]) rfl (by simp) (.tmp (.tmp (.tmp (.tmp (.tmp (.tmp (.tmp .nil)))))))) rfl ?_
           all_goals first | exact ⟨⟨_,_,_,_,i,_,rfl,by omega,by omega,by omega,by omega,by omega⟩,by repeat (first | exact hW | exact aj.refl _ | apply aj.step)⟩ | exact ⟨⟨_,_,_,_,i+1,_,rfl,by omega,by omega,by omega,by omega,by omega⟩,by repeat (first | exact hW | exact aj.refl _ | apply aj.step)⟩ | exact ⟨⟨_,_,_,_,0,_,rfl,by omega,by omega,by omega,by omega,by omega⟩,by repeat (first | exact hW | exact aj.refl _ | apply aj.step)⟩
          ·have m2b:decide (c < 48)=false:=decide_eq_false m2
           have m2c:decide (57 < c)=true:=decide_eq_true (by omega)
           go_wp2
           all_goals (try simp only [Exit.noGoto_ret])
           all_goals refine bodyPost_ret (eF (rs:=[.tmp 2,.tmp 3,.tmp 4,.tmp 5,.tmp 6,.tmp 7,.tmp 8]) rfl (by simp) (.tmp (.tmp (.tmp (.tmp (.tmp (.tmp (.tmp .nil)))))))) rfl ?_
           all_goals first | exact ⟨⟨_,_,_,_,i,_,rfl,by omega,by omega,by omega,by omega,by omega⟩,by repeat (first | exact hW | exact aj.refl _ | apply aj.step)⟩ | exact ⟨⟨_,_,_,_,i+1,_,rfl,by omega,by omega,by omega,by omega,by omega⟩,by repeat (first | exact hW | exact aj.refl _ | apply aj.step)⟩ | exact ⟨⟨_,_,_,_,0,_,rfl,by omega,by omega,by omega,by omega,by omega⟩,by repeat (first | exact hW | exact aj.refl _ | apply aj.step)⟩
        ·have d1:decide ((s.size:Int)≤(i:Int))=true:=decide_eq_true (by omega)
         have d1b:decide (s.size≤i)=true:=decide_eq_true (by omega)
         go_wp2
         all_goals (try simp only [Exit.noGoto_ret])
         all_goals refine bodyPost_ret (eF (rs:=[.tmp 2,.tmp 3,.tmp 4,.tmp 5,.tmp 6,.tmp 7,.tmp 8]) rfl (by simp) (.tmp (.tmp (.tmp (.tmp (.tmp (.tmp (.tmp .nil)))))))) rfl ?_
         all_goals first | exact ⟨⟨_,_,_,_,i,_,rfl,by omega,by omega,by omega,by omega,by omega⟩,by repeat (first | exact hW | exact aj.refl _ | apply aj.step)⟩ | exact ⟨⟨_,_,_,_,i+1,_,rfl,by omega,by omega,by omega,by omega,by omega⟩,by repeat (first | exact hW | exact aj.refl _ | apply aj.step)⟩ | exact ⟨⟨_,_,_,_,0,_,rfl,by omega,by omega,by omega,by omega,by omega⟩,by repeat (first | exact hW | exact aj.refl _ | apply aj.step)⟩
      ·have d1:decide ((s.size:Int)≤(i:Int)+1)=true:=decide_eq_true (by omega)
       have d1b:decide (s.size≤i+1)=true:=decide_eq_true (by omega)
       go_wp2_with (first | (go_at_call 137;refine (hlower _).mono ?_;rintro e w5 ⟨rfl,⟨m5,rfl⟩⟩))
       all_goals (try simp only [Exit.noGoto_ret])
       all_goals refine bodyPost_ret (eF (rs:=[.tmp 2,.tmp 3,.tmp 4,.tmp 5,.tmp 6,.tmp 7,.tmp 8]) rfl (by simp) (.tmp (.tmp (.tmp (.tmp (.tmp (.tmp (.tmp .nil)))))))) rfl ?_
       all_goals first | exact ⟨⟨_,_,_,_,i,_,rfl,by omega,by omega,by omega,by omega,by omega⟩,by repeat (first | exact hW | exact aj.refl _ | apply aj.step)⟩ | exact ⟨⟨_,_,_,_,i+1,_,rfl,by omega,by omega,by omega,by omega,by omega⟩,by repeat (first | exact hW | exact aj.refl _ | apply aj.step)⟩ | exact ⟨⟨_,_,_,_,0,_,rfl,by omega,by omega,by omega,by omega,by omega⟩,by repeat (first | exact hW | exact aj.refl _ | apply aj.step)⟩
     ·have hLb:(L == 101)=false:=beq_eq_false_iff_ne.mpr hL2
      clear hL
      go_wp2_with (first | (go_at_call 137;refine (hlower _).mono ?_;rintro e w5 ⟨rfl,⟨m5,rfl⟩⟩))
      (refine ⟨i,_,_,_,_,_,_,_,_,_,_,_,_,_,_,_,_,rfl,?_⟩;refine ⟨rfl,⟨rfl,rfl,rfl⟩,⟨_,_,_,_,_,rfl,rfl,rfl,rfl,rfl,?_,?_,?_,?_,?_,?_⟩,trivial,?_,?_,?_,?_⟩ <;> first | omega | (repeat (first | exact hW | exact aj.refl _ | apply aj.step)))
    ·have c1:decide ((i:Int) < (s.size:Int))=false:=decide_eq_false (by omega)
     have c1':decide (i < s.size)=false:=decide_eq_false hi
     go_wp2
     (refine ⟨i,_,_,_,_,_,_,_,_,_,_,_,_,_,_,_,_,rfl,?_⟩;refine ⟨rfl,⟨rfl,rfl,rfl⟩,⟨_,_,_,_,_,rfl,rfl,rfl,rfl,rfl,?_,?_,?_,?_,?_,?_⟩,trivial,?_,?_,?_,?_⟩ <;> first | omega | (repeat (first | exact hW | exact aj.refl _ | apply aj.step)))
   rintro f W ⟨i,m,ng,tr,u1,v10,v11,v12,v13,v14,v15,v16,v17,v18,v19,v20,t,rfl,ht,hC,hD,hE,hi1,hm0,hm1,hW⟩
   obtain ⟨v,rfl⟩:∃ v:Nat→Value,t=[v 0,v 1,v 2,v 3,v 4,v 5,v 6,v 7,v 8,v 9,v 10,v 11,v 12,v 13,v 14,v 15,v 16,v 17,v 18,v 19,v 20,v 21,v 22,v 23,v 24,v 25,v 26,v 27,v 28,v 29,v 30,v 31,v 32,v 33,v 34,v 35,v 36,v 37,v 38,v 39,v 40,v 41,v 42,v 43,v 44,v 45,v 46,v 47,v 48,v 49,v 50,v 51,v 52,v 53,v 54,v 55,v 56,v 57,v 58,v 59,v 60,v 61,v 62,v 63,v 64,v 65,v 66,v 67,v 68,v 69,v 70,v 71,v 72,v 73,v 74,v 75,v 76,v 77,v 78,v 79,v 80,v 81,v 82,v 83,v 84,v 85,v 86,v 87,v 88,v 89,v 90,v 91,v 92,v 93,v 94,v 95,v 96,v 97,v 98,v 99,v 100,v 101,v 102,v 103,v 104,v 105,v 106,v 107,v 108,v 109,v 110,v 111,v 112,v 113,v 114,v 115,v 116,v 117,v 118,v 119,v 120,v 121,v 122,v 123,v 124,v 125,v 126,v 127,v 128,v 129,v 130,v 131,v 132,v 133,v 134,v 135,v 136,v 137,v 138,v 139,v 140,v 141,v 142,v 143,v 144,v 145,v 146,v 147,v 148,v 149,v 150,v 151,v 152,v 153,v 154,v 155,v 156,v 157,v 158,v 159,v 160,v 161,v 162,v 163,v 164,v 165,v 166,v 167,v 168,v 169,v 170,v 171,v 172,v 173,v 174,v 175,v 176,v 177,v 178,v 179,v 180,v 181,v 182,v 183,v 184,v 185,v 186,v 187,v 188,v 189,v 190,v 191,v 192,v 193,v 194,v 195,v 196,v 197,v 198,v 199,v 200,v 201,v 202,v 203,v 204,v 205,v 206,v 207,v 208,v 209,v 210,v 211,v 212,v 213,v 214,v 215,v 216,v 217,v 218,v 219,v 220,v 221,v 222,v 223,v 224,v 225,v 226,v 227,v 228,v 229,v 230,v 231]:=⟨fun i=>t.getD i undef,qI t ht⟩
   clear ht
   obtain ⟨rfl,rfl,rfl⟩:=hC
   obtain ⟨b13,b14,x15,x16,x17,rfl,rfl,rfl,rfl,rfl,y1,y2,y3,y4,y5,y6⟩:=hD
   by_cases km:m=0
   ·have kmb:(m != 0)=false:=bne_eq_false_iff_eq.mpr km
    go_wp2
    all_goals (try simp only [Exit.noGoto_ret])
    all_goals refine bodyPost_ret (eF (rs:=[.tmp 2,.tmp 3,.tmp 4,.tmp 5,.tmp 6,.tmp 7,.tmp 8]) rfl (by simp) (.tmp (.tmp (.tmp (.tmp (.tmp (.tmp (.tmp .nil)))))))) rfl ?_
    all_goals first | exact ⟨⟨_,_,_,_,i,_,rfl,by omega,by omega,by omega,by omega,by omega⟩,by repeat (first | exact hW | exact aj.refl _ | apply aj.step)⟩ | exact ⟨⟨_,_,_,_,i+1,_,rfl,by omega,by omega,by omega,by omega,by omega⟩,by repeat (first | exact hW | exact aj.refl _ | apply aj.step)⟩ | exact ⟨⟨_,_,_,_,0,_,rfl,by omega,by omega,by omega,by omega,by omega⟩,by repeat (first | exact hW | exact aj.refl _ | apply aj.step)⟩
   ·have kmb:(m != 0)=true:=bne_iff_ne.mpr km
    go_wp2
    all_goals (try simp only [Exit.noGoto_ret])
    all_goals refine bodyPost_ret (eF (rs:=[.tmp 2,.tmp 3,.tmp 4,.tmp 5,.tmp 6,.tmp 7,.tmp 8]) rfl (by simp) (.tmp (.tmp (.tmp (.tmp (.tmp (.tmp (.tmp .nil)))))))) rfl ?_
    all_goals first | exact ⟨⟨_,_,_,_,i,_,rfl,by omega,by omega,by omega,by omega,by omega⟩,by repeat (first | exact hW | exact aj.refl _ | apply aj.step)⟩ | exact ⟨⟨_,_,_,_,i+1,_,rfl,by omega,by omega,by omega,by omega,by omega⟩,by repeat (first | exact hW | exact aj.refl _ | apply aj.step)⟩ | exact ⟨⟨_,_,_,_,0,_,rfl,by omega,by omega,by omega,by omega,by omega⟩,by repeat (first | exact hW | exact aj.refl _ | apply aj.step)⟩
end Go.Proofs.YtpgfjbimodnkeaaGreatDoor.Dec
