/- FnGjMap: whatever text comes in, the law returns true and the text reads afterwards as before; with the thirteen package-level variables that its row lists as the program's own text lays them (the tied card) (part 3 of 19: lemmas for its last part) -/
import Derived.WalkMore
import GoSem.PinnedTables
import Derived.Test.YtpgfjbimodnkeaaGreatDoorMpd1
import Derived.Test.YtpgfjbimodnkeaaGreatDoorMpd2
set_option maxHeartbeats 16000000
set_option maxRecDepth 100000
set_option linter.unusedVariables false
set_option linter.unusedSimpArgs false
namespace Go.Proofs.YtpgfjbimodnkeaaGreatDoor.Dec
open Go Go.RowKit Go.Proofs.YtpgfjbimodnkeaaGreatDoorW.PrintWords Go.Proofs.YtpgfjbimodnkeaaGreatDoorW.PrintLast Go.Proofs.YtpgfjbimodnkeaaGreatDoorW.PrintMore
attribute [local go_sem] add0
def xJ (g:Nat) (w W:World):Prop:=∃ a nd dp neg tr,dB W g a nd dp neg tr∧Good a nd∧-1000000000≤dp∧dp≤1000000000∧Below g w W
structure SD (g:Nat) (w:World) (a:Nat→Int) (n dp:Int) (W:World):Prop where mk :: (out:∃ neg tr,dB W g a n dp neg tr∧Below g w W)
section
variable {g:Nat} {w W:World} {a:Nat→Int} {n dp:Int}
theorem SD.neg (h:SD g w a n dp W) (x:Bool):SD g w a n dp (W.setCell ⟨g,802,none⟩ (.bool x)):=by
 obtain ⟨ng,tr,h1,h2⟩:=h
 exact ⟨_,_,h1.BN x,h2.setCell (Nat.le_refl _) _⟩
theorem SD.tr (h:SD g w a n dp W) (x:Bool):SD g w a n dp (W.setCell ⟨g,803,none⟩ (.bool x)):=by
 obtain ⟨ng,tr,h1,h2⟩:=h
 exact ⟨_,_,h1.tX x,h2.setCell (Nat.le_refl _) _⟩
theorem SD.nd (h:SD g w a n dp W) (x:Int):SD g w a x dp (W.setCell ⟨g,800,none⟩ (.int .i64 x)):=by
 obtain ⟨ng,tr,h1,h2⟩:=h
 exact ⟨_,_,h1.nM x,h2.setCell (Nat.le_refl _) _⟩
theorem SD.dp' (h:SD g w a n dp W) (x:Int):SD g w a n x (W.setCell ⟨g,801,none⟩ (.int .i64 x)):=by
 obtain ⟨ng,tr,h1,h2⟩:=h
 exact ⟨_,_,h1.oM x,h2.setCell (Nat.le_refl _) _⟩
theorem SD.dig (h:SD g w a n dp W) {i:Nat} (hi:i < 800) (x:Int):SD g w (upd a i x) n dp (W.setCell ⟨g,i,none⟩ (.int .u8 x)):=by
 obtain ⟨ng,tr,h1,h2⟩:=h
 exact ⟨_,_,h1.lD hi x,h2.setCell (Nat.le_refl _) _⟩
theorem SD.drewN (h:SD g w a n dp W) (m:Nat):SD g w a n dp (W.drewN m):=by
 obtain ⟨ng,tr,h1,h2⟩:=h
 exact ⟨_,_,h1.drewN' m,ag h2 m⟩
theorem SD.drew' (h:SD g w a n dp W):SD g w a n dp W.drew:=by
 obtain ⟨ng,tr,h1,h2⟩:=h
 exact ⟨_,_,h1,h2.drew⟩
theorem SD.post (h:SD g w a n dp W) (hG:Good a n) (h1:-1000000000≤dp) (h2:dp≤1000000000):xJ g w W:=by
 obtain ⟨ng,tr,h3,h4⟩:=h
 exact ⟨_,_,_,_,_,h3,hG,h1,h2,h4⟩
end
theorem Good.push {a:Nat→Int} {n:Nat} {x:Int} (h:Good a n) (hn:n < 800) (h0:48≤x) (h1:x≤57) (hf:n=0→x≠48):Good (upd a n x) (n+1:Nat):=by
 refine ⟨by omega,by omega,fun i hi=>?_,fun _=>?_⟩
 ·by_cases hj:i=n
  ·simp only [upd,if_pos hj];omega
  ·rw [upd,if_neg hj];exact h.dig i (by omega)
 ·by_cases hj:0=n
  ·simp only [upd,if_pos hj];exact hf hj.symm
  ·rw [upd,if_neg hj];exact h.first (by omega)
theorem mO {n:Nat} (t:List Value) (h:t.length=n):t=(List.range n).map (fun i=>t.getD i undef):=by
 subst h
 apply List.ext_getElem
 ·simp
 ·intro i h1 h2
  simp [List.getD_eq_getElem?_getD,h1]
theorem lM {P:Program} {Q:Exit→Act→World→Prop} {a:Act} {w:World} {x y:Code} (J:Act→World→Prop) (hy:∀ a w,J a w→y.wp P Q a w)
 (hx:∀ K:Act→World→Prop,(∀ a w,J a w→K a w)→x.wp P (Exit.then K Q) a w):(Code.seq x y).wp P Q a w:=wp_seq_k fun K hK=>hx K (fun a w h=>hK a w (hy a w h))
def BL (g:Nat) (s:ByteArray) (w:World) (C:Value→Value→Value→Prop) (f:Act) (W:World):Prop :=
 ∃ (i n:Nat) (a1:Nat→Int) (dp1:Int) (u2 u3 v6 v7 v8 v9:Value) (t:List Value),f=⟨(.pointer (some ⟨g,0,none⟩) :: .string s :: u2 :: u3 :: .bool false :: .int .i64 (i:Int) :: v6 :: v7 :: v8 :: v9 :: t).toArray,[]⟩∧t.length=214∧C v6 v7 v8∧i≤s.size∧SD g w a1 n dp1 W∧Good a1 n∧-2000000 - (i:Int)≤dp1∧dp1≤2000000
theorem yc (w:World) (g:Nat) (s:ByteArray) (a:Nat→Int) (neg tr:Bool) (hD:dB w g a 0 0 neg tr) (hs:s.size≤1000000) :
 Calls Tryz.prog 152 #[.pointer (some ⟨g,0,none⟩),.string s] w fun e w'=>sU e∧xJ g w w':=by
 have e1:=hD.je
 have e2:=hD.frozen
 have e3:=hD.at_neg
 have e4:=hD.jC
 have e5:=hD.jX
 have hS:SD g w a (0:Nat) 0 w:=⟨_,_,hD,Below.refl _ _⟩
 have hG:Good a (0:Nat):=⟨by omega,by omega,fun i h=>by omega,fun h=>by omega⟩
 by_cases h0:s.size=0
 ·have c0:decide ((s.size:Int)≤0)=true:=decide_eq_true (by omega)
  have c0':decide (s.size≤0)=true:=decide_eq_true (by omega)
  go_enter Tryz.func152,Tryz.ntmps152
  go_wp2
  all_goals go_ret
  all_goals exact ⟨⟨⟨_,rfl⟩⟩,SD.post (by repeat (with_reducible first | exact hS | apply SD.neg | apply SD.tr | apply SD.dp' | apply SD.nd | apply SD.dig (hi:=k7) | apply SD.drewN | apply SD.drew')) hG (by omega) (by omega)⟩
 have c0:decide ((s.size:Int)≤0)=false:=decide_eq_false (by omega)
 have c0':decide (s.size≤0)=false:=decide_eq_false (by omega)
 have p1:(0:Int)≤0:=by omega
 have q1:(0:Int) < (s.size:Int):=by omega
 have q1':0 < s.size:=by omega
 have hx:((s[0]'q1').toNat:Int)=bt s 0:=dI s 0 (by simpa using q1')
 go_enter Tryz.func152,Tryz.ntmps152
 repeat (first | (refine lM (x:=Code.seq (Code.region 5 _ _) _) (BL g s w (fun _ _ _=>True)) ?_ (fun K hK=>?_)) | go_values | go_guarded | go_step | go_upon | go_back | (simp only [Int.not_lt,Int.not_le] at *;go_simp) | (go_values <;> (try go_simp)))
 rotate_left
 ·go_wp2
  all_goals first | exact ⟨0,0,a,0,_,_,_,_,_,_,_,rfl,rfl,trivial,by omega,by repeat (with_reducible first | exact hS | apply SD.neg | apply SD.tr | apply SD.dp' | apply SD.nd | apply SD.dig (hi:=k7) | apply SD.drewN | apply SD.drew'),hG,by omega,by omega⟩ | exact ⟨1,0,a,0,_,_,_,_,_,_,_,rfl,rfl,trivial,by omega,by repeat (with_reducible first | exact hS | apply SD.neg | apply SD.tr | apply SD.dp' | apply SD.nd | apply SD.dig (hi:=k7) | apply SD.drewN | apply SD.drew'),hG,by omega,by omega⟩
 rintro f W ⟨i,n,a1,dp1,u2,u3,v6,v7,v8,v9,t,rfl,ht,hC,hi1,hS,hG,hd0,hd1⟩
 obtain ⟨v,rfl⟩:∃ v:Nat→Value,t=[v 0,v 1,v 2,v 3,v 4,v 5,v 6,v 7,v 8,v 9,v 10,v 11,v 12,v 13,v 14,v 15,v 16,v 17,v 18,v 19,v 20,v 21,v 22,v 23,v 24,v 25,v 26,v 27,v 28,v 29,v 30,v 31,v 32,v 33,v 34,v 35,v 36,v 37,v 38,v 39,v 40,v 41,v 42,v 43,v 44,v 45,v 46,v 47,v 48,v 49,v 50,v 51,v 52,v 53,v 54,v 55,v 56,v 57,v 58,v 59,v 60,v 61,v 62,v 63,v 64,v 65,v 66,v 67,v 68,v 69,v 70,v 71,v 72,v 73,v 74,v 75,v 76,v 77,v 78,v 79,v 80,v 81,v 82,v 83,v 84,v 85,v 86,v 87,v 88,v 89,v 90,v 91,v 92,v 93,v 94,v 95,v 96,v 97,v 98,v 99,v 100,v 101,v 102,v 103,v 104,v 105,v 106,v 107,v 108,v 109,v 110,v 111,v 112,v 113,v 114,v 115,v 116,v 117,v 118,v 119,v 120,v 121,v 122,v 123,v 124,v 125,v 126,v 127,v 128,v 129,v 130,v 131,v 132,v 133,v 134,v 135,v 136,v 137,v 138,v 139,v 140,v 141,v 142,v 143,v 144,v 145,v 146,v 147,v 148,v 149,v 150,v 151,v 152,v 153,v 154,v 155,v 156,v 157,v 158,v 159,v 160,v 161,v 162,v 163,v 164,v 165,v 166,v 167,v 168,v 169,v 170,v 171,v 172,v 173,v 174,v 175,v 176,v 177,v 178,v 179,v 180,v 181,v 182,v 183,v 184,v 185,v 186,v 187,v 188,v 189,v 190,v 191,v 192,v 193,v 194,v 195,v 196,v 197,v 198,v 199,v 200,v 201,v 202,v 203,v 204,v 205,v 206,v 207,v 208,v 209,v 210,v 211,v 212,v 213]:=⟨fun i=>t.getD i undef,mO t ht⟩
 clear ht
 obtain ⟨ng1,tr1,hD1,hB1⟩:=hS
 have hS:SD g w a1 n dp1 _:=⟨ng1,tr1,hD1,hB1⟩
 have e1:=hD1.je
 have e2:=hD1.frozen
 have e3:=hD1.at_neg
 have e4:=hD1.jC
 have e5:=hD1.jX
 have hlow:=hG.low
 have hhigh:=hG.high
 clear hC
 repeat (first | (refine lM (x:=Code.block 1 _) (BL g s w (fun v6 v7 _=>∃ b1 b2,v6 = .bool b1∧v7 = .bool b2)) ?_ (fun K hK=>?_)) | go_values | go_guarded | go_step | go_upon | go_back | (simp only [Int.not_lt,Int.not_le] at *;go_simp) | (go_values <;> (try go_simp)))
 rotate_left
 ·go_wp2
  go_loopg [5,6,7] s.size (fun kq v5 v6 v7 w'=>∃ (i n:Nat) (a1:Nat→Int) (dp1:Int) (b1 b2:Bool),v5 = .int .i64 (i:Int)∧v6 = .bool b1∧v7 = .bool b2∧s.size - i≤kq∧i≤s.size∧SD g w a1 n dp1 w'∧Good a1 n∧-2000000 - (i:Int)≤dp1∧dp1≤2000000)
  case atStart=>exact ⟨i,n,a1,dp1,false,false,rfl,rfl,rfl,by omega,by omega,by repeat (with_reducible first | exact hS | apply SD.neg | apply SD.tr | apply SD.dp' | apply SD.nd | apply SD.dig (hi:=k7) | apply SD.drewN | apply SD.drew'),hG,by omega,by omega⟩
  case round =>
   clear hS hG hD1 hB1 e1 e2 e3 e4 e5 hi1 hd0 hd1 hlow hhigh
   obtain ⟨i,n,a1,dp1,b1,b2,rfl,rfl,rfl,hkq,hi1,hS,hG,hd0,hd1⟩:=hrel
   obtain ⟨ng1,tr1,hD1,hB1⟩:=hS
   have hS:SD g w a1 n dp1 wr:=⟨ng1,tr1,hD1,hB1⟩
   have e1:=hD1.je
   have e2:=hD1.frozen
   have e3:=hD1.at_neg
   have e4:=hD1.jC
   have e5:=hD1.jX
   have hlow:=hG.low
   have hhigh:=hG.high
   by_cases hi:i < s.size
   ·have c1:decide ((i:Int) < (s.size:Int))=true:=decide_eq_true (by omega)
    have c1':decide (i < s.size)=true:=decide_eq_true hi
    have p1:(0:Int)≤(i:Int):=by omega
    have q1:(i:Int) < (s.size:Int):=by omega
    have hx:((s[i]'hi).toNat:Int)=bt s (i:Int):=dI s (i:Int) (by simpa using hi)
    obtain ⟨r1,r2⟩:=fP s (i:Int)
    generalize bt s (i:Int)=c at hx r1 r2
    replace p1:=eq_true p1
    replace q1:=eq_true q1
    by_cases k1:c=95
    ·have k1b:(c == 95)=true:=beq_iff_eq.mpr k1
     go_wp2
     go_roundg (s.size - (i+1))
     case measure=>omega
     case rel=>exact ⟨i+1,n,a1,dp1,_,_,by first | rfl | (congr 1;omega),rfl,rfl,Nat.le_refl _,by omega,hS,hG,by omega,by omega⟩
    ·have k1b:(c == 95)=false:=beq_eq_false_iff_ne.mpr k1
     by_cases k2:c=46
     ·have k2b:(c == 46)=true:=beq_iff_eq.mpr k2
      cases b1 with
      | true =>
        go_wp2
        go_ret
        exact ⟨⟨⟨_,rfl⟩⟩,SD.post (by repeat (first | exact hS | apply SD.neg | apply SD.tr | apply SD.dp' | apply SD.nd | apply SD.drewN)) hG (by omega) (by omega)⟩
      | false =>
        go_wp2
        go_roundg (s.size - (i+1))
        case measure=>omega
        case rel=>exact ⟨i+1,n,a1,(n:Int),_,_,by first | rfl | (congr 1;omega),rfl,rfl,Nat.le_refl _,by omega,by repeat (with_reducible first | exact hS | apply SD.neg | apply SD.tr | apply SD.dp' | apply SD.nd | apply SD.dig (hi:=k7) | apply SD.drewN | apply SD.drew'),hG,by omega,by omega⟩
     ·have k2b:(c == 46)=false:=beq_eq_false_iff_ne.mpr k2
      by_cases k3:48≤c∧c≤57
      ·obtain ⟨k3,k4⟩:=k3
       have k3b:decide (48≤c)=true:=decide_eq_true k3
       have k4b:decide (c≤57)=true:=decide_eq_true k4
       by_cases k5:c=48∧n=0
       ·obtain ⟨k5,rfl⟩:=k5
        have k5b:(c == 48)=true:=beq_iff_eq.mpr k5
        have k6b:(((0:Nat):Int) == 0)=true:=rfl
        go_wp2
        go_roundg (s.size - (i+1))
        case measure=>omega
        case rel=>exact ⟨i+1,0,a1,(dp1 - 1),_,_,by first | rfl | (congr 1;omega),rfl,rfl,Nat.le_refl _,by omega,by repeat (with_reducible first | exact hS | apply SD.neg | apply SD.tr | apply SD.dp' | apply SD.nd | apply SD.dig (hi:=k7) | apply SD.drewN | apply SD.drew'),hG,by omega,by omega⟩
       ·by_cases k7:n < 800
        ·have k7b:decide ((n:Int) < 800)=true:=decide_eq_true (by omega)
         have k7c:decide (n < 800)=true:=decide_eq_true k7
         have e6:=hD1.dig (i:=n) k7
         have p2:(0:Int)≤(n:Int):=by omega
         have q2:(n:Int) < 800:=by omega
         replace p2:=eq_true p2
         replace q2:=eq_true q2
         have hG2:=hG.push (x:=c) k7 k3 k4 (fun h0 h1=>k5 ⟨h1,h0⟩)
         by_cases k6:c=48
         ·have k6b:(c == 48)=true:=beq_iff_eq.mpr k6
          have k6c:((n:Int) == 0)=false:=beq_eq_false_iff_ne.mpr (by omega)
          go_wp2
          go_region
          go_wp2
          go_roundg (s.size - (i+1))
          case measure=>omega
          case rel=>exact ⟨i+1,n+1,upd a1 n 48,dp1,_,_,by first | rfl | (congr 1;omega),rfl,rfl,Nat.le_refl _,by omega,by (try rw [show ((n+1:Nat):Int)=(n:Int)+1 from by omega]);repeat (with_reducible first | exact hS | apply SD.neg | apply SD.tr | apply SD.dp' | apply SD.nd | apply SD.dig (hi:=k7) | apply SD.drewN | apply SD.drew'),(by have:=hG2;rw [k6] at this;exact this),by omega,by omega⟩
         ·have k6b:(c == 48)=false:=beq_eq_false_iff_ne.mpr k6
          go_wp2
          go_region
          go_wp2
          go_roundg (s.size - (i+1))
          case measure=>omega
          case rel=>exact ⟨i+1,n+1,upd a1 n c,dp1,_,_,by first | rfl | (congr 1;omega),rfl,rfl,Nat.le_refl _,by omega,by (try rw [show ((n+1:Nat):Int)=(n:Int)+1 from by omega]);repeat (with_reducible first | exact hS | apply SD.neg | apply SD.tr | apply SD.dp' | apply SD.nd | apply SD.dig (hi:=k7) | apply SD.drewN | apply SD.drew'),hG2,by omega,by omega⟩
        ·have k7b:decide ((n:Int) < 800)=false:=decide_eq_false (by omega)
         have k7c:decide (n < 800)=false:=decide_eq_false k7
         have k6c:((n:Int) == 0)=false:=beq_eq_false_iff_ne.mpr (by omega)
         by_cases k6:c=48
         ·have k6b:(c == 48)=true:=beq_iff_eq.mpr k6
          have k8b:(c != 48)=false:=bne_eq_false_iff_eq.mpr k6
          go_wp2
          go_roundg (s.size - (i+1))
          case measure=>omega
          case rel=>exact ⟨i+1,n,a1,dp1,_,_,by first | rfl | (congr 1;omega),rfl,rfl,Nat.le_refl _,by omega,by repeat (with_reducible first | exact hS | apply SD.neg | apply SD.tr | apply SD.dp' | apply SD.nd | apply SD.dig (hi:=k7) | apply SD.drewN | apply SD.drew'),hG,by omega,by omega⟩
         ·have k6b:(c == 48)=false:=beq_eq_false_iff_ne.mpr k6
          have k8b:(c != 48)=true:=bne_iff_ne.mpr k6
          go_wp2
          go_roundg (s.size - (i+1))
          case measure=>omega
          case rel=>exact ⟨i+1,n,a1,dp1,_,_,by first | rfl | (congr 1;omega),rfl,rfl,Nat.le_refl _,by omega,by repeat (with_reducible first | exact hS | apply SD.neg | apply SD.tr | apply SD.dp' | apply SD.nd | apply SD.dig (hi:=k7) | apply SD.drewN | apply SD.drew'),hG,by omega,by omega⟩
      ·have k3x:decide (48≤c)=false∨(decide (48≤c)=true∧decide (c≤57)=false):=by
        by_cases h48:48≤c
        ·exact .inr ⟨decide_eq_true h48,decide_eq_false (by omega)⟩
        ·exact .inl (decide_eq_false h48)
       rcases k3x with k3b | ⟨k3b,k3c⟩
       all_goals go_wp2_with (fail)
       all_goals exact ⟨_,_,_,_,_,_,_,_,_,_,_,rfl,rfl,⟨_,_,rfl,rfl⟩,by omega,by repeat (with_reducible first | exact hS | apply SD.neg | apply SD.tr | apply SD.dp' | apply SD.nd | apply SD.dig (hi:=k7) | apply SD.drewN | apply SD.drew'),hG,by omega,by omega⟩
   ·have c1:decide ((i:Int) < (s.size:Int))=false:=decide_eq_false (by omega)
    have c1':decide (i < s.size)=false:=decide_eq_false hi
    go_wp2_with (fail)
    exact ⟨_,_,_,_,_,_,_,_,_,_,_,rfl,rfl,⟨_,_,rfl,rfl⟩,by omega,by repeat (with_reducible first | exact hS | apply SD.neg | apply SD.tr | apply SD.dp' | apply SD.nd | apply SD.dig (hi:=k7) | apply SD.drewN | apply SD.drew'),hG,by omega,by omega⟩
 rintro f W ⟨i,n,a1,dp1,u2,u3,v6,v7,v8,v9,t,rfl,ht,hC,hi1,hS,hG,hd0,hd1⟩
 obtain ⟨v,rfl⟩:∃ v:Nat→Value,t=[v 0,v 1,v 2,v 3,v 4,v 5,v 6,v 7,v 8,v 9,v 10,v 11,v 12,v 13,v 14,v 15,v 16,v 17,v 18,v 19,v 20,v 21,v 22,v 23,v 24,v 25,v 26,v 27,v 28,v 29,v 30,v 31,v 32,v 33,v 34,v 35,v 36,v 37,v 38,v 39,v 40,v 41,v 42,v 43,v 44,v 45,v 46,v 47,v 48,v 49,v 50,v 51,v 52,v 53,v 54,v 55,v 56,v 57,v 58,v 59,v 60,v 61,v 62,v 63,v 64,v 65,v 66,v 67,v 68,v 69,v 70,v 71,v 72,v 73,v 74,v 75,v 76,v 77,v 78,v 79,v 80,v 81,v 82,v 83,v 84,v 85,v 86,v 87,v 88,v 89,v 90,v 91,v 92,v 93,v 94,v 95,v 96,v 97,v 98,v 99,v 100,v 101,v 102,v 103,v 104,v 105,v 106,v 107,v 108,v 109,v 110,v 111,v 112,v 113,v 114,v 115,v 116,v 117,v 118,v 119,v 120,v 121,v 122,v 123,v 124,v 125,v 126,v 127,v 128,v 129,v 130,v 131,v 132,v 133,v 134,v 135,v 136,v 137,v 138,v 139,v 140,v 141,v 142,v 143,v 144,v 145,v 146,v 147,v 148,v 149,v 150,v 151,v 152,v 153,v 154,v 155,v 156,v 157,v 158,v 159,v 160,v 161,v 162,v 163,v 164,v 165,v 166,v 167,v 168,v 169,v 170,v 171,v 172,v 173,v 174,v 175,v 176,v 177,v 178,v 179,v 180,v 181,v 182,v 183,v 184,v 185,v 186,v 187,v 188,v 189,v 190,v 191,v 192,v 193,v 194,v 195,v 196,v 197,v 198,v 199,v 200,v 201,v 202,v 203,v 204,v 205,v 206,v 207,v 208,v 209,v 210,v 211,v 212,v 213]:=⟨fun i=>t.getD i undef,mO t ht⟩
 clear ht
 obtain ⟨ng1,tr1,hD1,hB1⟩:=hS
 have hS:SD g w a1 n dp1 _:=⟨ng1,tr1,hD1,hB1⟩
 have e1:=hD1.je
 have e2:=hD1.frozen
 have e3:=hD1.at_neg
 have e4:=hD1.jC
 have e5:=hD1.jX
 have hlow:=hG.low
 have hhigh:=hG.high
 obtain ⟨b1,b2,rfl,rfl⟩:=hC
 cases b2 with
 | false =>
   go_wp2
   all_goals go_ret
   all_goals exact ⟨⟨⟨_,rfl⟩⟩,SD.post (by repeat (with_reducible first | exact hS | apply SD.neg | apply SD.tr | apply SD.dp' | apply SD.nd | apply SD.dig (hi:=k7) | apply SD.drewN | apply SD.drew')) hG (by omega) (by omega)⟩
 | true =>
   repeat (first | (refine lM (x:=Code.seq (Code.region 30 _ _) _) (BL g s w (fun _ _ _=>True)) ?_ (fun K hK=>?_)) | go_values | go_guarded | go_step | go_upon | go_back | (simp only [Int.not_lt,Int.not_le] at *;go_simp) | (go_values <;> (try go_simp)))
   rotate_left
   ·cases b1
    all_goals go_wp2
    all_goals exact ⟨_,_,_,_,_,_,_,_,_,_,_,rfl,rfl,trivial,by omega,by repeat (with_reducible first | exact hS | apply SD.neg | apply SD.tr | apply SD.dp' | apply SD.nd | apply SD.dig (hi:=k7) | apply SD.drewN | apply SD.drew'),hG,by omega,by omega⟩
   rintro f W ⟨i,n,a1,dp1,u2,u3,v6,v7,v8,v9,t,rfl,ht,hC,hi1,hS,hG,hd0,hd1⟩
   obtain ⟨v,rfl⟩:∃ v:Nat→Value,t=[v 0,v 1,v 2,v 3,v 4,v 5,v 6,v 7,v 8,v 9,v 10,v 11,v 12,v 13,v 14,v 15,v 16,v 17,v 18,v 19,v 20,v 21,v 22,v 23,v 24,v 25,v 26,v 27,v 28,v 29,v 30,v 31,v 32,v 33,v 34,v 35,v 36,v 37,v 38,v 39,v 40,v 41,v 42,v 43,v 44,v 45,v 46,v 47,v 48,v 49,v 50,v 51,v 52,v 53,v 54,v 55,v 56,v 57,v 58,v 59,v 60,v 61,v 62,v 63,v 64,v 65,v 66,v 67,v 68,v 69,v 70,v 71,v 72,v 73,v 74,v 75,v 76,v 77,v 78,v 79,v 80,v 81,v 82,v 83,v 84,v 85,v 86,v 87,v 88,v 89,v 90,v 91,v 92,v 93,v 94,v 95,v 96,v 97,v 98,v 99,v 100,v 101,v 102,v 103,v 104,v 105,v 106,v 107,v 108,v 109,v 110,v 111,v 112,v 113,v 114,v 115,v 116,v 117,v 118,v 119,v 120,v 121,v 122,v 123,v 124,v 125,v 126,v 127,v 128,v 129,v 130,v 131,v 132,v 133,v 134,v 135,v 136,v 137,v 138,v 139,v 140,v 141,v 142,v 143,v 144,v 145,v 146,v 147,v 148,v 149,v 150,v 151,v 152,v 153,v 154,v 155,v 156,v 157,v 158,v 159,v 160,v 161,v 162,v 163,v 164,v 165,v 166,v 167,v 168,v 169,v 170,v 171,v 172,v 173,v 174,v 175,v 176,v 177,v 178,v 179,v 180,v 181,v 182,v 183,v 184,v 185,v 186,v 187,v 188,v 189,v 190,v 191,v 192,v 193,v 194,v 195,v 196,v 197,v 198,v 199,v 200,v 201,v 202,v 203,v 204,v 205,v 206,v 207,v 208,v 209,v 210,v 211,v 212,v 213]:=⟨fun i=>t.getD i undef,mO t ht⟩
   clear ht
   obtain ⟨ng1,tr1,hD1,hB1⟩:=hS
   have hS:SD g w a1 n dp1 _:=⟨ng1,tr1,hD1,hB1⟩
   have e1:=hD1.je
   have e2:=hD1.frozen
   have e3:=hD1.at_neg
   have e4:=hD1.jC
   have e5:=hD1.jX
   have hlow:=hG.low
   have hhigh:=hG.high
   clear hC
   by_cases hi:i < s.size
   ·have c1:decide ((i:Int) < (s.size:Int))=true:=decide_eq_true (by omega)
    have c1':decide (i < s.size)=true:=decide_eq_true hi
    have p1:(0:Int)≤(i:Int):=by omega
    have q1:(i:Int) < (s.size:Int):=by omega
    have hx:((s[i]'hi).toNat:Int)=bt s (i:Int):=dI s (i:Int) (by simpa using hi)
    obtain ⟨r1,r2⟩:=fP s (i:Int)
    generalize bt s (i:Int)=c at hx r1 r2
    replace p1:=eq_true p1
    replace q1:=eq_true q1
    obtain ⟨L,hL⟩:∃ L,Go.bits .or .u8 c 32=L:=⟨_,rfl⟩
    have hlower:=fun W=>Go.Proofs.YtpgfjbimodnkeaaGreatDoor.Q.gB.calls c L W (by rw [Go.Proofs.YtpgfjbimodnkeaaGreatDoor.Q.gB.f,hL])
    clear hL
    by_cases hL2:L=101
    ·have hLb:(L == 101)=true:=beq_iff_eq.mpr hL2
     by_cases h1:i+1 < s.size
     ·have d1:decide ((s.size:Int)≤(i:Int)+1)=false:=decide_eq_false (by omega)
      have d1b:decide (s.size≤i+1)=false:=decide_eq_false (by omega)
      have p7:(0:Int)≤(i:Int)+1:=by omega
      have q7:(i:Int)+1 < (s.size:Int):=by omega
      have x7:((s[i+1]'h1).toNat:Int)=bt s ((i+1:Nat):Int):=dI s ((i+1:Nat):Int) (by simpa using h1)
      obtain ⟨r7a,r7b⟩:=fP s ((i+1:Nat):Int)
      generalize bt s ((i+1:Nat):Int)=c2 at x7 r7a r7b
      replace p7:=eq_true p7
      replace q7:=eq_true q7
      repeat (first | (refine lM (x:=Code.seq (Code.region 36 _ _) _) (BL g s w (fun _ _ v8=>v8 = .int .i64 1∨v8 = .int .i64 (-1))) ?_ (fun K hK=>?_)) |  (go_at_call 137;refine (hlower _).mono ?_;rintro e w5 ⟨rfl,⟨m5,rfl⟩⟩) | go_values | go_guarded | go_step | go_upon | go_back | (simp only [Int.not_lt,Int.not_le] at *;go_simp) | (go_values <;> (try go_simp)))
      rotate_left
      ·go_wp2
       all_goals first | exact ⟨i+1,_,_,_,_,_,_,_,_,_,_,rfl,rfl,.inl rfl,by omega,by repeat (with_reducible first | exact hS | apply SD.neg | apply SD.tr | apply SD.dp' | apply SD.nd | apply SD.dig (hi:=k7) | apply SD.drewN | apply SD.drew'),hG,by omega,by omega⟩ | exact ⟨i+2,_,_,_,_,_,_,_,_,_,_,rfl,rfl,.inl rfl,by omega,by repeat (with_reducible first | exact hS | apply SD.neg | apply SD.tr | apply SD.dp' | apply SD.nd | apply SD.dig (hi:=k7) | apply SD.drewN | apply SD.drew'),hG,by omega,by omega⟩ | exact ⟨i+2,_,_,_,_,_,_,_,_,_,_,rfl,rfl,.inr rfl,by omega,by repeat (with_reducible first | exact hS | apply SD.neg | apply SD.tr | apply SD.dp' | apply SD.nd | apply SD.dig (hi:=k7) | apply SD.drewN | apply SD.drew'),hG,by omega,by omega⟩
      rintro f W ⟨i,n,a1,dp1,u2,u3,v6,v7,v8,v9,t,rfl,ht,hC,hi1,hS,hG,hd0,hd1⟩
      obtain ⟨v,rfl⟩:∃ v:Nat→Value,t=[v 0,v 1,v 2,v 3,v 4,v 5,v 6,v 7,v 8,v 9,v 10,v 11,v 12,v 13,v 14,v 15,v 16,v 17,v 18,v 19,v 20,v 21,v 22,v 23,v 24,v 25,v 26,v 27,v 28,v 29,v 30,v 31,v 32,v 33,v 34,v 35,v 36,v 37,v 38,v 39,v 40,v 41,v 42,v 43,v 44,v 45,v 46,v 47,v 48,v 49,v 50,v 51,v 52,v 53,v 54,v 55,v 56,v 57,v 58,v 59,v 60,v 61,v 62,v 63,v 64,v 65,v 66,v 67,v 68,v 69,v 70,v 71,v 72,v 73,v 74,v 75,v 76,v 77,v 78,v 79,v 80,v 81,v 82,v 83,v 84,v 85,v 86,v 87,v 88,v 89,v 90,v 91,v 92,v 93,v 94,v 95,v 96,v 97,v 98,v 99,v 100,v 101,v 102,v 103,v 104,v 105,v 106,v 107,v 108,v 109,v 110,v 111,v 112,v 113,v 114,v 115,v 116,v 117,v 118,v 119,v 120,v 121,v 122,v 123,v 124,v 125,v 126,v 127,v 128,v 129,v 130,v 131,v 132,v 133,v 134,v 135,v 136,v 137,v 138,v 139,v 140,v 141,v 142,v 143,v 144,v 145,v 146,v 147,v 148,v 149,v 150,v 151,v 152,v 153,v 154,v 155,v 156,v 157,v 158,v 159,v 160,v 161,v 162,v 163,v 164,v 165,v 166,v 167,v 168,v 169,v 170,v 171,v 172,v 173,v 174,v 175,v 176,v 177,v 178,v 179,v 180,v 181,v 182,v 183,v 184,v 185,v 186,v 187,v 188,v 189,v 190,v 191,v 192,v 193,v 194,v 195,v 196,v 197,v 198,v 199,v 200,v 201,v 202,v 203,v 204,v 205,v 206,v 207,v 208,v 209,v 210,v 211,v 212,v 213]:=⟨fun i=>t.getD i undef,mO t ht⟩
      clear ht
      obtain ⟨ng1,tr1,hD1,hB1⟩:=hS
      have hS:SD g w a1 n dp1 _:=⟨ng1,tr1,hD1,hB1⟩
      have e1:=hD1.je
      have e2:=hD1.frozen
      have e3:=hD1.at_neg
      have e4:=hD1.jC
      have e5:=hD1.jX
      have hlow:=hG.low
      have hhigh:=hG.high
      rcases hC with rfl | rfl
      all_goals
       by_cases hi:i < s.size
       ·have d1:decide ((s.size:Int)≤(i:Int))=false:=decide_eq_false (by omega)
        have d1b:decide (s.size≤i)=false:=decide_eq_false (by omega)
        have p1:(0:Int)≤(i:Int):=by omega
        have q1:(i:Int) < (s.size:Int):=by omega
        have hx:((s[i]'hi).toNat:Int)=bt s (i:Int):=dI s (i:Int) (by simpa using hi)
        obtain ⟨r1,r2⟩:=fP s (i:Int)
        generalize bt s (i:Int)=c at hx r1 r2
        replace p1:=eq_true p1
        replace q1:=eq_true q1
        by_cases m1:48≤c∧c≤57
        ·have m1b:decide (c < 48)=false:=decide_eq_false (by omega)
         have m1c:decide (57 < c)=false:=decide_eq_false (by omega)
         go_wp2
         go_loopg [5,9] s.size (fun kq v5 v9 w'=>∃ (i3:Nat) (e3:Int),v5 = .int .i64 (i3:Int)∧v9 = .int .i64 e3∧s.size - i3≤kq∧i3≤s.size∧0≤e3∧e3≤200000∧SD g w a1 n dp1 w')
         case atStart=>exact ⟨i,0,by first | rfl | (congr 1;omega),rfl,by omega,by omega,by omega,by omega,by repeat (first | exact hS | apply SD.neg | apply SD.tr | apply SD.dp' | apply SD.nd | apply SD.drewN)⟩
         case round =>
          clear hS e1 e2 e3 e4 e5
          obtain ⟨i3,e3,rfl,rfl,hkq3,hi3,he0,he1,hS⟩:=hrel
          obtain ⟨ng1,tr1,hD1,hB1⟩:=hS
          have hS:SD g w a1 n dp1 _:=⟨ng1,tr1,hD1,hB1⟩
          have e1:=hD1.je
          have e2:=hD1.frozen
          have e4:=hD1.jC
          by_cases h3:i3 < s.size
          ·have c1:decide ((i3:Int) < (s.size:Int))=true:=decide_eq_true (by omega)
           have c1':decide (i3 < s.size)=true:=decide_eq_true h3
           have p9:(0:Int)≤((i3:Nat):Int):=by omega
           have q9:((i3:Nat):Int) < (s.size:Int):=by omega
           have x9:((s[i3]'h3).toNat:Int)=bt s ((i3:Nat):Int):=dI s ((i3:Nat):Int) (by simpa using h3)
           obtain ⟨r9a,r9b⟩:=fP s ((i3:Nat):Int)
           generalize bt s ((i3:Nat):Int)=d at x9 r9a r9b
           replace p9:=eq_true p9
           replace q9:=eq_true q9
           by_cases k8:48≤d∧d≤57
           ·have k8b:decide (48≤d)=true:=decide_eq_true k8.1
            have k8c:decide (d≤57)=true:=decide_eq_true k8.2
            have k8d:(d == 95)=false:=beq_eq_false_iff_ne.mpr (by omega)
            by_cases k9:e3 < 10000
            ·have k9b:decide (e3 < 10000)=true:=decide_eq_true k9
             go_wp2
             go_roundg (s.size - (i3+1))
             case measure=>omega
             case rel=>exact ⟨i3+1,e3*10+d - 48,by first | rfl | (congr 1;omega),by first | rfl | (congr 1;omega),Nat.le_refl _,by omega,by omega,by omega,hS⟩
            ·have k9b:decide (e3 < 10000)=false:=decide_eq_false k9
             go_wp2
             go_roundg (s.size - (i3+1))
             case measure=>omega
             case rel=>exact ⟨i3+1,e3,by first | rfl | (congr 1;omega),rfl,Nat.le_refl _,by omega,by omega,by omega,hS⟩
           ·by_cases k9:d=95
            ·have k9b:(d == 95)=true:=beq_iff_eq.mpr k9
             have k8b:decide (d≤57)=false:=decide_eq_false (by omega)
             have k8c:decide (48≤d)=true:=decide_eq_true (by omega)
             go_wp2
             go_roundg (s.size - (i3+1))
             case measure=>omega
             case rel=>exact ⟨i3+1,e3,by first | rfl | (congr 1;omega),rfl,Nat.le_refl _,by omega,by omega,by omega,hS⟩
            ·have k9b:(d == 95)=false:=beq_eq_false_iff_ne.mpr k9
             by_cases k8b:48≤d
             ·have k8c:decide (48≤d)=true:=decide_eq_true k8b
              have k8d:decide (d≤57)=false:=decide_eq_false (by omega)
              go_wp2
              all_goals go_ret
              all_goals exact ⟨⟨⟨_,rfl⟩⟩,SD.post (by repeat (first | exact hS | apply SD.neg | apply SD.tr | apply SD.dp' | apply SD.nd | apply SD.drewN)) hG (by omega) (by omega)⟩
             ·have k8c:decide (48≤d)=false:=decide_eq_false k8b
              go_wp2
              all_goals go_ret
              all_goals exact ⟨⟨⟨_,rfl⟩⟩,SD.post (by repeat (first | exact hS | apply SD.neg | apply SD.tr | apply SD.dp' | apply SD.nd | apply SD.drewN)) hG (by omega) (by omega)⟩
          ·have c1:decide ((i3:Int) < (s.size:Int))=false:=decide_eq_false (by omega)
           have c1':decide (i3 < s.size)=false:=decide_eq_false h3
           go_wp2
           all_goals go_ret
           all_goals exact ⟨⟨⟨_,rfl⟩⟩,SD.post (by repeat (first | exact hS | apply SD.neg | apply SD.tr | apply SD.dp' | apply SD.nd | apply SD.drewN)) hG (by omega) (by omega)⟩
        ·by_cases m2:c < 48
         ·have m2b:decide (c < 48)=true:=decide_eq_true m2
          go_wp2
          all_goals go_ret
          all_goals exact ⟨⟨⟨_,rfl⟩⟩,SD.post (by repeat (with_reducible first | exact hS | apply SD.neg | apply SD.tr | apply SD.dp' | apply SD.nd | apply SD.dig (hi:=k7) | apply SD.drewN | apply SD.drew')) hG (by omega) (by omega)⟩
         ·have m2b:decide (c < 48)=false:=decide_eq_false m2
          have m2c:decide (57 < c)=true:=decide_eq_true (by omega)
          go_wp2
          all_goals go_ret
          all_goals exact ⟨⟨⟨_,rfl⟩⟩,SD.post (by repeat (with_reducible first | exact hS | apply SD.neg | apply SD.tr | apply SD.dp' | apply SD.nd | apply SD.dig (hi:=k7) | apply SD.drewN | apply SD.drew')) hG (by omega) (by omega)⟩
       ·have d1:decide ((s.size:Int)≤(i:Int))=true:=decide_eq_true (by omega)
        have d1b:decide (s.size≤i)=true:=decide_eq_true (by omega)
        go_wp2
        all_goals go_ret
        all_goals exact ⟨⟨⟨_,rfl⟩⟩,SD.post (by repeat (with_reducible first | exact hS | apply SD.neg | apply SD.tr | apply SD.dp' | apply SD.nd | apply SD.dig (hi:=k7) | apply SD.drewN | apply SD.drew')) hG (by omega) (by omega)⟩
     ·have d1:decide ((s.size:Int)≤(i:Int)+1)=true:=decide_eq_true (by omega)
      have d1b:decide (s.size≤i+1)=true:=decide_eq_true (by omega)
      go_wp2_with (first | (go_at_call 137;refine (hlower _).mono ?_;rintro e w5 ⟨rfl,⟨m5,rfl⟩⟩))
      all_goals go_ret
      all_goals exact ⟨⟨⟨_,rfl⟩⟩,SD.post (by repeat (with_reducible first | exact hS | apply SD.neg | apply SD.tr | apply SD.dp' | apply SD.nd | apply SD.dig (hi:=k7) | apply SD.drewN | apply SD.drew')) hG (by omega) (by omega)⟩
    ·have hLb:(L == 101)=false:=beq_eq_false_iff_ne.mpr hL2
     have hne:((i:Int) != (s.size:Int))=true:=bne_iff_ne.mpr (by omega)
     go_wp2_with (first | (go_at_call 137;refine (hlower _).mono ?_;rintro e w5 ⟨rfl,⟨m5,rfl⟩⟩))
     all_goals go_ret
     all_goals exact ⟨⟨⟨_,rfl⟩⟩,SD.post (by repeat (with_reducible first | exact hS | apply SD.neg | apply SD.tr | apply SD.dp' | apply SD.nd | apply SD.dig (hi:=k7) | apply SD.drewN | apply SD.drew')) hG (by omega) (by omega)⟩
   ·have c1:decide ((i:Int) < (s.size:Int))=false:=decide_eq_false (by omega)
    have c1':decide (i < s.size)=false:=decide_eq_false hi
    have hne:((i:Int) != (s.size:Int))=false:=bne_eq_false_iff_eq.mpr (by omega)
    go_wp2
    all_goals go_ret
    all_goals exact ⟨⟨⟨_,rfl⟩⟩,SD.post (by repeat (with_reducible first | exact hS | apply SD.neg | apply SD.tr | apply SD.dp' | apply SD.nd | apply SD.dig (hi:=k7) | apply SD.drewN | apply SD.drew')) hG (by omega) (by omega)⟩
open Go
def fG (k:Nat):Nat × List UInt8:=Go.Pinned.cheatRows.getD k (0,[])
def iY (k:Nat) (j:Nat):Nat:=((fG k).2.getD j 0).toNat
def iH (k:Nat):Nat:=(fG k).2.length
def wS (k:Nat):Bool :=
 (List.range (iH k)).all (fun j=>decide (48≤iY k j) && decide (iY k j≤57)) && (decide (iY k (iH k - 1)≠48)) &&
 decide (10 ^ ((fG k).1 - 1)≤2 ^ k) && decide (2 ^ k < 10 ^ (fG k).1) && decide (val (iY k) 0 (iH k)*2 ^ k=10 ^ (iH k+(fG k).1 - 1)) && decide (0 < (fG k).1) && decide ((fG k).1≤19) && decide (iH k≤42)
theorem yB:∀ k,k < 61→0 < k→wS k=true:=by decide +kernel
theorem zO {k:Nat} (hk:k < 61) (h0:0 < k):Df k (fG k).1 (iH k) (iY k)∧(fG k).1≤19∧iH k≤42:=by
 have h:=yB k hk h0
 simp only [wS,Bool.and_eq_true,decide_eq_true_eq,List.all_eq_true,List.mem_range] at h
 obtain ⟨⟨⟨⟨⟨⟨⟨h1,h2⟩,h3⟩,h4⟩,h5⟩,h6⟩,h7⟩,h8⟩:=h
 exact ⟨⟨h1,fun _=>h2,h3,h4,h5,h6⟩,h7,h8⟩
open Go Go.RowKit Go.Proofs.YtpgfjbimodnkeaaGreatDoorW.PrintWords
def dn (a:Nat→Int):Nat→Nat:=fun j=>(a j).toNat
def cn (s:ByteArray):Nat→Nat:=fun j=>(bt s j).toNat
def iW (k:Nat):ByteArray:=⟨(fG k).2.toArray⟩
theorem kS (k:Nat):(iW k).size=iH k:=by
 simp [iW,iH,ByteArray.size]
theorem uT (k:Nat):cn (iW k)=iY k:=by
 funext j
 have hb:(iW k).size=(fG k).2.length:=kS k
 by_cases h:j < (iW k).size
 ·simp only [cn,bt,Int.toNat_natCast,iY,dif_pos h]
  have h':j < (fG k).2.length:=by omega
  simp [iW,ByteArray.getElem_eq_getElem_data,List.getD_eq_getElem?_getD,h']
 ·simp only [cn,bt,Int.toNat_natCast,iY,dif_neg h]
  have h':(fG k).2.length≤j:=by omega
  simp [List.getD_eq_getElem?_getD,h']
def uj (w:World):Prop :=
 ∃ (b:Addr) (cc:Nat),w.cell? ⟨10,0,none⟩=some (.slice (some b) 61 cc)∧∀ k,k < 61 →
  w.cell? (b.add (k*2))=some (.int .i64 ((fG k).1:Nat))∧w.cell? ⟨(b.add (k*2)).block,(b.add (k*2)).off+1,none⟩=some (.string (iW k))
attribute [local go_sem] add0
theorem wH (w:World) (g n:Nat) (a:Nat→Int) (nd dp:Int) (neg tr:Bool) (s:ByteArray) (hD:dB w g a nd dp neg tr) (h:Good a n) (hs:s.size≤1000) :
 Calls Tryz.prog 181 #[.slice (some ⟨g,0,none⟩) n 800,.string s] w fun e w'=>e = .returned (.bool (less (dn a) (cn s) 0 n 0 s.size))∧ai w w':=by
 go_enter Tryz.func181,Tryz.ntmps181
 go_wp2
 repeat (go_quiet (fail);try go_wp2)
 go_loopg [5] s.size (fun kq v5 w'=>∃ (i:Nat),v5 = .int .i64 (i:Int)∧kq=s.size - i∧i≤s.size∧i≤n∧less (dn a) (cn s) 0 n 0 s.size=less (dn a) (cn s) i (n - i) i (s.size - i)∧ai w w')
 case atStart=>exact ⟨0,rfl,rfl,by omega,by omega,rfl,ai.refl _⟩
 case round =>
  obtain ⟨i,rfl,hk,hi,hin,he,hW⟩:=hrel
  obtain ⟨m,rfl⟩:=hW
  have hn:=h.high
  have wi:IntKind.i64.wrap ((i:Int)+1)=((i+1:Nat):Int):=by rw [bW];unfold wrap64;omega
  by_cases c1:i < s.size
  ·have c1b:decide ((i:Int) < (s.size:Int))=true:=decide_eq_true (by omega)
   obtain ⟨L,hL⟩:∃ L,s.size - i=L+1:=⟨s.size - i - 1,by omega⟩
   by_cases c2:n≤i
   ·have c2b:decide ((n:Int)≤(i:Int))=true:=decide_eq_true (by omega)
    have hz:n - i=0:=by omega
    go_wp2
    repeat (go_quiet (fail);try go_wp2)
    go_ret
    refine ⟨?_,by repeat (first | exact ai.refl _ | apply ai.step)⟩
    rw [he,hL,hz];rfl
   ·have c2b:decide ((n:Int)≤(i:Int))=false:=decide_eq_false (by omega)
    obtain ⟨N,hN⟩:∃ N,n - i=N+1:=⟨n - i - 1,by omega⟩
    have e3:=hD.dig (i:=i) (by omega)
    have p1:0≤(i:Int):=by omega
    have q1:(i:Int) < (n:Int):=by omega
    have q2:(i:Int) < (s.size:Int):=by omega
    have hx:((s[i]'c1).toNat:Int)=bt s (i:Int):=dI s (i:Int) (by simpa using c1)
    have r1:=fP s (i:Int)
    have r2:=h.dig i (by omega)
    have r2:=h.dig i (by omega)
    replace p1:=eq_true p1
    replace q1:=eq_true q1
    replace q2:=eq_true q2
    by_cases c3:a i=bt s i
    ·have c3b:(a i != bt s i)=false:=bne_eq_false_iff_eq.mpr c3
     go_wp2
     repeat (go_quiet (fail);try go_wp2)
     go_roundg (s.size - (i+1))
     case measure=>omega
     case rel =>
      refine ⟨i+1,rfl,rfl,by omega,by omega,?_,by repeat (first | exact ai.refl _ | apply ai.step)⟩
      rw [he,hL,hN]
      have:dn a i=cn s i:=by simp [dn,cn,c3]
      simp only [less,this,if_true]
      congr 1 <;> omega
    ·have c3b:(a i != bt s i)=true:=bne_iff_ne.mpr c3
     go_wp2
     repeat (go_quiet (fail);try go_wp2)
     go_ret
     refine ⟨?_,by repeat (first | exact ai.refl _ | apply ai.step)⟩
     rw [he,hL,hN]
     have:dn a i≠cn s i:=by simp only [dn,cn];omega
     simp only [less,this,if_false]
     have:(decide (a i < bt s i))=decide (dn a i < cn s i):=by
      simp only [dn,cn]
      congr 1
      exact propext (by omega)
     first | (rw [this];rfl) | (simp [this];done) | (rw [this];simp)
  ·have c1b:decide ((i:Int) < (s.size:Int))=false:=decide_eq_false (by omega)
   have hz:s.size - i=0:=by omega
   go_wp2
   repeat (go_quiet (fail);try go_wp2)
   go_ret
   refine ⟨?_,by repeat (first | exact ai.refl _ | apply ai.step)⟩
   rw [he,hz];simp [less]
attribute [local go_sem] add0
theorem nN (w:World) (g:Nat) (a:Nat→Int) (nd dp:Int) (neg tr:Bool) (hD:dB w g a nd dp neg tr) (h:Good a nd) :
 Calls Tryz.prog 182 #[.pointer (some ⟨g,0,none⟩)] w fun e w'=>e = .returned (.tuple #[])∧∃ nd' dp',dB w' g a nd' dp' neg tr∧Good a nd'∧nd'≤nd∧(0 < nd→0 < nd'∧dp'=dp)∧(dp'=dp∨dp'=0)∧Below g w w':=by
 have HB:=Below.refl g w
 go_enter Tryz.func182,Tryz.ntmps182
 go_wp2
 repeat (go_quiet (fail);try go_wp2)
 go_loopg [] nd.toNat (fun kq w'=>∃ (n:Int),kq=n.toNat∧dB w' g a n dp neg tr∧Good a n∧n≤nd∧(0 < nd→0 < n)∧Below g w w')
 case atStart=>exact ⟨nd,rfl,hD,h,Int.le_refl _,id,HB⟩
 case round =>
  obtain ⟨n,hn,hD,hG,hle,hpos,HB⟩:=hrel
  have e1:=hD.je
  have e2:=hD.frozen
  have e4:=hD.jC
  by_cases c:0 < n
  ·have c1:decide (0 < n)=true:=decide_eq_true c
   obtain ⟨m,rfl⟩:∃ m:Nat,n=(m:Int)+1:=⟨(n - 1).toNat,by omega⟩
   have hm:=hG.high
   have hw:IntKind.i64.wrap ((m:Int)+1 - 1)=(m:Int):=by rw [bW];unfold wrap64;omega
   have e3:=hD.dig (i:=m) (by omega)
   have p1:0≤(m:Int):=by omega
   have q1:(m:Int) < 800:=by omega
   replace p1:=eq_true p1
   replace q1:=eq_true q1
   by_cases c2:a m=48
   ·have c2b:(a m == 48)=true:=beq_iff_eq.mpr c2
    have hm0:0 < m:=by
     refine Nat.pos_of_ne_zero (fun h0=>?_)
     subst h0
     exact hG.first (by omega) c2
    go_wp2
    repeat (go_quiet (fail);try go_wp2)
    go_roundg m
    case measure=>omega
    case rel=>exact ⟨(m:Int),by omega,(hD.drewN' _).nM _,hG.less (by omega) (by omega),by omega,fun _=>by omega,(ag HB _).setCell (Nat.le_refl _) _⟩
   ·have c2b:(a m == 48)=false:=beq_eq_false_iff_ne.mpr c2
    have c3:((m:Int)+1 == 0)=false:=beq_eq_false_iff_ne.mpr (by omega)
    go_wp2
    repeat (go_quiet (fail);try go_wp2)
    first | go_end0 | ((try simp only [Exit.inBlock,Exit.then]);refine bodyPost_ret (results_none rfl _ _ _) rfl ?_)
    exact ⟨by first | rfl | simp,_,_,hD.drewN' _,hG,hle,fun hp=>⟨hpos hp,rfl⟩,.inl rfl,ag HB _⟩
  ·have c1:decide (0 < n)=false:=decide_eq_false c
   have hz:n=0:=by have:=hG.low;omega
   subst hz
   have c3:((0:Int) == 0)=true:=rfl
   go_wp2
   repeat (go_quiet (fail);try go_wp2)
   first | go_end0 | ((try simp only [Exit.inBlock,Exit.then]);refine bodyPost_ret (results_none rfl _ _ _) rfl ?_)
   exact ⟨by first | rfl | simp,_,_,(hD.drewN' _).oM _,hG,hle,fun hp=>absurd (hpos hp) (by omega),.inr rfl,(ag HB _).setCell (Nat.le_refl _) _⟩
attribute [local go_sem] add0
theorem kR {x:Int} (h0:0≤x) (h1:x < 18446744073709551616):IntKind.u64.wrap x=x:=by
 simp [IntKind.wrap,IntKind.bits,IntKind.signed];omega
structure D5 (a a1:Nat→Int) (nd R δ k:Nat):Prop where
 same:∀ j,j < R+δ→a1 j=a j
 dig:∀ j,R+δ≤j→j < nd+δ→j < 800→48≤a1 j∧a1 j≤57
 last:R < nd→R+δ < 800→a1 (R+δ)=48+((val (dn a) R (nd - R)*2 ^ k / 10 ^ (nd - R - 1) % 10:Nat):Int)
theorem vI (w:World) (g k:Nat) (a:Nat→Int) (nd dp:Int) (neg tr:Bool) (hD:dB w g a nd dp neg tr) (h:Good a nd) (hnd:0 < nd) (hk0:0 < k) (hk:k < 61)
 (hdp:-1000000000≤dp∧dp≤1000000000) (hT:uj w) :
 Calls Tryz.prog 174 #[.pointer (some ⟨g,0,none⟩),.int .u64 k] w fun e w'=>e = .returned (.tuple #[])∧∃ a' nd' dp' tr',dB w' g a' nd' dp' neg tr'∧Good a' nd'∧0 < nd' ∧
  dp≤dp'∧dp'≤dp+19∧(dp'=dp→a 0 < a' 0)∧Below g w w':=by
 have HB:=Below.refl g w
 obtain ⟨b,cc,t1,t2⟩:=hT
 obtain ⟨N,rfl⟩:∃ N:Nat,nd=N:=⟨nd.toNat,by omega⟩
 have t3:=(t2 k hk).1
 have t4:=(t2 k hk).2
 have e1:=hD.je
 have e2:=hD.frozen
 have e4:=hD.jC
 have hN:=h.high
 have q1:((k:Int) < 61):=by omega
 have p1:(0≤(k:Int)):=by omega
 have p2:(0≤(N:Int)):=by omega
 have q2:((N:Int)≤800):=by omega
 replace p1:=eq_true p1
 replace q1:=eq_true q1
 replace p2:=eq_true p2
 replace q2:=eq_true q2
 obtain ⟨hC,hC1,hC2⟩:=zO hk hk0
 have hless:=wH (n:=N) (s:=iW k) (g:=g) (a:=a) (nd:=N) (dp:=dp) (neg:=neg) (tr:=tr)
 go_enter Tryz.func174,Tryz.ntmps174
 go_wp2
 go_quiet (first | (go_at_call 181;refine (hless _ (hD.drewN _) h (by rw [kS];omega)).mono ?_;rintro e w' ⟨rfl,⟨m,rfl⟩⟩;first | exact ⟨rfl,_,rfl⟩ | exact ⟨rfl,_,World.drewN_drewN _ _ _⟩))
 rw [uT,kS]
 have hA:∀ j,j < N→kE (dn a j):=fun j hj=>by have:=h.dig j (by omega);unfold kE dn;omega
 have hA0:dn a 0≠48:=by have:=h.dig 0 (by omega);have:=h.first hnd;unfold dn;omega
 have hsb:=tZ hC (by omega:0 < N) hA hA0
 obtain ⟨δ,hδ⟩:∃ δ,(if less (dn a) (iY k) 0 N 0 (iH k) then (fG k).1 - 1 else (fG k).1)=δ:=⟨_,rfl⟩
 simp only [hδ] at hsb
 obtain ⟨hs1,hs2⟩:=hsb
 have hC3:=hC.pos
 have hδ19:δ≤19:=by rw [← hδ];split <;> omega
 have hl:(less (dn a) (iY k) 0 N 0 (iH k)=true∧(fG k).1=δ+1)∨(less (dn a) (iY k) 0 N 0 (iH k)=false∧δ=(fG k).1):=by
  cases hq:less (dn a) (iY k) 0 N 0 (iH k)
  ·right;refine ⟨rfl,?_⟩;rw [hq] at hδ;simp at hδ;omega
  ·left;refine ⟨rfl,?_⟩;rw [hq] at hδ;simp at hδ;omega
 clear hδ hless t2
 have w1:IntKind.i64.wrap ((N:Int)+δ)=(N:Int)+δ:=by rw [bW];unfold wrap64;omega
 clear hC hC1 hC2 t4 t1
 generalize (fG k).1=D at *
 have hlast:δ=0→a 0 - 48 < ((val (dn a) 0 N*2 ^ k / 10 ^ (N - 1) % 10:Nat):Int):=by
  intro h0
  subst h0
  obtain ⟨M,rfl⟩:∃ M,N=M+1:=⟨N - 1,by omega⟩
  have hp:0 < 10 ^ M:=Nat.pow_pos (by decide)
  have g1:val (dn a) 0 (M+1)*2 ^ k / 10 ^ M < 10:=by
   rw [Nat.div_lt_iff_lt_mul hp]
   have:=(Nat.div_lt_iff_lt_mul (Nat.pow_pos (by decide):0 < 10 ^ (M+1))).mp hs1
   rw [Nat.pow_zero,Nat.one_mul,Nat.pow_succ,Nat.mul_comm (10 ^ M)] at this
   exact this
  have g2:(dn a 0 - 48)*2 ^ k≤val (dn a) 0 (M+1)*2 ^ k / 10 ^ M:=by
   rw [← rM (dn a) 0 M (2 ^ k)]
   exact Nat.le_add_right _ _
  have g3:(dn a 0 - 48)*2≤(dn a 0 - 48)*2 ^ k:=Nat.mul_le_mul_left _ (by
   have:=Nat.pow_le_pow_right (show 0 < 2 by decide) hk0
   simpa using this)
  have g4:=h.dig 0 (by omega)
  have g5:=h.first hnd
  rw [Nat.add_sub_cancel,Nat.mod_eq_of_lt g1]
  have g6:(dn a 0:Int)=a 0:=by unfold dn;omega
  omega
 rcases hl with ⟨hl,rfl⟩ | ⟨hl,rfl⟩
 all_goals rw [hl]
 all_goals clear hl t3
 all_goals go_wp2
 all_goals
  go_loopg [5,6,7] N (fun kq v5 v6 v7 w'=>∃ (R n:Nat) (a1:Nat→Int) (tr1:Bool),v5 = .int .i64 ((R:Int) - 1)∧v6 = .int .i64 ((R+δ:Nat):Int)∧v7 = .int .u64 (n:Int)∧n=val (dn a) R (N - R)*2 ^ k / 10 ^ (N - R)∧kq=R∧R≤N∧dB w' g a1 N dp neg tr1∧D5 a a1 N R δ k∧Below g w w')
  case atStart=>exact ⟨N,0,a,tr,rfl,by first | rfl | (congr 1;omega),rfl,by simp [val],rfl,Nat.le_refl _,hD.drewN' _,⟨fun _ _=>rfl,fun j h1 h2=>by omega,fun h1=>by omega⟩,ag HB _⟩
  case round =>
   obtain ⟨R,n,a1,tr1,h5,h6,h7,hn,hkq,hR,hD,hL,HB⟩:=hrel
   have e1:=hD.je
   have e2:=hD.frozen
   have e4:=hD.jC
   have e5:=hD.jX
   cases R with
   | zero =>
     rw [show ((0:Nat):Int) - 1=(-1:Int) by omega] at h5
     rw [Nat.zero_add] at h6
     rw [Nat.sub_zero] at hn
     have hdig:∀ j,δ≤j→j < N+δ→j < 800→48≤a1 j∧a1 j≤57:=fun j h1 h2 h3=>hL.dig j (by omega) h2 h3
     have hfirst:δ=0→a 0 < a1 0:=fun h0=>by
      have h1:=hL.last (by omega) (by omega)
      have h2:=hlast h0
      simp only [h0,Nat.sub_zero,Nat.add_zero] at h1
      generalize (val (dn a) 0 N*2 ^ k / 10 ^ (N - 1) % 10)=X at h1 h2
      omega
     rw [← hn] at hs1 hs2
     have AA:=ae.mk (And.intro hn hdig)
     clear hn hL hdig hlast
     subst h5 h6 h7
     have c1:decide (0≤(-1:Int))=false:=rfl
     go_wp2
     go_loopg [6,7] δ (fun kq v6 v7 w'=>∃ (W n:Nat) (a1:Nat→Int) (tr1:Bool),v6 = .int .i64 (W:Int)∧v7 = .int .u64 (n:Int)∧kq=W∧W≤δ∧n < 10 ^ W∧(0 < W→10 ^ (W - 1)≤n)∧dB w' g a1 N dp neg tr1 ∧
      (∀ j,W≤j→j < N+δ→j < 800→48≤a1 j∧a1 j≤57)∧(δ=0→a 0 < a1 0)∧(0 < δ→W=0→a1 0≠48)∧Below g w w')
     case atStart=>exact ⟨δ,n,a1,tr1,rfl,rfl,rfl,Nat.le_refl _,hs1,hs2,hD,AA.out.2,hfirst,fun h1 h2=>by omega,HB⟩
     case round =>
      clear AA hfirst hs1 hs2
      obtain ⟨W,n,a1,tr1,h6,h7,hkq,hWδ,hn1,hn2,hD,hdig,hfirst,hne,HB⟩:=hrel
      have e1:=hD.je
      have e2:=hD.frozen
      have e4:=hD.jC
      have e5:=hD.jX
      have h10:10 ^ W≤10 ^ 19:=Nat.pow_le_pow_right (by decide) (by omega)
      cases W with
      | zero =>
        have hn0:n=0:=by simpa using hn1
        subst hn0
        rw [show ((0:Nat):Int)=0 from rfl] at h6 h7
        subst h6 h7
        have c2:decide (0 < (0:Int))=false:=rfl
        have w2:IntKind.i64.wrap (dp+δ)=dp+δ:=by rw [bW];unfold wrap64;omega
        have hG1:∀ i:Nat,(i:Int) < (N:Int)+δ→(i:Int) < 800→48≤a1 i∧a1 i≤57:=fun i h1 h2=>hdig i (by omega) (by omega) (by omega)
        have hne0:a1 0≠48:=by
         by_cases hd:δ=0
         ·have:=hfirst hd;have:=h.dig 0 (by omega);omega
         ·exact hne (by omega) rfl
        have htrim:=fun (W:World) (n':Int) (hW:dB W g a1 n' (dp+δ) neg tr1) (hG:Good a1 n')=>nN W g a1 n' (dp+δ) neg tr1 hW hG
        by_cases c3:800≤(N:Int)+δ
        ·have c3b:decide (800≤(N:Int)+δ)=true:=decide_eq_true c3
         have hG:Good a1 800:=⟨by omega,by omega,fun i hi=>hG1 i (by omega) hi,fun _=>hne0⟩
         go_wp2_with (first | (go_at_call 182;refine (htrim _ _ (((hD.nM _).nM _).oM _) hG).mono ?_;rintro e w4 ⟨rfl,nd',dp',hD',hG',hle',hpos',hdp',HB'⟩))
         first | go_end0 | ((try simp only [Exit.inBlock,Exit.then]);refine bodyPost_ret (results_none rfl _ _ _) rfl ?_)
         have hpp:=hpos' (by omega)
         exact ⟨by first | rfl | simp,a1,nd',dp',tr1,hD',hG',hpp.1,by omega,by omega,fun he=>hfirst (by omega),((((HB.setCell (Nat.le_refl _) _).setCell (Nat.le_refl _) _).setCell (Nat.le_refl _) _)).trans HB'⟩
        ·have c3b:decide (800≤(N:Int)+δ)=false:=decide_eq_false c3
         have hG:Good a1 ((N:Int)+δ):=⟨by omega,by omega,fun i hi=>hG1 i hi (by omega),fun _=>hne0⟩
         go_wp2_with (first | (go_at_call 182;refine (htrim _ _ ((hD.nM _).oM _) hG).mono ?_;rintro e w4 ⟨rfl,nd',dp',hD',hG',hle',hpos',hdp',HB'⟩))
         first | go_end0 | ((try simp only [Exit.inBlock,Exit.then]);refine bodyPost_ret (results_none rfl _ _ _) rfl ?_)
         have hpp:=hpos' (by omega)
         exact ⟨by first | rfl | simp,a1,nd',dp',tr1,hD',hG',hpp.1,by omega,by omega,fun he=>hfirst (by omega),(((HB.setCell (Nat.le_refl _) _).setCell (Nat.le_refl _) _)).trans HB'⟩
      | succ W =>
        have hnp:0 < n:=Nat.lt_of_lt_of_le (Nat.pow_pos (by decide)) (hn2 (by omega))
        rw [show ((W+1:Nat):Int)=(W:Int)+1 by omega] at h6
        subst h6 h7
        have c2:decide (0 < (n:Int))=true:=decide_eq_true (by omega)
        have hm1:n / 10 < 10 ^ W:=by
         rw [Nat.div_lt_iff_lt_mul (by decide)];rwa [Nat.pow_succ] at hn1
        have hm2:0 < W→10 ^ (W - 1)≤n / 10:=fun hW=>by
         rw [Nat.le_div_iff_mul_le (by decide)]
         have:=hn2 (by omega)
         rw [Nat.add_sub_cancel] at this
         first | (rwa [← Nat.pow_succ,show (W - 1).succ=W by omega]) | (rw [← Nat.pow_succ,show (W - 1).succ=W by omega];exact this)
        have hm3:W=0→n < 10:=fun hW=>by subst hW;simpa using hn1
        have hnb:n < 18446744073709551616:=by omega
        have AA:=ae.mk (And.intro hm1 (And.intro hm2 hm3))
        clear hm1 hm2 hm3 hn1 hn2
        by_cases c3:W < 800
        ·have c3b:decide ((W:Int) < 800)=true:=decide_eq_true (by omega)
         have e7:=hD.dig (i:=W) c3
         have p4:(0≤(W:Int)):=by omega
         have q4:((W:Int) < 800):=by omega
         replace p4:=eq_true p4
         replace q4:=eq_true q4
         go_wp2
         go_roundg W
         case measure=>omega
         case rel =>
          obtain ⟨hm1,hm2,hm3⟩:=AA.out
          refine ⟨W,n / 10,upd a1 W (((n % 10:Nat):Int)+48),tr1,by first | rfl | (congr 1;omega),by first | rfl | (congr 1;omega),rfl,by omega,hm1,hm2,?_,fun j h1 h2 h3=>?_,fun h0=>by omega,fun h1 h2=>?_,HB.setCell (Nat.le_refl _) _⟩
          ·have:=hD.lD c3 (((n % 10:Nat):Int)+48)
           first | exact this | (rw [show (n:Int) - 10*((n:Int) / 10)+48=((n % 10:Nat):Int)+48 by omega];exact this)
          ·by_cases hj:j=W
           ·simp only [upd,if_pos hj];omega
           ·rw [upd,if_neg hj];exact hdig j (by omega) h2 h3
          ·subst h2
           simp only [upd,if_true]
           have:=hm3 rfl
           omega
        ·omega
   | succ r =>
     rw [show ((r+1:Nat):Int) - 1=(r:Int) by omega] at h5
     rw [show ((r+1+δ:Nat):Int)=((r+δ:Nat):Int)+1 by omega] at h6
     have hnk:n < 2 ^ k:=by
      rw [hn,Nat.div_lt_iff_lt_mul (Nat.pow_pos (by decide)),Nat.mul_comm (2 ^ k)]
      exact Nat.mul_lt_mul_of_pos_right (qy _ _ (fun j _ hj=>hA j (by omega))) (Nat.pow_pos (by decide))
     obtain ⟨c,hc⟩:∃ c,dn a r=c+48:=⟨dn a r - 48,by have:=hA r (by omega);unfold kE at this;omega⟩
     have hc9:c≤9:=by have:=hA r (by omega);unfold kE at this;omega
     have hac:a r=(c:Int)+48:=by have:=hA r (by omega);unfold kE at this;unfold dn at hc this;omega
     have hstep:=vG (dn a) r (N - (r+1)) (2 ^ k)
     have hpre:=rM (dn a) r (N - (r+1)) (2 ^ k)
     rw [← hn,hc,Nat.add_sub_cancel,show N - (r+1)+1=N - r by omega] at hstep hpre
     have hk60:2 ^ k≤2 ^ 60:=Nat.pow_le_pow_right (by decide) (by omega)
     obtain ⟨x,hx⟩:∃ x,c*2 ^ k+n=x:=⟨_,rfl⟩
     have hxb:x < 18446744073709551616:=by
      have:c*2 ^ k≤9*2 ^ 60:=Nat.mul_le_mul hc9 hk60
      omega
     rw [hx] at hstep
     obtain ⟨W,hW⟩:∃ W,r+δ=W:=⟨_,rfl⟩
     rw [hW] at h6
     have hWb:W≤900:=by omega
     subst h5 h6 h7
     have c1:decide (0≤(r:Int))=true:=decide_eq_true (by omega)
     have e6:=hD.dig (i:=r) (by omega)
     rw [hL.same r (by omega),hac] at e6
     have p3:(0≤(r:Int)):=by omega
     have q3:((r:Int) < 800):=by omega
     replace p3:=eq_true p3
     replace q3:=eq_true q3
     have u1:IntKind.u64.wrap ((c:Int)+48)=(c:Int)+48:=kR (by omega) (by omega)
     have u2:IntKind.u64.wrap (c:Int)=(c:Int):=kR (by omega) (by omega)
     have u3:IntKind.u64.wrap ((c:Int)*2 ^ k)=(c:Int)*2 ^ k:=by
      rw [show (c:Int)*2 ^ k=((c*2 ^ k:Nat):Int) by simp]
      exact kR (by omega) (by omega)
     have u4:IntKind.u64.wrap ((n:Int)+(c:Int)*2 ^ k)=(x:Int):=by
      rw [show (c:Int)*2 ^ k=((c*2 ^ k:Nat):Int) by simp]
      rw [show (n:Int)+((c*2 ^ k:Nat):Int)=(x:Int) by omega]
      exact kR (by omega) (by omega)
     have u5:IntKind.u64.wrap ((x:Int).tdiv 10)=((x / 10:Nat):Int):=by
      rw [Int.tdiv_eq_ediv_of_nonneg (by omega)]
      rw [kR (by omega) (by omega)];omega
     have u6:IntKind.u64.wrap (10*((x / 10:Nat):Int))=10*((x / 10:Nat):Int):=by
      rw [kR (by omega) (by omega)]
     have u7:IntKind.u64.wrap ((x:Int) - 10*((x / 10:Nat):Int))=((x % 10:Nat):Int):=by
      rw [kR (by omega) (by omega)];omega
     have hd10:x % 10 < 10:=Nat.mod_lt _ (by decide)
     have u8:IntKind.u64.wrap (((x % 10:Nat):Int)+48)=((x % 10:Nat):Int)+48:=kR (by omega) (by omega)
     have u9:(((x % 10:Nat):Int)+48) % 256=((x % 10:Nat):Int)+48:=by omega
     generalize hxd:x / 10=y at *
     generalize hxm:x % 10=z at *
     have AA:=ae.mk (And.intro hn (And.intro hstep (And.intro hpre (And.intro hx (And.intro hxd (And.intro hxm (And.intro hW (And.intro hc hac))))))))
     clear hn hstep hpre hx hxd hxm hW hc hac
     by_cases c2:W < 800
     ·have c2b:decide ((W:Int) < 800)=true:=decide_eq_true (by omega)
      have e7:=hD.dig (i:=W) c2
      have p4:(0≤(W:Int)):=by omega
      have q4:((W:Int) < 800):=by omega
      replace p4:=eq_true p4
      replace q4:=eq_true q4
      go_wp2
      go_roundg r
      case measure=>omega
      case rel =>
       obtain ⟨hn,hstep,hpre,hx,hxd,hxm,hW,hc,hac⟩:=AA.out
       refine ⟨r,y,upd a1 W ((z:Int)+48),tr1,by first | rfl | (congr 1;omega),by first | rfl | (congr 1;omega),by first | rfl | (congr 1;omega),hstep,rfl,by omega,?_,⟨fun j hj=>?_,fun j h1 h2 h3=>?_,fun h1 h2=>?_⟩,HB.setCell (Nat.le_refl _) _⟩
       ·have:=hD.lD c2 ((z:Int)+48)
        first | exact this | (rw [show (x:Int) - 10*((x:Int) / 10)+48=(z:Int)+48 by omega];exact this)
       ·rw [upd,if_neg (by omega)];exact hL.same j (by omega)
       ·by_cases hj:j=W
        ·simp only [upd,if_pos hj];omega
        ·rw [upd,if_neg hj];exact hL.dig j (by omega) h2 h3
       ·rw [hW]
        simp only [upd,if_true]
        rw [show N - r - 1=N - (r+1) by omega,← hpre,hx,hxm];omega
     ·have c2b:decide ((W:Int) < 800)=false:=decide_eq_false (by omega)
      by_cases c3:z=0
      ·have c3b:(((x:Int) - 10*((x:Int) / 10)) != 0)=false:=bne_eq_false_iff_eq.mpr (by have:=AA.out;omega)
       go_wp2
       go_roundg r
       case measure=>omega
       case rel =>
        obtain ⟨hn,hstep,hpre,hx,hxd,hxm,hW,hc,hac⟩:=AA.out
        exact ⟨r,y,a1,tr1,by first | rfl | (congr 1;omega),by first | rfl | (congr 1;omega),by first | rfl | (congr 1;omega),hstep,rfl,by omega,hD,⟨fun j hj=>hL.same j (by omega),fun j h1 h2 h3=>hL.dig j (by omega) h2 h3,fun h1 h2=>by omega⟩,HB⟩
      ·have c3b:(((x:Int) - 10*((x:Int) / 10)) != 0)=true:=bne_iff_ne.mpr (by have:=AA.out;omega)
       go_wp2
       go_roundg r
       case measure=>omega
       case rel =>
        obtain ⟨hn,hstep,hpre,hx,hxd,hxm,hW,hc,hac⟩:=AA.out
        exact ⟨r,y,a1,true,by first | rfl | (congr 1;omega),by first | rfl | (congr 1;omega),by first | rfl | (congr 1;omega),hstep,rfl,by omega,hD.tX _,⟨fun j hj=>hL.same j (by omega),fun j h1 h2 h3=>hL.dig j (by omega) h2 h3,fun h1 h2=>by omega⟩,HB.setCell (Nat.le_refl _) _⟩
end Go.Proofs.YtpgfjbimodnkeaaGreatDoor.Dec
