/- FnGjGroupText: whatever text comes in, the law returns true and the text reads afterwards as before; with the fourteen package-level variables that its row lists as the text of the program lays them (the tied card) (part 4 of 33: lemmas for its last part) -/
import Derived.WalkMore
import Derived.Test.YtpgfjbimodnkeaaGreatDoorGrp2
set_option maxHeartbeats 16000000
set_option maxRecDepth 100000
set_option linter.unusedVariables false
set_option linter.unusedSimpArgs false
namespace Go.Proofs.YtpgfjbimodnkeaaGreatDoor.Dec
open Go Go.RowKit Go.Proofs.YtpgfjbimodnkeaaGreatDoorW.PrintWords Go.Proofs.YtpgfjbimodnkeaaGreatDoorW.PrintLast Go.Proofs.YtpgfjbimodnkeaaGreatDoorW.PrintMore
attribute [local go_sem] add0
def Ah (g:Nat) (w W:World):Prop:=∃ a nd dp neg tr,dI W g a nd dp neg tr∧Good a nd∧-1000000000≤dp∧dp≤1000000000∧Below g w W
structure SD (g:Nat) (w:World) (a:Nat→Int) (n dp:Int) (W:World):Prop where mk :: (out:∃ neg tr,dI W g a n dp neg tr∧Below g w W)
section
variable {g:Nat} {w W:World} {a:Nat→Int} {n dp:Int}
theorem SD.neg (h:SD g w a n dp W) (x:Bool):SD g w a n dp (W.setCell ⟨g,802,none⟩ (.bool x)):=by
 obtain ⟨ng,tr,h1,h2⟩:=h
 exact ⟨_,_,h1.FM x,h2.setCell (Nat.le_refl _) _⟩
theorem SD.tr (h:SD g w a n dp W) (x:Bool):SD g w a n dp (W.setCell ⟨g,803,none⟩ (.bool x)):=by
 obtain ⟨ng,tr,h1,h2⟩:=h
 exact ⟨_,_,h1.wI x,h2.setCell (Nat.le_refl _) _⟩
theorem SD.nd (h:SD g w a n dp W) (x:Int):SD g w a x dp (W.setCell ⟨g,800,none⟩ (.int .i64 x)):=by
 obtain ⟨ng,tr,h1,h2⟩:=h
 exact ⟨_,_,h1.pF x,h2.setCell (Nat.le_refl _) _⟩
theorem SD.dp' (h:SD g w a n dp W) (x:Int):SD g w a n x (W.setCell ⟨g,801,none⟩ (.int .i64 x)):=by
 obtain ⟨ng,tr,h1,h2⟩:=h
 exact ⟨_,_,h1.qN x,h2.setCell (Nat.le_refl _) _⟩
theorem SD.dig (h:SD g w a n dp W) {i:Nat} (hi:i < 800) (x:Int):SD g w (upd a i x) n dp (W.setCell ⟨g,i,none⟩ (.int .u8 x)):=by
 obtain ⟨ng,tr,h1,h2⟩:=h
 exact ⟨_,_,h1.nC hi x,h2.setCell (Nat.le_refl _) _⟩
theorem SD.drewN (h:SD g w a n dp W) (m:Nat):SD g w a n dp (W.drewN m):=by
 obtain ⟨ng,tr,h1,h2⟩:=h
 exact ⟨_,_,h1.drewN' m,ag h2 m⟩
theorem SD.drew' (h:SD g w a n dp W):SD g w a n dp W.drew:=by
 obtain ⟨ng,tr,h1,h2⟩:=h
 exact ⟨_,_,h1,h2.drew⟩
theorem SD.post (h:SD g w a n dp W) (hG:Good a n) (h1:-1000000000≤dp) (h2:dp≤1000000000):Ah g w W:=by
 obtain ⟨ng,tr,h3,h4⟩:=h
 exact ⟨_,_,_,_,_,h3,hG,h1,h2,h4⟩
end
theorem Good.push {a:Nat→Int} {n:Nat} {x:Int} (h:Good a n) (hn:n < 800) (h0:48≤x) (h1:x≤57) (hf:n=0→x≠48):Good (upd a n x) (n+1:Nat):=by
 refine ⟨by omega,by omega,fun i hi=>?_,fun _=>?_⟩
 ·by_cases hj:i=n
  ·simp only [upd,if_pos hj];omega
  ·rw [upd,if_neg hj];exact h.dig i (by omega)
 ·by_cases hj:0=n
  ·simp only [upd,if_pos hj];exact hf hj.symm
  ·rw [upd,if_neg hj];exact h.first (by omega)
theorem oO {n:Nat} (t:List Value) (h:t.length=n):t=(List.range n).map (fun i=>t.getD i undef):=by
 subst h
 apply List.ext_getElem
 ·simp
 ·intro i h1 h2
  simp [List.getD_eq_getElem?_getD,h1]
theorem ni {P:Program} {Q:Exit→Act→World→Prop} {a:Act} {w:World} {x y:Code} (J:Act→World→Prop) (hy:∀ a w,J a w→y.wp P Q a w)
 (hx:∀ K:Act→World→Prop,(∀ a w,J a w→K a w)→x.wp P (Exit.then K Q) a w):(Code.seq x y).wp P Q a w:=wp_seq_k fun K hK=>hx K (fun a w h=>hK a w (hy a w h))
def Gg (g:Nat) (s:ByteArray) (w:World) (C:Value→Value→Value→Prop) (f:Act) (W:World):Prop :=
 ∃ (i n:Nat) (a1:Nat→Int) (dp1:Int) (u2 u3 v6 v7 v8 v9:Value) (t:List Value),f=⟨(.pointer (some ⟨g,0,none⟩) :: .string s :: u2 :: u3 :: .bool false :: .int .i64 (i:Int) :: v6 :: v7 :: v8 :: v9 :: t).toArray,[]⟩∧t.length=214∧C v6 v7 v8∧i≤s.size∧SD g w a1 n dp1 W∧Good a1 n∧-2000000 - (i:Int)≤dp1∧dp1≤2000000
theorem Cf (w:World) (g:Nat) (s:ByteArray) (a:Nat→Int) (neg tr:Bool) (hD:dI w g a 0 0 neg tr) (hs:s.size≤1000000) :
 Calls Tryz.prog 152 #[.pointer (some ⟨g,0,none⟩),.string s] w fun e w'=>wY e∧Ah g w w':=by
 have e1:=hD.jH
 have e2:=hD.frozen
 have e3:=hD.at_neg
 have e4:=hD.jV
 have e5:=hD.kQ
 have hS:SD g w a (0:Nat) 0 w:=⟨_,_,hD,Below.refl _ _⟩
 have hG:Good a (0:Nat):=⟨by omega,by omega,fun i h=>by omega,fun h=>by omega⟩
 by_cases h0:s.size=0
 ·have c0:decide ((s.size:Int)≤0)=true:=decide_eq_true (by omega)
  have c0':decide (s.size≤0)=true:=decide_eq_true (by omega)
  go_enter Tryz.func152,Tryz.ntmps152
  go_wp2
  all_goals go_ret
  all_goals exact ⟨⟨⟨_,rfl⟩⟩,SD.post (by repeat (with_reducible first | exact hS | apply SD.neg | apply SD.tr | apply SD.dp' | apply SD.nd | apply SD.dig (hi:=k7) | apply SD.drewN | apply SD.drew')) hG (by omega) (by omega)⟩
 have c0:decide ((s.size:Int)≤0)=false:=decide_eq_false (by omega)
 have c0':decide (s.size≤0)=false:=decide_eq_false (by omega)
 have p1:(0:Int)≤0:=by omega
 have q1:(0:Int) < (s.size:Int):=by omega
 have q1':0 < s.size:=by omega
 have hx:((s[0]'q1').toNat:Int)=bt s 0:=cZ s 0 (by simpa using q1')
 go_enter Tryz.func152,Tryz.ntmps152
 repeat (first | (refine ni (x:=Code.seq (Code.region 5 _ _) _) (Gg g s w (fun _ _ _=>True)) ?_ (fun K hK=>?_)) | go_values | go_guarded | go_step | go_upon | go_back | (simp only [Int.not_lt,Int.not_le] at *;go_simp) | (go_values <;> (try go_simp)))
 rotate_left
 ·go_wp2
  all_goals first | exact ⟨0,0,a,0,_,_,_,_,_,_,_,rfl,rfl,trivial,by omega,by repeat (with_reducible first | exact hS | apply SD.neg | apply SD.tr | apply SD.dp' | apply SD.nd | apply SD.dig (hi:=k7) | apply SD.drewN | apply SD.drew'),hG,by omega,by omega⟩ | exact ⟨1,0,a,0,_,_,_,_,_,_,_,rfl,rfl,trivial,by omega,by repeat (with_reducible first | exact hS | apply SD.neg | apply SD.tr | apply SD.dp' | apply SD.nd | apply SD.dig (hi:=k7) | apply SD.drewN | apply SD.drew'),hG,by omega,by omega⟩
 rintro f W ⟨i,n,a1,dp1,u2,u3,v6,v7,v8,v9,t,rfl,ht,hC,hi1,hS,hG,hd0,hd1⟩
 obtain ⟨v,rfl⟩:∃ v:Nat→Value,t=[v 0,v 1,v 2,v 3,v 4,v 5,v 6,v 7,v 8,v 9,v 10,v 11,v 12,v 13,v 14,v 15,v 16,v 17,v 18,v 19,v 20,v 21,v 22,v 23,v 24,v 25,v 26,v 27,v 28,v 29,v 30,v 31,v 32,v 33,v 34,v 35,v 36,v 37,v 38,v 39,v 40,v 41,v 42,v 43,v 44,v 45,v 46,v 47,v 48,v 49,v 50,v 51,v 52,v 53,v 54,v 55,v 56,v 57,v 58,v 59,v 60,v 61,v 62,v 63,v 64,v 65,v 66,v 67,v 68,v 69,v 70,v 71,v 72,v 73,v 74,v 75,v 76,v 77,v 78,v 79,v 80,v 81,v 82,v 83,v 84,v 85,v 86,v 87,v 88,v 89,v 90,v 91,v 92,v 93,v 94,v 95,v 96,v 97,v 98,v 99,v 100,v 101,v 102,v 103,v 104,v 105,v 106,v 107,v 108,v 109,v 110,v 111,v 112,v 113,v 114,v 115,v 116,v 117,v 118,v 119,v 120,v 121,v 122,v 123,v 124,v 125,v 126,v 127,v 128,v 129,v 130,v 131,v 132,v 133,v 134,v 135,v 136,v 137,v 138,v 139,v 140,v 141,v 142,v 143,v 144,v 145,v 146,v 147,v 148,v 149,v 150,v 151,v 152,v 153,v 154,v 155,v 156,v 157,v 158,v 159,v 160,v 161,v 162,v 163,v 164,v 165,v 166,v 167,v 168,v 169,v 170,v 171,v 172,v 173,v 174,v 175,v 176,v 177,v 178,v 179,v 180,v 181,v 182,v 183,v 184,v 185,v 186,v 187,v 188,v 189,v 190,v 191,v 192,v 193,v 194,v 195,v 196,v 197,v 198,v 199,v 200,v 201,v 202,v 203,v 204,v 205,v 206,v 207,v 208,v 209,v 210,v 211,v 212,v 213]:=⟨fun i=>t.getD i undef,oO t ht⟩
 clear ht
 obtain ⟨ng1,tr1,hD1,hB1⟩:=hS
 have hS:SD g w a1 n dp1 _:=⟨ng1,tr1,hD1,hB1⟩
 have e1:=hD1.jH
 have e2:=hD1.frozen
 have e3:=hD1.at_neg
 have e4:=hD1.jV
 have e5:=hD1.kQ
 have hlow:=hG.low
 have hhigh:=hG.high
 clear hC
 repeat (first | (refine ni (x:=Code.block 1 _) (Gg g s w (fun v6 v7 _=>∃ b1 b2,v6 = .bool b1∧v7 = .bool b2)) ?_ (fun K hK=>?_)) | go_values | go_guarded | go_step | go_upon | go_back | (simp only [Int.not_lt,Int.not_le] at *;go_simp) | (go_values <;> (try go_simp)))
 rotate_left
 ·go_wp2
  go_loopg [5,6,7] s.size (fun kq v5 v6 v7 w'=>∃ (i n:Nat) (a1:Nat→Int) (dp1:Int) (b1 b2:Bool),v5 = .int .i64 (i:Int)∧v6 = .bool b1∧v7 = .bool b2∧s.size - i≤kq∧i≤s.size∧SD g w a1 n dp1 w'∧Good a1 n∧-2000000 - (i:Int)≤dp1∧dp1≤2000000)
  case atStart=>exact ⟨i,n,a1,dp1,false,false,rfl,rfl,rfl,by omega,by omega,by repeat (with_reducible first | exact hS | apply SD.neg | apply SD.tr | apply SD.dp' | apply SD.nd | apply SD.dig (hi:=k7) | apply SD.drewN | apply SD.drew'),hG,by omega,by omega⟩
  case round =>
   clear hS hG hD1 hB1 e1 e2 e3 e4 e5 hi1 hd0 hd1 hlow hhigh
   obtain ⟨i,n,a1,dp1,b1,b2,rfl,rfl,rfl,hkq,hi1,hS,hG,hd0,hd1⟩:=hrel
   obtain ⟨ng1,tr1,hD1,hB1⟩:=hS
   have hS:SD g w a1 n dp1 wr:=⟨ng1,tr1,hD1,hB1⟩
   have e1:=hD1.jH
   have e2:=hD1.frozen
   have e3:=hD1.at_neg
   have e4:=hD1.jV
   have e5:=hD1.kQ
   have hlow:=hG.low
   have hhigh:=hG.high
   by_cases hi:i < s.size
   ·have c1:decide ((i:Int) < (s.size:Int))=true:=decide_eq_true (by omega)
    have c1':decide (i < s.size)=true:=decide_eq_true hi
    have p1:(0:Int)≤(i:Int):=by omega
    have q1:(i:Int) < (s.size:Int):=by omega
    have hx:((s[i]'hi).toNat:Int)=bt s (i:Int):=cZ s (i:Int) (by simpa using hi)
    obtain ⟨r1,r2⟩:=eG s (i:Int)
    generalize bt s (i:Int)=c at hx r1 r2
    replace p1:=eq_true p1
    replace q1:=eq_true q1
    by_cases k1:c=95
    ·have k1b:(c == 95)=true:=beq_iff_eq.mpr k1
     go_wp2
     go_roundg (s.size - (i+1))
     case measure=>omega
     case rel=>exact ⟨i+1,n,a1,dp1,_,_,by first | rfl | (congr 1;omega),rfl,rfl,Nat.le_refl _,by omega,hS,hG,by omega,by omega⟩
    ·have k1b:(c == 95)=false:=beq_eq_false_iff_ne.mpr k1
     by_cases k2:c=46
     ·have k2b:(c == 46)=true:=beq_iff_eq.mpr k2
      cases b1 with
      | true =>
        go_wp2
        go_ret
        exact ⟨⟨⟨_,rfl⟩⟩,SD.post (by repeat (first | exact hS | apply SD.neg | apply SD.tr | apply SD.dp' | apply SD.nd | apply SD.drewN)) hG (by omega) (by omega)⟩
      | false =>
        go_wp2
        go_roundg (s.size - (i+1))
        case measure=>omega
        case rel=>exact ⟨i+1,n,a1,(n:Int),_,_,by first | rfl | (congr 1;omega),rfl,rfl,Nat.le_refl _,by omega,by repeat (with_reducible first | exact hS | apply SD.neg | apply SD.tr | apply SD.dp' | apply SD.nd | apply SD.dig (hi:=k7) | apply SD.drewN | apply SD.drew'),hG,by omega,by omega⟩
     ·have k2b:(c == 46)=false:=beq_eq_false_iff_ne.mpr k2
      by_cases k3:48≤c∧c≤57
      ·obtain ⟨k3,k4⟩:=k3
       have k3b:decide (48≤c)=true:=decide_eq_true k3
       have k4b:decide (c≤57)=true:=decide_eq_true k4
       by_cases k5:c=48∧n=0
       ·obtain ⟨k5,rfl⟩:=k5
        have k5b:(c == 48)=true:=beq_iff_eq.mpr k5
        have k6b:(((0:Nat):Int) == 0)=true:=rfl
        go_wp2
        go_roundg (s.size - (i+1))
        case measure=>omega
        case rel=>exact ⟨i+1,0,a1,(dp1 - 1),_,_,by first | rfl | (congr 1;omega),rfl,rfl,Nat.le_refl _,by omega,by repeat (with_reducible first | exact hS | apply SD.neg | apply SD.tr | apply SD.dp' | apply SD.nd | apply SD.dig (hi:=k7) | apply SD.drewN | apply SD.drew'),hG,by omega,by omega⟩
       ·by_cases k7:n < 800
        ·have k7b:decide ((n:Int) < 800)=true:=decide_eq_true (by omega)
         have k7c:decide (n < 800)=true:=decide_eq_true k7
         have e6:=hD1.dig (i:=n) k7
         have p2:(0:Int)≤(n:Int):=by omega
         have q2:(n:Int) < 800:=by omega
         replace p2:=eq_true p2
         replace q2:=eq_true q2
         have hG2:=hG.push (x:=c) k7 k3 k4 (fun h0 h1=>k5 ⟨h1,h0⟩)
         by_cases k6:c=48
         ·have k6b:(c == 48)=true:=beq_iff_eq.mpr k6
          have k6c:((n:Int) == 0)=false:=beq_eq_false_iff_ne.mpr (by omega)
          go_wp2
          go_region
          go_wp2
          go_roundg (s.size - (i+1))
          case measure=>omega
          case rel=>exact ⟨i+1,n+1,upd a1 n 48,dp1,_,_,by first | rfl | (congr 1;omega),rfl,rfl,Nat.le_refl _,by omega,by (try rw [show ((n+1:Nat):Int)=(n:Int)+1 from by omega]);repeat (with_reducible first | exact hS | apply SD.neg | apply SD.tr | apply SD.dp' | apply SD.nd | apply SD.dig (hi:=k7) | apply SD.drewN | apply SD.drew'),(by have:=hG2;rw [k6] at this;exact this),by omega,by omega⟩
         ·have k6b:(c == 48)=false:=beq_eq_false_iff_ne.mpr k6
          go_wp2
          go_region
          go_wp2
          go_roundg (s.size - (i+1))
          case measure=>omega
          case rel=>exact ⟨i+1,n+1,upd a1 n c,dp1,_,_,by first | rfl | (congr 1;omega),rfl,rfl,Nat.le_refl _,by omega,by (try rw [show ((n+1:Nat):Int)=(n:Int)+1 from by omega]);repeat (with_reducible first | exact hS | apply SD.neg | apply SD.tr | apply SD.dp' | apply SD.nd | apply SD.dig (hi:=k7) | apply SD.drewN | apply SD.drew'),hG2,by omega,by omega⟩
        ·have k7b:decide ((n:Int) < 800)=false:=decide_eq_false (by omega)
         have k7c:decide (n < 800)=false:=decide_eq_false k7
         have k6c:((n:Int) == 0)=false:=beq_eq_false_iff_ne.mpr (by omega)
         by_cases k6:c=48
         ·have k6b:(c == 48)=true:=beq_iff_eq.mpr k6
          have k8b:(c != 48)=false:=bne_eq_false_iff_eq.mpr k6
          go_wp2
          go_roundg (s.size - (i+1))
          case measure=>omega
          case rel=>exact ⟨i+1,n,a1,dp1,_,_,by first | rfl | (congr 1;omega),rfl,rfl,Nat.le_refl _,by omega,by repeat (with_reducible first | exact hS | apply SD.neg | apply SD.tr | apply SD.dp' | apply SD.nd | apply SD.dig (hi:=k7) | apply SD.drewN | apply SD.drew'),hG,by omega,by omega⟩
         ·have k6b:(c == 48)=false:=beq_eq_false_iff_ne.mpr k6
          have k8b:(c != 48)=true:=bne_iff_ne.mpr k6
          go_wp2
          go_roundg (s.size - (i+1))
          case measure=>omega
          case rel=>exact ⟨i+1,n,a1,dp1,_,_,by first | rfl | (congr 1;omega),rfl,rfl,Nat.le_refl _,by omega,by repeat (with_reducible first | exact hS | apply SD.neg | apply SD.tr | apply SD.dp' | apply SD.nd | apply SD.dig (hi:=k7) | apply SD.drewN | apply SD.drew'),hG,by omega,by omega⟩
      ·have k3x:decide (48≤c)=false∨(decide (48≤c)=true∧decide (c≤57)=false):=by
        by_cases h48:48≤c
        ·exact .inr ⟨decide_eq_true h48,decide_eq_false (by omega)⟩
        ·exact .inl (decide_eq_false h48)
       rcases k3x with k3b | ⟨k3b,k3c⟩
       all_goals go_wp2_with (fail)
       all_goals exact ⟨_,_,_,_,_,_,_,_,_,_,_,rfl,rfl,⟨_,_,rfl,rfl⟩,by omega,by repeat (with_reducible first | exact hS | apply SD.neg | apply SD.tr | apply SD.dp' | apply SD.nd | apply SD.dig (hi:=k7) | apply SD.drewN | apply SD.drew'),hG,by omega,by omega⟩
   ·have c1:decide ((i:Int) < (s.size:Int))=false:=decide_eq_false (by omega)
    have c1':decide (i < s.size)=false:=decide_eq_false hi
    go_wp2_with (fail)
    exact ⟨_,_,_,_,_,_,_,_,_,_,_,rfl,rfl,⟨_,_,rfl,rfl⟩,by omega,by repeat (with_reducible first | exact hS | apply SD.neg | apply SD.tr | apply SD.dp' | apply SD.nd | apply SD.dig (hi:=k7) | apply SD.drewN | apply SD.drew'),hG,by omega,by omega⟩
 rintro f W ⟨i,n,a1,dp1,u2,u3,v6,v7,v8,v9,t,rfl,ht,hC,hi1,hS,hG,hd0,hd1⟩
 obtain ⟨v,rfl⟩:∃ v:Nat→Value,t=[v 0,v 1,v 2,v 3,v 4,v 5,v 6,v 7,v 8,v 9,v 10,v 11,v 12,v 13,v 14,v 15,v 16,v 17,v 18,v 19,v 20,v 21,v 22,v 23,v 24,v 25,v 26,v 27,v 28,v 29,v 30,v 31,v 32,v 33,v 34,v 35,v 36,v 37,v 38,v 39,v 40,v 41,v 42,v 43,v 44,v 45,v 46,v 47,v 48,v 49,v 50,v 51,v 52,v 53,v 54,v 55,v 56,v 57,v 58,v 59,v 60,v 61,v 62,v 63,v 64,v 65,v 66,v 67,v 68,v 69,v 70,v 71,v 72,v 73,v 74,v 75,v 76,v 77,v 78,v 79,v 80,v 81,v 82,v 83,v 84,v 85,v 86,v 87,v 88,v 89,v 90,v 91,v 92,v 93,v 94,v 95,v 96,v 97,v 98,v 99,v 100,v 101,v 102,v 103,v 104,v 105,v 106,v 107,v 108,v 109,v 110,v 111,v 112,v 113,v 114,v 115,v 116,v 117,v 118,v 119,v 120,v 121,v 122,v 123,v 124,v 125,v 126,v 127,v 128,v 129,v 130,v 131,v 132,v 133,v 134,v 135,v 136,v 137,v 138,v 139,v 140,v 141,v 142,v 143,v 144,v 145,v 146,v 147,v 148,v 149,v 150,v 151,v 152,v 153,v 154,v 155,v 156,v 157,v 158,v 159,v 160,v 161,v 162,v 163,v 164,v 165,v 166,v 167,v 168,v 169,v 170,v 171,v 172,v 173,v 174,v 175,v 176,v 177,v 178,v 179,v 180,v 181,v 182,v 183,v 184,v 185,v 186,v 187,v 188,v 189,v 190,v 191,v 192,v 193,v 194,v 195,v 196,v 197,v 198,v 199,v 200,v 201,v 202,v 203,v 204,v 205,v 206,v 207,v 208,v 209,v 210,v 211,v 212,v 213]:=⟨fun i=>t.getD i undef,oO t ht⟩
 clear ht
 obtain ⟨ng1,tr1,hD1,hB1⟩:=hS
 have hS:SD g w a1 n dp1 _:=⟨ng1,tr1,hD1,hB1⟩
 have e1:=hD1.jH
 have e2:=hD1.frozen
 have e3:=hD1.at_neg
 have e4:=hD1.jV
 have e5:=hD1.kQ
 have hlow:=hG.low
 have hhigh:=hG.high
 obtain ⟨b1,b2,rfl,rfl⟩:=hC
 cases b2 with
 | false =>
   go_wp2
   all_goals go_ret
   all_goals exact ⟨⟨⟨_,rfl⟩⟩,SD.post (by repeat (with_reducible first | exact hS | apply SD.neg | apply SD.tr | apply SD.dp' | apply SD.nd | apply SD.dig (hi:=k7) | apply SD.drewN | apply SD.drew')) hG (by omega) (by omega)⟩
 | true =>
   repeat (first | (refine ni (x:=Code.seq (Code.region 30 _ _) _) (Gg g s w (fun _ _ _=>True)) ?_ (fun K hK=>?_)) | go_values | go_guarded | go_step | go_upon | go_back | (simp only [Int.not_lt,Int.not_le] at *;go_simp) | (go_values <;> (try go_simp)))
   rotate_left
   ·cases b1
    all_goals go_wp2
    all_goals exact ⟨_,_,_,_,_,_,_,_,_,_,_,rfl,rfl,trivial,by omega,by repeat (with_reducible first | exact hS | apply SD.neg | apply SD.tr | apply SD.dp' | apply SD.nd | apply SD.dig (hi:=k7) | apply SD.drewN | apply SD.drew'),hG,by omega,by omega⟩
   rintro f W ⟨i,n,a1,dp1,u2,u3,v6,v7,v8,v9,t,rfl,ht,hC,hi1,hS,hG,hd0,hd1⟩
   obtain ⟨v,rfl⟩:∃ v:Nat→Value,t=[v 0,v 1,v 2,v 3,v 4,v 5,v 6,v 7,v 8,v 9,v 10,v 11,v 12,v 13,v 14,v 15,v 16,v 17,v 18,v 19,v 20,v 21,v 22,v 23,v 24,v 25,v 26,v 27,v 28,v 29,v 30,v 31,v 32,v 33,v 34,v 35,v 36,v 37,v 38,v 39,v 40,v 41,v 42,v 43,v 44,v 45,v 46,v 47,v 48,v 49,v 50,v 51,v 52,v 53,v 54,v 55,v 56,v 57,v 58,v 59,v 60,v 61,v 62,v 63,v 64,v 65,v 66,v 67,v 68,v 69,v 70,v 71,v 72,v 73,v 74,v 75,v 76,v 77,v 78,v 79,v 80,v 81,v 82,v 83,v 84,v 85,v 86,v 87,v 88,v 89,v 90,v 91,v 92,v 93,v 94,v 95,v 96,v 97,v 98,v 99,v 100,v 101,v 102,v 103,v 104,v 105,v 106,v 107,v 108,v 109,v 110,v 111,v 112,v 113,v 114,v 115,v 116,v 117,v 118,v 119,v 120,v 121,v 122,v 123,v 124,v 125,v 126,v 127,v 128,v 129,v 130,v 131,v 132,v 133,v 134,v 135,v 136,v 137,v 138,v 139,v 140,v 141,v 142,v 143,v 144,v 145,v 146,v 147,v 148,v 149,v 150,v 151,v 152,v 153,v 154,v 155,v 156,v 157,v 158,v 159,v 160,v 161,v 162,v 163,v 164,v 165,v 166,v 167,v 168,v 169,v 170,v 171,v 172,v 173,v 174,v 175,v 176,v 177,v 178,v 179,v 180,v 181,v 182,v 183,v 184,v 185,v 186,v 187,v 188,v 189,v 190,v 191,v 192,v 193,v 194,v 195,v 196,v 197,v 198,v 199,v 200,v 201,v 202,v 203,v 204,v 205,v 206,v 207,v 208,v 209,v 210,v 211,v 212,v 213]:=⟨fun i=>t.getD i undef,oO t ht⟩
   clear ht
   obtain ⟨ng1,tr1,hD1,hB1⟩:=hS
   have hS:SD g w a1 n dp1 _:=⟨ng1,tr1,hD1,hB1⟩
   have e1:=hD1.jH
   have e2:=hD1.frozen
   have e3:=hD1.at_neg
   have e4:=hD1.jV
   have e5:=hD1.kQ
   have hlow:=hG.low
   have hhigh:=hG.high
   clear hC
   by_cases hi:i < s.size
   ·have c1:decide ((i:Int) < (s.size:Int))=true:=decide_eq_true (by omega)
    have c1':decide (i < s.size)=true:=decide_eq_true hi
    have p1:(0:Int)≤(i:Int):=by omega
    have q1:(i:Int) < (s.size:Int):=by omega
    have hx:((s[i]'hi).toNat:Int)=bt s (i:Int):=cZ s (i:Int) (by simpa using hi)
    obtain ⟨r1,r2⟩:=eG s (i:Int)
    generalize bt s (i:Int)=c at hx r1 r2
    replace p1:=eq_true p1
    replace q1:=eq_true q1
    obtain ⟨L,hL⟩:∃ L,Go.bits .or .u8 c 32=L:=⟨_,rfl⟩
    have hlower:=fun W=>Go.Proofs.YtpgfjbimodnkeaaGreatDoor.Q.iD.calls c L W (by rw [Go.Proofs.YtpgfjbimodnkeaaGreatDoor.Q.iD.f,hL])
    clear hL
    by_cases hL2:L=101
    ·have hLb:(L == 101)=true:=beq_iff_eq.mpr hL2
     by_cases h1:i+1 < s.size
     ·have d1:decide ((s.size:Int)≤(i:Int)+1)=false:=decide_eq_false (by omega)
      have d1b:decide (s.size≤i+1)=false:=decide_eq_false (by omega)
      have p7:(0:Int)≤(i:Int)+1:=by omega
      have q7:(i:Int)+1 < (s.size:Int):=by omega
      have x7:((s[i+1]'h1).toNat:Int)=bt s ((i+1:Nat):Int):=cZ s ((i+1:Nat):Int) (by simpa using h1)
      obtain ⟨r7a,r7b⟩:=eG s ((i+1:Nat):Int)
      generalize bt s ((i+1:Nat):Int)=c2 at x7 r7a r7b
      replace p7:=eq_true p7
      replace q7:=eq_true q7
      repeat (first | (refine ni (x:=Code.seq (Code.region 36 _ _) _) (Gg g s w (fun _ _ v8=>v8 = .int .i64 1∨v8 = .int .i64 (-1))) ?_ (fun K hK=>?_)) |  (go_at_call 137;refine (hlower _).mono ?_;rintro e w5 ⟨rfl,⟨m5,rfl⟩⟩) | go_values | go_guarded | go_step | go_upon | go_back | (simp only [Int.not_lt,Int.not_le] at *;go_simp) | (go_values <;> (try go_simp)))
      rotate_left
      ·go_wp2
       all_goals first | exact ⟨i+1,_,_,_,_,_,_,_,_,_,_,rfl,rfl,.inl rfl,by omega,by repeat (with_reducible first | exact hS | apply SD.neg | apply SD.tr | apply SD.dp' | apply SD.nd | apply SD.dig (hi:=k7) | apply SD.drewN | apply SD.drew'),hG,by omega,by omega⟩ | exact ⟨i+2,_,_,_,_,_,_,_,_,_,_,rfl,rfl,.inl rfl,by omega,by repeat (with_reducible first | exact hS | apply SD.neg | apply SD.tr | apply SD.dp' | apply SD.nd | apply SD.dig (hi:=k7) | apply SD.drewN | apply SD.drew'),hG,by omega,by omega⟩ | exact ⟨i+2,_,_,_,_,_,_,_,_,_,_,rfl,rfl,.inr rfl,by omega,by repeat (with_reducible first | exact hS | apply SD.neg | apply SD.tr | apply SD.dp' | apply SD.nd | apply SD.dig (hi:=k7) | apply SD.drewN | apply SD.drew'),hG,by omega,by omega⟩
      rintro f W ⟨i,n,a1,dp1,u2,u3,v6,v7,v8,v9,t,rfl,ht,hC,hi1,hS,hG,hd0,hd1⟩
      obtain ⟨v,rfl⟩:∃ v:Nat→Value,t=[v 0,v 1,v 2,v 3,v 4,v 5,v 6,v 7,v 8,v 9,v 10,v 11,v 12,v 13,v 14,v 15,v 16,v 17,v 18,v 19,v 20,v 21,v 22,v 23,v 24,v 25,v 26,v 27,v 28,v 29,v 30,v 31,v 32,v 33,v 34,v 35,v 36,v 37,v 38,v 39,v 40,v 41,v 42,v 43,v 44,v 45,v 46,v 47,v 48,v 49,v 50,v 51,v 52,v 53,v 54,v 55,v 56,v 57,v 58,v 59,v 60,v 61,v 62,v 63,v 64,v 65,v 66,v 67,v 68,v 69,v 70,v 71,v 72,v 73,v 74,v 75,v 76,v 77,v 78,v 79,v 80,v 81,v 82,v 83,v 84,v 85,v 86,v 87,v 88,v 89,v 90,v 91,v 92,v 93,v 94,v 95,v 96,v 97,v 98,v 99,v 100,v 101,v 102,v 103,v 104,v 105,v 106,v 107,v 108,v 109,v 110,v 111,v 112,v 113,v 114,v 115,v 116,v 117,v 118,v 119,v 120,v 121,v 122,v 123,v 124,v 125,v 126,v 127,v 128,v 129,v 130,v 131,v 132,v 133,v 134,v 135,v 136,v 137,v 138,v 139,v 140,v 141,v 142,v 143,v 144,v 145,v 146,v 147,v 148,v 149,v 150,v 151,v 152,v 153,v 154,v 155,v 156,v 157,v 158,v 159,v 160,v 161,v 162,v 163,v 164,v 165,v 166,v 167,v 168,v 169,v 170,v 171,v 172,v 173,v 174,v 175,v 176,v 177,v 178,v 179,v 180,v 181,v 182,v 183,v 184,v 185,v 186,v 187,v 188,v 189,v 190,v 191,v 192,v 193,v 194,v 195,v 196,v 197,v 198,v 199,v 200,v 201,v 202,v 203,v 204,v 205,v 206,v 207,v 208,v 209,v 210,v 211,v 212,v 213]:=⟨fun i=>t.getD i undef,oO t ht⟩
      clear ht
      obtain ⟨ng1,tr1,hD1,hB1⟩:=hS
      have hS:SD g w a1 n dp1 _:=⟨ng1,tr1,hD1,hB1⟩
      have e1:=hD1.jH
      have e2:=hD1.frozen
      have e3:=hD1.at_neg
      have e4:=hD1.jV
      have e5:=hD1.kQ
      have hlow:=hG.low
      have hhigh:=hG.high
      rcases hC with rfl | rfl
      all_goals
       by_cases hi:i < s.size
       ·have d1:decide ((s.size:Int)≤(i:Int))=false:=decide_eq_false (by omega)
        have d1b:decide (s.size≤i)=false:=decide_eq_false (by omega)
        have p1:(0:Int)≤(i:Int):=by omega
        have q1:(i:Int) < (s.size:Int):=by omega
        have hx:((s[i]'hi).toNat:Int)=bt s (i:Int):=cZ s (i:Int) (by simpa using hi)
        obtain ⟨r1,r2⟩:=eG s (i:Int)
        generalize bt s (i:Int)=c at hx r1 r2
        replace p1:=eq_true p1
        replace q1:=eq_true q1
        by_cases m1:48≤c∧c≤57
        ·have m1b:decide (c < 48)=false:=decide_eq_false (by omega)
         have m1c:decide (57 < c)=false:=decide_eq_false (by omega)
         go_wp2
         go_loopg [5,9] s.size (fun kq v5 v9 w'=>∃ (i3:Nat) (e3:Int),v5 = .int .i64 (i3:Int)∧v9 = .int .i64 e3∧s.size - i3≤kq∧i3≤s.size∧0≤e3∧e3≤200000∧SD g w a1 n dp1 w')
         case atStart=>exact ⟨i,0,by first | rfl | (congr 1;omega),rfl,by omega,by omega,by omega,by omega,by repeat (first | exact hS | apply SD.neg | apply SD.tr | apply SD.dp' | apply SD.nd | apply SD.drewN)⟩
         case round =>
          clear hS e1 e2 e3 e4 e5
          obtain ⟨i3,e3,rfl,rfl,hkq3,hi3,he0,he1,hS⟩:=hrel
          obtain ⟨ng1,tr1,hD1,hB1⟩:=hS
          have hS:SD g w a1 n dp1 _:=⟨ng1,tr1,hD1,hB1⟩
          have e1:=hD1.jH
          have e2:=hD1.frozen
          have e4:=hD1.jV
          by_cases h3:i3 < s.size
          ·have c1:decide ((i3:Int) < (s.size:Int))=true:=decide_eq_true (by omega)
           have c1':decide (i3 < s.size)=true:=decide_eq_true h3
           have p9:(0:Int)≤((i3:Nat):Int):=by omega
           have q9:((i3:Nat):Int) < (s.size:Int):=by omega
           have x9:((s[i3]'h3).toNat:Int)=bt s ((i3:Nat):Int):=cZ s ((i3:Nat):Int) (by simpa using h3)
           obtain ⟨r9a,r9b⟩:=eG s ((i3:Nat):Int)
           generalize bt s ((i3:Nat):Int)=d at x9 r9a r9b
           replace p9:=eq_true p9
           replace q9:=eq_true q9
           by_cases k8:48≤d∧d≤57
           ·have k8b:decide (48≤d)=true:=decide_eq_true k8.1
            have k8c:decide (d≤57)=true:=decide_eq_true k8.2
            have k8d:(d == 95)=false:=beq_eq_false_iff_ne.mpr (by omega)
            by_cases k9:e3 < 10000
            ·have k9b:decide (e3 < 10000)=true:=decide_eq_true k9
             go_wp2
             go_roundg (s.size - (i3+1))
             case measure=>omega
             case rel=>exact ⟨i3+1,e3*10+d - 48,by first | rfl | (congr 1;omega),by first | rfl | (congr 1;omega),Nat.le_refl _,by omega,by omega,by omega,hS⟩
            ·have k9b:decide (e3 < 10000)=false:=decide_eq_false k9
             go_wp2
             go_roundg (s.size - (i3+1))
             case measure=>omega
             case rel=>exact ⟨i3+1,e3,by first | rfl | (congr 1;omega),rfl,Nat.le_refl _,by omega,by omega,by omega,hS⟩
           ·by_cases k9:d=95
            ·have k9b:(d == 95)=true:=beq_iff_eq.mpr k9
             have k8b:decide (d≤57)=false:=decide_eq_false (by omega)
             have k8c:decide (48≤d)=true:=decide_eq_true (by omega)
             go_wp2
             go_roundg (s.size - (i3+1))
             case measure=>omega
             case rel=>exact ⟨i3+1,e3,by first | rfl | (congr 1;omega),rfl,Nat.le_refl _,by omega,by omega,by omega,hS⟩
            ·have k9b:(d == 95)=false:=beq_eq_false_iff_ne.mpr k9
             by_cases k8b:48≤d
             ·have k8c:decide (48≤d)=true:=decide_eq_true k8b
              have k8d:decide (d≤57)=false:=decide_eq_false (by omega)
              go_wp2
              all_goals go_ret
              all_goals exact ⟨⟨⟨_,rfl⟩⟩,SD.post (by repeat (first | exact hS | apply SD.neg | apply SD.tr | apply SD.dp' | apply SD.nd | apply SD.drewN)) hG (by omega) (by omega)⟩
             ·have k8c:decide (48≤d)=false:=decide_eq_false k8b
              go_wp2
              all_goals go_ret
              all_goals exact ⟨⟨⟨_,rfl⟩⟩,SD.post (by repeat (first | exact hS | apply SD.neg | apply SD.tr | apply SD.dp' | apply SD.nd | apply SD.drewN)) hG (by omega) (by omega)⟩
          ·have c1:decide ((i3:Int) < (s.size:Int))=false:=decide_eq_false (by omega)
           have c1':decide (i3 < s.size)=false:=decide_eq_false h3
           go_wp2
           all_goals go_ret
           all_goals exact ⟨⟨⟨_,rfl⟩⟩,SD.post (by repeat (first | exact hS | apply SD.neg | apply SD.tr | apply SD.dp' | apply SD.nd | apply SD.drewN)) hG (by omega) (by omega)⟩
        ·by_cases m2:c < 48
         ·have m2b:decide (c < 48)=true:=decide_eq_true m2
          go_wp2
          all_goals go_ret
          all_goals exact ⟨⟨⟨_,rfl⟩⟩,SD.post (by repeat (with_reducible first | exact hS | apply SD.neg | apply SD.tr | apply SD.dp' | apply SD.nd | apply SD.dig (hi:=k7) | apply SD.drewN | apply SD.drew')) hG (by omega) (by omega)⟩
         ·have m2b:decide (c < 48)=false:=decide_eq_false m2
          have m2c:decide (57 < c)=true:=decide_eq_true (by omega)
          go_wp2
          all_goals go_ret
          all_goals exact ⟨⟨⟨_,rfl⟩⟩,SD.post (by repeat (with_reducible first | exact hS | apply SD.neg | apply SD.tr | apply SD.dp' | apply SD.nd | apply SD.dig (hi:=k7) | apply SD.drewN | apply SD.drew')) hG (by omega) (by omega)⟩
       ·have d1:decide ((s.size:Int)≤(i:Int))=true:=decide_eq_true (by omega)
        have d1b:decide (s.size≤i)=true:=decide_eq_true (by omega)
        go_wp2
        all_goals go_ret
        all_goals exact ⟨⟨⟨_,rfl⟩⟩,SD.post (by repeat (with_reducible first | exact hS | apply SD.neg | apply SD.tr | apply SD.dp' | apply SD.nd | apply SD.dig (hi:=k7) | apply SD.drewN | apply SD.drew')) hG (by omega) (by omega)⟩
     ·have d1:decide ((s.size:Int)≤(i:Int)+1)=true:=decide_eq_true (by omega)
      have d1b:decide (s.size≤i+1)=true:=decide_eq_true (by omega)
      go_wp2_with (first | (go_at_call 137;refine (hlower _).mono ?_;rintro e w5 ⟨rfl,⟨m5,rfl⟩⟩))
      all_goals go_ret
      all_goals exact ⟨⟨⟨_,rfl⟩⟩,SD.post (by repeat (with_reducible first | exact hS | apply SD.neg | apply SD.tr | apply SD.dp' | apply SD.nd | apply SD.dig (hi:=k7) | apply SD.drewN | apply SD.drew')) hG (by omega) (by omega)⟩
    ·have hLb:(L == 101)=false:=beq_eq_false_iff_ne.mpr hL2
     have hne:((i:Int) != (s.size:Int))=true:=bne_iff_ne.mpr (by omega)
     go_wp2_with (first | (go_at_call 137;refine (hlower _).mono ?_;rintro e w5 ⟨rfl,⟨m5,rfl⟩⟩))
     all_goals go_ret
     all_goals exact ⟨⟨⟨_,rfl⟩⟩,SD.post (by repeat (with_reducible first | exact hS | apply SD.neg | apply SD.tr | apply SD.dp' | apply SD.nd | apply SD.dig (hi:=k7) | apply SD.drewN | apply SD.drew')) hG (by omega) (by omega)⟩
   ·have c1:decide ((i:Int) < (s.size:Int))=false:=decide_eq_false (by omega)
    have c1':decide (i < s.size)=false:=decide_eq_false hi
    have hne:((i:Int) != (s.size:Int))=false:=bne_eq_false_iff_eq.mpr (by omega)
    go_wp2
    all_goals go_ret
    all_goals exact ⟨⟨⟨_,rfl⟩⟩,SD.post (by repeat (with_reducible first | exact hS | apply SD.neg | apply SD.tr | apply SD.dp' | apply SD.nd | apply SD.dig (hi:=k7) | apply SD.drewN | apply SD.drew')) hG (by omega) (by omega)⟩
end Go.Proofs.YtpgfjbimodnkeaaGreatDoor.Dec
