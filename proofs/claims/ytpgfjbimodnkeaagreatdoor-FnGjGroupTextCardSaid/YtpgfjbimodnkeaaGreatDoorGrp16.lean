/- FnGjGroupText: whatever text comes in, the law returns true and the text reads afterwards as before; with the fourteen package-level variables that its row lists as the text of the program lays them (the tied card) (part 16 of 33: lemmas for its last part) -/
import Derived.Test.YtpgfjbimodnkeaaGreatDoorGrp2
import Derived.Test.YtpgfjbimodnkeaaGreatDoorGrp13
import Derived.Test.YtpgfjbimodnkeaaGreatDoorGrp15
set_option maxHeartbeats 16000000
set_option maxRecDepth 100000
set_option linter.unusedVariables false
set_option linter.unusedSimpArgs false
namespace Go.Proofs.YtpgfjbimodnkeaaGreatDoor.Q
open Go.RowKit Go.Proofs.YtpgfjbimodnkeaaGreatDoorW.PrintWords Go.Proofs.YtpgfjbimodnkeaaGreatDoorW.PrintLast Go.Proofs.YtpgfjbimodnkeaaGreatDoorW.PrintMore
attribute [local go_sem] dK dJ dZ ed dC dD dN dM
def dH.l0:Nat→ByteArray→Int→Int→Option (Int × ByteArray)
 | 0,_,_,_=>none
 | k+1,x0,x1,x6=>if x1 < (x0.size:Int) then (if 0≤x1 then (if (bt x0 x1)≤32 then (if 0≤x6 then (if x6≤x1 then (if x1≤(x0.size:Int) then (some (x1,x0.extract (x6:Int).toNat (x1:Int).toNat)) else (none)) else (none)) else (none)) else (if (bt x0 x1)=44 then (if 0≤x6 then (if x6≤x1 then (if x1≤(x0.size:Int) then (some (x1,x0.extract (x6:Int).toNat (x1:Int).toNat)) else (none)) else (none)) else (none)) else (if (bt x0 x1)=93 then (if 0≤x6 then (if x6≤x1 then (if x1≤(x0.size:Int) then (some (x1,x0.extract (x6:Int).toNat (x1:Int).toNat)) else (none)) else (none)) else (none)) else (if (bt x0 x1)=125 then (if 0≤x6 then (if x6≤x1 then (if x1≤(x0.size:Int) then (some (x1,x0.extract (x6:Int).toNat (x1:Int).toNat)) else (none)) else (none)) else (none)) else (dH.l0 k x0 (wrap64 (x1+1)) x6))))) else (none)) else (if 0≤x6 then (if x6≤(x0.size:Int) then (some (x1,x0.extract (x6:Int).toNat x0.size)) else (none)) else (none))
def dH.f (k:Nat) (a0:ByteArray) (a1:Int):Option (Int × ByteArray):=dH.l0 k a0 (wrap64 (a1+1)) a1
theorem dH.calls (k:Nat) (a0:ByteArray) (a1:Int) (r1:Int) (r2:ByteArray) (w:World) (h:dH.f k a0 a1=some (r1,r2)) :
 Calls Tryz.prog 86 #[.string a0,.int .i64 a1] w fun e w'=>e = .returned (.tuple #[.int .i64 r1,.string r2])∧aj w w':=by
 have H:(dH.l0 k a0 (wrap64 (a1+1)) a1)=some (r1,r2):=h
 clear h
 have H':=ae.mk H
 clear H
 go_enter Tryz.func86,Tryz.ntmps86
 go_wp2
 repeat (go_quiet (fail);try go_wp2)
 go_loopg [1] k (fun kq v1 w'=>∃ (x1_1:Int),v1 = .int .i64 x1_1∧ae (dH.l0 kq a0 x1_1 a1=some (r1,r2))∧ae (kq≤k)∧aj w w')
 case atStart=>exact ⟨(wrap64 (a1+1)),(by first | rfl | (simp;done) | (simp [*];done)),H',⟨Nat.le_refl _⟩,by repeat (first | exact aj.refl _ | apply aj.step)⟩
 case round =>
  clear H'
  try clear p2
  obtain ⟨x1_1,rfl,HA,HK1,⟨m1,rfl⟩⟩:=hrel
  cases gk with
  | zero=>exact absurd HA.out (by simp [dH.l0])
  | succ k1 =>
    have H:=HA.out
    clear HA
    simp only [dH.l0] at H
    by_cases c3:x1_1 < (a0.size:Int)
    ·rw [if_pos c3] at H
     have c3b0:decide (x1_1 < (a0.size:Int))=true:=decide_eq_true c3
     clear c3
     by_cases c4:0≤x1_1
     ·rw [if_pos c4] at H
      have c4b0:decide (0≤x1_1)=true:=decide_eq_true c4
      clear c4
      by_cases c6:(bt a0 x1_1)≤32
      ·rw [if_pos c6] at H
       have c6b0:decide ((bt a0 x1_1)≤32)=true:=decide_eq_true c6
       clear c6
       by_cases c7:0≤a1
       ·rw [if_pos c7] at H
        have c7b0:=eq_true c7
        have c7b1:decide (0≤a1)=true:=decide_eq_true c7
        clear c7
        by_cases c8:a1≤x1_1
        ·rw [if_pos c8] at H
         have c8b0:=eq_true c8
         have c8b1:decide (a1≤x1_1)=true:=decide_eq_true c8
         clear c8
         by_cases c9:x1_1≤(a0.size:Int)
         ·rw [if_pos c9] at H
          have c9b0:=eq_true c9
          have c9b1:decide (x1_1≤(a0.size:Int))=true:=decide_eq_true c9
          clear c9
          simp only [Option.some.injEq,Prod.mk.injEq] at H
          obtain ⟨rfl,rfl⟩:=H
          have p5:0≤(x1_1:Int):=of_decide_eq_true (by first | (with_reducible assumption) | assumption)
          have q5:x1_1 < (a0.size:Int):=of_decide_eq_true (by first | (with_reducible assumption) | assumption)
          have hx5:=cZ a0 x1_1
          replace p5:=eq_true p5
          replace q5:=eq_true q5
          (try (have q5e:=of_eq_true q5;simp only [ByteArray.size_extract] at q5e;replace q5e:=eq_true q5e))
          go_wp2
          repeat (go_quiet (fail);try go_wp2)
          go_ret2
          exact ⟨by first | rfl | (simp;done) | (simp [*];done),by repeat (first | exact aj.refl _ | apply aj.step)⟩
         ·rw [if_neg c9] at H
          exact absurd H (by simp)
        ·rw [if_neg c8] at H
         exact absurd H (by simp)
       ·rw [if_neg c7] at H
        exact absurd H (by simp)
      ·rw [if_neg c6] at H
       have c6b0:decide ((bt a0 x1_1)≤32)=false:=decide_eq_false c6
       clear c6
       by_cases c11:(bt a0 x1_1)=44
       ·rw [if_pos c11] at H
        have c11b0:((bt a0 x1_1) == 44)=true:=beq_iff_eq.mpr c11
        have c11b1:((bt a0 x1_1) != 44)=false:=bne_eq_false_iff_eq.mpr c11
        clear c11
        by_cases c12:0≤a1
        ·rw [if_pos c12] at H
         have c12b0:=eq_true c12
         have c12b1:decide (0≤a1)=true:=decide_eq_true c12
         clear c12
         by_cases c13:a1≤x1_1
         ·rw [if_pos c13] at H
          have c13b0:=eq_true c13
          have c13b1:decide (a1≤x1_1)=true:=decide_eq_true c13
          clear c13
          by_cases c14:x1_1≤(a0.size:Int)
          ·rw [if_pos c14] at H
           have c14b0:=eq_true c14
           have c14b1:decide (x1_1≤(a0.size:Int))=true:=decide_eq_true c14
           clear c14
           simp only [Option.some.injEq,Prod.mk.injEq] at H
           obtain ⟨rfl,rfl⟩:=H
           have p5:0≤(x1_1:Int):=of_decide_eq_true (by first | (with_reducible assumption) | assumption)
           have q5:x1_1 < (a0.size:Int):=of_decide_eq_true (by first | (with_reducible assumption) | assumption)
           have hx5:=cZ a0 x1_1
           replace p5:=eq_true p5
           replace q5:=eq_true q5
           (try (have q5e:=of_eq_true q5;simp only [ByteArray.size_extract] at q5e;replace q5e:=eq_true q5e))
           have p10:0≤(x1_1:Int):=of_decide_eq_true (by first | (with_reducible assumption) | assumption)
           have q10:x1_1 < (a0.size:Int):=of_decide_eq_true (by first | (with_reducible assumption) | assumption)
           have hx10:=cZ a0 x1_1
           replace p10:=eq_true p10
           replace q10:=eq_true q10
           (try (have q10e:=of_eq_true q10;simp only [ByteArray.size_extract] at q10e;replace q10e:=eq_true q10e))
           go_wp2
           repeat (go_quiet (fail);try go_wp2)
           go_ret2
           exact ⟨by first | rfl | (simp;done) | (simp [*];done),by repeat (first | exact aj.refl _ | apply aj.step)⟩
          ·rw [if_neg c14] at H
           exact absurd H (by simp)
         ·rw [if_neg c13] at H
          exact absurd H (by simp)
        ·rw [if_neg c12] at H
         exact absurd H (by simp)
       ·rw [if_neg c11] at H
        have c11b0:((bt a0 x1_1) == 44)=false:=beq_eq_false_iff_ne.mpr c11
        have c11b1:((bt a0 x1_1) != 44)=true:=bne_iff_ne.mpr c11
        by_cases c16:(bt a0 x1_1)=93
        ·rw [if_pos c16] at H
         have c16b0:((bt a0 x1_1) == 93)=true:=beq_iff_eq.mpr c16
         have c16b1:((bt a0 x1_1) != 93)=false:=bne_eq_false_iff_eq.mpr c16
         clear c16
         by_cases c17:0≤a1
         ·rw [if_pos c17] at H
          have c17b0:=eq_true c17
          have c17b1:decide (0≤a1)=true:=decide_eq_true c17
          clear c17
          by_cases c18:a1≤x1_1
          ·rw [if_pos c18] at H
           have c18b0:=eq_true c18
           have c18b1:decide (a1≤x1_1)=true:=decide_eq_true c18
           clear c18
           by_cases c19:x1_1≤(a0.size:Int)
           ·rw [if_pos c19] at H
            have c19b0:=eq_true c19
            have c19b1:decide (x1_1≤(a0.size:Int))=true:=decide_eq_true c19
            clear c19
            simp only [Option.some.injEq,Prod.mk.injEq] at H
            obtain ⟨rfl,rfl⟩:=H
            have p5:0≤(x1_1:Int):=of_decide_eq_true (by first | (with_reducible assumption) | assumption)
            have q5:x1_1 < (a0.size:Int):=of_decide_eq_true (by first | (with_reducible assumption) | assumption)
            have hx5:=cZ a0 x1_1
            replace p5:=eq_true p5
            replace q5:=eq_true q5
            (try (have q5e:=of_eq_true q5;simp only [ByteArray.size_extract] at q5e;replace q5e:=eq_true q5e))
            have p10:0≤(x1_1:Int):=of_decide_eq_true (by first | (with_reducible assumption) | assumption)
            have q10:x1_1 < (a0.size:Int):=of_decide_eq_true (by first | (with_reducible assumption) | assumption)
            have hx10:=cZ a0 x1_1
            replace p10:=eq_true p10
            replace q10:=eq_true q10
            (try (have q10e:=of_eq_true q10;simp only [ByteArray.size_extract] at q10e;replace q10e:=eq_true q10e))
            have p15:0≤(x1_1:Int):=of_decide_eq_true (by first | (with_reducible assumption) | assumption)
            have q15:x1_1 < (a0.size:Int):=of_decide_eq_true (by first | (with_reducible assumption) | assumption)
            have hx15:=cZ a0 x1_1
            replace p15:=eq_true p15
            replace q15:=eq_true q15
            (try (have q15e:=of_eq_true q15;simp only [ByteArray.size_extract] at q15e;replace q15e:=eq_true q15e))
            go_wp2
            repeat (go_quiet (fail);try go_wp2)
            go_ret2
            exact ⟨by first | rfl | (simp;done) | (simp [*];done),by repeat (first | exact aj.refl _ | apply aj.step)⟩
           ·rw [if_neg c19] at H
            exact absurd H (by simp)
          ·rw [if_neg c18] at H
           exact absurd H (by simp)
         ·rw [if_neg c17] at H
          exact absurd H (by simp)
        ·rw [if_neg c16] at H
         have c16b0:((bt a0 x1_1) == 93)=false:=beq_eq_false_iff_ne.mpr c16
         have c16b1:((bt a0 x1_1) != 93)=true:=bne_iff_ne.mpr c16
         by_cases c21:(bt a0 x1_1)=125
         ·rw [if_pos c21] at H
          have c21b0:((bt a0 x1_1) == 125)=true:=beq_iff_eq.mpr c21
          have c21b1:((bt a0 x1_1) != 125)=false:=bne_eq_false_iff_eq.mpr c21
          clear c21
          by_cases c22:0≤a1
          ·rw [if_pos c22] at H
           have c22b0:=eq_true c22
           have c22b1:decide (0≤a1)=true:=decide_eq_true c22
           clear c22
           by_cases c23:a1≤x1_1
           ·rw [if_pos c23] at H
            have c23b0:=eq_true c23
            have c23b1:decide (a1≤x1_1)=true:=decide_eq_true c23
            clear c23
            by_cases c24:x1_1≤(a0.size:Int)
            ·rw [if_pos c24] at H
             have c24b0:=eq_true c24
             have c24b1:decide (x1_1≤(a0.size:Int))=true:=decide_eq_true c24
             clear c24
             simp only [Option.some.injEq,Prod.mk.injEq] at H
             obtain ⟨rfl,rfl⟩:=H
             have p5:0≤(x1_1:Int):=of_decide_eq_true (by first | (with_reducible assumption) | assumption)
             have q5:x1_1 < (a0.size:Int):=of_decide_eq_true (by first | (with_reducible assumption) | assumption)
             have hx5:=cZ a0 x1_1
             replace p5:=eq_true p5
             replace q5:=eq_true q5
             (try (have q5e:=of_eq_true q5;simp only [ByteArray.size_extract] at q5e;replace q5e:=eq_true q5e))
             have p10:0≤(x1_1:Int):=of_decide_eq_true (by first | (with_reducible assumption) | assumption)
             have q10:x1_1 < (a0.size:Int):=of_decide_eq_true (by first | (with_reducible assumption) | assumption)
             have hx10:=cZ a0 x1_1
             replace p10:=eq_true p10
             replace q10:=eq_true q10
             (try (have q10e:=of_eq_true q10;simp only [ByteArray.size_extract] at q10e;replace q10e:=eq_true q10e))
             have p15:0≤(x1_1:Int):=of_decide_eq_true (by first | (with_reducible assumption) | assumption)
             have q15:x1_1 < (a0.size:Int):=of_decide_eq_true (by first | (with_reducible assumption) | assumption)
             have hx15:=cZ a0 x1_1
             replace p15:=eq_true p15
             replace q15:=eq_true q15
             (try (have q15e:=of_eq_true q15;simp only [ByteArray.size_extract] at q15e;replace q15e:=eq_true q15e))
             have p20:0≤(x1_1:Int):=of_decide_eq_true (by first | (with_reducible assumption) | assumption)
             have q20:x1_1 < (a0.size:Int):=of_decide_eq_true (by first | (with_reducible assumption) | assumption)
             have hx20:=cZ a0 x1_1
             replace p20:=eq_true p20
             replace q20:=eq_true q20
             (try (have q20e:=of_eq_true q20;simp only [ByteArray.size_extract] at q20e;replace q20e:=eq_true q20e))
             go_wp2
             repeat (go_quiet (fail);try go_wp2)
             go_ret2
             exact ⟨by first | rfl | (simp;done) | (simp [*];done),by repeat (first | exact aj.refl _ | apply aj.step)⟩
            ·rw [if_neg c24] at H
             exact absurd H (by simp)
           ·rw [if_neg c23] at H
            exact absurd H (by simp)
          ·rw [if_neg c22] at H
           exact absurd H (by simp)
         ·rw [if_neg c21] at H
          have c21b0:((bt a0 x1_1) == 125)=false:=beq_eq_false_iff_ne.mpr c21
          have c21b1:((bt a0 x1_1) != 125)=true:=bne_iff_ne.mpr c21
          have H':=ae.mk H
          clear H
          have p5:0≤(x1_1:Int):=of_decide_eq_true (by first | (with_reducible assumption) | assumption)
          have q5:x1_1 < (a0.size:Int):=of_decide_eq_true (by first | (with_reducible assumption) | assumption)
          have hx5:=cZ a0 x1_1
          replace p5:=eq_true p5
          replace q5:=eq_true q5
          (try (have q5e:=of_eq_true q5;simp only [ByteArray.size_extract] at q5e;replace q5e:=eq_true q5e))
          have p10:0≤(x1_1:Int):=of_decide_eq_true (by first | (with_reducible assumption) | assumption)
          have q10:x1_1 < (a0.size:Int):=of_decide_eq_true (by first | (with_reducible assumption) | assumption)
          have hx10:=cZ a0 x1_1
          replace p10:=eq_true p10
          replace q10:=eq_true q10
          (try (have q10e:=of_eq_true q10;simp only [ByteArray.size_extract] at q10e;replace q10e:=eq_true q10e))
          have p15:0≤(x1_1:Int):=of_decide_eq_true (by first | (with_reducible assumption) | assumption)
          have q15:x1_1 < (a0.size:Int):=of_decide_eq_true (by first | (with_reducible assumption) | assumption)
          have hx15:=cZ a0 x1_1
          replace p15:=eq_true p15
          replace q15:=eq_true q15
          (try (have q15e:=of_eq_true q15;simp only [ByteArray.size_extract] at q15e;replace q15e:=eq_true q15e))
          have p20:0≤(x1_1:Int):=of_decide_eq_true (by first | (with_reducible assumption) | assumption)
          have q20:x1_1 < (a0.size:Int):=of_decide_eq_true (by first | (with_reducible assumption) | assumption)
          have hx20:=cZ a0 x1_1
          replace p20:=eq_true p20
          replace q20:=eq_true q20
          (try (have q20e:=of_eq_true q20;simp only [ByteArray.size_extract] at q20e;replace q20e:=eq_true q20e))
          go_wp2
          repeat (go_quiet (fail);try go_wp2)
          go_roundg k1
          case measure=>have:=HK1.out;omega
          case rel=>exact ⟨(wrap64 (x1_1+1)),(by first | rfl | (simp;done) | (simp [*];done)),H',⟨by have:=HK1.out;omega⟩,by repeat (first | exact aj.refl _ | apply aj.step)⟩
     ·rw [if_neg c4] at H
      exact absurd H (by simp)
    ·rw [if_neg c3] at H
     have c3b0:decide (x1_1 < (a0.size:Int))=false:=decide_eq_false c3
     clear c3
     by_cases c25:0≤a1
     ·rw [if_pos c25] at H
      have c25b0:=eq_true c25
      have c25b1:decide (0≤a1)=true:=decide_eq_true c25
      clear c25
      by_cases c26:a1≤(a0.size:Int)
      ·rw [if_pos c26] at H
       have c26b0:=eq_true c26
       have c26b1:decide (a1≤(a0.size:Int))=true:=decide_eq_true c26
       clear c26
       simp only [Option.some.injEq,Prod.mk.injEq] at H
       obtain ⟨rfl,rfl⟩:=H
       go_wp2
       repeat (go_quiet (fail);try go_wp2)
       go_ret2
       exact ⟨by first | rfl | (simp;done) | (simp [*];done),by repeat (first | exact aj.refl _ | apply aj.step)⟩
      ·rw [if_neg c26] at H
       exact absurd H (by simp)
     ·rw [if_neg c25] at H
      exact absurd H (by simp)
end Go.Proofs.YtpgfjbimodnkeaaGreatDoor.Q
namespace Go.Proofs.YtpgfjbimodnkeaaGreatDoor.Scan
open Go Go.RowKit Go.Proofs.YtpgfjbimodnkeaaGreatDoorW.PrintWords Go.Proofs.YtpgfjbimodnkeaaGreatDoor.Q Go.Proofs.YtpgfjbimodnkeaaGreatDoor.Dec
section
variable {s:ByteArray} {a q:Nat}
theorem zg (hS:s.size≤1099511627776) (h:Quo s a q) (p:Nat) (ve:Bool) (hpq:p=q):(if 0≤(wrap64 ((a:Int) - 1)) then (if (wrap64 ((a:Int) - 1))≤(wrap64 ((p:Int)+1)) then (if (wrap64 ((p:Int)+1))≤(s.size:Int) then (some (wrap64 ((p:Int)+1),s.extract ((wrap64 ((a:Int) - 1)):Int).toNat ((wrap64 ((p:Int)+1)):Int).toNat,ve,true)) else (none)) else (none)) else (none))
 = some (((q+1:Nat):Int),s.extract (a - 1) (q+1),ve,true):=by
 subst hpq
 have h1:=h.one
 have h2:=h.le
 have h3:=h.lt
 rw [bu (i:=(a:Int) - 1) (a - 1) (by omega) (by omega),bu (i:=(p:Int)+1) (p+1) (by omega) (by omega),if_pos (by omega),if_pos (by omega),if_pos (by omega),Int.toNat_natCast,Int.toNat_natCast]
theorem Gl (hS:s.size≤1099511627776) (h:Quo s a q) (p:Nat) (h1:a < p) (h2:p≤q) (hm:bt s p=34) (hb:slashes s a p=slashes s a (p - 1)+1)
 (hl1:p < q→Evt (fun k=>aU.l1 k s ((p+1:Nat):Int) a) (((q+1:Nat):Int),s.extract (a - 1) (q+1),true,true)) :
 ∀ (j n:Nat),j < p→a≤j+1→slashes s a (j+1)+n=slashes s a (p - 1)→Evt (fun k=>aU.l2 k s p a n j) (((q+1:Nat):Int),s.extract (a - 1) (q+1),true,true):=by
 have h3:=h.lt
 have fin:∀ n:Nat,n=slashes s a (p - 1)→Evt (fun k=>(if (Int.tmod (n:Int) 2)=0 then (aU.l1 k s (wrap64 ((p:Int)+1)) a) else (if 0≤(wrap64 ((a:Int) - 1)) then (if (wrap64 ((a:Int) - 1))≤(wrap64 ((p:Int)+1)) then (if (wrap64 ((p:Int)+1))≤(s.size:Int) then (some (wrap64 ((p:Int)+1),s.extract ((wrap64 ((a:Int) - 1)):Int).toNat ((wrap64 ((p:Int)+1)):Int).toNat,true,true)) else (none)) else (none)) else (none)))) (((q+1:Nat):Int),s.extract (a - 1) (q+1),true,true):=by
  intro n hn
  have htm:Int.tmod (n:Int) 2=((n % 2:Nat):Int):=by rw [Int.tmod_eq_emod_of_nonneg (by omega)];omega
  rw [htm]
  by_cases hp:n % 2=0
  ·have hlt:p < q:=by
    rcases Nat.lt_or_ge p q with hl | hl
    ·exact hl
    ·have:p=q:=by omega
     subst this
     have:=h.even;omega
   refine Evt.pos (by omega) ?_
   rw [bu (i:=(p:Int)+1) (p+1) (by omega) (by omega)]
   exact hl1 hlt
  ·exact Evt.neg (by omega) (Evt.of (zg hS h p true (h.same (by omega) h2 hm (by omega))))
 intro j
 induction j with
 | zero =>
   intro n h4 h5 h6
   have hs1:slashes s a (0+1)=0:=kw s a 1 (by have:=h.one;omega)
   refine Evt.succ ?_
   simp only [aU.l2]
   exact Evt.neg (by omega) (fin n (by omega))
 | succ j ih =>
   intro n h4 h5 h6
   refine Evt.succ ?_
   simp only [aU.l2]
   refine Evt.pos (by omega) (Evt.pos (by omega) (Evt.pos (by omega) ?_))
   by_cases hc:bt s ((j+1:Nat):Int)=92
   ·refine Evt.pos hc ?_
    have ha:a≤j+1:=by
     rcases Nat.lt_or_ge (j+1) a with hl | hl
     ·have:j+1=a - 1:=by omega
      rw [this] at hc
      have:=h.open_
      omega
     ·exact hl
    rw [slashes,if_pos ⟨ha,hc⟩] at h6
    have:=ih (n+1) (by omega) ha (by omega)
    rw [bu (i:=(n:Int)+1) (n+1) (by omega) (by have:=zu s a (p - 1);omega),bu (i:=((j+1:Nat):Int) - 1) j (by omega) (by omega)]
    exact this
   ·refine Evt.neg hc (fin n ?_)
    rw [slashes,if_neg (fun hh=>hc hh.2)] at h6
    omega
theorem Ij (hS:s.size≤1099511627776) (h:Quo s a q) (n:Nat):∀ p:Nat,q - p=n→a < p→p≤q→Evt (fun k=>aU.l1 k s p a) (((q+1:Nat):Int),s.extract (a - 1) (q+1),true,true):=by
 have h3:=h.lt
 have hq:=h.mark
 induction n with
 | zero =>
   intro p hn h1 h2
   obtain rfl:p=q:=by omega
   refine Evt.succ ?_
   simp only [aU.l1]
   refine Evt.pos (by omega) (Evt.pos (by omega) (Evt.neg (by omega) (Evt.pos hq ?_)))
   rw [bu (i:=(p:Int) - 1) (p - 1) (by omega) (by omega)]
   refine Evt.pos (by omega) (Evt.pos (by omega) ?_)
   by_cases hb:bt s ((p - 1:Nat):Int)=92
   ·refine Evt.pos hb ?_
    have hs:slashes s a p=slashes s a (p - 1)+1:=by
     obtain ⟨m,rfl⟩:∃ m,p=m+1:=⟨p - 1,by omega⟩
     rw [slashes,if_pos ⟨by omega,hb⟩];rfl
    have hev:=h.even
    have ha2:a+1 < p:=by
     rcases Nat.lt_or_ge (a+1) p with hl | hl
     ·exact hl
     ·have:p - 1=a:=by omega
      rw [this,kw s a a (Nat.le_refl a)] at hs
      omega
    rw [bu (i:=(p:Int) - 2) (p - 2) (by omega) (by omega)]
    exact Gl hS h p h1 h2 hq hs (fun hl=>absurd hl (by omega)) (p - 2) 0 (by omega) (by omega) (by rw [show p - 2+1=p - 1 by omega];omega)
   ·exact Evt.neg hb (Evt.of (zg hS h p true rfl))
 | succ n ih =>
   intro p hn h1 h2
   refine Evt.succ ?_
   simp only [aU.l1]
   refine Evt.pos (by omega) (Evt.pos (by omega) ?_)
   have nxt:=ih (p+1) (by omega) (by omega) (by omega)
   have w1:wrap64 ((p:Int)+1)=((p+1:Nat):Int):=bu _ (by omega) (by omega)
   by_cases c0:bt s p > 92
   ·refine Evt.pos c0 ?_
    rw [w1];exact nxt
   refine Evt.neg c0 ?_
   by_cases c1:bt s p=34
   ·have hod:=h.odd p (by omega) (by omega) c1
    obtain ⟨_,hb,hs⟩:=qf (show slashes s a p≠0 by omega)
    refine Evt.pos c1 ?_
    rw [bu (i:=(p:Int) - 1) (p - 1) (by omega) (by omega)]
    refine Evt.pos (by omega) (Evt.pos (by omega) (Evt.pos hb ?_))
    rw [gU (i:=(p:Int) - 2) (by omega) (by omega)]
    have hpa:=h.one
    have:=Gl hS h p h1 h2 c1 hs (fun _=>nxt) (p - 2) 0 (by omega) (by omega) (by rw [show p - 2+1=p - 1 by omega];omega)
    rwa [show ((p - 2:Nat):Int)=(p:Int) - 2 by omega] at this
   ·refine Evt.neg c1 ?_
    rw [w1];exact nxt
theorem Iu (hS:s.size≤1099511627776) (h:Quo s a q) (n:Nat):∀ p:Nat,q - p=n→a≤p→p≤q→(∀ j:Nat,a≤j→j < p→bt s j≠92) →
 ∃ ve:Bool,Evt (fun k=>aU.l0 k s p a) (((q+1:Nat):Int),s.extract (a - 1) (q+1),ve,true)∧(ve=false→∀ j:Nat,a≤j→j < q→bt s j≠92):=by
 have h3:=h.lt
 have hq:=h.mark
 induction n with
 | zero =>
   intro p hn h1 h2 hno
   obtain rfl:p=q:=by omega
   refine ⟨false,Evt.succ ?_,fun _=>hno⟩
   simp only [aU.l0]
   exact Evt.pos (by omega) (Evt.pos (by omega) (Evt.neg (by omega) (Evt.pos hq (Evt.of (zg hS h p false rfl)))))
 | succ n ih =>
   intro p hn h1 h2 hno
   have w1:wrap64 ((p:Int)+1)=((p+1:Nat):Int):=bu _ (by omega) (by omega)
   by_cases c2:bt s p=92
   ·refine ⟨true,Evt.succ ?_,fun hh=>by cases hh⟩
    simp only [aU.l0]
    refine Evt.pos (by omega) (Evt.pos (by omega) (Evt.neg (by omega) (Evt.neg (by omega) (Evt.pos c2 ?_))))
    rw [w1]
    exact Ij hS h _ (p+1) rfl (by omega) (by omega)
   ·obtain ⟨ve,g1,g2⟩:=ih (p+1) (by omega) (by omega) (by omega) (fun j k1 k2=>if hj:j=p then hj ▸ c2 else hno j k1 (by omega))
    refine ⟨ve,Evt.succ ?_,g2⟩
    simp only [aU.l0]
    refine Evt.pos (by omega) (Evt.pos (by omega) ?_)
    rw [w1]
    by_cases c0:bt s p > 92
    ·exact Evt.pos c0 g1
    refine Evt.neg c0 ?_
    by_cases c1:bt s p=34
    ·have hod:=h.odd p h1 (by omega) c1
     obtain ⟨hb1,hb,_⟩:=qf (show slashes s a p≠0 by omega)
     exact absurd hb (hno (p - 1) (by omega) (by omega))
    ·exact Evt.neg c1 (Evt.neg c2 g1)
theorem qy (hS:s.size≤1099511627776) (h:Quo s a q):∃ ve:Bool,Evt (fun k=>aU.f k s a) (((q+1:Nat):Int),s.extract (a - 1) (q+1),ve,true)∧(ve=false→∀ j:Nat,a≤j→j < q→bt s j≠92):=by
 unfold aU.f
 exact Iu hS h _ a rfl (Nat.le_refl a) h.le (fun j h1 h2=>by omega)
end
def After (s:ByteArray) (e:Nat):Prop:=e=s.size∨(e < s.size∧(blank (bt s e)∨bt s e=44∨bt s e=93∨bt s e=125))
theorem Iz {s:ByteArray} (hS:s.size≤1099511627776) {i e:Nat} (hsp:gJ s kU i e) (he:e≤s.size) (hA:After s e) (n:Nat):∀ p:Nat,e - p=n→i≤p→p≤e→Evt (fun k=>dH.l0 k s p i) ((e:Int),s.extract i e):=by
 induction n with
 | zero =>
   intro p hn h1 h2
   obtain rfl:p=e:=by omega
   refine Evt.succ ?_
   simp only [dH.l0]
   have fin:(if 0≤(i:Int) then (if (i:Int)≤(p:Int) then (if (p:Int)≤(s.size:Int) then (some ((p:Int),s.extract (i:Int).toNat (p:Int).toNat)) else (none)) else (none)) else (none))=some ((p:Int),s.extract i p):=by
    rw [if_pos (by omega),if_pos (by omega),if_pos (by omega),Int.toNat_natCast,Int.toNat_natCast]
   rcases hA with hA | ⟨hlt,hA⟩
   ·refine Evt.neg (by omega) (Evt.pos (by omega) (Evt.pos (by omega) (Evt.of ?_)))
    rw [Int.toNat_natCast,hA]
   ·refine Evt.pos (by omega) (Evt.pos (by omega) ?_)
    by_cases c0:bt s p≤32
    ·exact Evt.pos c0 (Evt.of fin)
    refine Evt.neg c0 ?_
    by_cases c1:bt s p=44
    ·exact Evt.pos c1 (Evt.of fin)
    refine Evt.neg c1 ?_
    by_cases c2:bt s p=93
    ·exact Evt.pos c2 (Evt.of fin)
    refine Evt.neg c2 ?_
    have c3:bt s p=125:=by unfold blank at hA;omega
    exact Evt.pos c3 (Evt.of fin)
 | succ n ih =>
   intro p hn h1 h2
   have hc:=hsp.all p h1 (by omega)
   have g:=ih (p+1) (by omega) (by omega) (by omega)
   refine Evt.succ ?_
   simp only [dH.l0]
   rw [bu (i:=(p:Int)+1) (p+1) (by omega) (by omega)]
   unfold kU at hc
   exact Evt.pos (by omega) (Evt.pos (by omega) (Evt.neg (by omega) (Evt.neg (by omega) (Evt.neg (by omega) (Evt.neg (by omega) g)))))
theorem xe {s:ByteArray} (hS:s.size≤1099511627776) {i e:Nat} (hie:i < e) (hsp:gJ s kU i e) (he:e≤s.size) (hA:After s e):Evt (fun k=>dH.f k s i) ((e:Int),s.extract i e):=by
 unfold dH.f
 rw [bu (i:=(i:Int)+1) (i+1) (by omega) (by omega)]
 exact Iz hS hsp he hA _ (i+1) rfl (by omega) (by omega)
theorem IA {s:ByteArray} (hS:s.size≤1099511627776) {i e:Nat} (hsp:gJ s (fun c=>97≤c∧c≤122) i e) (he:e≤s.size) (hA:After s e) (n:Nat):∀ p:Nat,e - p=n→i≤p→p≤e→Evt (fun k=>di.l0 k s p i) ((e:Int),s.extract i e):=by
 induction n with
 | zero =>
   intro p hn h1 h2
   obtain rfl:p=e:=by omega
   refine Evt.succ ?_
   simp only [di.l0]
   have fin:(if 0≤(i:Int) then (if (i:Int)≤(p:Int) then (if (p:Int)≤(s.size:Int) then (some ((p:Int),s.extract (i:Int).toNat (p:Int).toNat)) else (none)) else (none)) else (none))=some ((p:Int),s.extract i p):=by
    rw [if_pos (by omega),if_pos (by omega),if_pos (by omega),Int.toNat_natCast,Int.toNat_natCast]
   rcases hA with hA | ⟨hlt,hA⟩
   ·refine Evt.neg (by omega) (Evt.pos (by omega) (Evt.pos (by omega) (Evt.of ?_)))
    rw [Int.toNat_natCast,hA]
   ·refine Evt.pos (by omega) (Evt.pos (by omega) ?_)
    by_cases c0:bt s p < 97
    ·exact Evt.pos c0 (Evt.of fin)
    refine Evt.neg c0 ?_
    have c3:bt s p > 122:=by unfold blank at hA;omega
    exact Evt.pos c3 (Evt.of fin)
 | succ n ih =>
   intro p hn h1 h2
   have hc:=hsp.all p h1 (by omega)
   have g:=ih (p+1) (by omega) (by omega) (by omega)
   refine Evt.succ ?_
   simp only [di.l0]
   rw [bu (i:=(p:Int)+1) (p+1) (by omega) (by omega)]
   exact Evt.pos (by omega) (Evt.pos (by omega) (Evt.neg (by omega) (Evt.neg (by omega) g)))
theorem lY {s:ByteArray} (hS:s.size≤1099511627776) {i:Nat} {w:ByteArray} (hw:Word s i w) (h0:0 < w.size) (hl:∀ m:Nat,m < w.size→97≤bt w m∧bt w m≤122) (hA:After s (i+w.size)):Evt (fun k=>di.f k s i) (((i+w.size:Nat):Int),s.extract i (i+w.size)):=by
 unfold di.f
 have hle:=hw.le
 rw [bu (i:=(i:Int)+1) (i+1) (by omega) (by omega)]
 refine IA hS ⟨by omega,fun m h1 h2=>?_⟩ hle hA _ (i+1) rfl (by omega) (by omega)
 have:=hw.at (m - i) (by omega)
 rw [show i+(m - i)=m by omega] at this
 rw [this]
 exact hl _ (by omega)
theorem Blanks.pass {s:ByteArray} {i j:Nat} (h:Blanks s i j) (hj:j≤s.size):jf s i j:=by
 have hle:=h.le
 have:=jf.many (s:=s) (i:=i) (j - i) (by omega) (fun k h1 h2=>by
  have:=h.all k h1 (by omega)
  unfold blank at this
  unfold vch
  rw [if_neg (by omega),if_neg (by omega),if_neg (by omega)])
 rwa [show i+(j - i)=j by omega] at this
theorem gJ.pass {s:ByteArray} {P:Int→Prop} {i j:Nat} (h:gJ s P i j) (hj:j≤s.size) (hP:∀ c,P c→vch c=0):jf s i j:=by
 have hle:=h.le
 have:=jf.many (s:=s) (i:=i) (j - i) (by omega) (fun k h1 h2=>hP _ (h.all k h1 (by omega)))
 rwa [show i+(j - i)=j by omega] at this
theorem FH (c:Int) (h:kU c):vch c=0:=by
 unfold kU at h
 unfold vch
 rw [if_neg (by omega),if_neg (by omega),if_neg (by omega)]
theorem Word.span {s:ByteArray} {i:Nat} {w:ByteArray} (h:Word s i w) {P:Int→Prop} (hP:∀ m:Nat,m < w.size→P (bt w m)):gJ s P i (i+w.size):=⟨by omega,fun m h1 h2=>by
 have:=h.at (m - i) (by omega)
 rw [show i+(m - i)=m by omega] at this
 rw [this]
 exact hP _ (by omega)⟩
theorem nz:∀ m:Nat,m < nD.size→97≤bt nD m∧bt nD m≤122:=by decide
theorem lG:∀ m:Nat,m < lC.size→97≤bt lC m∧bt lC m≤122:=by decide
theorem ny:∀ m:Nat,m < oV.size→97≤bt oV m∧bt oV m≤122:=by decide
theorem pI (c:Int) (h:97≤c∧c≤122):vch c=0:=by
 unfold vch
 rw [if_neg (by omega),if_neg (by omega),if_neg (by omega)]
def H7 (s:ByteArray):Md→Nat→Nat→Int→Prop
 | .val,i,e,kd=>jf s i e∧(5≤kd→Sq s (i+1) 1 e)
 | _,i,e,_=>∃ j,e=j+1∧j < s.size∧vch (bt s j)=1∧jf s i j
theorem gm.pass {s:ByteArray} {i q:Nat} (h0:i < s.size) (h1:bt s i=34) (h:gm s (i+1) q):jf s i (q+1) :=
 jf.quoted h0 h1 (h.str.quo (by omega) (by simpa using h1))
theorem J.scan {s:ByteArray} {md:Md} {i e:Nat} {kd:Int} {ns:List S44} {ks:List S32} (h:J s md i e kd ns ks):H7 s md i e kd:=by
 induction h with
 | null i h=>exact ⟨gJ.pass (h.span nz) h.le pI,fun h=>by omega⟩
 | fals i h=>exact ⟨gJ.pass (h.span lG) h.le pI,fun h=>by omega⟩
 | tru i h=>exact ⟨gJ.pass (h.span ny) h.le pI,fun h=>by omega⟩
 | num i e h0 h1 h2 h3=>exact ⟨h3.pass h2 FH,fun h=>by omega⟩
 | str i q h0 h1 h2=>exact ⟨gm.pass h0 h1 h2,fun h=>by omega⟩
 | arr0 i j h0 h1 h2 h3 h4 =>
   have hp:=h2.pass (by omega)
   have ho:vch (bt s i)=3:=by rw [h1];rfl
   have hc:vch (bt s j)=1:=by rw [h4];rfl
   exact ⟨jf.bracket h0 ho h3 hc hp,fun _=>jf.closes h3 hc hp⟩
 | arr i j e ks h0 h1 h2 h3 ih =>
   obtain ⟨m,rfl,g1,g2,g3⟩:=ih
   have:=h3.bound
   have hp:=(h2.pass (by omega)).trans g3
   have ho:vch (bt s i)=3:=by rw [h1];rfl
   exact ⟨jf.bracket h0 ho g1 g2 hp,fun _=>jf.closes g1 g2 hp⟩
 | obj0 i j h0 h1 h2 h3 h4 =>
   have hp:=h2.pass (by omega)
   have ho:vch (bt s i)=3:=by rw [h1];rfl
   have hc:vch (bt s j)=1:=by rw [h4];rfl
   exact ⟨jf.bracket h0 ho h3 hc hp,fun _=>jf.closes h3 hc hp⟩
 | obj i j e ns ks h0 h1 h2 h3 ih =>
   obtain ⟨m,rfl,g1,g2,g3⟩:=ih
   have:=h3.bound
   have hp:=(h2.pass (by omega)).trans g3
   have ho:vch (bt s i)=3:=by rw [h1];rfl
   exact ⟨jf.bracket h0 ho g1 g2 hp,fun _=>jf.closes g1 g2 hp⟩
 | el1 i m e kd ns ks h0 h1 h2 h3 ih=>exact ⟨e,rfl,h2,by rw [h3];rfl,ih.1.trans (h1.pass (by omega))⟩
 | els i m c n e kd ns ks l h0 h1 h2 h3 h4 h5 ih ih2 =>
   obtain ⟨j,rfl,g1,g2,g3⟩:=ih2
   have:=h5.bound
   exact ⟨j,rfl,g1,g2,((ih.1.trans (h1.pass (by omega))).trans (jf.one h2 (by rw [h3];rfl))).trans ((h4.pass (by omega)).trans g3)⟩
 | mem1 i q c b m e kd ns ks h0 h1 h2 h3 h4 h5 h6 h7 h8 h9 h10 ih =>
   have:=h7.bound
   exact ⟨e,rfl,h9,by rw [h10];rfl,((gm.pass h0 h1 h2).trans (h3.pass (by omega))).trans ((jf.one h4 (by rw [h5];rfl)).trans ((h6.pass (by omega)).trans (ih.1.trans (h8.pass (by omega)))))⟩
 | mems i q c b m d n e kd ns nl ks l h0 h1 h2 h3 h4 h5 h6 h7 h8 h9 h10 h11 h12 ih ih2 =>
   obtain ⟨j,rfl,g1,g2,g3⟩:=ih2
   have:=h7.bound
   have:=h12.bound
   exact ⟨j,rfl,g1,g2,(((gm.pass h0 h1 h2).trans (h3.pass (by omega))).trans ((jf.one h4 (by rw [h5];rfl)).trans ((h6.pass (by omega)).trans (ih.1.trans (h8.pass (by omega)))))).trans ((jf.one h9 (by rw [h10];rfl)).trans ((h11.pass (by omega)).trans g3))⟩
theorem gJ.prd {s:ByteArray} (hS:s.size≤1099511627776) {P:Int→Prop} {i j:Nat} (h:gJ s P i j) (hj:j≤s.size) (hP:∀ c,P c→c≠92) (hp:Prd s i):Prd s j:=by
 have key:∀ n m:Nat,m - i=n→i≤m→m≤j→Prd s m:=by
  intro n
  induction n with
  | zero =>
    intro m h1 h2 h3
    have e:m=i:=by omega
    rw [e];exact hp
  | succ n ih =>
    intro m h1 h2 h3
    have:=Prd.plain hS (ih (m - 1) (by omega) (by omega) (by omega)) (by omega) (hP _ (h.all (m - 1) (by omega) (by omega)))
    rwa [show m - 1+1=m by omega] at this
 exact key _ j rfl h.le (Nat.le_refl _)
theorem Blanks.prd {s:ByteArray} (hS:s.size≤1099511627776) {i j:Nat} (h:Blanks s i j) (hj:j≤s.size) (hp:Prd s i):Prd s j:=gJ.prd hS (P:=blank) ⟨h.le,h.all⟩ hj (fun c hc=>by unfold blank at hc;omega) hp
theorem gm.prd {s:ByteArray} (hS:s.size≤1099511627776) {i q:Nat} (h0:i < s.size) (h1:bt s i=34) (h:gm s (i+1) q) (hp:Prd s i):Prd s (i+1)∧Prd s (q+1):=by
 have h2:=Prd.plain hS hp h0 (by omega)
 have hb:=h.bound
 exact ⟨h2,Prd.plain hS (jL hS h h2).1 (by omega) (by omega)⟩
theorem J.prd {s:ByteArray} (hS:s.size≤1099511627776) {md:Md} {i e:Nat} {kd:Int} {ns:List S44} {ks:List S32} (h:J s md i e kd ns ks):Prd s i→Prd s e:=by
 have let92:∀ c:Int,97≤c∧c≤122→c≠92:=fun c hc=>by omega
 induction h with
 | null i h=>exact gJ.prd hS (h.span nz) h.le let92
 | fals i h=>exact gJ.prd hS (h.span lG) h.le let92
 | tru i h=>exact gJ.prd hS (h.span ny) h.le let92
 | num i e h0 h1 h2 h3=>exact h3.prd hS h2 (fun c hc=>by unfold kU at hc;omega)
 | str i q h0 h1 h2=>exact fun hp=>(gm.prd hS h0 h1 h2 hp).2
 | arr0 i j h0 h1 h2 h3 h4=>exact fun hp=>Prd.plain hS (h2.prd hS (by omega) (Prd.plain hS hp h0 (by omega))) h3 (by omega)
 | arr i j e ks h0 h1 h2 h3 ih=>exact fun hp=>ih (h2.prd hS (by have:=h3.bound;omega) (Prd.plain hS hp h0 (by omega)))
 | obj0 i j h0 h1 h2 h3 h4=>exact fun hp=>Prd.plain hS (h2.prd hS (by omega) (Prd.plain hS hp h0 (by omega))) h3 (by omega)
 | obj i j e ns ks h0 h1 h2 h3 ih=>exact fun hp=>ih (h2.prd hS (by have:=h3.bound;omega) (Prd.plain hS hp h0 (by omega)))
 | el1 i m e kd ns ks h0 h1 h2 h3 ih=>exact fun hp=>Prd.plain hS (h1.prd hS (by omega) (ih hp)) h2 (by omega)
 | els i m c n e kd ns ks l h0 h1 h2 h3 h4 h5 ih ih2=>exact fun hp=>ih2 (h4.prd hS (by have:=h5.bound;omega) (Prd.plain hS (h1.prd hS (by omega) (ih hp)) h2 (by omega)))
 | mem1 i q c b m e kd ns ks h0 h1 h2 h3 h4 h5 h6 h7 h8 h9 h10 ih =>
   exact fun hp=>Prd.plain hS (h8.prd hS (by omega) (ih (h6.prd hS (by have:=h7.bound;omega) (Prd.plain hS (h3.prd hS (by omega) (gm.prd hS h0 h1 h2 hp).2) h4 (by omega))))) h9 (by omega)
 | mems i q c b m d n e kd ns nl ks l h0 h1 h2 h3 h4 h5 h6 h7 h8 h9 h10 h11 h12 ih ih2 =>
   exact fun hp=>ih2 (h11.prd hS (by have:=h12.bound;omega) (Prd.plain hS (h8.prd hS (by omega) (ih (h6.prd hS (by have:=h7.bound;omega) (Prd.plain hS (h3.prd hS (by omega) (gm.prd hS h0 h1 h2 hp).2) h4 (by omega))))) h9 (by omega)))
end Go.Proofs.YtpgfjbimodnkeaaGreatDoor.Scan
