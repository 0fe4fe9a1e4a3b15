/- FnGjGroupText: whatever text comes in, the law returns true and the text reads afterwards as before; with the fourteen package-level variables that its row lists as the text of the program lays them (the tied card) (part 15 of 33: lemmas for its last part) -/
import Derived.Test.YtpgfjbimodnkeaaGreatDoorGrp2
import Derived.Test.YtpgfjbimodnkeaaGreatDoorGrp13
import Derived.Test.YtpgfjbimodnkeaaGreatDoorGrp14
set_option maxHeartbeats 16000000
set_option maxRecDepth 100000
set_option linter.unusedVariables false
set_option linter.unusedSimpArgs false
namespace Go.Proofs.YtpgfjbimodnkeaaGreatDoor.Q
open Go.RowKit Go.Proofs.YtpgfjbimodnkeaaGreatDoorW.PrintWords Go.Proofs.YtpgfjbimodnkeaaGreatDoorW.PrintLast Go.Proofs.YtpgfjbimodnkeaaGreatDoorW.PrintMore
attribute [local go_sem] dK dJ dZ ed dC dD dN dM
def bn.l0:Nat→ByteArray→Int→Option (Bool)
 | 0,_,_=>none
 | k+1,x0,x3=>if x3 < (x0.size:Int) then (if 0≤x3 then (if (bt x0 x3)=92 then ((bI.f k x0 x3).bind fun bt108=>(if bt108.2=true then ((dU.f bt108.1).bind fun t110=>(if t110=true then ((bI.f k x0 (wrap64 (x3+6))).bind fun bt111=>(if bt111.2=true then ((dG.f bt111.1).bind fun t113=>(if t113=true then (bn.l0 k x0 (wrap64 (x3+12))) else (some false))) else (some false))) else ((dG.f bt108.1).bind fun t114=>(if t114=true then (some false) else (bn.l0 k x0 (wrap64 (x3+6))))))) else (bn.l0 k x0 (wrap64 (x3+2))))) else (bn.l0 k x0 (wrap64 (x3+1)))) else (none)) else (some true)
def bn.f (k:Nat) (a0:ByteArray):Option (Bool):=bn.l0 k a0 0
theorem bn.calls (k:Nat) (a0:ByteArray) (r:Bool) (w:World) (h:bn.f k a0=some r) :
 Calls Tryz.prog 27 #[.string a0] w fun e w'=>e = .returned (.bool r)∧aj w w':=by
 have H:(bn.l0 k a0 0)=some r:=h
 clear h
 have H':=ae.mk H
 clear H
 go_enter Tryz.func27,Tryz.ntmps27
 go_wp2
 go_loopg [3] k (fun kq v3 w'=>∃ (x3_1:Int),v3 = .int .i64 x3_1∧ae (bn.l0 kq a0 x3_1=some r)∧ae (kq≤k)∧aj w w')
 case atStart=>exact ⟨(0),(by first | rfl | (simp;done) | (simp [*];done)),H',⟨Nat.le_refl _⟩,by repeat (first | exact aj.refl _ | apply aj.step)⟩
 case round =>
  clear H'
  obtain ⟨x3_1,rfl,HA,HK1,⟨m1,rfl⟩⟩:=hrel
  cases gk with
  | zero=>exact absurd HA.out (by simp [bn.l0])
  | succ k1 =>
    have H:=HA.out
    clear HA
    simp only [bn.l0] at H
    by_cases c2:x3_1 < (a0.size:Int)
    ·rw [if_pos c2] at H
     have c2b0:decide (x3_1 < (a0.size:Int))=true:=decide_eq_true c2
     clear c2
     by_cases c3:0≤x3_1
     ·rw [if_pos c3] at H
      have c3b0:decide (0≤x3_1)=true:=decide_eq_true c3
      clear c3
      by_cases c5:(bt a0 x3_1)=92
      ·rw [if_pos c5] at H
       have c5b0:((bt a0 x3_1) == 92)=true:=beq_iff_eq.mpr c5
       have c5b1:((bt a0 x3_1) != 92)=false:=bne_eq_false_iff_eq.mpr c5
       clear c5
       replace H:=Option.bind_eq_some_iff.mp H
       obtain ⟨⟨t108,t109⟩,A60,H⟩:=H
       replace H:(if t109=true then ((dU.f t108).bind fun t110=>(if t110=true then ((bI.f k1 a0 (wrap64 (x3_1+6))).bind fun bt111=>(if bt111.2=true then ((dG.f bt111.1).bind fun t113=>(if t113=true then (bn.l0 k1 a0 (wrap64 (x3_1+12))) else (some false))) else (some false))) else ((dG.f t108).bind fun t114=>(if t114=true then (some false) else (bn.l0 k1 a0 (wrap64 (x3_1+6))))))) else (bn.l0 k1 a0 (wrap64 (x3_1+2))))=some r:=H
       have A6:=ae.mk A60
       clear A60
       by_cases c7:t109=true
       ·subst c7
        have H1:((dU.f t108).bind fun t110=>(if t110=true then ((bI.f k1 a0 (wrap64 (x3_1+6))).bind fun bt111=>(if bt111.2=true then ((dG.f bt111.1).bind fun t113=>(if t113=true then (bn.l0 k1 a0 (wrap64 (x3_1+12))) else (some false))) else (some false))) else ((dG.f t108).bind fun t114=>(if t114=true then (some false) else (bn.l0 k1 a0 (wrap64 (x3_1+6)))))))=some r:=by rw [if_pos rfl] at H;exact H
        clear H
        have H:=H1
        clear H1
        replace H:=Option.bind_eq_some_iff.mp H
        obtain ⟨t110,A80,H⟩:=H
        replace H:(if t110=true then ((bI.f k1 a0 (wrap64 (x3_1+6))).bind fun bt111=>(if bt111.2=true then ((dG.f bt111.1).bind fun t113=>(if t113=true then (bn.l0 k1 a0 (wrap64 (x3_1+12))) else (some false))) else (some false))) else ((dG.f t108).bind fun t114=>(if t114=true then (some false) else (bn.l0 k1 a0 (wrap64 (x3_1+6))))))=some r:=H
        have A8:=ae.mk A80
        clear A80
        by_cases c9:t110=true
        ·subst c9
         have H1:((bI.f k1 a0 (wrap64 (x3_1+6))).bind fun bt111=>(if bt111.2=true then ((dG.f bt111.1).bind fun t113=>(if t113=true then (bn.l0 k1 a0 (wrap64 (x3_1+12))) else (some false))) else (some false)))=some r:=by rw [if_pos rfl] at H;exact H
         clear H
         have H:=H1
         clear H1
         replace H:=Option.bind_eq_some_iff.mp H
         obtain ⟨⟨t111,t112⟩,A100,H⟩:=H
         replace H:(if t112=true then ((dG.f t111).bind fun t113=>(if t113=true then (bn.l0 k1 a0 (wrap64 (x3_1+12))) else (some false))) else (some false))=some r:=H
         have A10:=ae.mk A100
         clear A100
         by_cases c11:t112=true
         ·subst c11
          have H1:((dG.f t111).bind fun t113=>(if t113=true then (bn.l0 k1 a0 (wrap64 (x3_1+12))) else (some false)))=some r:=by rw [if_pos rfl] at H;exact H
          clear H
          have H:=H1
          clear H1
          replace H:=Option.bind_eq_some_iff.mp H
          obtain ⟨t113,A120,H⟩:=H
          replace H:(if t113=true then (bn.l0 k1 a0 (wrap64 (x3_1+12))) else (some false))=some r:=H
          have A12:=ae.mk A120
          clear A120
          by_cases c13:t113=true
          ·subst c13
           have H1:(bn.l0 k1 a0 (wrap64 (x3_1+12)))=some r:=by rw [if_pos rfl] at H;exact H
           clear H
           have H:=H1
           clear H1
           have H':=ae.mk H
           clear H
           have p4:0≤(x3_1:Int):=of_decide_eq_true (by first | (with_reducible assumption) | assumption)
           have q4:x3_1 < (a0.size:Int):=of_decide_eq_true (by first | (with_reducible assumption) | assumption)
           have hx4:=cZ a0 x3_1
           replace p4:=eq_true p4
           replace q4:=eq_true q4
           go_wp2_with (first | ((with_reducible refine bF (f:=49) rfl ?_);refine eu (some 21) rfl rfl Tryz.func49 (by kernel_rfl) rfl #[.string a0,.int .i64 x3_1] rfl (by (try simp only [List.map_toArray,List.map_cons,List.map_nil]);first | done | rfl | (simp only [List.length_drop,List.length_take];rfl)) ?_;(with_reducible refine (bI.calls k1 a0 x3_1 t108 true _ A6.out).mono ?_);rintro e w' ⟨rfl,⟨nd,rfl⟩⟩;refine ⟨_,rfl,?_⟩) | ((with_reducible refine bF (f:=50) rfl ?_);refine eu (some 33) rfl rfl Tryz.func50 (by kernel_rfl) rfl #[.int .i64 t108] rfl (by (try simp only [List.map_toArray,List.map_cons,List.map_nil]);first | done | rfl | (simp only [List.length_drop,List.length_take];rfl)) ?_;(with_reducible refine (dU.calls t108 true _ A8.out).mono ?_);rintro e w' ⟨rfl,⟨nd,rfl⟩⟩;refine ⟨_,rfl,?_⟩) | ((with_reducible refine bF (f:=49) rfl ?_);refine eu (some 38) rfl rfl Tryz.func49 (by kernel_rfl) rfl #[.string a0,.int .i64 (wrap64 (x3_1+6))] rfl (by (try simp only [List.map_toArray,List.map_cons,List.map_nil]);first | done | rfl | (simp only [List.length_drop,List.length_take];rfl)) ?_;(with_reducible refine (bI.calls k1 a0 (wrap64 (x3_1+6)) t111 true _ A10.out).mono ?_);rintro e w' ⟨rfl,⟨nd,rfl⟩⟩;refine ⟨_,rfl,?_⟩) | (go_at_call 51;(with_reducible refine (dG.calls t111 true _ A12.out).mono ?_);rintro e w' ⟨rfl,⟨nd,rfl⟩⟩))
           go_roundg k1
           case measure=>have:=HK1.out;omega
           case rel=>exact ⟨(wrap64 (x3_1+12)),(by first | rfl | (simp;done) | (simp [*];done)),H',⟨by have:=HK1.out;omega⟩,by repeat (first | exact aj.refl _ | apply aj.step)⟩
          ·replace c13:=Bool.eq_false_iff.mpr c13
           subst c13
           have H1:(some false)=some r:=by rw [if_neg (show ¬ (false=true) by decide)] at H;exact H
           clear H
           have H:=H1
           clear H1
           obtain rfl:=Option.some.inj H
           have p4:0≤(x3_1:Int):=of_decide_eq_true (by first | (with_reducible assumption) | assumption)
           have q4:x3_1 < (a0.size:Int):=of_decide_eq_true (by first | (with_reducible assumption) | assumption)
           have hx4:=cZ a0 x3_1
           replace p4:=eq_true p4
           replace q4:=eq_true q4
           go_wp2_with (first | ((with_reducible refine bF (f:=49) rfl ?_);refine eu (some 21) rfl rfl Tryz.func49 (by kernel_rfl) rfl #[.string a0,.int .i64 x3_1] rfl (by (try simp only [List.map_toArray,List.map_cons,List.map_nil]);first | done | rfl | (simp only [List.length_drop,List.length_take];rfl)) ?_;(with_reducible refine (bI.calls k1 a0 x3_1 t108 true _ A6.out).mono ?_);rintro e w' ⟨rfl,⟨nd,rfl⟩⟩;refine ⟨_,rfl,?_⟩) | ((with_reducible refine bF (f:=50) rfl ?_);refine eu (some 33) rfl rfl Tryz.func50 (by kernel_rfl) rfl #[.int .i64 t108] rfl (by (try simp only [List.map_toArray,List.map_cons,List.map_nil]);first | done | rfl | (simp only [List.length_drop,List.length_take];rfl)) ?_;(with_reducible refine (dU.calls t108 true _ A8.out).mono ?_);rintro e w' ⟨rfl,⟨nd,rfl⟩⟩;refine ⟨_,rfl,?_⟩) | ((with_reducible refine bF (f:=49) rfl ?_);refine eu (some 38) rfl rfl Tryz.func49 (by kernel_rfl) rfl #[.string a0,.int .i64 (wrap64 (x3_1+6))] rfl (by (try simp only [List.map_toArray,List.map_cons,List.map_nil]);first | done | rfl | (simp only [List.length_drop,List.length_take];rfl)) ?_;(with_reducible refine (bI.calls k1 a0 (wrap64 (x3_1+6)) t111 true _ A10.out).mono ?_);rintro e w' ⟨rfl,⟨nd,rfl⟩⟩;refine ⟨_,rfl,?_⟩) | (go_at_call 51;(with_reducible refine (dG.calls t111 false _ A12.out).mono ?_);rintro e w' ⟨rfl,⟨nd,rfl⟩⟩))
           go_ret
           exact ⟨by first | rfl | (simp;done) | (simp [*];done),by repeat (first | exact aj.refl _ | apply aj.step)⟩
         ·replace c11:=Bool.eq_false_iff.mpr c11
          subst c11
          have H1:(some false)=some r:=by rw [if_neg (show ¬ (false=true) by decide)] at H;exact H
          clear H
          have H:=H1
          clear H1
          obtain rfl:=Option.some.inj H
          have p4:0≤(x3_1:Int):=of_decide_eq_true (by first | (with_reducible assumption) | assumption)
          have q4:x3_1 < (a0.size:Int):=of_decide_eq_true (by first | (with_reducible assumption) | assumption)
          have hx4:=cZ a0 x3_1
          replace p4:=eq_true p4
          replace q4:=eq_true q4
          go_wp2_with (first | ((with_reducible refine bF (f:=49) rfl ?_);refine eu (some 21) rfl rfl Tryz.func49 (by kernel_rfl) rfl #[.string a0,.int .i64 x3_1] rfl (by (try simp only [List.map_toArray,List.map_cons,List.map_nil]);first | done | rfl | (simp only [List.length_drop,List.length_take];rfl)) ?_;(with_reducible refine (bI.calls k1 a0 x3_1 t108 true _ A6.out).mono ?_);rintro e w' ⟨rfl,⟨nd,rfl⟩⟩;refine ⟨_,rfl,?_⟩) | ((with_reducible refine bF (f:=50) rfl ?_);refine eu (some 33) rfl rfl Tryz.func50 (by kernel_rfl) rfl #[.int .i64 t108] rfl (by (try simp only [List.map_toArray,List.map_cons,List.map_nil]);first | done | rfl | (simp only [List.length_drop,List.length_take];rfl)) ?_;(with_reducible refine (dU.calls t108 true _ A8.out).mono ?_);rintro e w' ⟨rfl,⟨nd,rfl⟩⟩;refine ⟨_,rfl,?_⟩) | ((with_reducible refine bF (f:=49) rfl ?_);refine eu (some 38) rfl rfl Tryz.func49 (by kernel_rfl) rfl #[.string a0,.int .i64 (wrap64 (x3_1+6))] rfl (by (try simp only [List.map_toArray,List.map_cons,List.map_nil]);first | done | rfl | (simp only [List.length_drop,List.length_take];rfl)) ?_;(with_reducible refine (bI.calls k1 a0 (wrap64 (x3_1+6)) t111 false _ A10.out).mono ?_);rintro e w' ⟨rfl,⟨nd,rfl⟩⟩;refine ⟨_,rfl,?_⟩))
          go_ret
          exact ⟨by first | rfl | (simp;done) | (simp [*];done),by repeat (first | exact aj.refl _ | apply aj.step)⟩
        ·replace c9:=Bool.eq_false_iff.mpr c9
         subst c9
         have H1:((dG.f t108).bind fun t114=>(if t114=true then (some false) else (bn.l0 k1 a0 (wrap64 (x3_1+6)))))=some r:=by rw [if_neg (show ¬ (false=true) by decide)] at H;exact H
         clear H
         have H:=H1
         clear H1
         replace H:=Option.bind_eq_some_iff.mp H
         obtain ⟨t114,A140,H⟩:=H
         replace H:(if t114=true then (some false) else (bn.l0 k1 a0 (wrap64 (x3_1+6))))=some r:=H
         have A14:=ae.mk A140
         clear A140
         by_cases c15:t114=true
         ·subst c15
          have H1:(some false)=some r:=by rw [if_pos rfl] at H;exact H
          clear H
          have H:=H1
          clear H1
          obtain rfl:=Option.some.inj H
          have p4:0≤(x3_1:Int):=of_decide_eq_true (by first | (with_reducible assumption) | assumption)
          have q4:x3_1 < (a0.size:Int):=of_decide_eq_true (by first | (with_reducible assumption) | assumption)
          have hx4:=cZ a0 x3_1
          replace p4:=eq_true p4
          replace q4:=eq_true q4
          go_wp2_with (first | ((with_reducible refine bF (f:=49) rfl ?_);refine eu (some 21) rfl rfl Tryz.func49 (by kernel_rfl) rfl #[.string a0,.int .i64 x3_1] rfl (by (try simp only [List.map_toArray,List.map_cons,List.map_nil]);first | done | rfl | (simp only [List.length_drop,List.length_take];rfl)) ?_;(with_reducible refine (bI.calls k1 a0 x3_1 t108 true _ A6.out).mono ?_);rintro e w' ⟨rfl,⟨nd,rfl⟩⟩;refine ⟨_,rfl,?_⟩) | ((with_reducible refine bF (f:=50) rfl ?_);refine eu (some 33) rfl rfl Tryz.func50 (by kernel_rfl) rfl #[.int .i64 t108] rfl (by (try simp only [List.map_toArray,List.map_cons,List.map_nil]);first | done | rfl | (simp only [List.length_drop,List.length_take];rfl)) ?_;(with_reducible refine (dU.calls t108 false _ A8.out).mono ?_);rintro e w' ⟨rfl,⟨nd,rfl⟩⟩;refine ⟨_,rfl,?_⟩) | ((with_reducible refine bF (f:=51) rfl ?_);refine eu (some 52) rfl rfl Tryz.func51 (by kernel_rfl) rfl #[.int .i64 t108] rfl (by (try simp only [List.map_toArray,List.map_cons,List.map_nil]);first | done | rfl | (simp only [List.length_drop,List.length_take];rfl)) ?_;(with_reducible refine (dG.calls t108 true _ A14.out).mono ?_);rintro e w' ⟨rfl,⟨nd,rfl⟩⟩;refine ⟨_,rfl,?_⟩))
          go_ret
          exact ⟨by first | rfl | (simp;done) | (simp [*];done),by repeat (first | exact aj.refl _ | apply aj.step)⟩
         ·replace c15:=Bool.eq_false_iff.mpr c15
          subst c15
          have H1:(bn.l0 k1 a0 (wrap64 (x3_1+6)))=some r:=by rw [if_neg (show ¬ (false=true) by decide)] at H;exact H
          clear H
          have H:=H1
          clear H1
          have H':=ae.mk H
          clear H
          have p4:0≤(x3_1:Int):=of_decide_eq_true (by first | (with_reducible assumption) | assumption)
          have q4:x3_1 < (a0.size:Int):=of_decide_eq_true (by first | (with_reducible assumption) | assumption)
          have hx4:=cZ a0 x3_1
          replace p4:=eq_true p4
          replace q4:=eq_true q4
          go_wp2_with (first | ((with_reducible refine bF (f:=49) rfl ?_);refine eu (some 21) rfl rfl Tryz.func49 (by kernel_rfl) rfl #[.string a0,.int .i64 x3_1] rfl (by (try simp only [List.map_toArray,List.map_cons,List.map_nil]);first | done | rfl | (simp only [List.length_drop,List.length_take];rfl)) ?_;(with_reducible refine (bI.calls k1 a0 x3_1 t108 true _ A6.out).mono ?_);rintro e w' ⟨rfl,⟨nd,rfl⟩⟩;refine ⟨_,rfl,?_⟩) | ((with_reducible refine bF (f:=50) rfl ?_);refine eu (some 33) rfl rfl Tryz.func50 (by kernel_rfl) rfl #[.int .i64 t108] rfl (by (try simp only [List.map_toArray,List.map_cons,List.map_nil]);first | done | rfl | (simp only [List.length_drop,List.length_take];rfl)) ?_;(with_reducible refine (dU.calls t108 false _ A8.out).mono ?_);rintro e w' ⟨rfl,⟨nd,rfl⟩⟩;refine ⟨_,rfl,?_⟩) | ((with_reducible refine bF (f:=51) rfl ?_);refine eu (some 52) rfl rfl Tryz.func51 (by kernel_rfl) rfl #[.int .i64 t108] rfl (by (try simp only [List.map_toArray,List.map_cons,List.map_nil]);first | done | rfl | (simp only [List.length_drop,List.length_take];rfl)) ?_;(with_reducible refine (dG.calls t108 false _ A14.out).mono ?_);rintro e w' ⟨rfl,⟨nd,rfl⟩⟩;refine ⟨_,rfl,?_⟩))
          go_roundg k1
          case measure=>have:=HK1.out;omega
          case rel=>exact ⟨(wrap64 (x3_1+6)),(by first | rfl | (simp;done) | (simp [*];done)),H',⟨by have:=HK1.out;omega⟩,by repeat (first | exact aj.refl _ | apply aj.step)⟩
       ·replace c7:=Bool.eq_false_iff.mpr c7
        subst c7
        have H1:(bn.l0 k1 a0 (wrap64 (x3_1+2)))=some r:=by rw [if_neg (show ¬ (false=true) by decide)] at H;exact H
        clear H
        have H:=H1
        clear H1
        have H':=ae.mk H
        clear H
        have p4:0≤(x3_1:Int):=of_decide_eq_true (by first | (with_reducible assumption) | assumption)
        have q4:x3_1 < (a0.size:Int):=of_decide_eq_true (by first | (with_reducible assumption) | assumption)
        have hx4:=cZ a0 x3_1
        replace p4:=eq_true p4
        replace q4:=eq_true q4
        go_wp2_with (first | ((with_reducible refine bF (f:=49) rfl ?_);refine eu (some 21) rfl rfl Tryz.func49 (by kernel_rfl) rfl #[.string a0,.int .i64 x3_1] rfl (by (try simp only [List.map_toArray,List.map_cons,List.map_nil]);first | done | rfl | (simp only [List.length_drop,List.length_take];rfl)) ?_;(with_reducible refine (bI.calls k1 a0 x3_1 t108 false _ A6.out).mono ?_);rintro e w' ⟨rfl,⟨nd,rfl⟩⟩;refine ⟨_,rfl,?_⟩))
        go_roundg k1
        case measure=>have:=HK1.out;omega
        case rel=>exact ⟨(wrap64 (x3_1+2)),(by first | rfl | (simp;done) | (simp [*];done)),H',⟨by have:=HK1.out;omega⟩,by repeat (first | exact aj.refl _ | apply aj.step)⟩
      ·rw [if_neg c5] at H
       have c5b0:((bt a0 x3_1) == 92)=false:=beq_eq_false_iff_ne.mpr c5
       have c5b1:((bt a0 x3_1) != 92)=true:=bne_iff_ne.mpr c5
       have H':=ae.mk H
       clear H
       have p4:0≤(x3_1:Int):=of_decide_eq_true (by first | (with_reducible assumption) | assumption)
       have q4:x3_1 < (a0.size:Int):=of_decide_eq_true (by first | (with_reducible assumption) | assumption)
       have hx4:=cZ a0 x3_1
       replace p4:=eq_true p4
       replace q4:=eq_true q4
       go_wp2
       go_roundg k1
       case measure=>have:=HK1.out;omega
       case rel=>exact ⟨(wrap64 (x3_1+1)),(by first | rfl | (simp;done) | (simp [*];done)),H',⟨by have:=HK1.out;omega⟩,by repeat (first | exact aj.refl _ | apply aj.step)⟩
     ·rw [if_neg c3] at H
      exact absurd H (by simp)
    ·rw [if_neg c2] at H
     have c2b0:decide (x3_1 < (a0.size:Int))=false:=decide_eq_false c2
     clear c2
     obtain rfl:=Option.some.inj H
     go_wp2
     go_ret
     exact ⟨by first | rfl | (simp;done) | (simp [*];done),by repeat (first | exact aj.refl _ | apply aj.step)⟩
end Go.Proofs.YtpgfjbimodnkeaaGreatDoor.Q
namespace Go.Proofs.YtpgfjbimodnkeaaGreatDoor.Scan
open Go Go.RowKit Go.Proofs.YtpgfjbimodnkeaaGreatDoorW.PrintWords Go.Proofs.YtpgfjbimodnkeaaGreatDoor.Q Go.Proofs.YtpgfjbimodnkeaaGreatDoor.Dec
theorem Evt.zB {α:Type} {g:Nat→Option α} {r:α} (h:Evt g r):Evt (fun k=>g (k+1)) r:=by
 obtain ⟨K,hK⟩:=h
 exact ⟨K,fun k hk=>hK (k+1) (by omega)⟩
theorem Evt.mF {α:Type} {c:Prop} [Decidable c] {g h:Nat→Option α} {r:α} (hh:Evt (fun k=>if c then g k else h k) r) (hc:c):Evt g r:=Evt.congr (fun _=>(if_pos hc).symm) hh
theorem Evt.vF {α:Type} {c:Prop} [Decidable c] {g h:Nat→Option α} {r:α} (hh:Evt (fun k=>if c then g k else h k) r) (hc:¬ c):Evt h r:=Evt.congr (fun _=>(if_neg hc).symm) hh
theorem Evt.qF {α β:Type} {g:Nat→Option α} {x:α} {f:Nat→α→Option β} {r:β} (h:Evt (fun k=>(g k).bind (f k)) r) (hg:Evt g x):Evt (fun k=>f k x) r:=by
 obtain ⟨K,hK⟩:=h
 obtain ⟨L,hL⟩:=hg
 refine ⟨K+L,fun k hk=>?_⟩
 have h1:(g k).bind (f k)=some r:=hK k (by omega)
 rw [hL k (by omega)] at h1
 exact h1
theorem Evt.yQ {α:Type} {a r:α} (h:Evt (fun _=>some a) r):a=r:=Evt.uniq (Evt.pure a) h
structure jq (s:ByteArray) (p:Nat):Prop where
 le:p+6≤s.size
 b0:bt s p=92
 b1:bt s ((p:Int)+1)=117
 hex:qU s ((p:Int)+2)
theorem FY (s:ByteArray) (hS:s.size≤1099511627776) (p:Nat) (hp:p+6≤s.size) (n:Nat):∀ (m:Nat) (a:Int),m+n=4→0≤a→a < 16 ^ m →
 ∃ (v:Int) (b:Bool),Evt (fun k=>bI.l0 k s p a ((p+2+m:Nat):Int)) (v,b)∧(b=true↔∀ t:Nat,m≤t→t < 4→iU (bt s ((p+2+t:Nat):Int))) ∧
  (b=true→∀ c:Int,(n=0→c=a)→(n=1→c=a*16+jJ (bt s ((p+5:Nat):Int)))→(n=2→c=(a*16+jJ (bt s ((p+4:Nat):Int)))*16+jJ (bt s ((p+5:Nat):Int))) →
    (n=3→c=((a*16+jJ (bt s ((p+3:Nat):Int)))*16+jJ (bt s ((p+4:Nat):Int)))*16+jJ (bt s ((p+5:Nat):Int))) →
    (n=4→c=(((a*16+jJ (bt s ((p+2:Nat):Int)))*16+jJ (bt s ((p+3:Nat):Int)))*16+jJ (bt s ((p+4:Nat):Int)))*16+jJ (bt s ((p+5:Nat):Int)))→v=c):=by
 induction n with
 | zero =>
   intro m a hm h0 h1
   have hm4:m=4:=by omega
   subst hm4
   refine ⟨a,true,Evt.succ ?_,⟨fun _ t h2 h3=>by omega,fun _=>rfl⟩,fun _ c hc _ _ _ _=>(hc rfl).symm⟩
   simp only [bI.l0]
   rw [bu (p+6) (by omega) (by omega)]
   exact Evt.neg (by omega) (Evt.pure _)
 | succ n ih =>
   intro m a hm h0 h1
   obtain ⟨v,hv,hv2⟩:=uh (bt s ((p+2+m:Nat):Int)) (eG s _)
   by_cases hx:iU (bt s ((p+2+m:Nat):Int))
   ·have hb:=jE hx
    have hp16:(16:Int) ^ m≤4096:=by
     have:m=0∨m=1∨m=2∨m=3:=by omega
     rcases this with rfl | rfl | rfl | rfl <;> decide
    obtain ⟨v',b,h2,h3,h4⟩:=ih (m+1) (a*16+jJ (bt s ((p+2+m:Nat):Int))) (by omega) (by omega) (by rw [Int.pow_succ];omega)
    refine ⟨v',b,Evt.succ ?_,⟨fun hb t h5 h6=>?_,fun h5=>h3.2 (fun t h6 h7=>h5 t (by omega) h7)⟩,fun hb c k0 k1 k2 k3 k4=>h4 hb c ?_ ?_ ?_ ?_ ?_⟩
    ·simp only [bI.l0]
     rw [bu (i:=(p:Int)+6) (p+6) (by omega) (by omega),bu (i:=((p+2+m:Nat):Int)+1) (p+2+(m+1)) (by omega) (by omega)]
     refine Evt.pos (by omega) (Evt.pos (by omega) (Evt.pos (by omega) (Evt.bind hv (Evt.pos (decide_eq_true hx) ?_))))
     simp only [hv2 hx]
     rw [gU (i:=a*16) (by omega) (by omega),gU (by omega) (by omega)]
     exact h2
    ·by_cases ht:t=m
     ·subst ht;exact hx
     ·exact h3.1 hb t (by omega) h6
    ·intro hn;subst hn
     have:m=3:=by omega
     subst this
     exact k1 rfl
    ·intro hn;subst hn
     have:m=2:=by omega
     subst this
     exact k2 rfl
    ·intro hn;subst hn
     have:m=1:=by omega
     subst this
     exact k3 rfl
    ·intro hn;subst hn
     have:m=0:=by omega
     subst this
     exact k4 rfl
    ·intro hn;omega
   ·refine ⟨0,false,Evt.succ ?_,⟨fun h=>(by cases h),fun h=>absurd (h m (Nat.le_refl _) (by omega)) hx⟩,fun h=>by cases h⟩
    simp only [bI.l0]
    rw [bu (p+6) (by omega) (by omega)]
    exact Evt.pos (by omega) (Evt.pos (by omega) (Evt.pos (by omega) (Evt.bind hv (Evt.neg (by simp only [decide_eq_true_eq];exact hx) (Evt.pure _)))))
theorem ku (s:ByteArray) (hS:s.size≤1099511627776) (p:Nat) (hp:p≤2199023255552):∃ (v:Int) (b:Bool),Evt (fun k=>bI.f k s p) (v,b)∧(b=true↔jq s p)∧(b=true→v=dV s ((p:Int)+2)):=by
 have no:∀ x:Bool,x=true→∀ g:Nat→Option (Int × Bool),(∀ k,g k=bI.j0 k s p x)→¬ jq s p→∃ (v:Int) (b:Bool),Evt g (v,b)∧(b=true↔jq s p)∧(b=true→v=dV s ((p:Int)+2)):=by
  intro x hx g hg hU
  refine ⟨0,false,Evt.congr hg (Evt.succ ?_),⟨fun h=>(by cases h),fun h=>absurd h hU⟩,fun h=>by cases h⟩
  simp only [bI.j0]
  exact Evt.pos hx (Evt.pure _)
 unfold bI.f
 by_cases h6:p+6≤s.size
 ·have w1:wrap64 ((s.size:Int) - p)=((s.size - p:Nat):Int):=bu _ (by omega) (by omega)
  have w2:wrap64 ((p:Int)+1)=((p+1:Nat):Int):=bu _ (by omega) (by omega)
  rw [w1,w2]
  by_cases c0:bt s p=92
  ·by_cases c1:bt s ((p+1:Nat):Int)=117
   ·obtain ⟨v,b,h1,h2,h3⟩:=FY s hS p h6 4 0 0 (by omega) (by omega) (by decide)
    have hU:b=true↔jq s p:=by
     rw [h2]
     constructor
     ·intro h
      have k0:=h 0 (by omega) (by omega)
      have k1:=h 1 (by omega) (by omega)
      have k2:=h 2 (by omega) (by omega)
      have k3:=h 3 (by omega) (by omega)
      refine ⟨h6,c0,by rwa [show (p:Int)+1=((p+1:Nat):Int) by omega],?_,?_,?_,?_⟩
      ·rwa [show (p:Int)+2=((p+2+0:Nat):Int) by omega]
      ·rwa [show (p:Int)+2+1=((p+2+1:Nat):Int) by omega]
      ·rwa [show (p:Int)+2+2=((p+2+2:Nat):Int) by omega]
      ·rwa [show (p:Int)+2+3=((p+2+3:Nat):Int) by omega]
     ·intro h t _ ht
      obtain ⟨k0,k1,k2,k3⟩:=h.hex
      have:t=0∨t=1∨t=2∨t=3:=by omega
      rcases this with rfl | rfl | rfl | rfl
      ·rwa [show ((p+2+0:Nat):Int)=(p:Int)+2 by omega]
      ·rwa [show ((p+2+1:Nat):Int)=(p:Int)+2+1 by omega]
      ·rwa [show ((p+2+2:Nat):Int)=(p:Int)+2+2 by omega]
      ·rwa [show ((p+2+3:Nat):Int)=(p:Int)+2+3 by omega]
    refine ⟨v,b,?_,hU,fun hb=>h3 hb _ (by omega) (by omega) (by omega) (by omega) (fun _=>?_)⟩
    ·refine Evt.neg (by omega) (Evt.pos (by omega) (Evt.pos (by omega) (Evt.pos c0 (Evt.pos (by omega) (Evt.pos (by omega) (Evt.succ ?_))))))
     simp only [bI.j0]
     rw [bu (i:=(p:Int)+2) (p+2+0) (by omega) (by omega)]
     exact Evt.neg (by rw [bne_iff_ne];exact fun h=>h c1) h1
    ·unfold dV
     rw [show ((p:Int)+2+1)=((p+3:Nat):Int) by omega,show ((p:Int)+2+2)=((p+4:Nat):Int) by omega,show ((p:Int)+2+3)=((p+5:Nat):Int) by omega,show ((p:Int)+2)=((p+2:Nat):Int) by omega]
     omega
   ·refine no ((bt s ((p+1:Nat):Int)) != 117) (bne_iff_ne.mpr c1) _ (fun k=>?_) (fun h=>c1 (by have:=h.b1;rwa [show (p:Int)+1=((p+1:Nat):Int) by omega] at this))
    rw [if_neg (by omega),if_pos (by omega),if_pos (by omega),if_pos c0,if_pos (by omega),if_pos (by omega)]
  ·refine no true rfl _ (fun k=>?_) (fun h=>c0 h.b0)
   rw [if_neg (by omega),if_pos (by omega),if_pos (by omega),if_neg c0]
 ·refine no true rfl _ (fun k=>?_) (fun h=>h6 h.le)
  have w1:wrap64 ((s.size:Int) - p)=(s.size:Int) - p:=gU (by omega) (by omega)
  rw [w1,if_pos (by omega)]
theorem jX (n:Int):dU.f n=some (decide (55296≤n∧n≤56319)):=by
 unfold dU.f
 by_cases h:55296≤n
 ·rw [if_pos h];simp [h]
 ·rw [if_neg h];simp [h]
theorem nH (n:Int):dG.f n=some (decide (56320≤n∧n≤57343)):=by
 unfold dG.f
 by_cases h:56320≤n
 ·rw [if_pos h];simp [h]
 ·rw [if_neg h];simp [h]
def Prd (s:ByteArray) (p:Nat):Prop:=Evt (fun k=>bn.l0 k s p) true
theorem Prd.plain {s:ByteArray} (hS:s.size≤1099511627776) {p:Nat} (h:Prd s p) (hp:p < s.size) (hb:bt s p≠92):Prd s (p+1):=by
 have h1:=Evt.zB h
 simp only [bn.l0] at h1
 have h2:=((h1.mF (by omega)).mF (by omega)).vF hb
 rwa [bu (p+1) (by omega) (by omega)] at h2
theorem Prd.short {s:ByteArray} (hS:s.size≤1099511627776) {p:Nat} (h:Prd s p) (hp:p < s.size) (hb:bt s p=92) (hU:¬ jq s p):Prd s (p+2):=by
 have h1:=Evt.zB h
 simp only [bn.l0] at h1
 obtain ⟨v,b,g1,g2,g3⟩:=ku s hS p (by omega)
 have hbf:¬ (b=true):=fun hb=>hU (g2.1 hb)
 have h2:=(Evt.qF (((h1.mF (by omega)).mF (by omega)).mF hb) g1).vF hbf
 rwa [bu (p+2) (by omega) (by omega)] at h2
theorem Prd.uni {s:ByteArray} (hS:s.size≤1099511627776) {p:Nat} (h:Prd s p) (hU:jq s p) :
 (¬ (55296≤dV s ((p:Int)+2)∧dV s ((p:Int)+2)≤57343)∧Prd s (p+6)) ∨
 ((55296≤dV s ((p:Int)+2)∧dV s ((p:Int)+2)≤56319)∧jq s (p+6)∧(56320≤dV s ((p:Int)+8)∧dV s ((p:Int)+8)≤57343)∧Prd s (p+12)):=by
 have h1:=Evt.zB h
 simp only [bn.l0] at h1
 have hle:=hU.le
 obtain ⟨v,b,g1,g2,g3⟩:=ku s hS p (by omega)
 have hbt:=g2.2 hU
 have hv:=g3 hbt
 have h2:=(Evt.qF (((h1.mF (by omega)).mF (by omega)).mF hU.b0) g1).mF hbt
 have h3:=Evt.qF h2 (Evt.of (jX _))
 simp only [hv] at h3
 by_cases hh:55296≤dV s ((p:Int)+2)∧dV s ((p:Int)+2)≤56319
 ·have h4:=h3.mF (decide_eq_true hh)
  rw [bu (i:=(p:Int)+6) (p+6) (by omega) (by omega)] at h4
  obtain ⟨v2,b2,f1,f2,f3⟩:=ku s hS (p+6) (by omega)
  have h5:=Evt.qF h4 f1
  cases b2 with
  | false=>exact absurd (Evt.yQ (h5.vF (by simp))) (by decide)
  | true =>
    have h6:=Evt.qF (h5.mF rfl) (Evt.of (nH _))
    have hv2:=f3 rfl
    rw [show ((p+6:Nat):Int)+2=(p:Int)+8 by omega] at hv2
    simp only [hv2] at h6
    by_cases hl:56320≤dV s ((p:Int)+8)∧dV s ((p:Int)+8)≤57343
    ·have h7:=h6.mF (decide_eq_true hl)
     rw [bu (i:=(p:Int)+12) (p+12) (by omega) (by omega)] at h7
     exact .inr ⟨hh,f2.1 rfl,hl,h7⟩
    ·exact absurd (Evt.yQ (h6.vF (by simp only [decide_eq_true_eq];exact hl))) (by decide)
 ·have h4:=Evt.qF (h3.vF (by simp only [decide_eq_true_eq];exact hh)) (Evt.of (nH _))
  by_cases hl:56320≤dV s ((p:Int)+2)∧dV s ((p:Int)+2)≤57343
  ·exact absurd (Evt.yQ (h4.mF (decide_eq_true hl))) (by decide)
  ·have h5:=h4.vF (by simp only [decide_eq_true_eq];exact hl)
   rw [bu (i:=(p:Int)+6) (p+6) (by omega) (by omega)] at h5
   exact .inl ⟨by omega,h5⟩
theorem BP (s:ByteArray) (hS:s.size≤1099511627776) (n:Nat):∀ p:Nat,s.size+20 - p=n→p≤s.size+12→∃ b,Evt (fun k=>bn.l0 k s p) b:=by
 induction n using Nat.strongRecOn with
 | _ n ih =>
   intro p hn hp
   by_cases hlt:p < s.size
   ·by_cases hb:bt s p=92
    ·obtain ⟨v,b,g1,g2,g3⟩:=ku s hS p (by omega)
     cases b with
     | false =>
       obtain ⟨r,hr⟩:=ih (s.size+20 - (p+2)) (by omega) (p+2) rfl (by omega)
       refine ⟨r,Evt.succ ?_⟩
       simp only [bn.l0]
       rw [bu (i:=(p:Int)+2) (p+2) (by omega) (by omega)]
       exact Evt.pos (by omega) (Evt.pos (by omega) (Evt.pos hb (Evt.bind g1 (Evt.neg (by simp) hr))))
     | true =>
       have hU:=g2.1 rfl
       have hle:=hU.le
       by_cases hh:55296≤v∧v≤56319
       ·obtain ⟨v2,b2,f1,f2,f3⟩:=ku s hS (p+6) (by omega)
        cases b2 with
        | false =>
          refine ⟨false,Evt.succ ?_⟩
          simp only [bn.l0]
          rw [bu (i:=(p:Int)+6) (p+6) (by omega) (by omega)]
          exact Evt.pos (by omega) (Evt.pos (by omega) (Evt.pos hb (Evt.bind g1 (Evt.pos (by simp) (Evt.aI (jX _) (Evt.pos (decide_eq_true hh) (Evt.bind f1 (Evt.neg (by simp) (Evt.pure _)))))))))
        | true =>
          by_cases hl:56320≤v2∧v2≤57343
          ·obtain ⟨r,hr⟩:=ih (s.size+20 - (p+12)) (by omega) (p+12) rfl (by omega)
           refine ⟨r,Evt.succ ?_⟩
           simp only [bn.l0]
           rw [bu (i:=(p:Int)+6) (p+6) (by omega) (by omega),bu (i:=(p:Int)+12) (p+12) (by omega) (by omega)]
           exact Evt.pos (by omega) (Evt.pos (by omega) (Evt.pos hb (Evt.bind g1 (Evt.pos (by simp) (Evt.aI (jX _) (Evt.pos (decide_eq_true hh) (Evt.bind f1 (Evt.pos (by simp) (Evt.aI (nH _) (Evt.pos (decide_eq_true hl) hr))))))))))
          ·refine ⟨false,Evt.succ ?_⟩
           simp only [bn.l0]
           rw [bu (i:=(p:Int)+6) (p+6) (by omega) (by omega)]
           exact Evt.pos (by omega) (Evt.pos (by omega) (Evt.pos hb (Evt.bind g1 (Evt.pos (by simp) (Evt.aI (jX _) (Evt.pos (decide_eq_true hh) (Evt.bind f1 (Evt.pos (by simp) (Evt.aI (nH _) (Evt.neg (by simp only [decide_eq_true_eq];exact hl) (Evt.pure _)))))))))))
       ·by_cases hl:56320≤v∧v≤57343
        ·refine ⟨false,Evt.succ ?_⟩
         simp only [bn.l0]
         exact Evt.pos (by omega) (Evt.pos (by omega) (Evt.pos hb (Evt.bind g1 (Evt.pos (by simp) (Evt.aI (jX _) (Evt.neg (by simp only [decide_eq_true_eq];exact hh) (Evt.aI (nH _) (Evt.pos (decide_eq_true hl) (Evt.pure _)))))))))
        ·obtain ⟨r,hr⟩:=ih (s.size+20 - (p+6)) (by omega) (p+6) rfl (by omega)
         refine ⟨r,Evt.succ ?_⟩
         simp only [bn.l0]
         rw [bu (i:=(p:Int)+6) (p+6) (by omega) (by omega)]
         exact Evt.pos (by omega) (Evt.pos (by omega) (Evt.pos hb (Evt.bind g1 (Evt.pos (by simp) (Evt.aI (jX _) (Evt.neg (by simp only [decide_eq_true_eq];exact hh) (Evt.aI (nH _) (Evt.neg (by simp only [decide_eq_true_eq];exact hl) hr))))))))
    ·obtain ⟨r,hr⟩:=ih (s.size+20 - (p+1)) (by omega) (p+1) rfl (by omega)
     refine ⟨r,Evt.succ ?_⟩
     simp only [bn.l0]
     rw [bu (i:=(p:Int)+1) (p+1) (by omega) (by omega)]
     exact Evt.pos (by omega) (Evt.pos (by omega) (Evt.neg hb hr))
   ·refine ⟨true,Evt.succ ?_⟩
    simp only [bn.l0]
    exact Evt.neg (by omega) (Evt.pure _)
theorem Df (s:ByteArray) (hS:s.size≤1099511627776):∃ b,Evt (fun k=>bn.f k s) b∧(b=true→Prd s 0):=by
 obtain ⟨b,h⟩:=BP s hS _ 0 rfl (by omega)
 refine ⟨b,h,fun hb=>?_⟩
 subst hb
 exact h
theorem jq.ext {s x:ByteArray} {p i:Nat} (h:jq s p) (hb:∀ t:Nat,t < 6→bt x ((i+t:Nat):Int)=bt s ((p+t:Nat):Int)) (hi:i+6≤x.size):jq x i∧dV x ((i:Int)+2)=dV s ((p:Int)+2):=by
 have e:∀ t:Nat,t < 6→bt x ((i:Int)+t)=bt s ((p:Int)+t):=fun t ht=>by
  have:=hb t ht
  rwa [show ((i+t:Nat):Int)=(i:Int)+t by omega,show ((p+t:Nat):Int)=(p:Int)+t by omega] at this
 have e0:=e 0 (by omega)
 have e1:=e 1 (by omega)
 have e2:=e 2 (by omega)
 have e3:=e 3 (by omega)
 have e4:=e 4 (by omega)
 have e5:=e 5 (by omega)
 simp only [Int.natCast_zero,Int.add_zero] at e0
 obtain ⟨d0,d1,d2,d3⟩:=h.hex
 have f:∀ y:Int,y+2+1=y+3∧y+2+2=y+4∧y+2+3=y+5:=fun y=>by omega
 refine ⟨⟨hi,by rw [e0];exact h.b0,by have:=e1;simp only [Int.natCast_one] at this;rw [this];exact h.b1,?_⟩,?_⟩
 ·refine ⟨?_,?_,?_,?_⟩
  ·rw [show (i:Int)+2=(i:Int)+(2:Nat) by omega,e2];exact d0
  ·rw [(f i).1,show (i:Int)+3=(i:Int)+(3:Nat) by omega,e3,show (p:Int)+(3:Nat)=(p:Int)+2+1 by omega];exact d1
  ·rw [(f i).2.1,show (i:Int)+4=(i:Int)+(4:Nat) by omega,e4,show (p:Int)+(4:Nat)=(p:Int)+2+2 by omega];exact d2
  ·rw [(f i).2.2,show (i:Int)+5=(i:Int)+(5:Nat) by omega,e5,show (p:Int)+(5:Nat)=(p:Int)+2+3 by omega];exact d3
 ·unfold dV
  rw [(f i).1,(f i).2.1,(f i).2.2,(f p).1,(f p).2.1,(f p).2.2,show (i:Int)+2=(i:Int)+(2:Nat) by omega,e2,show (i:Int)+3=(i:Int)+(3:Nat) by omega,e3,show (i:Int)+4=(i:Int)+(4:Nat) by omega,e4,show (i:Int)+5=(i:Int)+(5:Nat) by omega,e5]
  simp only [show (p:Int)+(2:Nat)=(p:Int)+2 by omega,show (p:Int)+(3:Nat)=(p:Int)+3 by omega,show (p:Int)+(4:Nat)=(p:Int)+4 by omega,show (p:Int)+(5:Nat)=(p:Int)+5 by omega]
theorem Dc {s:ByteArray} (hS:s.size≤1099511627776) {a q:Nat} (n:Nat):∀ p:Nat,q - p=n→a≤p→gm s p q→Prd s p→Prd s q∧∃ l,Unq (s.extract a q) (p - a) l:=by
 induction n using Nat.strongRecOn with
 | _ n ih =>
   intro p hn hap hq hP
   have hb:=hq.bound
   have hsz:(s.extract a q).size=q - a:=by rw [ByteArray.size_extract];omega
   have hx:∀ j:Nat,a≤j→j < q→bt (s.extract a q) ((j - a:Nat):Int)=bt s j:=fun j h1 h2=>by
    rw [ji s a q (j - a) (by omega) (by omega),show a+(j - a)=j by omega]
   cases hq with
   | close _ h0 h1=>exact ⟨hP,[],.done _ (by omega)⟩
   | plain _ _ h0 h1 h2 h3 h4 =>
     have hb4:=h4.bound
     obtain ⟨k1,l,k2⟩:=ih (q - (p+1)) (by omega) (p+1) rfl (by omega) h4 (hP.plain hS h0 h3)
     have e:=hx p hap (by omega)
     refine ⟨k1,_,.plain (p - a) l (by omega) (by rw [e];exact h1) (by rw [e];exact h3) ?_⟩
     rwa [show p - a+1=p+1 - a by omega]
   | short _ _ h0 h1 h2 h3 =>
     have hb3:=h3.bound
     have hU:¬ jq s p:=fun h=>by have:=h.b1;unfold fU at h2;omega
     obtain ⟨k1,l,k2⟩:=ih (q - (p+2)) (by omega) (p+2) rfl (by omega) h3 (hP.short hS (by omega) h1 hU)
     have e:=hx p hap (by omega)
     have e1:=hx (p+1) (by omega) (by omega)
     rw [show ((p+1 - a:Nat):Int)=((p - a:Nat):Int)+1 by omega,show ((p+1:Nat):Int)=(p:Int)+1 by omega] at e1
     refine ⟨k1,_,.short (p - a) l (by omega) (by rw [e];exact h1) (by rw [e1];exact h2) ?_⟩
     rwa [show p - a+2=p+2 - a by omega]
   | uni _ _ h0 h1 h2 h3 h4 =>
     have hb4:=h4.bound
     have hU:jq s p:=⟨h0,h1,h2,h3⟩
     have hE:=hU.ext (x:=s.extract a q) (i:=p - a) (fun t ht=>by
      have:=hx (p+t) (by omega) (by omega)
      rwa [show p+t - a=p - a+t by omega] at this) (by omega)
     rcases hP.uni hS hU with ⟨g1,g2⟩ | ⟨g1,g2,g3,g4⟩
     ·obtain ⟨k1,l,k2⟩:=ih (q - (p+6)) (by omega) (p+6) rfl (by omega) h4 g2
      refine ⟨k1,_,.uni (p - a) l (by omega) hE.1.b0 hE.1.b1 hE.1.hex (by rw [hE.2];exact g1) ?_⟩
      rwa [show p - a+6=p+6 - a by omega]
     ·have h5:gm s (p+12) q:=by
       cases h4 with
       | close _ c0 c1=>have:=g2.b0;omega
       | plain _ _ c0 c1 c2 c3 c4=>exact absurd g2.b0 c3
       | short _ _ c0 c1 c2 c3=>have:=g2.b1;unfold fU at c2;omega
       | uni _ _ c0 c1 c2 c3 c4=>exact c4
      have hb5:=h5.bound
      have hE2:=g2.ext (x:=s.extract a q) (i:=p - a+6) (fun t ht=>by
       have:=hx (p+6+t) (by omega) (by omega)
       rwa [show p+6+t - a=p - a+6+t by omega] at this) (by omega)
      have hv2:dV (s.extract a q) (((p - a:Nat):Int)+8)=dV s ((p:Int)+8):=by
       have:=hE2.2
       rwa [show ((p - a+6:Nat):Int)+2=((p - a:Nat):Int)+8 by omega,show ((p+6:Nat):Int)+2=(p:Int)+8 by omega] at this
      obtain ⟨k1,l,k2⟩:=ih (q - (p+12)) (by omega) (p+12) rfl (by omega) h5 g4
      refine ⟨k1,_,.pair (p - a) l (by omega) hE.1.b0 hE.1.b1 hE.1.hex (by rw [hE.2];exact g1.1) (by rw [hE.2];exact g1.2) ?_ ?_ ?_ (by rw [hv2];exact g3.1) (by rw [hv2];exact g3.2) ?_⟩
      ·have:=hE2.1.b0
       rwa [show ((p - a+6:Nat):Int)=((p - a:Nat):Int)+6 by omega] at this
      ·have:=hE2.1.b1
       rwa [show ((p - a+6:Nat):Int)+1=((p - a:Nat):Int)+7 by omega] at this
      ·have:=hE2.1.hex
       rwa [show ((p - a+6:Nat):Int)+2=((p - a:Nat):Int)+8 by omega] at this
      ·rwa [show p - a+12=p+12 - a by omega]
theorem rC (out:List Int) (n:Int) (h0:0≤n) (h1:n≤1114111) (hs:¬ (55296≤n∧n≤57343)) (hl:out.length≤2199023255552):Evt (fun k=>aK.f k out n) (out ++ iZ n):=by
 have td:∀ m:Int,Int.tdiv n m=n / m:=fun m=>Int.tdiv_eq_ediv_of_nonneg h0
 have tm:∀ m:Int,Int.tmod n m=n % m:=fun m=>Int.tmod_eq_emod_of_nonneg h0
 have w:∀ x:Int,0≤x→x≤2000000→wrap64 x=x:=fun x g0 g1=>gU (by omega) (by omega)
 unfold aK.f iZ
 by_cases c0:n < 128
 ·refine Evt.pos c0 (Evt.pos (by omega) (Evt.of ?_))
  rw [if_pos (by omega),Int.emod_eq_of_lt h0 (by omega)]
 refine Evt.neg c0 ?_
 rw [if_neg (by omega)]
 by_cases c1:n < 2048
 ·refine Evt.pos c1 (Evt.aI rfl (Evt.pos (by simp;omega) (Evt.of ?_)))
  rw [if_pos (by omega),td,tm,w (n / 64) (by omega) (by omega),w (192+n / 64) (by omega) (by omega),w (128+n % 64) (by omega) (by omega),Int.emod_eq_of_lt (a:=192+n / 64) (by omega) (by omega),Int.emod_eq_of_lt (a:=128+n % 64) (by omega) (by omega)]
 rw [if_neg (by omega)]
 refine Evt.neg c1 (Evt.aI (jX n) (Evt.neg (by simp only [decide_eq_true_eq];omega) (Evt.aI (nH n) (Evt.succ ?_))))
 simp only [aK.j0]
 refine Evt.neg (by simp only [decide_eq_true_eq];omega) ?_
 have tm2:∀ x m:Int,0≤x→Int.tmod x m=x % m:=fun x m g=>Int.tmod_eq_emod_of_nonneg g
 by_cases c2:n < 65536
 ·refine Evt.pos c2 (Evt.aI rfl (Evt.pos (by simp;omega) (Evt.of ?_)))
  rw [if_pos (by omega),td,td,tm,w (n / 64) (by omega) (by omega),w (n / 4096) (by omega) (by omega),tm2 (n / 64) 64 (by omega),w (224+n / 4096) (by omega) (by omega),w (128+n / 64 % 64) (by omega) (by omega),w (128+n % 64) (by omega) (by omega),
   Int.emod_eq_of_lt (a:=224+n / 4096) (by omega) (by omega),Int.emod_eq_of_lt (a:=128+n / 64 % 64) (by omega) (by omega),Int.emod_eq_of_lt (a:=128+n % 64) (by omega) (by omega)]
 ·refine Evt.neg c2 (Evt.aI rfl (Evt.pos (by simp;omega) (Evt.of ?_)))
  rw [if_neg (by omega),td,td,td,tm,w (n / 64) (by omega) (by omega),w (n / 4096) (by omega) (by omega),w (n / 262144) (by omega) (by omega),tm2 (n / 64) 64 (by omega),tm2 (n / 4096) 64 (by omega),w (240+n / 262144) (by omega) (by omega),w (128+n / 4096 % 64) (by omega) (by omega),w (128+n / 64 % 64) (by omega) (by omega),w (128+n % 64) (by omega) (by omega),
   Int.emod_eq_of_lt (a:=240+n / 262144) (by omega) (by omega),Int.emod_eq_of_lt (a:=128+n / 4096 % 64) (by omega) (by omega),Int.emod_eq_of_lt (a:=128+n / 64 % 64) (by omega) (by omega),Int.emod_eq_of_lt (a:=128+n % 64) (by omega) (by omega)]
theorem FT (c:Int):jh.f c=some (kV c):=by
 unfold jh.f kV
 split
 ·rfl
 split
 ·rfl
 split
 ·rfl
 split
 ·rfl
 split <;> rfl
theorem yT {x:ByteArray} (hx:x.size≤1099511627776) {i:Nat} {l:List Int} (h:Unq x i l):∀ out:List Int,out.length≤i→Evt (fun k=>aV.l0 k out x i) (strOfNums (out ++ l)):=by
 induction h with
 | done i h =>
   intro out ho
   refine Evt.succ ?_
   simp only [aV.l0]
   rw [List.append_nil]
   exact Evt.neg (by omega) (Evt.pure _)
 | plain i l h0 h1 h2 h3 ih =>
   intro out ho
   refine Evt.succ ?_
   simp only [aV.l0]
   have:=ih (out ++ [bt x i]) (by simp;omega)
   rw [List.append_assoc] at this
   rw [bu (i:=(i:Int)+1) (i+1) (by omega) (by omega)]
   exact Evt.pos (by omega) (Evt.pos (by omega) (Evt.neg h2 (Evt.pos (by omega) this)))
 | short i l h0 h1 h2 h3 ih =>
   intro out ho
   have hU:¬ jq x i:=fun h=>by have:=h.b1;unfold fU at h2;omega
   obtain ⟨v,b,g1,g2,g3⟩:=ku x hx i (by omega)
   have hb:¬ (b=true):=fun hb=>hU (g2.1 hb)
   refine Evt.succ ?_
   simp only [aV.l0]
   have:=ih (out ++ [kV (bt x ((i:Int)+1))]) (by simp;omega)
   rw [List.append_assoc] at this
   rw [bu (i:=(i:Int)+2) (i+2) (by omega) (by omega),gU (i:=(i:Int)+1) (by omega) (by omega)]
   exact Evt.pos (by omega) (Evt.pos (by omega) (Evt.pos h1 (Evt.bind g1 (Evt.neg hb (Evt.pos (by omega) (Evt.pos (by omega) (Evt.aI (FT _) (Evt.pos (by omega) this))))))))
 | uni i l h0 h1 h2 h3 h4 h5 ih =>
   intro out ho
   have hU:jq x i:=⟨h0,h1,h2,h3⟩
   obtain ⟨v,b,g1,g2,g3⟩:=ku x hx i (by omega)
   have hb:=g2.2 hU
   have hv:=g3 hb
   obtain ⟨v2,b2,f1,f2,f3⟩:=ku x hx (i+6) (by omega)
   have hbd:=lh h3
   have hz:=iw (dV x ((i:Int)+2))
   have ha:=rC out (dV x ((i:Int)+2)) hbd.1 (by omega) h4 (by omega)
   have:=ih (out ++ iZ (dV x ((i:Int)+2))) (by simp;omega)
   rw [List.append_assoc] at this
   refine Evt.succ ?_
   simp only [aV.l0]
   rw [bu (i:=(i:Int)+6) (i+6) (by omega) (by omega)]
   refine Evt.pos (by omega) (Evt.pos (by omega) (Evt.pos h1 (Evt.bind g1 (Evt.pos hb (Evt.bind f1 ?_)))))
   simp only [hv]
   cases b2 with
   | true=>exact Evt.pos rfl (Evt.aI (jX _) (Evt.neg (by simp only [decide_eq_true_eq];omega) (Evt.bind ha this)))
   | false=>exact Evt.neg (by simp) (Evt.bind ha this)
 | pair i l h0 h1 h2 h3 h4 h5 h6 h7 h8 h9 h10 h11 ih =>
   intro out ho
   have hU:jq x i:=⟨by omega,h1,h2,h3⟩
   have hU2:jq x (i+6):=⟨by omega,by rw [show ((i+6:Nat):Int)=(i:Int)+6 by omega];exact h6,by rw [show ((i+6:Nat):Int)+1=(i:Int)+7 by omega];exact h7,by rw [show ((i+6:Nat):Int)+2=(i:Int)+8 by omega];exact h8⟩
   obtain ⟨v,b,g1,g2,g3⟩:=ku x hx i (by omega)
   have hb:=g2.2 hU
   have hv:=g3 hb
   obtain ⟨v2,b2,f1,f2,f3⟩:=ku x hx (i+6) (by omega)
   have hb2:=f2.2 hU2
   have hv2:=f3 hb2
   rw [show ((i+6:Nat):Int)+2=(i:Int)+8 by omega] at hv2
   have hz:=iw (65536+(dV x ((i:Int)+2) - 55296)*1024+(dV x ((i:Int)+8) - 56320))
   have ha:=rC out (65536+(dV x ((i:Int)+2) - 55296)*1024+(dV x ((i:Int)+8) - 56320)) (by omega) (by omega) (by omega) (by omega)
   have:=ih (out ++ iZ (65536+(dV x ((i:Int)+2) - 55296)*1024+(dV x ((i:Int)+8) - 56320))) (by simp;omega)
   rw [List.append_assoc] at this
   refine Evt.succ ?_
   simp only [aV.l0]
   rw [bu (i:=(i:Int)+6) (i+6) (by omega) (by omega),bu (i:=((i+6:Nat):Int)+6) (i+12) (by omega) (by omega)]
   refine Evt.pos (by omega) (Evt.pos (by omega) (Evt.pos h1 (Evt.bind g1 (Evt.pos hb (Evt.bind f1 (Evt.pos hb2 ?_))))))
   simp only [hv,hv2]
   refine Evt.aI (jX _) (Evt.pos (decide_eq_true ⟨h4,h5⟩) (Evt.aI (nH _) (Evt.pos (decide_eq_true ⟨h9,h10⟩) ?_)))
   rw [gU (i:=dV x ((i:Int)+2) - 55296) (by omega) (by omega),gU (i:=(dV x ((i:Int)+2) - 55296)*1024) (by omega) (by omega),gU (i:=65536+(dV x ((i:Int)+2) - 55296)*1024) (by omega) (by omega),gU (i:=dV x ((i:Int)+8) - 56320) (by omega) (by omega),gU (by omega) (by omega)]
   exact Evt.bind ha this
theorem pz (s:ByteArray) (a b c d:Nat) (h0:a≤b) (h:d≤b - a):(s.extract a b).extract c d=s.extract (a+c) (a+d):=by
 rw [ByteArray.extract_extract,show min (a+d) b=a+d by omega]
theorem BL {s:ByteArray} (hS:s.size≤1099511627776) {a q:Nat} (h1:1≤a) (haq:a≤q) (hq:q < s.size) {l:List Int} (h:Unq (s.extract a q) 0 l):Evt (fun k=>aV.f k (s.extract (a - 1) (q+1))) (strOfNums l):=by
 have hsz:(s.extract (a - 1) (q+1)).size=q+2 - a:=by rw [ByteArray.size_extract];omega
 have hsz2:(s.extract a q).size=q - a:=by rw [ByteArray.size_extract];omega
 unfold aV.f
 rw [hsz,bu (i:=((q+2 - a:Nat):Int) - 1) (q+1 - a) (by omega) (by omega)]
 refine Evt.pos (by omega) (Evt.pos (by omega) ?_)
 rw [Int.toNat_natCast,pz s _ _ _ _ (by omega) (by omega),show a - 1+1=a by omega,show a - 1+(q+1 - a)=q by omega]
 exact yT (by omega) h [] (by simp)
structure Says (s:ByteArray) (a q:Nat) (v:ByteArray):Prop where
 unq:∃ l,Unq (s.extract a q) 0 l∧v=strOfNums l
theorem Says.vP {s:ByteArray} (hS:s.size≤1099511627776) {a q:Nat} (h1:1≤a) (haq:a≤q) (hq:q < s.size) {v:ByteArray} (h:Says s a q v):Evt (fun k=>aV.f k (s.extract (a - 1) (q+1))) v:=by
 obtain ⟨l,h2,rfl⟩:=h.unq
 exact BL hS h1 haq hq h2
theorem jL {s:ByteArray} (hS:s.size≤1099511627776) {a q:Nat} (h:gm s a q) (hP:Prd s a):Prd s q∧∃ v,Says s a q v:=by
 obtain ⟨h1,l,h2⟩:=Dc hS _ a rfl (Nat.le_refl a) h hP
 rw [Nat.sub_self] at h2
 exact ⟨h1,_,⟨l,h2,rfl⟩⟩
theorem BZ {x:ByteArray} {i:Nat} {l:List Int} (h:Unq x i l) (hn:∀ j:Nat,i≤j→j < x.size→bt x j≠92):i≤x.size∧l=(List.range' i (x.size - i)).map (fun j=>bt x (j:Nat)):=by
 induction h with
 | done i h=>subst h;simp
 | plain i l h0 h1 h2 h3 ih =>
   obtain ⟨k1,k2⟩:=ih (fun j g1 g2=>hn j (by omega) g2)
   refine ⟨by omega,?_⟩
   rw [show x.size - i=(x.size - (i+1))+1 by omega,List.range'_succ,List.map_cons,← k2]
 | short i l h0 h1 h2 h3 ih=>exact absurd h1 (hn i (Nat.le_refl _) (by omega))
 | uni i l h0 h1 h2 h3 h4 h5 ih=>exact absurd h1 (hn i (Nat.le_refl _) (by omega))
 | pair i l h0 h1 h2 h3 h4 h5 h6 h7 h8 h9 h10 h11 ih=>exact absurd h1 (hn i (Nat.le_refl _) (by omega))
theorem AU (x:ByteArray):strOfNums ((List.range' 0 (x.size - 0)).map (fun j=>bt x (j:Nat)))=x:=by
 apply WideShapes.bytes_inj
 rw [strOfNums_data]
 apply List.ext_getElem
 ·simp
 ·intro j h1 h2
  have hj:j < x.size:=by simpa using h1
  simp only [List.getElem_map,List.getElem_range',Nat.one_mul,Nat.zero_add]
  unfold bt
  rw [Int.toNat_natCast,dif_pos hj,Int.toNat_natCast,UInt8.ofNat_toNat]
  rfl
theorem Says.plain {s:ByteArray} {a q:Nat} {v:ByteArray} (h:Says s a q v) (hq:q≤s.size) (hn:∀ j:Nat,a≤j→j < q→bt s j≠92):v=s.extract a q:=by
 obtain ⟨l,h1,rfl⟩:=h.unq
 have hsz:(s.extract a q).size=q - a:=by rw [ByteArray.size_extract];omega
 obtain ⟨_,h2⟩:=BZ h1 (fun j g1 g2=>by rw [ji s a q j (by omega) hq];exact hn _ (by omega) (by omega))
 rw [h2]
 exact AU _
end Go.Proofs.YtpgfjbimodnkeaaGreatDoor.Scan
namespace Go.Proofs.YtpgfjbimodnkeaaGreatDoor.Q
open Go.RowKit Go.Proofs.YtpgfjbimodnkeaaGreatDoorW.PrintWords Go.Proofs.YtpgfjbimodnkeaaGreatDoorW.PrintLast Go.Proofs.YtpgfjbimodnkeaaGreatDoorW.PrintMore
attribute [local go_sem] dK dJ dZ ed dC dD dN dM
mutual
def aU.l0:Nat→ByteArray→Int→Int→Option (Int × ByteArray × Bool × Bool)
 | 0,_,_,_=>none
 | k+1,x0,x1,x8=>if x1 < (x0.size:Int) then (if 0≤x1 then (if (bt x0 x1) > 92 then (aU.l0 k x0 (wrap64 (x1+1)) x8) else (if (bt x0 x1)=34 then (if 0≤(wrap64 (x8 - 1)) then (if (wrap64 (x8 - 1))≤(wrap64 (x1+1)) then (if (wrap64 (x1+1))≤(x0.size:Int) then (some (wrap64 (x1+1),x0.extract ((wrap64 (x8 - 1)):Int).toNat ((wrap64 (x1+1)):Int).toNat,false,true)) else (none)) else (none)) else (none)) else (if (bt x0 x1)=92 then (aU.l1 k x0 (wrap64 (x1+1)) x8) else (aU.l0 k x0 (wrap64 (x1+1)) x8)))) else (none)) else (if 0≤(wrap64 (x8 - 1)) then (if (wrap64 (x8 - 1))≤(x0.size:Int) then (some (x1,x0.extract ((wrap64 (x8 - 1)):Int).toNat x0.size,false,false)) else (none)) else (none))
def aU.l1:Nat→ByteArray→Int→Int→Option (Int × ByteArray × Bool × Bool)
 | 0,_,_,_=>none
 | k+1,x0,x1,x8=>if x1 < (x0.size:Int) then (if 0≤x1 then (if (bt x0 x1) > 92 then (aU.l1 k x0 (wrap64 (x1+1)) x8) else (if (bt x0 x1)=34 then (if 0≤(wrap64 (x1 - 1)) then (if (wrap64 (x1 - 1)) < (x0.size:Int) then (if (bt x0 (wrap64 (x1 - 1)))=92 then (aU.l2 k x0 x1 x8 0 (wrap64 (x1 - 2))) else (if 0≤(wrap64 (x8 - 1)) then (if (wrap64 (x8 - 1))≤(wrap64 (x1+1)) then (if (wrap64 (x1+1))≤(x0.size:Int) then (some (wrap64 (x1+1),x0.extract ((wrap64 (x8 - 1)):Int).toNat ((wrap64 (x1+1)):Int).toNat,true,true)) else (none)) else (none)) else (none))) else (none)) else (none)) else (aU.l1 k x0 (wrap64 (x1+1)) x8))) else (none)) else (if 0≤(wrap64 (x8 - 1)) then (if (wrap64 (x8 - 1))≤(x0.size:Int) then (some (x1,x0.extract ((wrap64 (x8 - 1)):Int).toNat x0.size,false,false)) else (none)) else (none))
def aU.l2:Nat→ByteArray→Int→Int→Int→Int→Option (Int × ByteArray × Bool × Bool)
 | 0,_,_,_,_,_=>none
 | k+1,x0,x1,x8,x9,x10=>if x10 > 0 then (if 0≤x10 then (if x10 < (x0.size:Int) then (if (bt x0 x10)=92 then (aU.l2 k x0 x1 x8 (wrap64 (x9+1)) (wrap64 (x10 - 1))) else (if (Int.tmod x9 2)=0 then (aU.l1 k x0 (wrap64 (x1+1)) x8) else (if 0≤(wrap64 (x8 - 1)) then (if (wrap64 (x8 - 1))≤(wrap64 (x1+1)) then (if (wrap64 (x1+1))≤(x0.size:Int) then (some (wrap64 (x1+1),x0.extract ((wrap64 (x8 - 1)):Int).toNat ((wrap64 (x1+1)):Int).toNat,true,true)) else (none)) else (none)) else (none)))) else (none)) else (none)) else (if (Int.tmod x9 2)=0 then (aU.l1 k x0 (wrap64 (x1+1)) x8) else (if 0≤(wrap64 (x8 - 1)) then (if (wrap64 (x8 - 1))≤(wrap64 (x1+1)) then (if (wrap64 (x1+1))≤(x0.size:Int) then (some (wrap64 (x1+1),x0.extract ((wrap64 (x8 - 1)):Int).toNat ((wrap64 (x1+1)):Int).toNat,true,true)) else (none)) else (none)) else (none)))
end
def aU.f (k:Nat) (a0:ByteArray) (a1:Int):Option (Int × ByteArray × Bool × Bool):=aU.l0 k a0 a1 a1
theorem aU.calls (k:Nat) (a0:ByteArray) (a1:Int) (r1:Int) (r2:ByteArray) (r3:Bool) (r4:Bool) (w:World) (h:aU.f k a0 a1=some (r1,r2,r3,r4)) :
 Calls Tryz.prog 60 #[.string a0,.int .i64 a1] w fun e w'=>e = .returned (.tuple #[.int .i64 r1,.string r2,.bool r3,.bool r4])∧aj w w':=by
 have H:(aU.l0 k a0 a1 a1)=some (r1,r2,r3,r4):=h
 clear h
 have H':=ae.mk H
 clear H
 go_enter Tryz.func60,Tryz.ntmps60
 go_wp2
 repeat (go_quiet (fail);try go_wp2)
 go_loopg [1] k (fun kq v1 w'=>∃ (x1_1:Int),v1 = .int .i64 x1_1∧ae (aU.l0 kq a0 x1_1 a1=some (r1,r2,r3,r4))∧ae (kq≤k)∧aj w w')
 case atStart=>exact ⟨(a1),(by first | rfl | (simp;done) | (simp [*];done)),H',⟨Nat.le_refl _⟩,by repeat (first | exact aj.refl _ | apply aj.step)⟩
 case round =>
  clear H'
  try clear p2
  obtain ⟨x1_1,rfl,HA,HK1,⟨m1,rfl⟩⟩:=hrel
  cases gk with
  | zero=>exact absurd HA.out (by simp [aU.l0])
  | succ k1 =>
    have H:=HA.out
    clear HA
    simp only [aU.l0] at H
    by_cases c3:x1_1 < (a0.size:Int)
    ·rw [if_pos c3] at H
     have c3b0:decide (x1_1 < (a0.size:Int))=true:=decide_eq_true c3
     clear c3
     by_cases c4:0≤x1_1
     ·rw [if_pos c4] at H
      have c4b0:decide (0≤x1_1)=true:=decide_eq_true c4
      clear c4
      by_cases c6:(bt a0 x1_1) > 92
      ·rw [if_pos c6] at H
       have c6b0:decide (92 < (bt a0 x1_1))=true:=decide_eq_true c6
       clear c6
       have H':=ae.mk H
       clear H
       have p5:0≤(x1_1:Int):=of_decide_eq_true (by first | (with_reducible assumption) | assumption)
       have q5:x1_1 < (a0.size:Int):=of_decide_eq_true (by first | (with_reducible assumption) | assumption)
       have hx5:=cZ a0 x1_1
       replace p5:=eq_true p5
       replace q5:=eq_true q5
       (try (have q5e:=of_eq_true q5;simp only [ByteArray.size_extract] at q5e;replace q5e:=eq_true q5e))
       go_wp2
       repeat (go_quiet (fail);try go_wp2)
       go_roundg k1
       case measure=>have:=HK1.out;omega
       case rel=>exact ⟨(wrap64 (x1_1+1)),(by first | rfl | (simp;done) | (simp [*];done)),H',⟨by have:=HK1.out;omega⟩,by repeat (first | exact aj.refl _ | apply aj.step)⟩
      ·rw [if_neg c6] at H
       have c6b0:decide (92 < (bt a0 x1_1))=false:=decide_eq_false c6
       clear c6
       by_cases c8:(bt a0 x1_1)=34
       ·rw [if_pos c8] at H
        have c8b0:((bt a0 x1_1) == 34)=true:=beq_iff_eq.mpr c8
        have c8b1:((bt a0 x1_1) != 34)=false:=bne_eq_false_iff_eq.mpr c8
        clear c8
        obtain ⟨ji9,hji9⟩:∃ j_:Int,(wrap64 (a1 - 1))=j_:=⟨_,rfl⟩
        replace H:(if 0≤(ji9) then (if (ji9)≤(wrap64 (x1_1+1)) then (if (wrap64 (x1_1+1))≤(a0.size:Int) then (some (wrap64 (x1_1+1),a0.extract ((ji9):Int).toNat ((wrap64 (x1_1+1)):Int).toNat,false,true)) else (none)) else (none)) else (none))=some (r1,r2,r3,r4):=by first | (rw [hji9] at H;exact H) | (simp only [hji9] at H ⊢;exact H)
        have hji9w:(IntKind.i64.wrap (a1 - 1))=ji9:=(bf _).trans hji9
        by_cases c10:0≤(ji9)
        ·rw [if_pos c10] at H
         have c10b0:=eq_true c10
         have c10b1:decide (0≤(ji9))=true:=decide_eq_true c10
         clear c10
         by_cases c11:(ji9)≤(wrap64 (x1_1+1))
         ·rw [if_pos c11] at H
          have c11b0:=eq_true c11
          have c11b1:decide ((ji9)≤(wrap64 (x1_1+1)))=true:=decide_eq_true c11
          by_cases c12:(wrap64 (x1_1+1))≤(a0.size:Int)
          ·rw [if_pos c12] at H
           have c12b0:=eq_true c12
           have c12b1:decide ((wrap64 (x1_1+1))≤(a0.size:Int))=true:=decide_eq_true c12
           simp only [Option.some.injEq,Prod.mk.injEq] at H
           obtain ⟨rfl,rfl,rfl,rfl⟩:=H
           have p5:0≤(x1_1:Int):=of_decide_eq_true (by first | (with_reducible assumption) | assumption)
           have q5:x1_1 < (a0.size:Int):=of_decide_eq_true (by first | (with_reducible assumption) | assumption)
           have hx5:=cZ a0 x1_1
           replace p5:=eq_true p5
           replace q5:=eq_true q5
           (try (have q5e:=of_eq_true q5;simp only [ByteArray.size_extract] at q5e;replace q5e:=eq_true q5e))
           have p7:0≤(x1_1:Int):=of_decide_eq_true (by first | (with_reducible assumption) | assumption)
           have q7:x1_1 < (a0.size:Int):=of_decide_eq_true (by first | (with_reducible assumption) | assumption)
           have hx7:=cZ a0 x1_1
           replace p7:=eq_true p7
           replace q7:=eq_true q7
           (try (have q7e:=of_eq_true q7;simp only [ByteArray.size_extract] at q7e;replace q7e:=eq_true q7e))
           go_wp2
           repeat (go_quiet (fail);try go_wp2)
           refine bodyPost_ret (eF (rs:=[.tmp 4,.tmp 5,.tmp 6,.tmp 7]) rfl (by simp) (.tmp (.tmp (.tmp (.tmp .nil))))) rfl ?_
           exact ⟨by first | rfl | (simp;done) | (simp only [← hji9] <;> (first | rfl | simp)) | (simp [*];done),by repeat (first | exact aj.refl _ | apply aj.step)⟩
          ·rw [if_neg c12] at H
           exact absurd H (by simp)
         ·rw [if_neg c11] at H
          exact absurd H (by simp)
        ·rw [if_neg c10] at H
         exact absurd H (by simp)
       ·rw [if_neg c8] at H
        have c8b0:((bt a0 x1_1) == 34)=false:=beq_eq_false_iff_ne.mpr c8
        have c8b1:((bt a0 x1_1) != 34)=true:=bne_iff_ne.mpr c8
        by_cases c14:(bt a0 x1_1)=92
        ·rw [if_pos c14] at H
         have c14b0:((bt a0 x1_1) == 92)=true:=beq_iff_eq.mpr c14
         have c14b1:((bt a0 x1_1) != 92)=false:=bne_eq_false_iff_eq.mpr c14
         clear c14
         have H':=ae.mk H
         clear H
         have p5:0≤(x1_1:Int):=of_decide_eq_true (by first | (with_reducible assumption) | assumption)
         have q5:x1_1 < (a0.size:Int):=of_decide_eq_true (by first | (with_reducible assumption) | assumption)
         have hx5:=cZ a0 x1_1
         replace p5:=eq_true p5
         replace q5:=eq_true q5
         (try (have q5e:=of_eq_true q5;simp only [ByteArray.size_extract] at q5e;replace q5e:=eq_true q5e))
         have p7:0≤(x1_1:Int):=of_decide_eq_true (by first | (with_reducible assumption) | assumption)
         have q7:x1_1 < (a0.size:Int):=of_decide_eq_true (by first | (with_reducible assumption) | assumption)
         have hx7:=cZ a0 x1_1
         replace p7:=eq_true p7
         replace q7:=eq_true q7
         (try (have q7e:=of_eq_true q7;simp only [ByteArray.size_extract] at q7e;replace q7e:=eq_true q7e))
         have p13:0≤(x1_1:Int):=of_decide_eq_true (by first | (with_reducible assumption) | assumption)
         have q13:x1_1 < (a0.size:Int):=of_decide_eq_true (by first | (with_reducible assumption) | assumption)
         have hx13:=cZ a0 x1_1
         replace p13:=eq_true p13
         replace q13:=eq_true q13
         (try (have q13e:=of_eq_true q13;simp only [ByteArray.size_extract] at q13e;replace q13e:=eq_true q13e))
         go_wp2
         repeat (go_quiet (fail);try go_wp2)
         go_loopg [1] k1 (fun kq v1 w'=>∃ (x1_2:Int),v1 = .int .i64 x1_2∧ae (aU.l1 kq a0 x1_2 a1=some (r1,r2,r3,r4))∧ae (kq≤k1)∧aj w w')
         case atStart=>exact ⟨(wrap64 (x1_1+1)),(by first | rfl | (simp;done) | (simp [*];done)),H',⟨Nat.le_refl _⟩,by repeat (first | exact aj.refl _ | apply aj.step)⟩
         case round =>
          clear H'
          try clear c1
          try clear p1
          try clear q1
          try clear hx1
          try clear p2
          try clear c3
          try clear c3b0
          try clear c4
          try clear c4b0
          try clear p5
          try clear q5
          try clear hx5
          try clear c6
          try clear c6b0
          try clear p6
          try clear p7
          try clear q7
          try clear hx7
          try clear c8
          try clear c8b0
          try clear c8b1
          try clear c10
          try clear c10b0
          try clear c10b1
          try clear c11
          try clear c11b0
          try clear c11b1
          try clear c12
          try clear c12b0
          try clear c12b1
          try clear p13
          try clear q13
          try clear hx13
          try clear c14
          try clear c14b0
          try clear c14b1
          try clear p13
          try clear p2
          try clear p5
          try clear p7
          try clear q13
          try clear q5
          try clear q7
          obtain ⟨x1_2,rfl,HA,HK2,⟨m2,rfl⟩⟩:=hrel
          cases gk with
          | zero=>exact absurd HA.out (by simp [aU.l1])
          | succ k2 =>
            have H:=HA.out
            clear HA
            simp only [aU.l1] at H
            by_cases c15:x1_2 < (a0.size:Int)
            ·rw [if_pos c15] at H
             have c15b0:decide (x1_2 < (a0.size:Int))=true:=decide_eq_true c15
             clear c15
             by_cases c16:0≤x1_2
             ·rw [if_pos c16] at H
              have c16b0:decide (0≤x1_2)=true:=decide_eq_true c16
              clear c16
              by_cases c18:(bt a0 x1_2) > 92
              ·rw [if_pos c18] at H
               have c18b0:decide (92 < (bt a0 x1_2))=true:=decide_eq_true c18
               clear c18
               have H':=ae.mk H
               clear H
               have p17:0≤(x1_2:Int):=of_decide_eq_true (by first | (with_reducible assumption) | assumption)
               have q17:x1_2 < (a0.size:Int):=of_decide_eq_true (by first | (with_reducible assumption) | assumption)
               have hx17:=cZ a0 x1_2
               replace p17:=eq_true p17
               replace q17:=eq_true q17
               (try (have q17e:=of_eq_true q17;simp only [ByteArray.size_extract] at q17e;replace q17e:=eq_true q17e))
               go_wp2
               repeat (go_quiet (fail);try go_wp2)
               go_roundg k2
               case measure=>have:=HK1.out;have:=HK2.out;omega
               case rel=>exact ⟨(wrap64 (x1_2+1)),(by first | rfl | (simp;done) | (simp [*];done)),H',⟨by have:=HK1.out;have:=HK2.out;omega⟩,by repeat (first | exact aj.refl _ | apply aj.step)⟩
              ·rw [if_neg c18] at H
               have c18b0:decide (92 < (bt a0 x1_2))=false:=decide_eq_false c18
               clear c18
               by_cases c20:(bt a0 x1_2)=34
               ·rw [if_pos c20] at H
                have c20b0:((bt a0 x1_2) == 34)=true:=beq_iff_eq.mpr c20
                have c20b1:((bt a0 x1_2) != 34)=false:=bne_eq_false_iff_eq.mpr c20
                clear c20
                obtain ⟨ji21,hji21⟩:∃ j_:Int,(wrap64 (x1_2 - 1))=j_:=⟨_,rfl⟩
                replace H:(if 0≤(ji21) then (if (ji21) < (a0.size:Int) then (if (bt a0 (ji21))=92 then (aU.l2 k2 a0 x1_2 a1 0 (wrap64 (x1_2 - 2))) else (if 0≤(wrap64 (a1 - 1)) then (if (wrap64 (a1 - 1))≤(wrap64 (x1_2+1)) then (if (wrap64 (x1_2+1))≤(a0.size:Int) then (some (wrap64 (x1_2+1),a0.extract ((wrap64 (a1 - 1)):Int).toNat ((wrap64 (x1_2+1)):Int).toNat,true,true)) else (none)) else (none)) else (none))) else (none)) else (none))=some (r1,r2,r3,r4):=by first | (rw [hji21] at H;exact H) | (simp only [hji21] at H ⊢;exact H)
                have hji21w:(IntKind.i64.wrap (x1_2 - 1))=ji21:=(bf _).trans hji21
                by_cases c22:0≤(ji21)
                ·rw [if_pos c22] at H
                 have c22b0:decide (0≤(ji21))=true:=decide_eq_true c22
                 clear c22
                 by_cases c23:(ji21) < (a0.size:Int)
                 ·rw [if_pos c23] at H
                  have c23b0:decide ((ji21) < (a0.size:Int))=true:=decide_eq_true c23
                  clear c23
                  by_cases c25:(bt a0 (ji21))=92
                  ·rw [if_pos c25] at H
                   have c25b0:((bt a0 (ji21)) == 92)=true:=beq_iff_eq.mpr c25
                   have c25b1:((bt a0 (ji21)) != 92)=false:=bne_eq_false_iff_eq.mpr c25
                   clear c25
                   have H':=ae.mk H
                   clear H
                   have p17:0≤(x1_2:Int):=of_decide_eq_true (by first | (with_reducible assumption) | assumption)
                   have q17:x1_2 < (a0.size:Int):=of_decide_eq_true (by first | (with_reducible assumption) | assumption)
                   have hx17:=cZ a0 x1_2
                   replace p17:=eq_true p17
                   replace q17:=eq_true q17
                   (try (have q17e:=of_eq_true q17;simp only [ByteArray.size_extract] at q17e;replace q17e:=eq_true q17e))
                   have p19:0≤(x1_2:Int):=of_decide_eq_true (by first | (with_reducible assumption) | assumption)
                   have q19:x1_2 < (a0.size:Int):=of_decide_eq_true (by first | (with_reducible assumption) | assumption)
                   have hx19:=cZ a0 x1_2
                   replace p19:=eq_true p19
                   replace q19:=eq_true q19
                   (try (have q19e:=of_eq_true q19;simp only [ByteArray.size_extract] at q19e;replace q19e:=eq_true q19e))
                   have p24:0≤((ji21):Int):=of_decide_eq_true (by first | (with_reducible assumption) | assumption)
                   have q24:(ji21) < (a0.size:Int):=of_decide_eq_true (by first | (with_reducible assumption) | assumption)
                   have hx24:=cZ a0 (ji21)
                   replace p24:=eq_true p24
                   replace q24:=eq_true q24
                   (try (have q24e:=of_eq_true q24;simp only [ByteArray.size_extract] at q24e;replace q24e:=eq_true q24e))
                   go_wp2
                   repeat (go_quiet (fail);try go_wp2)
                   go_loopg [9,10] k2 (fun kq v9 v10 w'=>∃ (x9_3:Int) (x10_3:Int),v9 = .int .i64 x9_3∧v10 = .int .i64 x10_3∧ae (aU.l2 kq a0 x1_2 a1 x9_3 x10_3=some (r1,r2,r3,r4))∧ae (kq≤k2)∧aj w w')
                   case atStart=>exact ⟨(0),(wrap64 (x1_2 - 2)),(by first | rfl | (simp;done) | (simp [*];done)),(by first | rfl | (simp;done) | (simp [*];done)),H',⟨Nat.le_refl _⟩,by repeat (first | exact aj.refl _ | apply aj.step)⟩
                   case round =>
                    clear H'
                    try clear c1
                    try clear p1
                    try clear q1
                    try clear hx1
                    try clear c2
                    try clear p2
                    try clear q2
                    try clear hx2
                    try clear c3
                    try clear c3b0
                    try clear c4
                    try clear c4b0
                    try clear p5
                    try clear q5
                    try clear hx5
                    try clear c6
                    try clear c6b0
                    try clear p6
                    try clear p7
                    try clear q7
                    try clear hx7
                    try clear c8
                    try clear c8b0
                    try clear c8b1
                    try clear c10
                    try clear c10b0
                    try clear c10b1
                    try clear c11
                    try clear c11b0
                    try clear c11b1
                    try clear c12
                    try clear c12b0
                    try clear c12b1
                    try clear p13
                    try clear q13
                    try clear hx13
                    try clear c14
                    try clear c14b0
                    try clear c14b1
                    try clear c15
                    try clear c15b0
                    try clear c16
                    try clear c16b0
                    try clear p17
                    try clear q17
                    try clear hx17
                    try clear c18
                    try clear c18b0
                    try clear p19
                    try clear q19
                    try clear hx19
                    try clear c20
                    try clear c20b0
                    try clear c20b1
                    try clear c22
                    try clear c22b0
                    try clear c23
                    try clear c23b0
                    try clear p24
                    try clear q24
                    try clear hx24
                    try clear c25
                    try clear c25b0
                    try clear c25b1
                    try clear p1
                    try clear p13
                    try clear p17
                    try clear p19
                    try clear p2
                    try clear p24
                    try clear p5
                    try clear p6
                    try clear p7
                    try clear q1
                    try clear q13
                    try clear q17
                    try clear q19
                    try clear q24
                    try clear q5
                    try clear q7
                    obtain ⟨x9_3,x10_3,rfl,rfl,HA,HK3,⟨m3,rfl⟩⟩:=hrel
                    cases gk with
                    | zero=>exact absurd HA.out (by simp [aU.l2])
                    | succ k3 =>
                      have H:=HA.out
                      clear HA
                      simp only [aU.l2] at H
                      by_cases c26:x10_3 > 0
                      ·rw [if_pos c26] at H
                       have c26b0:decide (0 < x10_3)=true:=decide_eq_true c26
                       clear c26
                       by_cases c27:0≤x10_3
                       ·rw [if_pos c27] at H
                        have c27b0:decide (0≤x10_3)=true:=decide_eq_true c27
                        clear c27
                        by_cases c28:x10_3 < (a0.size:Int)
                        ·rw [if_pos c28] at H
                         have c28b0:decide (x10_3 < (a0.size:Int))=true:=decide_eq_true c28
                         clear c28
                         by_cases c30:(bt a0 x10_3)=92
                         ·rw [if_pos c30] at H
                          have c30b0:((bt a0 x10_3) == 92)=true:=beq_iff_eq.mpr c30
                          have c30b1:((bt a0 x10_3) != 92)=false:=bne_eq_false_iff_eq.mpr c30
                          clear c30
                          have H':=ae.mk H
                          clear H
                          have p29:0≤(x10_3:Int):=of_decide_eq_true (by first | (with_reducible assumption) | assumption)
                          have q29:x10_3 < (a0.size:Int):=of_decide_eq_true (by first | (with_reducible assumption) | assumption)
                          have hx29:=cZ a0 x10_3
                          replace p29:=eq_true p29
                          replace q29:=eq_true q29
                          (try (have q29e:=of_eq_true q29;simp only [ByteArray.size_extract] at q29e;replace q29e:=eq_true q29e))
                          go_wp2
                          repeat (go_quiet (fail);try go_wp2)
                          go_roundg k3
                          case measure=>have:=HK1.out;have:=HK2.out;have:=HK3.out;omega
                          case rel=>exact ⟨(wrap64 (x9_3+1)),(wrap64 (x10_3 - 1)),(by first | rfl | (simp;done) | (simp [*];done)),(by first | rfl | (simp;done) | (simp [*];done)),H',⟨by have:=HK1.out;have:=HK2.out;have:=HK3.out;omega⟩,by repeat (first | exact aj.refl _ | apply aj.step)⟩
                         ·rw [if_neg c30] at H
                          have c30b0:((bt a0 x10_3) == 92)=false:=beq_eq_false_iff_ne.mpr c30
                          have c30b1:((bt a0 x10_3) != 92)=true:=bne_iff_ne.mpr c30
                          by_cases c31:(Int.tmod x9_3 2)=0
                          ·rw [if_pos c31] at H
                           have c31b0:((Int.tmod x9_3 2) == 0)=true:=beq_iff_eq.mpr c31
                           have c31b1:((Int.tmod x9_3 2) != 0)=false:=bne_eq_false_iff_eq.mpr c31
                           clear c31
                           have H':=ae.mk H
                           clear H
                           have p29:0≤(x10_3:Int):=of_decide_eq_true (by first | (with_reducible assumption) | assumption)
                           have q29:x10_3 < (a0.size:Int):=of_decide_eq_true (by first | (with_reducible assumption) | assumption)
                           have hx29:=cZ a0 x10_3
                           replace p29:=eq_true p29
                           replace q29:=eq_true q29
                           (try (have q29e:=of_eq_true q29;simp only [ByteArray.size_extract] at q29e;replace q29e:=eq_true q29e))
                           go_wp2
                           repeat (go_quiet (fail);try go_wp2)
                           go_roundg k3
                           case measure=>have:=HK1.out;have:=HK2.out;have:=HK3.out;omega
                           case rel=>exact ⟨(wrap64 (x1_2+1)),(by first | rfl | (simp;done) | (simp [*];done)),H',⟨by have:=HK1.out;have:=HK2.out;have:=HK3.out;omega⟩,by repeat (first | exact aj.refl _ | apply aj.step)⟩
                          ·rw [if_neg c31] at H
                           have c31b0:((Int.tmod x9_3 2) == 0)=false:=beq_eq_false_iff_ne.mpr c31
                           have c31b1:((Int.tmod x9_3 2) != 0)=true:=bne_iff_ne.mpr c31
                           obtain ⟨ji32,hji32⟩:∃ j_:Int,(wrap64 (a1 - 1))=j_:=⟨_,rfl⟩
                           replace H:(if 0≤(ji32) then (if (ji32)≤(wrap64 (x1_2+1)) then (if (wrap64 (x1_2+1))≤(a0.size:Int) then (some (wrap64 (x1_2+1),a0.extract ((ji32):Int).toNat ((wrap64 (x1_2+1)):Int).toNat,true,true)) else (none)) else (none)) else (none))=some (r1,r2,r3,r4):=by first | (rw [hji32] at H;exact H) | (simp only [hji32] at H ⊢;exact H)
                           have hji32w:(IntKind.i64.wrap (a1 - 1))=ji32:=(bf _).trans hji32
                           by_cases c33:0≤(ji32)
                           ·rw [if_pos c33] at H
                            have c33b0:=eq_true c33
                            have c33b1:decide (0≤(ji32))=true:=decide_eq_true c33
                            clear c33
                            by_cases c34:(ji32)≤(wrap64 (x1_2+1))
                            ·rw [if_pos c34] at H
                             have c34b0:=eq_true c34
                             have c34b1:decide ((ji32)≤(wrap64 (x1_2+1)))=true:=decide_eq_true c34
                             by_cases c35:(wrap64 (x1_2+1))≤(a0.size:Int)
                             ·rw [if_pos c35] at H
                              have c35b0:=eq_true c35
                              have c35b1:decide ((wrap64 (x1_2+1))≤(a0.size:Int))=true:=decide_eq_true c35
                              simp only [Option.some.injEq,Prod.mk.injEq] at H
                              obtain ⟨rfl,rfl,rfl,rfl⟩:=H
                              have p29:0≤(x10_3:Int):=of_decide_eq_true (by first | (with_reducible assumption) | assumption)
                              have q29:x10_3 < (a0.size:Int):=of_decide_eq_true (by first | (with_reducible assumption) | assumption)
                              have hx29:=cZ a0 x10_3
                              replace p29:=eq_true p29
                              replace q29:=eq_true q29
                              (try (have q29e:=of_eq_true q29;simp only [ByteArray.size_extract] at q29e;replace q29e:=eq_true q29e))
                              go_wp2
                              repeat (go_quiet (fail);try go_wp2)
                              refine bodyPost_ret (eF (rs:=[.tmp 4,.tmp 5,.tmp 6,.tmp 7]) rfl (by simp) (.tmp (.tmp (.tmp (.tmp .nil))))) rfl ?_
                              exact ⟨by first | rfl | (simp;done) | (simp only [← hji21,← hji32] <;> (first | rfl | simp)) | (simp [*];done),by repeat (first | exact aj.refl _ | apply aj.step)⟩
                             ·rw [if_neg c35] at H
                              exact absurd H (by simp)
                            ·rw [if_neg c34] at H
                             exact absurd H (by simp)
                           ·rw [if_neg c33] at H
                            exact absurd H (by simp)
                        ·rw [if_neg c28] at H
                         exact absurd H (by simp)
                       ·rw [if_neg c27] at H
                        exact absurd H (by simp)
                      ·rw [if_neg c26] at H
                       have c26b0:decide (0 < x10_3)=false:=decide_eq_false c26
                       clear c26
                       by_cases c36:(Int.tmod x9_3 2)=0
                       ·rw [if_pos c36] at H
                        have c36b0:((Int.tmod x9_3 2) == 0)=true:=beq_iff_eq.mpr c36
                        have c36b1:((Int.tmod x9_3 2) != 0)=false:=bne_eq_false_iff_eq.mpr c36
                        clear c36
                        have H':=ae.mk H
                        clear H
                        go_wp2
                        repeat (go_quiet (fail);try go_wp2)
                        go_roundg k3
                        case measure=>have:=HK1.out;have:=HK2.out;have:=HK3.out;omega
                        case rel=>exact ⟨(wrap64 (x1_2+1)),(by first | rfl | (simp;done) | (simp [*];done)),H',⟨by have:=HK1.out;have:=HK2.out;have:=HK3.out;omega⟩,by repeat (first | exact aj.refl _ | apply aj.step)⟩
                       ·rw [if_neg c36] at H
                        have c36b0:((Int.tmod x9_3 2) == 0)=false:=beq_eq_false_iff_ne.mpr c36
                        have c36b1:((Int.tmod x9_3 2) != 0)=true:=bne_iff_ne.mpr c36
                        obtain ⟨ji37,hji37⟩:∃ j_:Int,(wrap64 (a1 - 1))=j_:=⟨_,rfl⟩
                        replace H:(if 0≤(ji37) then (if (ji37)≤(wrap64 (x1_2+1)) then (if (wrap64 (x1_2+1))≤(a0.size:Int) then (some (wrap64 (x1_2+1),a0.extract ((ji37):Int).toNat ((wrap64 (x1_2+1)):Int).toNat,true,true)) else (none)) else (none)) else (none))=some (r1,r2,r3,r4):=by first | (rw [hji37] at H;exact H) | (simp only [hji37] at H ⊢;exact H)
                        have hji37w:(IntKind.i64.wrap (a1 - 1))=ji37:=(bf _).trans hji37
                        by_cases c38:0≤(ji37)
                        ·rw [if_pos c38] at H
                         have c38b0:=eq_true c38
                         have c38b1:decide (0≤(ji37))=true:=decide_eq_true c38
                         clear c38
                         by_cases c39:(ji37)≤(wrap64 (x1_2+1))
                         ·rw [if_pos c39] at H
                          have c39b0:=eq_true c39
                          have c39b1:decide ((ji37)≤(wrap64 (x1_2+1)))=true:=decide_eq_true c39
                          by_cases c40:(wrap64 (x1_2+1))≤(a0.size:Int)
                          ·rw [if_pos c40] at H
                           have c40b0:=eq_true c40
                           have c40b1:decide ((wrap64 (x1_2+1))≤(a0.size:Int))=true:=decide_eq_true c40
                           simp only [Option.some.injEq,Prod.mk.injEq] at H
                           obtain ⟨rfl,rfl,rfl,rfl⟩:=H
                           go_wp2
                           repeat (go_quiet (fail);try go_wp2)
                           refine bodyPost_ret (eF (rs:=[.tmp 4,.tmp 5,.tmp 6,.tmp 7]) rfl (by simp) (.tmp (.tmp (.tmp (.tmp .nil))))) rfl ?_
                           exact ⟨by first | rfl | (simp;done) | (simp only [← hji21,← hji37] <;> (first | rfl | simp)) | (simp [*];done),by repeat (first | exact aj.refl _ | apply aj.step)⟩
                          ·rw [if_neg c40] at H
                           exact absurd H (by simp)
                         ·rw [if_neg c39] at H
                          exact absurd H (by simp)
                        ·rw [if_neg c38] at H
                         exact absurd H (by simp)
                  ·rw [if_neg c25] at H
                   have c25b0:((bt a0 (ji21)) == 92)=false:=beq_eq_false_iff_ne.mpr c25
                   have c25b1:((bt a0 (ji21)) != 92)=true:=bne_iff_ne.mpr c25
                   obtain ⟨ji41,hji41⟩:∃ j_:Int,(wrap64 (a1 - 1))=j_:=⟨_,rfl⟩
                   replace H:(if 0≤(ji41) then (if (ji41)≤(wrap64 (x1_2+1)) then (if (wrap64 (x1_2+1))≤(a0.size:Int) then (some (wrap64 (x1_2+1),a0.extract ((ji41):Int).toNat ((wrap64 (x1_2+1)):Int).toNat,true,true)) else (none)) else (none)) else (none))=some (r1,r2,r3,r4):=by first | (rw [hji41] at H;exact H) | (simp only [hji41] at H ⊢;exact H)
                   have hji41w:(IntKind.i64.wrap (a1 - 1))=ji41:=(bf _).trans hji41
                   by_cases c42:0≤(ji41)
                   ·rw [if_pos c42] at H
                    have c42b0:=eq_true c42
                    have c42b1:decide (0≤(ji41))=true:=decide_eq_true c42
                    clear c42
                    by_cases c43:(ji41)≤(wrap64 (x1_2+1))
                    ·rw [if_pos c43] at H
                     have c43b0:=eq_true c43
                     have c43b1:decide ((ji41)≤(wrap64 (x1_2+1)))=true:=decide_eq_true c43
                     by_cases c44:(wrap64 (x1_2+1))≤(a0.size:Int)
                     ·rw [if_pos c44] at H
                      have c44b0:=eq_true c44
                      have c44b1:decide ((wrap64 (x1_2+1))≤(a0.size:Int))=true:=decide_eq_true c44
                      simp only [Option.some.injEq,Prod.mk.injEq] at H
                      obtain ⟨rfl,rfl,rfl,rfl⟩:=H
                      have p17:0≤(x1_2:Int):=of_decide_eq_true (by first | (with_reducible assumption) | assumption)
                      have q17:x1_2 < (a0.size:Int):=of_decide_eq_true (by first | (with_reducible assumption) | assumption)
                      have hx17:=cZ a0 x1_2
                      replace p17:=eq_true p17
                      replace q17:=eq_true q17
                      (try (have q17e:=of_eq_true q17;simp only [ByteArray.size_extract] at q17e;replace q17e:=eq_true q17e))
                      have p19:0≤(x1_2:Int):=of_decide_eq_true (by first | (with_reducible assumption) | assumption)
                      have q19:x1_2 < (a0.size:Int):=of_decide_eq_true (by first | (with_reducible assumption) | assumption)
                      have hx19:=cZ a0 x1_2
                      replace p19:=eq_true p19
                      replace q19:=eq_true q19
                      (try (have q19e:=of_eq_true q19;simp only [ByteArray.size_extract] at q19e;replace q19e:=eq_true q19e))
                      have p24:0≤((ji21):Int):=of_decide_eq_true (by first | (with_reducible assumption) | assumption)
                      have q24:(ji21) < (a0.size:Int):=of_decide_eq_true (by first | (with_reducible assumption) | assumption)
                      have hx24:=cZ a0 (ji21)
                      replace p24:=eq_true p24
                      replace q24:=eq_true q24
                      (try (have q24e:=of_eq_true q24;simp only [ByteArray.size_extract] at q24e;replace q24e:=eq_true q24e))
                      go_wp2
                      repeat (go_quiet (fail);try go_wp2)
                      refine bodyPost_ret (eF (rs:=[.tmp 4,.tmp 5,.tmp 6,.tmp 7]) rfl (by simp) (.tmp (.tmp (.tmp (.tmp .nil))))) rfl ?_
                      exact ⟨by first | rfl | (simp;done) | (simp only [← hji21,← hji41] <;> (first | rfl | simp)) | (simp [*];done),by repeat (first | exact aj.refl _ | apply aj.step)⟩
                     ·rw [if_neg c44] at H
                      exact absurd H (by simp)
                    ·rw [if_neg c43] at H
                     exact absurd H (by simp)
                   ·rw [if_neg c42] at H
                    exact absurd H (by simp)
                 ·rw [if_neg c23] at H
                  exact absurd H (by simp)
                ·rw [if_neg c22] at H
                 exact absurd H (by simp)
               ·rw [if_neg c20] at H
                have c20b0:((bt a0 x1_2) == 34)=false:=beq_eq_false_iff_ne.mpr c20
                have c20b1:((bt a0 x1_2) != 34)=true:=bne_iff_ne.mpr c20
                have H':=ae.mk H
                clear H
                have p17:0≤(x1_2:Int):=of_decide_eq_true (by first | (with_reducible assumption) | assumption)
                have q17:x1_2 < (a0.size:Int):=of_decide_eq_true (by first | (with_reducible assumption) | assumption)
                have hx17:=cZ a0 x1_2
                replace p17:=eq_true p17
                replace q17:=eq_true q17
                (try (have q17e:=of_eq_true q17;simp only [ByteArray.size_extract] at q17e;replace q17e:=eq_true q17e))
                have p19:0≤(x1_2:Int):=of_decide_eq_true (by first | (with_reducible assumption) | assumption)
                have q19:x1_2 < (a0.size:Int):=of_decide_eq_true (by first | (with_reducible assumption) | assumption)
                have hx19:=cZ a0 x1_2
                replace p19:=eq_true p19
                replace q19:=eq_true q19
                (try (have q19e:=of_eq_true q19;simp only [ByteArray.size_extract] at q19e;replace q19e:=eq_true q19e))
                go_wp2
                repeat (go_quiet (fail);try go_wp2)
                go_roundg k2
                case measure=>have:=HK1.out;have:=HK2.out;omega
                case rel=>exact ⟨(wrap64 (x1_2+1)),(by first | rfl | (simp;done) | (simp [*];done)),H',⟨by have:=HK1.out;have:=HK2.out;omega⟩,by repeat (first | exact aj.refl _ | apply aj.step)⟩
             ·rw [if_neg c16] at H
              exact absurd H (by simp)
            ·rw [if_neg c15] at H
             have c15b0:decide (x1_2 < (a0.size:Int))=false:=decide_eq_false c15
             clear c15
             obtain ⟨ji45,hji45⟩:∃ j_:Int,(wrap64 (a1 - 1))=j_:=⟨_,rfl⟩
             replace H:(if 0≤(ji45) then (if (ji45)≤(a0.size:Int) then (some (x1_2,a0.extract ((ji45):Int).toNat a0.size,false,false)) else (none)) else (none))=some (r1,r2,r3,r4):=by first | (rw [hji45] at H;exact H) | (simp only [hji45] at H ⊢;exact H)
             have hji45w:(IntKind.i64.wrap (a1 - 1))=ji45:=(bf _).trans hji45
             by_cases c46:0≤(ji45)
             ·rw [if_pos c46] at H
              have c46b0:=eq_true c46
              have c46b1:decide (0≤(ji45))=true:=decide_eq_true c46
              clear c46
              by_cases c47:(ji45)≤(a0.size:Int)
              ·rw [if_pos c47] at H
               have c47b0:=eq_true c47
               have c47b1:decide ((ji45)≤(a0.size:Int))=true:=decide_eq_true c47
               clear c47
               simp only [Option.some.injEq,Prod.mk.injEq] at H
               obtain ⟨rfl,rfl,rfl,rfl⟩:=H
               go_wp2
               repeat (go_quiet (fail);try go_wp2)
               refine bodyPost_ret (eF (rs:=[.tmp 4,.tmp 5,.tmp 6,.tmp 7]) rfl (by simp) (.tmp (.tmp (.tmp (.tmp .nil))))) rfl ?_
               exact ⟨by first | rfl | (simp;done) | (simp only [← hji45] <;> (first | rfl | simp)) | (simp [*];done),by repeat (first | exact aj.refl _ | apply aj.step)⟩
              ·rw [if_neg c47] at H
               exact absurd H (by simp)
             ·rw [if_neg c46] at H
              exact absurd H (by simp)
        ·rw [if_neg c14] at H
         have c14b0:((bt a0 x1_1) == 92)=false:=beq_eq_false_iff_ne.mpr c14
         have c14b1:((bt a0 x1_1) != 92)=true:=bne_iff_ne.mpr c14
         have H':=ae.mk H
         clear H
         have p5:0≤(x1_1:Int):=of_decide_eq_true (by first | (with_reducible assumption) | assumption)
         have q5:x1_1 < (a0.size:Int):=of_decide_eq_true (by first | (with_reducible assumption) | assumption)
         have hx5:=cZ a0 x1_1
         replace p5:=eq_true p5
         replace q5:=eq_true q5
         (try (have q5e:=of_eq_true q5;simp only [ByteArray.size_extract] at q5e;replace q5e:=eq_true q5e))
         have p7:0≤(x1_1:Int):=of_decide_eq_true (by first | (with_reducible assumption) | assumption)
         have q7:x1_1 < (a0.size:Int):=of_decide_eq_true (by first | (with_reducible assumption) | assumption)
         have hx7:=cZ a0 x1_1
         replace p7:=eq_true p7
         replace q7:=eq_true q7
         (try (have q7e:=of_eq_true q7;simp only [ByteArray.size_extract] at q7e;replace q7e:=eq_true q7e))
         have p13:0≤(x1_1:Int):=of_decide_eq_true (by first | (with_reducible assumption) | assumption)
         have q13:x1_1 < (a0.size:Int):=of_decide_eq_true (by first | (with_reducible assumption) | assumption)
         have hx13:=cZ a0 x1_1
         replace p13:=eq_true p13
         replace q13:=eq_true q13
         (try (have q13e:=of_eq_true q13;simp only [ByteArray.size_extract] at q13e;replace q13e:=eq_true q13e))
         go_wp2
         repeat (go_quiet (fail);try go_wp2)
         go_roundg k1
         case measure=>have:=HK1.out;omega
         case rel=>exact ⟨(wrap64 (x1_1+1)),(by first | rfl | (simp;done) | (simp [*];done)),H',⟨by have:=HK1.out;omega⟩,by repeat (first | exact aj.refl _ | apply aj.step)⟩
     ·rw [if_neg c4] at H
      exact absurd H (by simp)
    ·rw [if_neg c3] at H
     have c3b0:decide (x1_1 < (a0.size:Int))=false:=decide_eq_false c3
     clear c3
     obtain ⟨ji48,hji48⟩:∃ j_:Int,(wrap64 (a1 - 1))=j_:=⟨_,rfl⟩
     replace H:(if 0≤(ji48) then (if (ji48)≤(a0.size:Int) then (some (x1_1,a0.extract ((ji48):Int).toNat a0.size,false,false)) else (none)) else (none))=some (r1,r2,r3,r4):=by first | (rw [hji48] at H;exact H) | (simp only [hji48] at H ⊢;exact H)
     have hji48w:(IntKind.i64.wrap (a1 - 1))=ji48:=(bf _).trans hji48
     by_cases c49:0≤(ji48)
     ·rw [if_pos c49] at H
      have c49b0:=eq_true c49
      have c49b1:decide (0≤(ji48))=true:=decide_eq_true c49
      clear c49
      by_cases c50:(ji48)≤(a0.size:Int)
      ·rw [if_pos c50] at H
       have c50b0:=eq_true c50
       have c50b1:decide ((ji48)≤(a0.size:Int))=true:=decide_eq_true c50
       clear c50
       simp only [Option.some.injEq,Prod.mk.injEq] at H
       obtain ⟨rfl,rfl,rfl,rfl⟩:=H
       go_wp2
       repeat (go_quiet (fail);try go_wp2)
       refine bodyPost_ret (eF (rs:=[.tmp 4,.tmp 5,.tmp 6,.tmp 7]) rfl (by simp) (.tmp (.tmp (.tmp (.tmp .nil))))) rfl ?_
       exact ⟨by first | rfl | (simp;done) | (simp only [← hji48] <;> (first | rfl | simp)) | (simp [*];done),by repeat (first | exact aj.refl _ | apply aj.step)⟩
      ·rw [if_neg c50] at H
       exact absurd H (by simp)
     ·rw [if_neg c49] at H
      exact absurd H (by simp)
attribute [local go_sem] dK dJ dZ ed dC dD dN dM
def di.l0:Nat→ByteArray→Int→Int→Option (Int × ByteArray)
 | 0,_,_,_=>none
 | k+1,x0,x1,x6=>if x1 < (x0.size:Int) then (if 0≤x1 then (if (bt x0 x1) < 97 then (if 0≤x6 then (if x6≤x1 then (if x1≤(x0.size:Int) then (some (x1,x0.extract (x6:Int).toNat (x1:Int).toNat)) else (none)) else (none)) else (none)) else (if (bt x0 x1) > 122 then (if 0≤x6 then (if x6≤x1 then (if x1≤(x0.size:Int) then (some (x1,x0.extract (x6:Int).toNat (x1:Int).toNat)) else (none)) else (none)) else (none)) else (di.l0 k x0 (wrap64 (x1+1)) x6))) else (none)) else (if 0≤x6 then (if x6≤(x0.size:Int) then (some (x1,x0.extract (x6:Int).toNat x0.size)) else (none)) else (none))
def di.f (k:Nat) (a0:ByteArray) (a1:Int):Option (Int × ByteArray):=di.l0 k a0 (wrap64 (a1+1)) a1
theorem di.calls (k:Nat) (a0:ByteArray) (a1:Int) (r1:Int) (r2:ByteArray) (w:World) (h:di.f k a0 a1=some (r1,r2)) :
 Calls Tryz.prog 85 #[.string a0,.int .i64 a1] w fun e w'=>e = .returned (.tuple #[.int .i64 r1,.string r2])∧aj w w':=by
 have H:(di.l0 k a0 (wrap64 (a1+1)) a1)=some (r1,r2):=h
 clear h
 have H':=ae.mk H
 clear H
 go_enter Tryz.func85,Tryz.ntmps85
 go_wp2
 repeat (go_quiet (fail);try go_wp2)
 go_loopg [1] k (fun kq v1 w'=>∃ (x1_1:Int),v1 = .int .i64 x1_1∧ae (di.l0 kq a0 x1_1 a1=some (r1,r2))∧ae (kq≤k)∧aj w w')
 case atStart=>exact ⟨(wrap64 (a1+1)),(by first | rfl | (simp;done) | (simp [*];done)),H',⟨Nat.le_refl _⟩,by repeat (first | exact aj.refl _ | apply aj.step)⟩
 case round =>
  clear H'
  try clear p2
  obtain ⟨x1_1,rfl,HA,HK1,⟨m1,rfl⟩⟩:=hrel
  cases gk with
  | zero=>exact absurd HA.out (by simp [di.l0])
  | succ k1 =>
    have H:=HA.out
    clear HA
    simp only [di.l0] at H
    by_cases c3:x1_1 < (a0.size:Int)
    ·rw [if_pos c3] at H
     have c3b0:decide (x1_1 < (a0.size:Int))=true:=decide_eq_true c3
     clear c3
     by_cases c4:0≤x1_1
     ·rw [if_pos c4] at H
      have c4b0:decide (0≤x1_1)=true:=decide_eq_true c4
      clear c4
      by_cases c6:(bt a0 x1_1) < 97
      ·rw [if_pos c6] at H
       have c6b0:decide ((bt a0 x1_1) < 97)=true:=decide_eq_true c6
       clear c6
       by_cases c7:0≤a1
       ·rw [if_pos c7] at H
        have c7b0:=eq_true c7
        have c7b1:decide (0≤a1)=true:=decide_eq_true c7
        clear c7
        by_cases c8:a1≤x1_1
        ·rw [if_pos c8] at H
         have c8b0:=eq_true c8
         have c8b1:decide (a1≤x1_1)=true:=decide_eq_true c8
         clear c8
         by_cases c9:x1_1≤(a0.size:Int)
         ·rw [if_pos c9] at H
          have c9b0:=eq_true c9
          have c9b1:decide (x1_1≤(a0.size:Int))=true:=decide_eq_true c9
          clear c9
          simp only [Option.some.injEq,Prod.mk.injEq] at H
          obtain ⟨rfl,rfl⟩:=H
          have p5:0≤(x1_1:Int):=of_decide_eq_true (by first | (with_reducible assumption) | assumption)
          have q5:x1_1 < (a0.size:Int):=of_decide_eq_true (by first | (with_reducible assumption) | assumption)
          have hx5:=cZ a0 x1_1
          replace p5:=eq_true p5
          replace q5:=eq_true q5
          (try (have q5e:=of_eq_true q5;simp only [ByteArray.size_extract] at q5e;replace q5e:=eq_true q5e))
          go_wp2
          repeat (go_quiet (fail);try go_wp2)
          go_ret2
          exact ⟨by first | rfl | (simp;done) | (simp [*];done),by repeat (first | exact aj.refl _ | apply aj.step)⟩
         ·rw [if_neg c9] at H
          exact absurd H (by simp)
        ·rw [if_neg c8] at H
         exact absurd H (by simp)
       ·rw [if_neg c7] at H
        exact absurd H (by simp)
      ·rw [if_neg c6] at H
       have c6b0:decide ((bt a0 x1_1) < 97)=false:=decide_eq_false c6
       clear c6
       by_cases c11:(bt a0 x1_1) > 122
       ·rw [if_pos c11] at H
        have c11b0:decide (122 < (bt a0 x1_1))=true:=decide_eq_true c11
        clear c11
        by_cases c12:0≤a1
        ·rw [if_pos c12] at H
         have c12b0:=eq_true c12
         have c12b1:decide (0≤a1)=true:=decide_eq_true c12
         clear c12
         by_cases c13:a1≤x1_1
         ·rw [if_pos c13] at H
          have c13b0:=eq_true c13
          have c13b1:decide (a1≤x1_1)=true:=decide_eq_true c13
          clear c13
          by_cases c14:x1_1≤(a0.size:Int)
          ·rw [if_pos c14] at H
           have c14b0:=eq_true c14
           have c14b1:decide (x1_1≤(a0.size:Int))=true:=decide_eq_true c14
           clear c14
           simp only [Option.some.injEq,Prod.mk.injEq] at H
           obtain ⟨rfl,rfl⟩:=H
           have p5:0≤(x1_1:Int):=of_decide_eq_true (by first | (with_reducible assumption) | assumption)
           have q5:x1_1 < (a0.size:Int):=of_decide_eq_true (by first | (with_reducible assumption) | assumption)
           have hx5:=cZ a0 x1_1
           replace p5:=eq_true p5
           replace q5:=eq_true q5
           (try (have q5e:=of_eq_true q5;simp only [ByteArray.size_extract] at q5e;replace q5e:=eq_true q5e))
           have p10:0≤(x1_1:Int):=of_decide_eq_true (by first | (with_reducible assumption) | assumption)
           have q10:x1_1 < (a0.size:Int):=of_decide_eq_true (by first | (with_reducible assumption) | assumption)
           have hx10:=cZ a0 x1_1
           replace p10:=eq_true p10
           replace q10:=eq_true q10
           (try (have q10e:=of_eq_true q10;simp only [ByteArray.size_extract] at q10e;replace q10e:=eq_true q10e))
           go_wp2
           repeat (go_quiet (fail);try go_wp2)
           go_ret2
           exact ⟨by first | rfl | (simp;done) | (simp [*];done),by repeat (first | exact aj.refl _ | apply aj.step)⟩
          ·rw [if_neg c14] at H
           exact absurd H (by simp)
         ·rw [if_neg c13] at H
          exact absurd H (by simp)
        ·rw [if_neg c12] at H
         exact absurd H (by simp)
       ·rw [if_neg c11] at H
        have c11b0:decide (122 < (bt a0 x1_1))=false:=decide_eq_false c11
        clear c11
        have H':=ae.mk H
        clear H
        have p5:0≤(x1_1:Int):=of_decide_eq_true (by first | (with_reducible assumption) | assumption)
        have q5:x1_1 < (a0.size:Int):=of_decide_eq_true (by first | (with_reducible assumption) | assumption)
        have hx5:=cZ a0 x1_1
        replace p5:=eq_true p5
        replace q5:=eq_true q5
        (try (have q5e:=of_eq_true q5;simp only [ByteArray.size_extract] at q5e;replace q5e:=eq_true q5e))
        have p10:0≤(x1_1:Int):=of_decide_eq_true (by first | (with_reducible assumption) | assumption)
        have q10:x1_1 < (a0.size:Int):=of_decide_eq_true (by first | (with_reducible assumption) | assumption)
        have hx10:=cZ a0 x1_1
        replace p10:=eq_true p10
        replace q10:=eq_true q10
        (try (have q10e:=of_eq_true q10;simp only [ByteArray.size_extract] at q10e;replace q10e:=eq_true q10e))
        go_wp2
        repeat (go_quiet (fail);try go_wp2)
        go_roundg k1
        case measure=>have:=HK1.out;omega
        case rel=>exact ⟨(wrap64 (x1_1+1)),(by first | rfl | (simp;done) | (simp [*];done)),H',⟨by have:=HK1.out;omega⟩,by repeat (first | exact aj.refl _ | apply aj.step)⟩
     ·rw [if_neg c4] at H
      exact absurd H (by simp)
    ·rw [if_neg c3] at H
     have c3b0:decide (x1_1 < (a0.size:Int))=false:=decide_eq_false c3
     clear c3
     by_cases c15:0≤a1
     ·rw [if_pos c15] at H
      have c15b0:=eq_true c15
      have c15b1:decide (0≤a1)=true:=decide_eq_true c15
      clear c15
      by_cases c16:a1≤(a0.size:Int)
      ·rw [if_pos c16] at H
       have c16b0:=eq_true c16
       have c16b1:decide (a1≤(a0.size:Int))=true:=decide_eq_true c16
       clear c16
       simp only [Option.some.injEq,Prod.mk.injEq] at H
       obtain ⟨rfl,rfl⟩:=H
       go_wp2
       repeat (go_quiet (fail);try go_wp2)
       go_ret2
       exact ⟨by first | rfl | (simp;done) | (simp [*];done),by repeat (first | exact aj.refl _ | apply aj.step)⟩
      ·rw [if_neg c16] at H
       exact absurd H (by simp)
     ·rw [if_neg c15] at H
      exact absurd H (by simp)
end Go.Proofs.YtpgfjbimodnkeaaGreatDoor.Q
