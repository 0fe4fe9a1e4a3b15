/- FnGjMap: whatever text comes in, the law returns true and the text reads afterwards as before; with the thirteen package-level variables that its row lists as the program's own text lays them (the tied card) (part 11 of 19: lemmas for its last part) -/
import Derived.LoopN
import Derived.Test.YtpgfjbimodnkeaaGreatDoorMpd2
import Derived.Test.YtpgfjbimodnkeaaGreatDoorMpd6
import Derived.Test.YtpgfjbimodnkeaaGreatDoorMpd7
import Derived.Test.YtpgfjbimodnkeaaGreatDoorMpd9
import Derived.Test.YtpgfjbimodnkeaaGreatDoorMpd10
set_option maxHeartbeats 16000000
set_option maxRecDepth 100000
set_option linter.unusedVariables false
set_option linter.unusedSimpArgs false
namespace Go.Proofs.YtpgfjbimodnkeaaGreatDoor.Q
open Go.RowKit Go.Proofs.YtpgfjbimodnkeaaGreatDoorW.PrintWords Go.Proofs.YtpgfjbimodnkeaaGreatDoorW.PrintLast Go.Proofs.YtpgfjbimodnkeaaGreatDoorW.PrintMore
attribute [local go_sem] dm di dL dK cu bZ dD dC
def bu.l0:Nat→ByteArray→Int→Option (Bool)
 | 0,_,_=>none
 | k+1,x0,x3=>if x3 < (x0.size:Int) then (if 0≤x3 then (if (bt x0 x3)=92 then ((bF.f k x0 x3).bind fun bt108=>(if bt108.2=true then ((dM.f bt108.1).bind fun t110=>(if t110=true then ((bF.f k x0 (wrap64 (x3+6))).bind fun bt111=>(if bt111.2=true then ((dA.f bt111.1).bind fun t113=>(if t113=true then (bu.l0 k x0 (wrap64 (x3+12))) else (some false))) else (some false))) else ((dA.f bt108.1).bind fun t114=>(if t114=true then (some false) else (bu.l0 k x0 (wrap64 (x3+6))))))) else (bu.l0 k x0 (wrap64 (x3+2))))) else (bu.l0 k x0 (wrap64 (x3+1)))) else (none)) else (some true)
def bu.f (k:Nat) (a0:ByteArray):Option (Bool):=bu.l0 k a0 0
theorem bu.calls (k:Nat) (a0:ByteArray) (r:Bool) (w:World) (h:bu.f k a0=some r) :
 Calls Tryz.prog 27 #[.string a0] w fun e w'=>e = .returned (.bool r)∧ai w w':=by
 have H:(bu.l0 k a0 0)=some r:=h
 clear h
 have H':=ae.mk H
 clear H
 go_enter Tryz.func27,Tryz.ntmps27
 go_wp2
 go_loopg [3] k (fun kq v3 w'=>∃ (x3_1:Int),v3 = .int .i64 x3_1∧ae (bu.l0 kq a0 x3_1=some r)∧ae (kq≤k)∧ai w w')
 case atStart=>exact ⟨(0),(by first | rfl | (simp;done) | (simp [*];done)),H',⟨Nat.le_refl _⟩,by repeat (first | exact ai.refl _ | apply ai.step)⟩
 case round =>
  clear H'
  obtain ⟨x3_1,rfl,HA,HK1,⟨m1,rfl⟩⟩:=hrel
  cases gk with
  | zero=>exact absurd HA.out (by simp [bu.l0])
  | succ k1 =>
    have H:=HA.out
    clear HA
    simp only [bu.l0] at H
    by_cases c2:x3_1 < (a0.size:Int)
    ·rw [if_pos c2] at H
     have c2b0:decide (x3_1 < (a0.size:Int))=true:=decide_eq_true c2
     clear c2
     by_cases c3:0≤x3_1
     ·rw [if_pos c3] at H
      have c3b0:decide (0≤x3_1)=true:=decide_eq_true c3
      clear c3
      by_cases c5:(bt a0 x3_1)=92
      ·rw [if_pos c5] at H
       have c5b0:((bt a0 x3_1) == 92)=true:=beq_iff_eq.mpr c5
       have c5b1:((bt a0 x3_1) != 92)=false:=bne_eq_false_iff_eq.mpr c5
       clear c5
       replace H:=Option.bind_eq_some_iff.mp H
       obtain ⟨⟨t108,t109⟩,A60,H⟩:=H
       replace H:(if t109=true then ((dM.f t108).bind fun t110=>(if t110=true then ((bF.f k1 a0 (wrap64 (x3_1+6))).bind fun bt111=>(if bt111.2=true then ((dA.f bt111.1).bind fun t113=>(if t113=true then (bu.l0 k1 a0 (wrap64 (x3_1+12))) else (some false))) else (some false))) else ((dA.f t108).bind fun t114=>(if t114=true then (some false) else (bu.l0 k1 a0 (wrap64 (x3_1+6))))))) else (bu.l0 k1 a0 (wrap64 (x3_1+2))))=some r:=H
       have A6:=ae.mk A60
       clear A60
       by_cases c7:t109=true
       ·subst c7
        have H1:((dM.f t108).bind fun t110=>(if t110=true then ((bF.f k1 a0 (wrap64 (x3_1+6))).bind fun bt111=>(if bt111.2=true then ((dA.f bt111.1).bind fun t113=>(if t113=true then (bu.l0 k1 a0 (wrap64 (x3_1+12))) else (some false))) else (some false))) else ((dA.f t108).bind fun t114=>(if t114=true then (some false) else (bu.l0 k1 a0 (wrap64 (x3_1+6)))))))=some r:=by rw [if_pos rfl] at H;exact H
        clear H
        have H:=H1
        clear H1
        replace H:=Option.bind_eq_some_iff.mp H
        obtain ⟨t110,A80,H⟩:=H
        replace H:(if t110=true then ((bF.f k1 a0 (wrap64 (x3_1+6))).bind fun bt111=>(if bt111.2=true then ((dA.f bt111.1).bind fun t113=>(if t113=true then (bu.l0 k1 a0 (wrap64 (x3_1+12))) else (some false))) else (some false))) else ((dA.f t108).bind fun t114=>(if t114=true then (some false) else (bu.l0 k1 a0 (wrap64 (x3_1+6))))))=some r:=H
        have A8:=ae.mk A80
        clear A80
        by_cases c9:t110=true
        ·subst c9
         have H1:((bF.f k1 a0 (wrap64 (x3_1+6))).bind fun bt111=>(if bt111.2=true then ((dA.f bt111.1).bind fun t113=>(if t113=true then (bu.l0 k1 a0 (wrap64 (x3_1+12))) else (some false))) else (some false)))=some r:=by rw [if_pos rfl] at H;exact H
         clear H
         have H:=H1
         clear H1
         replace H:=Option.bind_eq_some_iff.mp H
         obtain ⟨⟨t111,t112⟩,A100,H⟩:=H
         replace H:(if t112=true then ((dA.f t111).bind fun t113=>(if t113=true then (bu.l0 k1 a0 (wrap64 (x3_1+12))) else (some false))) else (some false))=some r:=H
         have A10:=ae.mk A100
         clear A100
         by_cases c11:t112=true
         ·subst c11
          have H1:((dA.f t111).bind fun t113=>(if t113=true then (bu.l0 k1 a0 (wrap64 (x3_1+12))) else (some false)))=some r:=by rw [if_pos rfl] at H;exact H
          clear H
          have H:=H1
          clear H1
          replace H:=Option.bind_eq_some_iff.mp H
          obtain ⟨t113,A120,H⟩:=H
          replace H:(if t113=true then (bu.l0 k1 a0 (wrap64 (x3_1+12))) else (some false))=some r:=H
          have A12:=ae.mk A120
          clear A120
          by_cases c13:t113=true
          ·subst c13
           have H1:(bu.l0 k1 a0 (wrap64 (x3_1+12)))=some r:=by rw [if_pos rfl] at H;exact H
           clear H
           have H:=H1
           clear H1
           have H':=ae.mk H
           clear H
           have p4:0≤(x3_1:Int):=of_decide_eq_true (by first | (with_reducible assumption) | assumption)
           have q4:x3_1 < (a0.size:Int):=of_decide_eq_true (by first | (with_reducible assumption) | assumption)
           have hx4:=dI a0 x3_1
           replace p4:=eq_true p4
           replace q4:=eq_true q4
           go_wp2_with (first | ((with_reducible refine bD (f:=49) rfl ?_);refine dS (some 21) rfl rfl Tryz.func49 (by kernel_rfl) rfl #[.string a0,.int .i64 x3_1] rfl (by (try simp only [List.map_toArray,List.map_cons,List.map_nil]);first | done | rfl | (simp only [List.length_drop,List.length_take];rfl)) ?_;(with_reducible refine (bF.calls k1 a0 x3_1 t108 true _ A6.out).mono ?_);rintro e w' ⟨rfl,⟨nd,rfl⟩⟩;refine ⟨_,rfl,?_⟩) | ((with_reducible refine bD (f:=50) rfl ?_);refine dS (some 33) rfl rfl Tryz.func50 (by kernel_rfl) rfl #[.int .i64 t108] rfl (by (try simp only [List.map_toArray,List.map_cons,List.map_nil]);first | done | rfl | (simp only [List.length_drop,List.length_take];rfl)) ?_;(with_reducible refine (dM.calls t108 true _ A8.out).mono ?_);rintro e w' ⟨rfl,⟨nd,rfl⟩⟩;refine ⟨_,rfl,?_⟩) | ((with_reducible refine bD (f:=49) rfl ?_);refine dS (some 38) rfl rfl Tryz.func49 (by kernel_rfl) rfl #[.string a0,.int .i64 (wrap64 (x3_1+6))] rfl (by (try simp only [List.map_toArray,List.map_cons,List.map_nil]);first | done | rfl | (simp only [List.length_drop,List.length_take];rfl)) ?_;(with_reducible refine (bF.calls k1 a0 (wrap64 (x3_1+6)) t111 true _ A10.out).mono ?_);rintro e w' ⟨rfl,⟨nd,rfl⟩⟩;refine ⟨_,rfl,?_⟩) | (go_at_call 51;(with_reducible refine (dA.calls t111 true _ A12.out).mono ?_);rintro e w' ⟨rfl,⟨nd,rfl⟩⟩))
           go_roundg k1
           case measure=>have:=HK1.out;omega
           case rel=>exact ⟨(wrap64 (x3_1+12)),(by first | rfl | (simp;done) | (simp [*];done)),H',⟨by have:=HK1.out;omega⟩,by repeat (first | exact ai.refl _ | apply ai.step)⟩
          ·replace c13:=Bool.eq_false_iff.mpr c13
           subst c13
           have H1:(some false)=some r:=by rw [if_neg (show ¬ (false=true) by decide)] at H;exact H
           clear H
           have H:=H1
           clear H1
           obtain rfl:=Option.some.inj H
           have p4:0≤(x3_1:Int):=of_decide_eq_true (by first | (with_reducible assumption) | assumption)
           have q4:x3_1 < (a0.size:Int):=of_decide_eq_true (by first | (with_reducible assumption) | assumption)
           have hx4:=dI a0 x3_1
           replace p4:=eq_true p4
           replace q4:=eq_true q4
           go_wp2_with (first | ((with_reducible refine bD (f:=49) rfl ?_);refine dS (some 21) rfl rfl Tryz.func49 (by kernel_rfl) rfl #[.string a0,.int .i64 x3_1] rfl (by (try simp only [List.map_toArray,List.map_cons,List.map_nil]);first | done | rfl | (simp only [List.length_drop,List.length_take];rfl)) ?_;(with_reducible refine (bF.calls k1 a0 x3_1 t108 true _ A6.out).mono ?_);rintro e w' ⟨rfl,⟨nd,rfl⟩⟩;refine ⟨_,rfl,?_⟩) | ((with_reducible refine bD (f:=50) rfl ?_);refine dS (some 33) rfl rfl Tryz.func50 (by kernel_rfl) rfl #[.int .i64 t108] rfl (by (try simp only [List.map_toArray,List.map_cons,List.map_nil]);first | done | rfl | (simp only [List.length_drop,List.length_take];rfl)) ?_;(with_reducible refine (dM.calls t108 true _ A8.out).mono ?_);rintro e w' ⟨rfl,⟨nd,rfl⟩⟩;refine ⟨_,rfl,?_⟩) | ((with_reducible refine bD (f:=49) rfl ?_);refine dS (some 38) rfl rfl Tryz.func49 (by kernel_rfl) rfl #[.string a0,.int .i64 (wrap64 (x3_1+6))] rfl (by (try simp only [List.map_toArray,List.map_cons,List.map_nil]);first | done | rfl | (simp only [List.length_drop,List.length_take];rfl)) ?_;(with_reducible refine (bF.calls k1 a0 (wrap64 (x3_1+6)) t111 true _ A10.out).mono ?_);rintro e w' ⟨rfl,⟨nd,rfl⟩⟩;refine ⟨_,rfl,?_⟩) | (go_at_call 51;(with_reducible refine (dA.calls t111 false _ A12.out).mono ?_);rintro e w' ⟨rfl,⟨nd,rfl⟩⟩))
           go_ret
           exact ⟨by first | rfl | (simp;done) | (simp [*];done),by repeat (first | exact ai.refl _ | apply ai.step)⟩
         ·replace c11:=Bool.eq_false_iff.mpr c11
          subst c11
          have H1:(some false)=some r:=by rw [if_neg (show ¬ (false=true) by decide)] at H;exact H
          clear H
          have H:=H1
          clear H1
          obtain rfl:=Option.some.inj H
          have p4:0≤(x3_1:Int):=of_decide_eq_true (by first | (with_reducible assumption) | assumption)
          have q4:x3_1 < (a0.size:Int):=of_decide_eq_true (by first | (with_reducible assumption) | assumption)
          have hx4:=dI a0 x3_1
          replace p4:=eq_true p4
          replace q4:=eq_true q4
          go_wp2_with (first | ((with_reducible refine bD (f:=49) rfl ?_);refine dS (some 21) rfl rfl Tryz.func49 (by kernel_rfl) rfl #[.string a0,.int .i64 x3_1] rfl (by (try simp only [List.map_toArray,List.map_cons,List.map_nil]);first | done | rfl | (simp only [List.length_drop,List.length_take];rfl)) ?_;(with_reducible refine (bF.calls k1 a0 x3_1 t108 true _ A6.out).mono ?_);rintro e w' ⟨rfl,⟨nd,rfl⟩⟩;refine ⟨_,rfl,?_⟩) | ((with_reducible refine bD (f:=50) rfl ?_);refine dS (some 33) rfl rfl Tryz.func50 (by kernel_rfl) rfl #[.int .i64 t108] rfl (by (try simp only [List.map_toArray,List.map_cons,List.map_nil]);first | done | rfl | (simp only [List.length_drop,List.length_take];rfl)) ?_;(with_reducible refine (dM.calls t108 true _ A8.out).mono ?_);rintro e w' ⟨rfl,⟨nd,rfl⟩⟩;refine ⟨_,rfl,?_⟩) | ((with_reducible refine bD (f:=49) rfl ?_);refine dS (some 38) rfl rfl Tryz.func49 (by kernel_rfl) rfl #[.string a0,.int .i64 (wrap64 (x3_1+6))] rfl (by (try simp only [List.map_toArray,List.map_cons,List.map_nil]);first | done | rfl | (simp only [List.length_drop,List.length_take];rfl)) ?_;(with_reducible refine (bF.calls k1 a0 (wrap64 (x3_1+6)) t111 false _ A10.out).mono ?_);rintro e w' ⟨rfl,⟨nd,rfl⟩⟩;refine ⟨_,rfl,?_⟩))
          go_ret
          exact ⟨by first | rfl | (simp;done) | (simp [*];done),by repeat (first | exact ai.refl _ | apply ai.step)⟩
        ·replace c9:=Bool.eq_false_iff.mpr c9
         subst c9
         have H1:((dA.f t108).bind fun t114=>(if t114=true then (some false) else (bu.l0 k1 a0 (wrap64 (x3_1+6)))))=some r:=by rw [if_neg (show ¬ (false=true) by decide)] at H;exact H
         clear H
         have H:=H1
         clear H1
         replace H:=Option.bind_eq_some_iff.mp H
         obtain ⟨t114,A140,H⟩:=H
         replace H:(if t114=true then (some false) else (bu.l0 k1 a0 (wrap64 (x3_1+6))))=some r:=H
         have A14:=ae.mk A140
         clear A140
         by_cases c15:t114=true
         ·subst c15
          have H1:(some false)=some r:=by rw [if_pos rfl] at H;exact H
          clear H
          have H:=H1
          clear H1
          obtain rfl:=Option.some.inj H
          have p4:0≤(x3_1:Int):=of_decide_eq_true (by first | (with_reducible assumption) | assumption)
          have q4:x3_1 < (a0.size:Int):=of_decide_eq_true (by first | (with_reducible assumption) | assumption)
          have hx4:=dI a0 x3_1
          replace p4:=eq_true p4
          replace q4:=eq_true q4
          go_wp2_with (first | ((with_reducible refine bD (f:=49) rfl ?_);refine dS (some 21) rfl rfl Tryz.func49 (by kernel_rfl) rfl #[.string a0,.int .i64 x3_1] rfl (by (try simp only [List.map_toArray,List.map_cons,List.map_nil]);first | done | rfl | (simp only [List.length_drop,List.length_take];rfl)) ?_;(with_reducible refine (bF.calls k1 a0 x3_1 t108 true _ A6.out).mono ?_);rintro e w' ⟨rfl,⟨nd,rfl⟩⟩;refine ⟨_,rfl,?_⟩) | ((with_reducible refine bD (f:=50) rfl ?_);refine dS (some 33) rfl rfl Tryz.func50 (by kernel_rfl) rfl #[.int .i64 t108] rfl (by (try simp only [List.map_toArray,List.map_cons,List.map_nil]);first | done | rfl | (simp only [List.length_drop,List.length_take];rfl)) ?_;(with_reducible refine (dM.calls t108 false _ A8.out).mono ?_);rintro e w' ⟨rfl,⟨nd,rfl⟩⟩;refine ⟨_,rfl,?_⟩) | ((with_reducible refine bD (f:=51) rfl ?_);refine dS (some 52) rfl rfl Tryz.func51 (by kernel_rfl) rfl #[.int .i64 t108] rfl (by (try simp only [List.map_toArray,List.map_cons,List.map_nil]);first | done | rfl | (simp only [List.length_drop,List.length_take];rfl)) ?_;(with_reducible refine (dA.calls t108 true _ A14.out).mono ?_);rintro e w' ⟨rfl,⟨nd,rfl⟩⟩;refine ⟨_,rfl,?_⟩))
          go_ret
          exact ⟨by first | rfl | (simp;done) | (simp [*];done),by repeat (first | exact ai.refl _ | apply ai.step)⟩
         ·replace c15:=Bool.eq_false_iff.mpr c15
          subst c15
          have H1:(bu.l0 k1 a0 (wrap64 (x3_1+6)))=some r:=by rw [if_neg (show ¬ (false=true) by decide)] at H;exact H
          clear H
          have H:=H1
          clear H1
          have H':=ae.mk H
          clear H
          have p4:0≤(x3_1:Int):=of_decide_eq_true (by first | (with_reducible assumption) | assumption)
          have q4:x3_1 < (a0.size:Int):=of_decide_eq_true (by first | (with_reducible assumption) | assumption)
          have hx4:=dI a0 x3_1
          replace p4:=eq_true p4
          replace q4:=eq_true q4
          go_wp2_with (first | ((with_reducible refine bD (f:=49) rfl ?_);refine dS (some 21) rfl rfl Tryz.func49 (by kernel_rfl) rfl #[.string a0,.int .i64 x3_1] rfl (by (try simp only [List.map_toArray,List.map_cons,List.map_nil]);first | done | rfl | (simp only [List.length_drop,List.length_take];rfl)) ?_;(with_reducible refine (bF.calls k1 a0 x3_1 t108 true _ A6.out).mono ?_);rintro e w' ⟨rfl,⟨nd,rfl⟩⟩;refine ⟨_,rfl,?_⟩) | ((with_reducible refine bD (f:=50) rfl ?_);refine dS (some 33) rfl rfl Tryz.func50 (by kernel_rfl) rfl #[.int .i64 t108] rfl (by (try simp only [List.map_toArray,List.map_cons,List.map_nil]);first | done | rfl | (simp only [List.length_drop,List.length_take];rfl)) ?_;(with_reducible refine (dM.calls t108 false _ A8.out).mono ?_);rintro e w' ⟨rfl,⟨nd,rfl⟩⟩;refine ⟨_,rfl,?_⟩) | ((with_reducible refine bD (f:=51) rfl ?_);refine dS (some 52) rfl rfl Tryz.func51 (by kernel_rfl) rfl #[.int .i64 t108] rfl (by (try simp only [List.map_toArray,List.map_cons,List.map_nil]);first | done | rfl | (simp only [List.length_drop,List.length_take];rfl)) ?_;(with_reducible refine (dA.calls t108 false _ A14.out).mono ?_);rintro e w' ⟨rfl,⟨nd,rfl⟩⟩;refine ⟨_,rfl,?_⟩))
          go_roundg k1
          case measure=>have:=HK1.out;omega
          case rel=>exact ⟨(wrap64 (x3_1+6)),(by first | rfl | (simp;done) | (simp [*];done)),H',⟨by have:=HK1.out;omega⟩,by repeat (first | exact ai.refl _ | apply ai.step)⟩
       ·replace c7:=Bool.eq_false_iff.mpr c7
        subst c7
        have H1:(bu.l0 k1 a0 (wrap64 (x3_1+2)))=some r:=by rw [if_neg (show ¬ (false=true) by decide)] at H;exact H
        clear H
        have H:=H1
        clear H1
        have H':=ae.mk H
        clear H
        have p4:0≤(x3_1:Int):=of_decide_eq_true (by first | (with_reducible assumption) | assumption)
        have q4:x3_1 < (a0.size:Int):=of_decide_eq_true (by first | (with_reducible assumption) | assumption)
        have hx4:=dI a0 x3_1
        replace p4:=eq_true p4
        replace q4:=eq_true q4
        go_wp2_with (first | ((with_reducible refine bD (f:=49) rfl ?_);refine dS (some 21) rfl rfl Tryz.func49 (by kernel_rfl) rfl #[.string a0,.int .i64 x3_1] rfl (by (try simp only [List.map_toArray,List.map_cons,List.map_nil]);first | done | rfl | (simp only [List.length_drop,List.length_take];rfl)) ?_;(with_reducible refine (bF.calls k1 a0 x3_1 t108 false _ A6.out).mono ?_);rintro e w' ⟨rfl,⟨nd,rfl⟩⟩;refine ⟨_,rfl,?_⟩))
        go_roundg k1
        case measure=>have:=HK1.out;omega
        case rel=>exact ⟨(wrap64 (x3_1+2)),(by first | rfl | (simp;done) | (simp [*];done)),H',⟨by have:=HK1.out;omega⟩,by repeat (first | exact ai.refl _ | apply ai.step)⟩
      ·rw [if_neg c5] at H
       have c5b0:((bt a0 x3_1) == 92)=false:=beq_eq_false_iff_ne.mpr c5
       have c5b1:((bt a0 x3_1) != 92)=true:=bne_iff_ne.mpr c5
       have H':=ae.mk H
       clear H
       have p4:0≤(x3_1:Int):=of_decide_eq_true (by first | (with_reducible assumption) | assumption)
       have q4:x3_1 < (a0.size:Int):=of_decide_eq_true (by first | (with_reducible assumption) | assumption)
       have hx4:=dI a0 x3_1
       replace p4:=eq_true p4
       replace q4:=eq_true q4
       go_wp2
       go_roundg k1
       case measure=>have:=HK1.out;omega
       case rel=>exact ⟨(wrap64 (x3_1+1)),(by first | rfl | (simp;done) | (simp [*];done)),H',⟨by have:=HK1.out;omega⟩,by repeat (first | exact ai.refl _ | apply ai.step)⟩
     ·rw [if_neg c3] at H
      exact absurd H (by simp)
    ·rw [if_neg c2] at H
     have c2b0:decide (x3_1 < (a0.size:Int))=false:=decide_eq_false c2
     clear c2
     obtain rfl:=Option.some.inj H
     go_wp2
     go_ret
     exact ⟨by first | rfl | (simp;done) | (simp [*];done),by repeat (first | exact ai.refl _ | apply ai.step)⟩
end Go.Proofs.YtpgfjbimodnkeaaGreatDoor.Q
namespace Go.Proofs.YtpgfjbimodnkeaaGreatDoor.Scan
open Go Go.RowKit Go.Proofs.YtpgfjbimodnkeaaGreatDoorW.PrintWords Go.Proofs.YtpgfjbimodnkeaaGreatDoor.Q Go.Proofs.YtpgfjbimodnkeaaGreatDoor.Dec
theorem Evt.vJ {α:Type} {g:Nat→Option α} {r:α} (h:Evt g r):Evt (fun k=>g (k+1)) r:=by
 obtain ⟨K,hK⟩:=h
 exact ⟨K,fun k hk=>hK (k+1) (by omega)⟩
theorem Evt.lh {α:Type} {c:Prop} [Decidable c] {g h:Nat→Option α} {r:α} (hh:Evt (fun k=>if c then g k else h k) r) (hc:c):Evt g r:=Evt.congr (fun _=>(if_pos hc).symm) hh
theorem Evt.sG {α:Type} {c:Prop} [Decidable c] {g h:Nat→Option α} {r:α} (hh:Evt (fun k=>if c then g k else h k) r) (hc:¬ c):Evt h r:=Evt.congr (fun _=>(if_neg hc).symm) hh
theorem Evt.o5 {α β:Type} {g:Nat→Option α} {x:α} {f:Nat→α→Option β} {r:β} (h:Evt (fun k=>(g k).bind (f k)) r) (hg:Evt g x):Evt (fun k=>f k x) r:=by
 obtain ⟨K,hK⟩:=h
 obtain ⟨L,hL⟩:=hg
 refine ⟨K+L,fun k hk=>?_⟩
 have h1:(g k).bind (f k)=some r:=hK k (by omega)
 rw [hL k (by omega)] at h1
 exact h1
theorem Evt.wz {α:Type} {a r:α} (h:Evt (fun _=>some a) r):a=r:=Evt.uniq (Evt.pure a) h
structure iV (s:ByteArray) (p:Nat):Prop where
 le:p+6≤s.size
 b0:bt s p=92
 b1:bt s ((p:Int)+1)=117
 hex:oK s ((p:Int)+2)
theorem BH (s:ByteArray) (hS:s.size≤1099511627776) (p:Nat) (hp:p+6≤s.size) (n:Nat):∀ (m:Nat) (a:Int),m+n=4→0≤a→a < 16 ^ m →
 ∃ (v:Int) (b:Bool),Evt (fun k=>bF.l0 k s p a ((p+2+m:Nat):Int)) (v,b)∧(b=true↔∀ t:Nat,m≤t→t < 4→iC (bt s ((p+2+t:Nat):Int))) ∧
  (b=true→∀ c:Int,(n=0→c=a)→(n=1→c=a*16+jo (bt s ((p+5:Nat):Int)))→(n=2→c=(a*16+jo (bt s ((p+4:Nat):Int)))*16+jo (bt s ((p+5:Nat):Int))) →
    (n=3→c=((a*16+jo (bt s ((p+3:Nat):Int)))*16+jo (bt s ((p+4:Nat):Int)))*16+jo (bt s ((p+5:Nat):Int))) →
    (n=4→c=(((a*16+jo (bt s ((p+2:Nat):Int)))*16+jo (bt s ((p+3:Nat):Int)))*16+jo (bt s ((p+4:Nat):Int)))*16+jo (bt s ((p+5:Nat):Int)))→v=c):=by
 induction n with
 | zero =>
   intro m a hm h0 h1
   have hm4:m=4:=by omega
   subst hm4
   refine ⟨a,true,Evt.succ ?_,⟨fun _ t h2 h3=>by omega,fun _=>rfl⟩,fun _ c hc _ _ _ _=>(hc rfl).symm⟩
   simp only [bF.l0]
   rw [bJ (p+6) (by omega) (by omega)]
   exact Evt.neg (by omega) (Evt.pure _)
 | succ n ih =>
   intro m a hm h0 h1
   obtain ⟨v,hv,hv2⟩:=qg (bt s ((p+2+m:Nat):Int)) (fP s _)
   by_cases hx:iC (bt s ((p+2+m:Nat):Int))
   ·have hb:=jf hx
    have hp16:(16:Int) ^ m≤4096:=by
     have:m=0∨m=1∨m=2∨m=3:=by omega
     rcases this with rfl | rfl | rfl | rfl <;> decide
    obtain ⟨v',b,h2,h3,h4⟩:=ih (m+1) (a*16+jo (bt s ((p+2+m:Nat):Int))) (by omega) (by omega) (by rw [Int.pow_succ];omega)
    refine ⟨v',b,Evt.succ ?_,⟨fun hb t h5 h6=>?_,fun h5=>h3.2 (fun t h6 h7=>h5 t (by omega) h7)⟩,fun hb c k0 k1 k2 k3 k4=>h4 hb c ?_ ?_ ?_ ?_ ?_⟩
    ·simp only [bF.l0]
     rw [bJ (i:=(p:Int)+6) (p+6) (by omega) (by omega),bJ (i:=((p+2+m:Nat):Int)+1) (p+2+(m+1)) (by omega) (by omega)]
     refine Evt.pos (by omega) (Evt.pos (by omega) (Evt.pos (by omega) (Evt.bind hv (Evt.pos (decide_eq_true hx) ?_))))
     simp only [hv2 hx]
     rw [gy (i:=a*16) (by omega) (by omega),gy (by omega) (by omega)]
     exact h2
    ·by_cases ht:t=m
     ·subst ht;exact hx
     ·exact h3.1 hb t (by omega) h6
    ·intro hn;subst hn
     have:m=3:=by omega
     subst this
     exact k1 rfl
    ·intro hn;subst hn
     have:m=2:=by omega
     subst this
     exact k2 rfl
    ·intro hn;subst hn
     have:m=1:=by omega
     subst this
     exact k3 rfl
    ·intro hn;subst hn
     have:m=0:=by omega
     subst this
     exact k4 rfl
    ·intro hn;omega
   ·refine ⟨0,false,Evt.succ ?_,⟨fun h=>(by cases h),fun h=>absurd (h m (Nat.le_refl _) (by omega)) hx⟩,fun h=>by cases h⟩
    simp only [bF.l0]
    rw [bJ (p+6) (by omega) (by omega)]
    exact Evt.pos (by omega) (Evt.pos (by omega) (Evt.pos (by omega) (Evt.bind hv (Evt.neg (by simp only [decide_eq_true_eq];exact hx) (Evt.pure _)))))
theorem jM (s:ByteArray) (hS:s.size≤1099511627776) (p:Nat) (hp:p≤2199023255552):∃ (v:Int) (b:Bool),Evt (fun k=>bF.f k s p) (v,b)∧(b=true↔iV s p)∧(b=true→v=dN s ((p:Int)+2)):=by
 have no:∀ x:Bool,x=true→∀ g:Nat→Option (Int × Bool),(∀ k,g k=bF.j0 k s p x)→¬ iV s p→∃ (v:Int) (b:Bool),Evt g (v,b)∧(b=true↔iV s p)∧(b=true→v=dN s ((p:Int)+2)):=by
  intro x hx g hg hU
  refine ⟨0,false,Evt.congr hg (Evt.succ ?_),⟨fun h=>(by cases h),fun h=>absurd h hU⟩,fun h=>by cases h⟩
  simp only [bF.j0]
  exact Evt.pos hx (Evt.pure _)
 unfold bF.f
 by_cases h6:p+6≤s.size
 ·have w1:wrap64 ((s.size:Int) - p)=((s.size - p:Nat):Int):=bJ _ (by omega) (by omega)
  have w2:wrap64 ((p:Int)+1)=((p+1:Nat):Int):=bJ _ (by omega) (by omega)
  rw [w1,w2]
  by_cases c0:bt s p=92
  ·by_cases c1:bt s ((p+1:Nat):Int)=117
   ·obtain ⟨v,b,h1,h2,h3⟩:=BH s hS p h6 4 0 0 (by omega) (by omega) (by decide)
    have hU:b=true↔iV s p:=by
     rw [h2]
     constructor
     ·intro h
      have k0:=h 0 (by omega) (by omega)
      have k1:=h 1 (by omega) (by omega)
      have k2:=h 2 (by omega) (by omega)
      have k3:=h 3 (by omega) (by omega)
      refine ⟨h6,c0,by rwa [show (p:Int)+1=((p+1:Nat):Int) by omega],?_,?_,?_,?_⟩
      ·rwa [show (p:Int)+2=((p+2+0:Nat):Int) by omega]
      ·rwa [show (p:Int)+2+1=((p+2+1:Nat):Int) by omega]
      ·rwa [show (p:Int)+2+2=((p+2+2:Nat):Int) by omega]
      ·rwa [show (p:Int)+2+3=((p+2+3:Nat):Int) by omega]
     ·intro h t _ ht
      obtain ⟨k0,k1,k2,k3⟩:=h.hex
      have:t=0∨t=1∨t=2∨t=3:=by omega
      rcases this with rfl | rfl | rfl | rfl
      ·rwa [show ((p+2+0:Nat):Int)=(p:Int)+2 by omega]
      ·rwa [show ((p+2+1:Nat):Int)=(p:Int)+2+1 by omega]
      ·rwa [show ((p+2+2:Nat):Int)=(p:Int)+2+2 by omega]
      ·rwa [show ((p+2+3:Nat):Int)=(p:Int)+2+3 by omega]
    refine ⟨v,b,?_,hU,fun hb=>h3 hb _ (by omega) (by omega) (by omega) (by omega) (fun _=>?_)⟩
    ·refine Evt.neg (by omega) (Evt.pos (by omega) (Evt.pos (by omega) (Evt.pos c0 (Evt.pos (by omega) (Evt.pos (by omega) (Evt.succ ?_))))))
     simp only [bF.j0]
     rw [bJ (i:=(p:Int)+2) (p+2+0) (by omega) (by omega)]
     exact Evt.neg (by rw [bne_iff_ne];exact fun h=>h c1) h1
    ·unfold dN
     rw [show ((p:Int)+2+1)=((p+3:Nat):Int) by omega,show ((p:Int)+2+2)=((p+4:Nat):Int) by omega,show ((p:Int)+2+3)=((p+5:Nat):Int) by omega,show ((p:Int)+2)=((p+2:Nat):Int) by omega]
     omega
   ·refine no ((bt s ((p+1:Nat):Int)) != 117) (bne_iff_ne.mpr c1) _ (fun k=>?_) (fun h=>c1 (by have:=h.b1;rwa [show (p:Int)+1=((p+1:Nat):Int) by omega] at this))
    rw [if_neg (by omega),if_pos (by omega),if_pos (by omega),if_pos c0,if_pos (by omega),if_pos (by omega)]
  ·refine no true rfl _ (fun k=>?_) (fun h=>c0 h.b0)
   rw [if_neg (by omega),if_pos (by omega),if_pos (by omega),if_neg c0]
 ·refine no true rfl _ (fun k=>?_) (fun h=>h6 h.le)
  have w1:wrap64 ((s.size:Int) - p)=(s.size:Int) - p:=gy (by omega) (by omega)
  rw [w1,if_pos (by omega)]
theorem jK (n:Int):dM.f n=some (decide (55296≤n∧n≤56319)):=by
 unfold dM.f
 by_cases h:55296≤n
 ·rw [if_pos h];simp [h]
 ·rw [if_neg h];simp [h]
theorem lW (n:Int):dA.f n=some (decide (56320≤n∧n≤57343)):=by
 unfold dA.f
 by_cases h:56320≤n
 ·rw [if_pos h];simp [h]
 ·rw [if_neg h];simp [h]
def Prd (s:ByteArray) (p:Nat):Prop:=Evt (fun k=>bu.l0 k s p) true
theorem Prd.plain {s:ByteArray} (hS:s.size≤1099511627776) {p:Nat} (h:Prd s p) (hp:p < s.size) (hb:bt s p≠92):Prd s (p+1):=by
 have h1:=Evt.vJ h
 simp only [bu.l0] at h1
 have h2:=((h1.lh (by omega)).lh (by omega)).sG hb
 rwa [bJ (p+1) (by omega) (by omega)] at h2
theorem Prd.short {s:ByteArray} (hS:s.size≤1099511627776) {p:Nat} (h:Prd s p) (hp:p < s.size) (hb:bt s p=92) (hU:¬ iV s p):Prd s (p+2):=by
 have h1:=Evt.vJ h
 simp only [bu.l0] at h1
 obtain ⟨v,b,g1,g2,g3⟩:=jM s hS p (by omega)
 have hbf:¬ (b=true):=fun hb=>hU (g2.1 hb)
 have h2:=(Evt.o5 (((h1.lh (by omega)).lh (by omega)).lh hb) g1).sG hbf
 rwa [bJ (p+2) (by omega) (by omega)] at h2
theorem Prd.uni {s:ByteArray} (hS:s.size≤1099511627776) {p:Nat} (h:Prd s p) (hU:iV s p) :
 (¬ (55296≤dN s ((p:Int)+2)∧dN s ((p:Int)+2)≤57343)∧Prd s (p+6)) ∨
 ((55296≤dN s ((p:Int)+2)∧dN s ((p:Int)+2)≤56319)∧iV s (p+6)∧(56320≤dN s ((p:Int)+8)∧dN s ((p:Int)+8)≤57343)∧Prd s (p+12)):=by
 have h1:=Evt.vJ h
 simp only [bu.l0] at h1
 have hle:=hU.le
 obtain ⟨v,b,g1,g2,g3⟩:=jM s hS p (by omega)
 have hbt:=g2.2 hU
 have hv:=g3 hbt
 have h2:=(Evt.o5 (((h1.lh (by omega)).lh (by omega)).lh hU.b0) g1).lh hbt
 have h3:=Evt.o5 h2 (Evt.of (jK _))
 simp only [hv] at h3
 by_cases hh:55296≤dN s ((p:Int)+2)∧dN s ((p:Int)+2)≤56319
 ·have h4:=h3.lh (decide_eq_true hh)
  rw [bJ (i:=(p:Int)+6) (p+6) (by omega) (by omega)] at h4
  obtain ⟨v2,b2,f1,f2,f3⟩:=jM s hS (p+6) (by omega)
  have h5:=Evt.o5 h4 f1
  cases b2 with
  | false=>exact absurd (Evt.wz (h5.sG (by simp))) (by decide)
  | true =>
    have h6:=Evt.o5 (h5.lh rfl) (Evt.of (lW _))
    have hv2:=f3 rfl
    rw [show ((p+6:Nat):Int)+2=(p:Int)+8 by omega] at hv2
    simp only [hv2] at h6
    by_cases hl:56320≤dN s ((p:Int)+8)∧dN s ((p:Int)+8)≤57343
    ·have h7:=h6.lh (decide_eq_true hl)
     rw [bJ (i:=(p:Int)+12) (p+12) (by omega) (by omega)] at h7
     exact .inr ⟨hh,f2.1 rfl,hl,h7⟩
    ·exact absurd (Evt.wz (h6.sG (by simp only [decide_eq_true_eq];exact hl))) (by decide)
 ·have h4:=Evt.o5 (h3.sG (by simp only [decide_eq_true_eq];exact hh)) (Evt.of (lW _))
  by_cases hl:56320≤dN s ((p:Int)+2)∧dN s ((p:Int)+2)≤57343
  ·exact absurd (Evt.wz (h4.lh (decide_eq_true hl))) (by decide)
  ·have h5:=h4.sG (by simp only [decide_eq_true_eq];exact hl)
   rw [bJ (i:=(p:Int)+6) (p+6) (by omega) (by omega)] at h5
   exact .inl ⟨by omega,h5⟩
theorem xQ (s:ByteArray) (hS:s.size≤1099511627776) (n:Nat):∀ p:Nat,s.size+20 - p=n→p≤s.size+12→∃ b,Evt (fun k=>bu.l0 k s p) b:=by
 induction n using Nat.strongRecOn with
 | _ n ih =>
   intro p hn hp
   by_cases hlt:p < s.size
   ·by_cases hb:bt s p=92
    ·obtain ⟨v,b,g1,g2,g3⟩:=jM s hS p (by omega)
     cases b with
     | false =>
       obtain ⟨r,hr⟩:=ih (s.size+20 - (p+2)) (by omega) (p+2) rfl (by omega)
       refine ⟨r,Evt.succ ?_⟩
       simp only [bu.l0]
       rw [bJ (i:=(p:Int)+2) (p+2) (by omega) (by omega)]
       exact Evt.pos (by omega) (Evt.pos (by omega) (Evt.pos hb (Evt.bind g1 (Evt.neg (by simp) hr))))
     | true =>
       have hU:=g2.1 rfl
       have hle:=hU.le
       by_cases hh:55296≤v∧v≤56319
       ·obtain ⟨v2,b2,f1,f2,f3⟩:=jM s hS (p+6) (by omega)
        cases b2 with
        | false =>
          refine ⟨false,Evt.succ ?_⟩
          simp only [bu.l0]
          rw [bJ (i:=(p:Int)+6) (p+6) (by omega) (by omega)]
          exact Evt.pos (by omega) (Evt.pos (by omega) (Evt.pos hb (Evt.bind g1 (Evt.pos (by simp) (Evt.aI (jK _) (Evt.pos (decide_eq_true hh) (Evt.bind f1 (Evt.neg (by simp) (Evt.pure _)))))))))
        | true =>
          by_cases hl:56320≤v2∧v2≤57343
          ·obtain ⟨r,hr⟩:=ih (s.size+20 - (p+12)) (by omega) (p+12) rfl (by omega)
           refine ⟨r,Evt.succ ?_⟩
           simp only [bu.l0]
           rw [bJ (i:=(p:Int)+6) (p+6) (by omega) (by omega),bJ (i:=(p:Int)+12) (p+12) (by omega) (by omega)]
           exact Evt.pos (by omega) (Evt.pos (by omega) (Evt.pos hb (Evt.bind g1 (Evt.pos (by simp) (Evt.aI (jK _) (Evt.pos (decide_eq_true hh) (Evt.bind f1 (Evt.pos (by simp) (Evt.aI (lW _) (Evt.pos (decide_eq_true hl) hr))))))))))
          ·refine ⟨false,Evt.succ ?_⟩
           simp only [bu.l0]
           rw [bJ (i:=(p:Int)+6) (p+6) (by omega) (by omega)]
           exact Evt.pos (by omega) (Evt.pos (by omega) (Evt.pos hb (Evt.bind g1 (Evt.pos (by simp) (Evt.aI (jK _) (Evt.pos (decide_eq_true hh) (Evt.bind f1 (Evt.pos (by simp) (Evt.aI (lW _) (Evt.neg (by simp only [decide_eq_true_eq];exact hl) (Evt.pure _)))))))))))
       ·by_cases hl:56320≤v∧v≤57343
        ·refine ⟨false,Evt.succ ?_⟩
         simp only [bu.l0]
         exact Evt.pos (by omega) (Evt.pos (by omega) (Evt.pos hb (Evt.bind g1 (Evt.pos (by simp) (Evt.aI (jK _) (Evt.neg (by simp only [decide_eq_true_eq];exact hh) (Evt.aI (lW _) (Evt.pos (decide_eq_true hl) (Evt.pure _)))))))))
        ·obtain ⟨r,hr⟩:=ih (s.size+20 - (p+6)) (by omega) (p+6) rfl (by omega)
         refine ⟨r,Evt.succ ?_⟩
         simp only [bu.l0]
         rw [bJ (i:=(p:Int)+6) (p+6) (by omega) (by omega)]
         exact Evt.pos (by omega) (Evt.pos (by omega) (Evt.pos hb (Evt.bind g1 (Evt.pos (by simp) (Evt.aI (jK _) (Evt.neg (by simp only [decide_eq_true_eq];exact hh) (Evt.aI (lW _) (Evt.neg (by simp only [decide_eq_true_eq];exact hl) hr))))))))
    ·obtain ⟨r,hr⟩:=ih (s.size+20 - (p+1)) (by omega) (p+1) rfl (by omega)
     refine ⟨r,Evt.succ ?_⟩
     simp only [bu.l0]
     rw [bJ (i:=(p:Int)+1) (p+1) (by omega) (by omega)]
     exact Evt.pos (by omega) (Evt.pos (by omega) (Evt.neg hb hr))
   ·refine ⟨true,Evt.succ ?_⟩
    simp only [bu.l0]
    exact Evt.neg (by omega) (Evt.pure _)
theorem y7 (s:ByteArray) (hS:s.size≤1099511627776):∃ b,Evt (fun k=>bu.f k s) b∧(b=true→Prd s 0):=by
 obtain ⟨b,h⟩:=xQ s hS _ 0 rfl (by omega)
 refine ⟨b,h,fun hb=>?_⟩
 subst hb
 exact h
theorem iV.ext {s x:ByteArray} {p i:Nat} (h:iV s p) (hb:∀ t:Nat,t < 6→bt x ((i+t:Nat):Int)=bt s ((p+t:Nat):Int)) (hi:i+6≤x.size):iV x i∧dN x ((i:Int)+2)=dN s ((p:Int)+2):=by
 have e:∀ t:Nat,t < 6→bt x ((i:Int)+t)=bt s ((p:Int)+t):=fun t ht=>by
  have:=hb t ht
  rwa [show ((i+t:Nat):Int)=(i:Int)+t by omega,show ((p+t:Nat):Int)=(p:Int)+t by omega] at this
 have e0:=e 0 (by omega)
 have e1:=e 1 (by omega)
 have e2:=e 2 (by omega)
 have e3:=e 3 (by omega)
 have e4:=e 4 (by omega)
 have e5:=e 5 (by omega)
 simp only [Int.natCast_zero,Int.add_zero] at e0
 obtain ⟨d0,d1,d2,d3⟩:=h.hex
 have f:∀ y:Int,y+2+1=y+3∧y+2+2=y+4∧y+2+3=y+5:=fun y=>by omega
 refine ⟨⟨hi,by rw [e0];exact h.b0,by have:=e1;simp only [Int.natCast_one] at this;rw [this];exact h.b1,?_⟩,?_⟩
 ·refine ⟨?_,?_,?_,?_⟩
  ·rw [show (i:Int)+2=(i:Int)+(2:Nat) by omega,e2];exact d0
  ·rw [(f i).1,show (i:Int)+3=(i:Int)+(3:Nat) by omega,e3,show (p:Int)+(3:Nat)=(p:Int)+2+1 by omega];exact d1
  ·rw [(f i).2.1,show (i:Int)+4=(i:Int)+(4:Nat) by omega,e4,show (p:Int)+(4:Nat)=(p:Int)+2+2 by omega];exact d2
  ·rw [(f i).2.2,show (i:Int)+5=(i:Int)+(5:Nat) by omega,e5,show (p:Int)+(5:Nat)=(p:Int)+2+3 by omega];exact d3
 ·unfold dN
  rw [(f i).1,(f i).2.1,(f i).2.2,(f p).1,(f p).2.1,(f p).2.2,show (i:Int)+2=(i:Int)+(2:Nat) by omega,e2,show (i:Int)+3=(i:Int)+(3:Nat) by omega,e3,show (i:Int)+4=(i:Int)+(4:Nat) by omega,e4,show (i:Int)+5=(i:Int)+(5:Nat) by omega,e5]
  simp only [show (p:Int)+(2:Nat)=(p:Int)+2 by omega,show (p:Int)+(3:Nat)=(p:Int)+3 by omega,show (p:Int)+(4:Nat)=(p:Int)+4 by omega,show (p:Int)+(5:Nat)=(p:Int)+5 by omega]
theorem Au {s:ByteArray} (hS:s.size≤1099511627776) {a q:Nat} (n:Nat):∀ p:Nat,q - p=n→a≤p→gp s p q→Prd s p→Prd s q∧∃ l,Unq (s.extract a q) (p - a) l:=by
 induction n using Nat.strongRecOn with
 | _ n ih =>
   intro p hn hap hq hP
   have hb:=hq.bound
   have hsz:(s.extract a q).size=q - a:=by rw [ByteArray.size_extract];omega
   have hx:∀ j:Nat,a≤j→j < q→bt (s.extract a q) ((j - a:Nat):Int)=bt s j:=fun j h1 h2=>by
    rw [jg s a q (j - a) (by omega) (by omega),show a+(j - a)=j by omega]
   cases hq with
   | close _ h0 h1=>exact ⟨hP,[],.done _ (by omega)⟩
   | plain _ _ h0 h1 h2 h3 h4 =>
     have hb4:=h4.bound
     obtain ⟨k1,l,k2⟩:=ih (q - (p+1)) (by omega) (p+1) rfl (by omega) h4 (hP.plain hS h0 h3)
     have e:=hx p hap (by omega)
     refine ⟨k1,_,.plain (p - a) l (by omega) (by rw [e];exact h1) (by rw [e];exact h3) ?_⟩
     rwa [show p - a+1=p+1 - a by omega]
   | short _ _ h0 h1 h2 h3 =>
     have hb3:=h3.bound
     have hU:¬ iV s p:=fun h=>by have:=h.b1;unfold fC at h2;omega
     obtain ⟨k1,l,k2⟩:=ih (q - (p+2)) (by omega) (p+2) rfl (by omega) h3 (hP.short hS (by omega) h1 hU)
     have e:=hx p hap (by omega)
     have e1:=hx (p+1) (by omega) (by omega)
     rw [show ((p+1 - a:Nat):Int)=((p - a:Nat):Int)+1 by omega,show ((p+1:Nat):Int)=(p:Int)+1 by omega] at e1
     refine ⟨k1,_,.short (p - a) l (by omega) (by rw [e];exact h1) (by rw [e1];exact h2) ?_⟩
     rwa [show p - a+2=p+2 - a by omega]
   | uni _ _ h0 h1 h2 h3 h4 =>
     have hb4:=h4.bound
     have hU:iV s p:=⟨h0,h1,h2,h3⟩
     have hE:=hU.ext (x:=s.extract a q) (i:=p - a) (fun t ht=>by
      have:=hx (p+t) (by omega) (by omega)
      rwa [show p+t - a=p - a+t by omega] at this) (by omega)
     rcases hP.uni hS hU with ⟨g1,g2⟩ | ⟨g1,g2,g3,g4⟩
     ·obtain ⟨k1,l,k2⟩:=ih (q - (p+6)) (by omega) (p+6) rfl (by omega) h4 g2
      refine ⟨k1,_,.uni (p - a) l (by omega) hE.1.b0 hE.1.b1 hE.1.hex (by rw [hE.2];exact g1) ?_⟩
      rwa [show p - a+6=p+6 - a by omega]
     ·have h5:gp s (p+12) q:=by
       cases h4 with
       | close _ c0 c1=>have:=g2.b0;omega
       | plain _ _ c0 c1 c2 c3 c4=>exact absurd g2.b0 c3
       | short _ _ c0 c1 c2 c3=>have:=g2.b1;unfold fC at c2;omega
       | uni _ _ c0 c1 c2 c3 c4=>exact c4
      have hb5:=h5.bound
      have hE2:=g2.ext (x:=s.extract a q) (i:=p - a+6) (fun t ht=>by
       have:=hx (p+6+t) (by omega) (by omega)
       rwa [show p+6+t - a=p - a+6+t by omega] at this) (by omega)
      have hv2:dN (s.extract a q) (((p - a:Nat):Int)+8)=dN s ((p:Int)+8):=by
       have:=hE2.2
       rwa [show ((p - a+6:Nat):Int)+2=((p - a:Nat):Int)+8 by omega,show ((p+6:Nat):Int)+2=(p:Int)+8 by omega] at this
      obtain ⟨k1,l,k2⟩:=ih (q - (p+12)) (by omega) (p+12) rfl (by omega) h5 g4
      refine ⟨k1,_,.pair (p - a) l (by omega) hE.1.b0 hE.1.b1 hE.1.hex (by rw [hE.2];exact g1.1) (by rw [hE.2];exact g1.2) ?_ ?_ ?_ (by rw [hv2];exact g3.1) (by rw [hv2];exact g3.2) ?_⟩
      ·have:=hE2.1.b0
       rwa [show ((p - a+6:Nat):Int)=((p - a:Nat):Int)+6 by omega] at this
      ·have:=hE2.1.b1
       rwa [show ((p - a+6:Nat):Int)+1=((p - a:Nat):Int)+7 by omega] at this
      ·have:=hE2.1.hex
       rwa [show ((p - a+6:Nat):Int)+2=((p - a:Nat):Int)+8 by omega] at this
      ·rwa [show p - a+12=p+12 - a by omega]
theorem o8 (out:List Int) (n:Int) (h0:0≤n) (h1:n≤1114111) (hs:¬ (55296≤n∧n≤57343)) (hl:out.length≤2199023255552):Evt (fun k=>aN.f k out n) (out ++ iD n):=by
 have td:∀ m:Int,Int.tdiv n m=n / m:=fun m=>Int.tdiv_eq_ediv_of_nonneg h0
 have tm:∀ m:Int,Int.tmod n m=n % m:=fun m=>Int.tmod_eq_emod_of_nonneg h0
 have w:∀ x:Int,0≤x→x≤2000000→wrap64 x=x:=fun x g0 g1=>gy (by omega) (by omega)
 unfold aN.f iD
 by_cases c0:n < 128
 ·refine Evt.pos c0 (Evt.pos (by omega) (Evt.of ?_))
  rw [if_pos (by omega),Int.emod_eq_of_lt h0 (by omega)]
 refine Evt.neg c0 ?_
 rw [if_neg (by omega)]
 by_cases c1:n < 2048
 ·refine Evt.pos c1 (Evt.aI rfl (Evt.pos (by simp;omega) (Evt.of ?_)))
  rw [if_pos (by omega),td,tm,w (n / 64) (by omega) (by omega),w (192+n / 64) (by omega) (by omega),w (128+n % 64) (by omega) (by omega),Int.emod_eq_of_lt (a:=192+n / 64) (by omega) (by omega),Int.emod_eq_of_lt (a:=128+n % 64) (by omega) (by omega)]
 rw [if_neg (by omega)]
 refine Evt.neg c1 (Evt.aI (jK n) (Evt.neg (by simp only [decide_eq_true_eq];omega) (Evt.aI (lW n) (Evt.succ ?_))))
 simp only [aN.j0]
 refine Evt.neg (by simp only [decide_eq_true_eq];omega) ?_
 have tm2:∀ x m:Int,0≤x→Int.tmod x m=x % m:=fun x m g=>Int.tmod_eq_emod_of_nonneg g
 by_cases c2:n < 65536
 ·refine Evt.pos c2 (Evt.aI rfl (Evt.pos (by simp;omega) (Evt.of ?_)))
  rw [if_pos (by omega),td,td,tm,w (n / 64) (by omega) (by omega),w (n / 4096) (by omega) (by omega),tm2 (n / 64) 64 (by omega),w (224+n / 4096) (by omega) (by omega),w (128+n / 64 % 64) (by omega) (by omega),w (128+n % 64) (by omega) (by omega),
   Int.emod_eq_of_lt (a:=224+n / 4096) (by omega) (by omega),Int.emod_eq_of_lt (a:=128+n / 64 % 64) (by omega) (by omega),Int.emod_eq_of_lt (a:=128+n % 64) (by omega) (by omega)]
 ·refine Evt.neg c2 (Evt.aI rfl (Evt.pos (by simp;omega) (Evt.of ?_)))
  rw [if_neg (by omega),td,td,td,tm,w (n / 64) (by omega) (by omega),w (n / 4096) (by omega) (by omega),w (n / 262144) (by omega) (by omega),tm2 (n / 64) 64 (by omega),tm2 (n / 4096) 64 (by omega),w (240+n / 262144) (by omega) (by omega),w (128+n / 4096 % 64) (by omega) (by omega),w (128+n / 64 % 64) (by omega) (by omega),w (128+n % 64) (by omega) (by omega),
   Int.emod_eq_of_lt (a:=240+n / 262144) (by omega) (by omega),Int.emod_eq_of_lt (a:=128+n / 4096 % 64) (by omega) (by omega),Int.emod_eq_of_lt (a:=128+n / 64 % 64) (by omega) (by omega),Int.emod_eq_of_lt (a:=128+n % 64) (by omega) (by omega)]
theorem CG (c:Int):iM.f c=some (kw c):=by
 unfold iM.f kw
 split
 ·rfl
 split
 ·rfl
 split
 ·rfl
 split
 ·rfl
 split <;> rfl
theorem wJ {x:ByteArray} (hx:x.size≤1099511627776) {i:Nat} {l:List Int} (h:Unq x i l):∀ out:List Int,out.length≤i→Evt (fun k=>aU.l0 k out x i) (strOfNums (out ++ l)):=by
 induction h with
 | done i h =>
   intro out ho
   refine Evt.succ ?_
   simp only [aU.l0]
   rw [List.append_nil]
   exact Evt.neg (by omega) (Evt.pure _)
 | plain i l h0 h1 h2 h3 ih =>
   intro out ho
   refine Evt.succ ?_
   simp only [aU.l0]
   have:=ih (out ++ [bt x i]) (by simp;omega)
   rw [List.append_assoc] at this
   rw [bJ (i:=(i:Int)+1) (i+1) (by omega) (by omega)]
   exact Evt.pos (by omega) (Evt.pos (by omega) (Evt.neg h2 (Evt.pos (by omega) this)))
 | short i l h0 h1 h2 h3 ih =>
   intro out ho
   have hU:¬ iV x i:=fun h=>by have:=h.b1;unfold fC at h2;omega
   obtain ⟨v,b,g1,g2,g3⟩:=jM x hx i (by omega)
   have hb:¬ (b=true):=fun hb=>hU (g2.1 hb)
   refine Evt.succ ?_
   simp only [aU.l0]
   have:=ih (out ++ [kw (bt x ((i:Int)+1))]) (by simp;omega)
   rw [List.append_assoc] at this
   rw [bJ (i:=(i:Int)+2) (i+2) (by omega) (by omega),gy (i:=(i:Int)+1) (by omega) (by omega)]
   exact Evt.pos (by omega) (Evt.pos (by omega) (Evt.pos h1 (Evt.bind g1 (Evt.neg hb (Evt.pos (by omega) (Evt.pos (by omega) (Evt.aI (CG _) (Evt.pos (by omega) this))))))))
 | uni i l h0 h1 h2 h3 h4 h5 ih =>
   intro out ho
   have hU:iV x i:=⟨h0,h1,h2,h3⟩
   obtain ⟨v,b,g1,g2,g3⟩:=jM x hx i (by omega)
   have hb:=g2.2 hU
   have hv:=g3 hb
   obtain ⟨v2,b2,f1,f2,f3⟩:=jM x hx (i+6) (by omega)
   have hbd:=kF h3
   have hz:=gu (dN x ((i:Int)+2))
   have ha:=o8 out (dN x ((i:Int)+2)) hbd.1 (by omega) h4 (by omega)
   have:=ih (out ++ iD (dN x ((i:Int)+2))) (by simp;omega)
   rw [List.append_assoc] at this
   refine Evt.succ ?_
   simp only [aU.l0]
   rw [bJ (i:=(i:Int)+6) (i+6) (by omega) (by omega)]
   refine Evt.pos (by omega) (Evt.pos (by omega) (Evt.pos h1 (Evt.bind g1 (Evt.pos hb (Evt.bind f1 ?_)))))
   simp only [hv]
   cases b2 with
   | true=>exact Evt.pos rfl (Evt.aI (jK _) (Evt.neg (by simp only [decide_eq_true_eq];omega) (Evt.bind ha this)))
   | false=>exact Evt.neg (by simp) (Evt.bind ha this)
 | pair i l h0 h1 h2 h3 h4 h5 h6 h7 h8 h9 h10 h11 ih =>
   intro out ho
   have hU:iV x i:=⟨by omega,h1,h2,h3⟩
   have hU2:iV x (i+6):=⟨by omega,by rw [show ((i+6:Nat):Int)=(i:Int)+6 by omega];exact h6,by rw [show ((i+6:Nat):Int)+1=(i:Int)+7 by omega];exact h7,by rw [show ((i+6:Nat):Int)+2=(i:Int)+8 by omega];exact h8⟩
   obtain ⟨v,b,g1,g2,g3⟩:=jM x hx i (by omega)
   have hb:=g2.2 hU
   have hv:=g3 hb
   obtain ⟨v2,b2,f1,f2,f3⟩:=jM x hx (i+6) (by omega)
   have hb2:=f2.2 hU2
   have hv2:=f3 hb2
   rw [show ((i+6:Nat):Int)+2=(i:Int)+8 by omega] at hv2
   have hz:=gu (65536+(dN x ((i:Int)+2) - 55296)*1024+(dN x ((i:Int)+8) - 56320))
   have ha:=o8 out (65536+(dN x ((i:Int)+2) - 55296)*1024+(dN x ((i:Int)+8) - 56320)) (by omega) (by omega) (by omega) (by omega)
   have:=ih (out ++ iD (65536+(dN x ((i:Int)+2) - 55296)*1024+(dN x ((i:Int)+8) - 56320))) (by simp;omega)
   rw [List.append_assoc] at this
   refine Evt.succ ?_
   simp only [aU.l0]
   rw [bJ (i:=(i:Int)+6) (i+6) (by omega) (by omega),bJ (i:=((i+6:Nat):Int)+6) (i+12) (by omega) (by omega)]
   refine Evt.pos (by omega) (Evt.pos (by omega) (Evt.pos h1 (Evt.bind g1 (Evt.pos hb (Evt.bind f1 (Evt.pos hb2 ?_))))))
   simp only [hv,hv2]
   refine Evt.aI (jK _) (Evt.pos (decide_eq_true ⟨h4,h5⟩) (Evt.aI (lW _) (Evt.pos (decide_eq_true ⟨h9,h10⟩) ?_)))
   rw [gy (i:=dN x ((i:Int)+2) - 55296) (by omega) (by omega),gy (i:=(dN x ((i:Int)+2) - 55296)*1024) (by omega) (by omega),gy (i:=65536+(dN x ((i:Int)+2) - 55296)*1024) (by omega) (by omega),gy (i:=dN x ((i:Int)+8) - 56320) (by omega) (by omega),gy (by omega) (by omega)]
   exact Evt.bind ha this
theorem qw (s:ByteArray) (a b c d:Nat) (h0:a≤b) (h:d≤b - a):(s.extract a b).extract c d=s.extract (a+c) (a+d):=by
 rw [ByteArray.extract_extract,show min (a+d) b=a+d by omega]
theorem yt {s:ByteArray} (hS:s.size≤1099511627776) {a q:Nat} (h1:1≤a) (haq:a≤q) (hq:q < s.size) {l:List Int} (h:Unq (s.extract a q) 0 l):Evt (fun k=>aU.f k (s.extract (a - 1) (q+1))) (strOfNums l):=by
 have hsz:(s.extract (a - 1) (q+1)).size=q+2 - a:=by rw [ByteArray.size_extract];omega
 have hsz2:(s.extract a q).size=q - a:=by rw [ByteArray.size_extract];omega
 unfold aU.f
 rw [hsz,bJ (i:=((q+2 - a:Nat):Int) - 1) (q+1 - a) (by omega) (by omega)]
 refine Evt.pos (by omega) (Evt.pos (by omega) ?_)
 rw [Int.toNat_natCast,qw s _ _ _ _ (by omega) (by omega),show a - 1+1=a by omega,show a - 1+(q+1 - a)=q by omega]
 exact wJ (by omega) h [] (by simp)
structure Says (s:ByteArray) (a q:Nat) (v:ByteArray):Prop where
 unq:∃ l,Unq (s.extract a q) 0 l∧v=strOfNums l
theorem Says.nY {s:ByteArray} (hS:s.size≤1099511627776) {a q:Nat} (h1:1≤a) (haq:a≤q) (hq:q < s.size) {v:ByteArray} (h:Says s a q v):Evt (fun k=>aU.f k (s.extract (a - 1) (q+1))) v:=by
 obtain ⟨l,h2,rfl⟩:=h.unq
 exact yt hS h1 haq hq h2
theorem jB {s:ByteArray} (hS:s.size≤1099511627776) {a q:Nat} (h:gp s a q) (hP:Prd s a):Prd s q∧∃ v,Says s a q v:=by
 obtain ⟨h1,l,h2⟩:=Au hS _ a rfl (Nat.le_refl a) h hP
 rw [Nat.sub_self] at h2
 exact ⟨h1,_,⟨l,h2,rfl⟩⟩
theorem yA {x:ByteArray} {i:Nat} {l:List Int} (h:Unq x i l) (hn:∀ j:Nat,i≤j→j < x.size→bt x j≠92):i≤x.size∧l=(List.range' i (x.size - i)).map (fun j=>bt x (j:Nat)):=by
 induction h with
 | done i h=>subst h;simp
 | plain i l h0 h1 h2 h3 ih =>
   obtain ⟨k1,k2⟩:=ih (fun j g1 g2=>hn j (by omega) g2)
   refine ⟨by omega,?_⟩
   rw [show x.size - i=(x.size - (i+1))+1 by omega,List.range'_succ,List.map_cons,← k2]
 | short i l h0 h1 h2 h3 ih=>exact absurd h1 (hn i (Nat.le_refl _) (by omega))
 | uni i l h0 h1 h2 h3 h4 h5 ih=>exact absurd h1 (hn i (Nat.le_refl _) (by omega))
 | pair i l h0 h1 h2 h3 h4 h5 h6 h7 h8 h9 h10 h11 ih=>exact absurd h1 (hn i (Nat.le_refl _) (by omega))
theorem yG (x:ByteArray):strOfNums ((List.range' 0 (x.size - 0)).map (fun j=>bt x (j:Nat)))=x:=by
 apply WideShapes.bytes_inj
 rw [strOfNums_data]
 apply List.ext_getElem
 ·simp
 ·intro j h1 h2
  have hj:j < x.size:=by simpa using h1
  simp only [List.getElem_map,List.getElem_range',Nat.one_mul,Nat.zero_add]
  unfold bt
  rw [Int.toNat_natCast,dif_pos hj,Int.toNat_natCast,UInt8.ofNat_toNat]
  rfl
theorem Says.plain {s:ByteArray} {a q:Nat} {v:ByteArray} (h:Says s a q v) (hq:q≤s.size) (hn:∀ j:Nat,a≤j→j < q→bt s j≠92):v=s.extract a q:=by
 obtain ⟨l,h1,rfl⟩:=h.unq
 have hsz:(s.extract a q).size=q - a:=by rw [ByteArray.size_extract];omega
 obtain ⟨_,h2⟩:=yA h1 (fun j g1 g2=>by rw [jg s a q j (by omega) hq];exact hn _ (by omega) (by omega))
 rw [h2]
 exact yG _
end Go.Proofs.YtpgfjbimodnkeaaGreatDoor.Scan
namespace Go.Proofs.YtpgfjbimodnkeaaGreatDoor.Q
open Go.RowKit Go.Proofs.YtpgfjbimodnkeaaGreatDoorW.PrintWords Go.Proofs.YtpgfjbimodnkeaaGreatDoorW.PrintLast Go.Proofs.YtpgfjbimodnkeaaGreatDoorW.PrintMore
attribute [local go_sem] dm di dL dK cu bZ dD dC
attribute [local go_sem] dm di dL dK cu bZ dD dC
attribute [local go_sem] dm di dL dK cu bZ dD dC
end Go.Proofs.YtpgfjbimodnkeaaGreatDoor.Q
namespace Go.Proofs.YtpgfjbimodnkeaaGreatDoor.Scan
open Go Go.RowKit Go.Proofs.YtpgfjbimodnkeaaGreatDoorW.PrintWords Go.Proofs.YtpgfjbimodnkeaaGreatDoor.Q Go.Proofs.YtpgfjbimodnkeaaGreatDoor.Dec
def After (s:ByteArray) (e:Nat):Prop:=e=s.size∨(e < s.size∧(blank (bt s e)∨bt s e=44∨bt s e=93∨bt s e=125))
theorem Blanks.pass {s:ByteArray} {i j:Nat} (h:Blanks s i j) (hj:j≤s.size):iK s i j:=by
 have hle:=h.le
 have:=iK.many (s:=s) (i:=i) (j - i) (by omega) (fun k h1 h2=>by
  have:=h.all k h1 (by omega)
  unfold blank at this
  unfold vch
  rw [if_neg (by omega),if_neg (by omega),if_neg (by omega)])
 rwa [show i+(j - i)=j by omega] at this
theorem gY.pass {s:ByteArray} {P:Int→Prop} {i j:Nat} (h:gY s P i j) (hj:j≤s.size) (hP:∀ c,P c→vch c=0):iK s i j:=by
 have hle:=h.le
 have:=iK.many (s:=s) (i:=i) (j - i) (by omega) (fun k h1 h2=>hP _ (h.all k h1 (by omega)))
 rwa [show i+(j - i)=j by omega] at this
theorem Bz (c:Int) (h:kz c):vch c=0:=by
 unfold kz at h
 unfold vch
 rw [if_neg (by omega),if_neg (by omega),if_neg (by omega)]
theorem Word.span {s:ByteArray} {i:Nat} {w:ByteArray} (h:Word s i w) {P:Int→Prop} (hP:∀ m:Nat,m < w.size→P (bt w m)):gY s P i (i+w.size):=⟨by omega,fun m h1 h2=>by
 have:=h.at (m - i) (by omega)
 rw [show i+(m - i)=m by omega] at this
 rw [this]
 exact hP _ (by omega)⟩
theorem lK:∀ m:Nat,m < ni.size→97≤bt ni m∧bt ni m≤122:=by decide
theorem kM:∀ m:Nat,m < lY.size→97≤bt lY m∧bt lY m≤122:=by decide
theorem lV:∀ m:Nat,m < qU.size→97≤bt qU m∧bt qU m≤122:=by decide
theorem nR (c:Int) (h:97≤c∧c≤122):vch c=0:=by
 unfold vch
 rw [if_neg (by omega),if_neg (by omega),if_neg (by omega)]
def Dy (s:ByteArray):Md→Nat→Nat→Int→Prop
 | .val,i,e,kd=>iK s i e∧(5≤kd→Sq s (i+1) 1 e)
 | _,i,e,_=>∃ j,e=j+1∧j < s.size∧vch (bt s j)=1∧iK s i j
theorem gp.pass {s:ByteArray} {i q:Nat} (h0:i < s.size) (h1:bt s i=34) (h:gp s (i+1) q):iK s i (q+1) :=
 iK.quoted h0 h1 (h.str.quo (by omega) (by simpa using h1))
theorem J.scan {s:ByteArray} {md:Md} {i e:Nat} {kd:Int} {ns:List S44} {ks:List S32} (h:J s md i e kd ns ks):Dy s md i e kd:=by
 induction h with
 | null i h=>exact ⟨gY.pass (h.span lK) h.le nR,fun h=>by omega⟩
 | fals i h=>exact ⟨gY.pass (h.span kM) h.le nR,fun h=>by omega⟩
 | tru i h=>exact ⟨gY.pass (h.span lV) h.le nR,fun h=>by omega⟩
 | num i e h0 h1 h2 h3=>exact ⟨h3.pass h2 Bz,fun h=>by omega⟩
 | str i q h0 h1 h2=>exact ⟨gp.pass h0 h1 h2,fun h=>by omega⟩
 | arr0 i j h0 h1 h2 h3 h4 =>
   have hp:=h2.pass (by omega)
   have ho:vch (bt s i)=3:=by rw [h1];rfl
   have hc:vch (bt s j)=1:=by rw [h4];rfl
   exact ⟨iK.bracket h0 ho h3 hc hp,fun _=>iK.closes h3 hc hp⟩
 | arr i j e ks h0 h1 h2 h3 ih =>
   obtain ⟨m,rfl,g1,g2,g3⟩:=ih
   have:=h3.bound
   have hp:=(h2.pass (by omega)).trans g3
   have ho:vch (bt s i)=3:=by rw [h1];rfl
   exact ⟨iK.bracket h0 ho g1 g2 hp,fun _=>iK.closes g1 g2 hp⟩
 | obj0 i j h0 h1 h2 h3 h4 =>
   have hp:=h2.pass (by omega)
   have ho:vch (bt s i)=3:=by rw [h1];rfl
   have hc:vch (bt s j)=1:=by rw [h4];rfl
   exact ⟨iK.bracket h0 ho h3 hc hp,fun _=>iK.closes h3 hc hp⟩
 | obj i j e ns ks h0 h1 h2 h3 ih =>
   obtain ⟨m,rfl,g1,g2,g3⟩:=ih
   have:=h3.bound
   have hp:=(h2.pass (by omega)).trans g3
   have ho:vch (bt s i)=3:=by rw [h1];rfl
   exact ⟨iK.bracket h0 ho g1 g2 hp,fun _=>iK.closes g1 g2 hp⟩
 | el1 i m e kd ns ks h0 h1 h2 h3 ih=>exact ⟨e,rfl,h2,by rw [h3];rfl,ih.1.trans (h1.pass (by omega))⟩
 | els i m c n e kd ns ks l h0 h1 h2 h3 h4 h5 ih ih2 =>
   obtain ⟨j,rfl,g1,g2,g3⟩:=ih2
   have:=h5.bound
   exact ⟨j,rfl,g1,g2,((ih.1.trans (h1.pass (by omega))).trans (iK.one h2 (by rw [h3];rfl))).trans ((h4.pass (by omega)).trans g3)⟩
 | mem1 i q c b m e kd ns ks h0 h1 h2 h3 h4 h5 h6 h7 h8 h9 h10 ih =>
   have:=h7.bound
   exact ⟨e,rfl,h9,by rw [h10];rfl,((gp.pass h0 h1 h2).trans (h3.pass (by omega))).trans ((iK.one h4 (by rw [h5];rfl)).trans ((h6.pass (by omega)).trans (ih.1.trans (h8.pass (by omega)))))⟩
 | mems i q c b m d n e kd ns nl ks l h0 h1 h2 h3 h4 h5 h6 h7 h8 h9 h10 h11 h12 ih ih2 =>
   obtain ⟨j,rfl,g1,g2,g3⟩:=ih2
   have:=h7.bound
   have:=h12.bound
   exact ⟨j,rfl,g1,g2,(((gp.pass h0 h1 h2).trans (h3.pass (by omega))).trans ((iK.one h4 (by rw [h5];rfl)).trans ((h6.pass (by omega)).trans (ih.1.trans (h8.pass (by omega)))))).trans ((iK.one h9 (by rw [h10];rfl)).trans ((h11.pass (by omega)).trans g3))⟩
theorem gY.prd {s:ByteArray} (hS:s.size≤1099511627776) {P:Int→Prop} {i j:Nat} (h:gY s P i j) (hj:j≤s.size) (hP:∀ c,P c→c≠92) (hp:Prd s i):Prd s j:=by
 have key:∀ n m:Nat,m - i=n→i≤m→m≤j→Prd s m:=by
  intro n
  induction n with
  | zero =>
    intro m h1 h2 h3
    have e:m=i:=by omega
    rw [e];exact hp
  | succ n ih =>
    intro m h1 h2 h3
    have:=Prd.plain hS (ih (m - 1) (by omega) (by omega) (by omega)) (by omega) (hP _ (h.all (m - 1) (by omega) (by omega)))
    rwa [show m - 1+1=m by omega] at this
 exact key _ j rfl h.le (Nat.le_refl _)
theorem Blanks.prd {s:ByteArray} (hS:s.size≤1099511627776) {i j:Nat} (h:Blanks s i j) (hj:j≤s.size) (hp:Prd s i):Prd s j:=gY.prd hS (P:=blank) ⟨h.le,h.all⟩ hj (fun c hc=>by unfold blank at hc;omega) hp
theorem gp.prd {s:ByteArray} (hS:s.size≤1099511627776) {i q:Nat} (h0:i < s.size) (h1:bt s i=34) (h:gp s (i+1) q) (hp:Prd s i):Prd s (i+1)∧Prd s (q+1):=by
 have h2:=Prd.plain hS hp h0 (by omega)
 have hb:=h.bound
 exact ⟨h2,Prd.plain hS (jB hS h h2).1 (by omega) (by omega)⟩
theorem J.prd {s:ByteArray} (hS:s.size≤1099511627776) {md:Md} {i e:Nat} {kd:Int} {ns:List S44} {ks:List S32} (h:J s md i e kd ns ks):Prd s i→Prd s e:=by
 have let92:∀ c:Int,97≤c∧c≤122→c≠92:=fun c hc=>by omega
 induction h with
 | null i h=>exact gY.prd hS (h.span lK) h.le let92
 | fals i h=>exact gY.prd hS (h.span kM) h.le let92
 | tru i h=>exact gY.prd hS (h.span lV) h.le let92
 | num i e h0 h1 h2 h3=>exact h3.prd hS h2 (fun c hc=>by unfold kz at hc;omega)
 | str i q h0 h1 h2=>exact fun hp=>(gp.prd hS h0 h1 h2 hp).2
 | arr0 i j h0 h1 h2 h3 h4=>exact fun hp=>Prd.plain hS (h2.prd hS (by omega) (Prd.plain hS hp h0 (by omega))) h3 (by omega)
 | arr i j e ks h0 h1 h2 h3 ih=>exact fun hp=>ih (h2.prd hS (by have:=h3.bound;omega) (Prd.plain hS hp h0 (by omega)))
 | obj0 i j h0 h1 h2 h3 h4=>exact fun hp=>Prd.plain hS (h2.prd hS (by omega) (Prd.plain hS hp h0 (by omega))) h3 (by omega)
 | obj i j e ns ks h0 h1 h2 h3 ih=>exact fun hp=>ih (h2.prd hS (by have:=h3.bound;omega) (Prd.plain hS hp h0 (by omega)))
 | el1 i m e kd ns ks h0 h1 h2 h3 ih=>exact fun hp=>Prd.plain hS (h1.prd hS (by omega) (ih hp)) h2 (by omega)
 | els i m c n e kd ns ks l h0 h1 h2 h3 h4 h5 ih ih2=>exact fun hp=>ih2 (h4.prd hS (by have:=h5.bound;omega) (Prd.plain hS (h1.prd hS (by omega) (ih hp)) h2 (by omega)))
 | mem1 i q c b m e kd ns ks h0 h1 h2 h3 h4 h5 h6 h7 h8 h9 h10 ih =>
   exact fun hp=>Prd.plain hS (h8.prd hS (by omega) (ih (h6.prd hS (by have:=h7.bound;omega) (Prd.plain hS (h3.prd hS (by omega) (gp.prd hS h0 h1 h2 hp).2) h4 (by omega))))) h9 (by omega)
 | mems i q c b m d n e kd ns nl ks l h0 h1 h2 h3 h4 h5 h6 h7 h8 h9 h10 h11 h12 ih ih2 =>
   exact fun hp=>ih2 (h11.prd hS (by have:=h12.bound;omega) (Prd.plain hS (h8.prd hS (by omega) (ih (h6.prd hS (by have:=h7.bound;omega) (Prd.plain hS (h3.prd hS (by omega) (gp.prd hS h0 h1 h2 hp).2) h4 (by omega))))) h9 (by omega)))
end Go.Proofs.YtpgfjbimodnkeaaGreatDoor.Scan
namespace Go.Proofs.YtpgfjbimodnkeaaGreatDoor.Dec
open Go Go.RowKit Go.Proofs.YtpgfjbimodnkeaaGreatDoorW.PrintWords Go.Proofs.YtpgfjbimodnkeaaGreatDoorW.PrintLast Go.Proofs.YtpgfjbimodnkeaaGreatDoorW.PrintMore Go.Proofs.YtpgfjbimodnkeaaGreatDoor.Scan
abbrev resV (k:Int) (raw str:ByteArray) (num:Nat) (idx:Int):Value:=.agg #[.int .i64 k,.string raw,.string str,.float .f64 num,.int .i64 idx,.slice none 0 0]
theorem zN (c:Int) (h:kz c):Go.bits .or .u8 c 32≠120:=by
 have hc:c=43∨c=45∨c=46∨c=48∨c=49∨c=50∨c=51∨c=52∨c=53∨c=54∨c=55∨c=56∨c=57∨c=69∨c=101:=by unfold kz at h;omega
 rcases hc with rfl | rfl | rfl | rfl | rfl | rfl | rfl | rfl | rfl | rfl | rfl | rfl | rfl | rfl | rfl <;> decide
theorem zo {s:ByteArray} {i e:Nat} (h:gY s kz i e) (he:e≤s.size):mg (s.extract i e):=by
 have hb:∀ j:Nat,j < (s.extract i e).size→kz (bt (s.extract i e) j):=fun j hj=>by
  rw [ByteArray.size_extract] at hj
  rw [jg s i e j (by omega) he]
  exact h.all _ (by omega) (by omega)
 refine ⟨fun j hj=>?_,fun j hj=>?_⟩
 ·have:=hb j hj
  generalize bt (s.extract i e) j=c at *
  refine ⟨by unfold kz at this;omega,?_⟩
  exact zN c this
 ·have:=hb j hj
  unfold kz at this
  omega
structure Rs where
 k:Int
 raw:ByteArray
 str:ByteArray
 num:Nat
 idx:Int
def Rs.ex (r:Rs):Bool:=if r.k=0 then ((r.raw.size:Int) != 0) else true
def Rs.cells (r:Rs):List Value:=[.int .i64 r.k,.string r.raw,.string r.str,.float .f64 r.num,.bool r.ex]
theorem oz (w:World) (a b:Array Value) (t u:TypeId):((w.alloc (.cells a t)).alloc (.cells b u)).heap[w.heap.size]?=some (.cells a t (0,0))∧((w.alloc (.cells a t)).alloc (.cells b u)).heap[w.heap.size+1]?=some (.cells b u (0,0)):=by
 refine ⟨aJ (fM w _) _,?_⟩
 have:=fM (w.alloc (.cells a t)) (.cells b u)
 simpa using this
end Go.Proofs.YtpgfjbimodnkeaaGreatDoor.Dec
namespace Go.Proofs.YtpgfjbimodnkeaaGreatDoor.Q
open Go.RowKit Go.Proofs.YtpgfjbimodnkeaaGreatDoorW.PrintWords Go.Proofs.YtpgfjbimodnkeaaGreatDoorW.PrintLast Go.Proofs.YtpgfjbimodnkeaaGreatDoorW.PrintMore
attribute [local go_sem] dm di dL dK cu bZ dD dC
def jW.f (a0:Int):Option (Int):=if a0=1 then (some 1) else (if a0=3 then (some 2) else (if a0=4 then (some 3) else (if a0=2 then (some 4) else (if a0=5 then (some 5) else (if a0=6 then (some 5) else (some 0))))))
theorem jW.calls (a0:Int) (r:Int) (w:World) (h:jW.f a0=some r) :
 Calls Tryz.prog 35 #[.int .i64 a0] w fun e w'=>e = .returned (.int .i64 r)∧ai w w':=by
 have H:(if a0=1 then (some 1) else (if a0=3 then (some 2) else (if a0=4 then (some 3) else (if a0=2 then (some 4) else (if a0=5 then (some 5) else (if a0=6 then (some 5) else (some 0)))))))=some r:=h
 clear h
 by_cases c2:a0=1
 ·rw [if_pos c2] at H
  have c2b0:(a0 == 1)=true:=beq_iff_eq.mpr c2
  have c2b1:(a0 != 1)=false:=bne_eq_false_iff_eq.mpr c2
  clear c2
  obtain rfl:=Option.some.inj H
  go_enter Tryz.func35,Tryz.ntmps35
  go_wp2
  go_ret
  exact ⟨by first | rfl | (simp;done) | (simp [*];done),by repeat (first | exact ai.refl _ | apply ai.step)⟩
 ·rw [if_neg c2] at H
  have c2b0:(a0 == 1)=false:=beq_eq_false_iff_ne.mpr c2
  have c2b1:(a0 != 1)=true:=bne_iff_ne.mpr c2
  by_cases c3:a0=3
  ·rw [if_pos c3] at H
   have c3b0:(a0 == 3)=true:=beq_iff_eq.mpr c3
   have c3b1:(a0 != 3)=false:=bne_eq_false_iff_eq.mpr c3
   clear c3
   obtain rfl:=Option.some.inj H
   go_enter Tryz.func35,Tryz.ntmps35
   go_wp2
   go_ret
   exact ⟨by first | rfl | (simp;done) | (simp [*];done),by repeat (first | exact ai.refl _ | apply ai.step)⟩
  ·rw [if_neg c3] at H
   have c3b0:(a0 == 3)=false:=beq_eq_false_iff_ne.mpr c3
   have c3b1:(a0 != 3)=true:=bne_iff_ne.mpr c3
   by_cases c4:a0=4
   ·rw [if_pos c4] at H
    have c4b0:(a0 == 4)=true:=beq_iff_eq.mpr c4
    have c4b1:(a0 != 4)=false:=bne_eq_false_iff_eq.mpr c4
    clear c4
    obtain rfl:=Option.some.inj H
    go_enter Tryz.func35,Tryz.ntmps35
    go_wp2
    go_ret
    exact ⟨by first | rfl | (simp;done) | (simp [*];done),by repeat (first | exact ai.refl _ | apply ai.step)⟩
   ·rw [if_neg c4] at H
    have c4b0:(a0 == 4)=false:=beq_eq_false_iff_ne.mpr c4
    have c4b1:(a0 != 4)=true:=bne_iff_ne.mpr c4
    by_cases c5:a0=2
    ·rw [if_pos c5] at H
     have c5b0:(a0 == 2)=true:=beq_iff_eq.mpr c5
     have c5b1:(a0 != 2)=false:=bne_eq_false_iff_eq.mpr c5
     clear c5
     obtain rfl:=Option.some.inj H
     go_enter Tryz.func35,Tryz.ntmps35
     go_wp2
     go_ret
     exact ⟨by first | rfl | (simp;done) | (simp [*];done),by repeat (first | exact ai.refl _ | apply ai.step)⟩
    ·rw [if_neg c5] at H
     have c5b0:(a0 == 2)=false:=beq_eq_false_iff_ne.mpr c5
     have c5b1:(a0 != 2)=true:=bne_iff_ne.mpr c5
     by_cases c6:a0=5
     ·rw [if_pos c6] at H
      have c6b0:(a0 == 5)=true:=beq_iff_eq.mpr c6
      have c6b1:(a0 != 5)=false:=bne_eq_false_iff_eq.mpr c6
      clear c6
      obtain rfl:=Option.some.inj H
      go_enter Tryz.func35,Tryz.ntmps35
      go_wp2
      go_ret
      exact ⟨by first | rfl | (simp;done) | (simp [*];done),by repeat (first | exact ai.refl _ | apply ai.step)⟩
     ·rw [if_neg c6] at H
      have c6b0:(a0 == 5)=false:=beq_eq_false_iff_ne.mpr c6
      have c6b1:(a0 != 5)=true:=bne_iff_ne.mpr c6
      by_cases c7:a0=6
      ·rw [if_pos c7] at H
       have c7b0:(a0 == 6)=true:=beq_iff_eq.mpr c7
       have c7b1:(a0 != 6)=false:=bne_eq_false_iff_eq.mpr c7
       clear c7
       obtain rfl:=Option.some.inj H
       go_enter Tryz.func35,Tryz.ntmps35
       go_wp2
       go_ret
       exact ⟨by first | rfl | (simp;done) | (simp [*];done),by repeat (first | exact ai.refl _ | apply ai.step)⟩
      ·rw [if_neg c7] at H
       have c7b0:(a0 == 6)=false:=beq_eq_false_iff_ne.mpr c7
       have c7b1:(a0 != 6)=true:=bne_iff_ne.mpr c7
       obtain rfl:=Option.some.inj H
       go_enter Tryz.func35,Tryz.ntmps35
       go_wp2
       go_ret
       exact ⟨by first | rfl | (simp;done) | (simp [*];done),by repeat (first | exact ai.refl _ | apply ai.step)⟩
end Go.Proofs.YtpgfjbimodnkeaaGreatDoor.Q
namespace Go.Proofs.YtpgfjbimodnkeaaGreatDoor.Dec
open Go Go.RowKit Go.Proofs.YtpgfjbimodnkeaaGreatDoorW.PrintWords Go.Proofs.YtpgfjbimodnkeaaGreatDoorW.PrintLast Go.Proofs.YtpgfjbimodnkeaaGreatDoorW.PrintMore Go.Proofs.YtpgfjbimodnkeaaGreatDoor.Scan Go.Proofs.YtpgfjbimodnkeaaGreatDoor.Q
def gjk (kd:Int):Int:=if kd=1 then 1 else if kd=3 then 2 else if kd=4 then 3 else if kd=2 then 4 else if kd=5 then 5 else if kd=6 then 5 else 0
theorem Ag (kd:Int):jW.f kd=some (gjk kd):=by
 unfold jW.f gjk
 repeat' split
 all_goals rfl
structure wP (s:ByteArray) (p:S32) (r:Rs):Prop where
 at_:∃ b e:Nat,p.f1=b∧p.f2=e∧b < e∧e≤s.size∧r.raw=s.extract b e∧(p.f0=4→∃ q,e=q+1∧b < q∧Says s (b+1) q r.str)
 kind:r.k=gjk p.f0
 ex:r.ex=true
structure oZ (s:ByteArray) (n:S44) (r:Rs):Prop where
 at_:∃ b q:Nat,n.f0=b∧n.f1=(q+1:Nat)∧b < q∧q < s.size∧r.raw=s.extract b (q+1)∧Says s (b+1) q r.str
 kind:r.k=3
theorem DZ {s:ByteArray} {b e:Nat} (h:b < e) (he:e≤s.size) (r:Rs) (hr:r.raw=s.extract b e):r.ex=true:=by
 unfold Rs.ex
 split
 ·rw [hr,ByteArray.size_extract]
  exact bne_iff_ne.mpr (by omega)
 ·rfl
def gX (s:ByteArray):List S32→List (Rs × Rs)→Prop
 | [],[]=>True
 | p :: ps,r :: rs=>wP s p r.2∧gX s ps rs
 | _,_=>False
def fH (s:ByteArray):List S44→List (Rs × Rs)→Prop
 | [],[]=>True
 | p :: ps,r :: rs=>oZ s p r.1∧fH s ps rs
 | _,_=>False
theorem gX.length {s:ByteArray}:∀ {ks:List S32} {ps:List (Rs × Rs)},gX s ks ps→ks.length=ps.length
 | [],[],_=>rfl
 | _ :: _,_ :: _,h=>by simp [gX.length h.2]
 | [],_ :: _,h=>h.elim
 | _ :: _,[],h=>h.elim
theorem gX.snoc {s:ByteArray} {p:S32} {r:Rs × Rs} (hp:wP s p r.2):∀ {ks:List S32} {ps:List (Rs × Rs)},gX s ks ps→gX s (ks ++ [p]) (ps ++ [r])
 | [],[],_=>⟨hp,trivial⟩
 | _ :: _,_ :: _,h=>⟨h.1,gX.snoc hp h.2⟩
 | [],_ :: _,h=>h.elim
 | _ :: _,[],h=>h.elim
theorem fH.snoc {s:ByteArray} {p:S44} {r:Rs × Rs} (hp:oZ s p r.1):∀ {ks:List S44} {ps:List (Rs × Rs)},fH s ks ps→fH s (ks ++ [p]) (ps ++ [r])
 | [],[],_=>⟨hp,trivial⟩
 | _ :: _,_ :: _,h=>⟨h.1,fH.snoc hp h.2⟩
 | [],_ :: _,h=>h.elim
 | _ :: _,[],h=>h.elim
theorem fH.length {s:ByteArray}:∀ {ks:List S44} {ps:List (Rs × Rs)},fH s ks ps→ks.length=ps.length
 | [],[],_=>rfl
 | _ :: _,_ :: _,h=>by simp [fH.length h.2]
 | [],_ :: _,h=>h.elim
 | _ :: _,[],h=>h.elim
theorem gX.at {s:ByteArray}:∀ {ks:List S32} {ps:List (Rs × Rs)},gX s ks ps→∀ (j:Nat) (p:S32) (r:Rs × Rs),ks[j]?=some p→ps[j]?=some r→wP s p r.2
 | [],[],_,j,p,r,h1,_=>by simp at h1
 | a :: ks,b :: ps,h,0,p,r,h1,h2=>by
   simp only [List.getElem?_cons_zero,Option.some.injEq] at h1 h2
   subst h1;subst h2
   exact h.1
 | a :: ks,b :: ps,h,j+1,p,r,h1,h2=>gX.at h.2 j p r (by simpa using h1) (by simpa using h2)
 | [],_ :: _,h,_,_,_,_,_=>h.elim
 | _ :: _,[],h,_,_,_,_,_=>h.elim
theorem fH.at {s:ByteArray}:∀ {ks:List S44} {ps:List (Rs × Rs)},fH s ks ps→∀ (j:Nat) (p:S44) (r:Rs × Rs),ks[j]?=some p→ps[j]?=some r→oZ s p r.1
 | [],[],_,j,p,r,h1,_=>by simp at h1
 | a :: ks,b :: ps,h,0,p,r,h1,h2=>by
   simp only [List.getElem?_cons_zero,Option.some.injEq] at h1 h2
   subst h1;subst h2
   exact h.1
 | a :: ks,b :: ps,h,j+1,p,r,h1,h2=>fH.at h.2 j p r (by simpa using h1) (by simpa using h2)
 | [],_ :: _,h,_,_,_,_,_=>h.elim
 | _ :: _,[],h,_,_,_,_,_=>h.elim
end Go.Proofs.YtpgfjbimodnkeaaGreatDoor.Dec
