/- FnGjValuesSeq: whatever text and stop come in, the law returns true and both read afterwards as before; with the package-level variables that its row lists as the program's own text lays them (part 11 of 27: lemmas for its last part) -/
import Derived.WalkMore
import Derived.Laws.Cover2
import Derived.Laws.FloatArith
import Derived.Test.YtpgfjbimodnkeaaGreatDoorVals3
import Derived.Test.YtpgfjbimodnkeaaGreatDoorVals9
set_option linter.unusedVariables false
set_option linter.unusedSimpArgs false
namespace Go.Proofs.YtpgfjbimodnkeaaGreatDoor.Dec
open Go Go.RowKit Go.Proofs.YtpgfjbimodnkeaaGreatDoorW.PrintWords Go.Proofs.YtpgfjbimodnkeaaGreatDoorW.PrintLast Go.Proofs.YtpgfjbimodnkeaaGreatDoorW.PrintMore
def fl2 (op : BinOp) (x y : Nat) (W : World) : Nat := match floatBits op .f64 x y with
 | some r => r
 | none => if (Question.nanBits .f64 x y).forced then 0 else (Question.nanBits .f64 x y).cut (W.tape W.drawn (Question.nanBits .f64 x y))
def fln (op : BinOp) (x y : Nat) : Nat := match floatBits op .f64 x y with
 | some _ => 0
 | none => if (Question.nanBits .f64 x y).forced then 0 else 1
theorem mul_run (t : TypeId) (x y : Nat) (W : World) : (binOp .mul t (.float .f64 x) (.float .f64 y)).run Tryz.prog W = .ok (.float .f64 (fl2 .mul x y W)) (W.drewN (fln .mul x y)) := by
 cases h : floatBits .mul .f64 x y with
 | some r =>
   rw [run_float_arith W .mul t .f64 x y r h]
   simp only [fl2, fln, h]
   rfl
 | none =>
   have h' : FloatKind.f64.format.mul x y = none := h
   simp only [fl2, fln, h]
   by_cases hf : (Question.nanBits .f64 x y).forced
   ·simp [binOp, Op.floatArith, h', hf]; rfl
   ·simp [binOp, Op.floatArith, h', hf]; rfl
theorem quo_run (t : TypeId) (x y : Nat) (W : World) : (binOp .quo t (.float .f64 x) (.float .f64 y)).run Tryz.prog W = .ok (.float .f64 (fl2 .quo x y W)) (W.drewN (fln .quo x y)) := by
 cases h : floatBits .quo .f64 x y with
 | some r =>
   rw [run_float_arith W .quo t .f64 x y r h]
   simp only [fl2, fln, h]
   rfl
 | none =>
   have h' : FloatKind.f64.format.div x y = none := h
   simp only [fl2, fln, h]
   by_cases hf : (Question.nanBits .f64 x y).forced
   ·simp [binOp, Op.floatArith, h', hf]; rfl
   ·simp [binOp, Op.floatArith, h', hf]; rfl
theorem neg_run (x : Nat) (W : World) : (Op.unary .neg (.float .f64 x)).run Tryz.prog W = .ok (.float .f64 (Op.negFloat .f64 x)) W := by
 simp [Op.unary]
attribute [local go_sem] mul_run quo_run neg_run
structure RetFO (e : Ending) : Prop where mk :: (out : ∃ (b : Nat) (o : Bool), e = .returned (.tuple #[.float .f64 b, .bool o]))
set_option maxHeartbeats 8000000 in
set_option maxRecDepth 100000 in
theorem exact_calls (w : World) (B : Nat) (d p : Int) (ng : Bool) (hd0 : 0 ≤ d) (hd1 : d < 18446744073709551616) (hp : -1000000 ≤ p ∧ p ≤ 1000000) (hT : Tabs B w) :
 Calls Tryz.prog 156 #[.int .u64 d, .int .i64 p, .bool ng] w fun e w' => RetFO e ∧ Drawn0 w w' := by
 have t1 := hT.mant
 obtain ⟨b, cc, hb, t2, t3⟩ := hT.ten
 by_cases k0 : p = 0
 ·have k0b : (p == 0) = true := beq_iff_eq.mpr k0
  clear k0
  go_enter Tryz.func156, Tryz.ntmps156
  go_wp2
  all_goals go_ret2
  all_goals exact ⟨⟨_, _, rfl⟩, by repeat (first | exact Drawn0.refl _ | apply Drawn0.step)⟩
 have k0b : (p == 0) = false := beq_eq_false_iff_ne.mpr k0
 by_cases k1 : 0 < p
 ·have k1b : decide (0 < p) = true := decide_eq_true k1
  by_cases k2 : p ≤ 37
  ·have k2b : decide (p ≤ 37) = true := decide_eq_true k2
   by_cases k3 : 22 < p
   ·have k3b : decide (22 < p) = true := decide_eq_true k3
    obtain ⟨i, hi⟩ : ∃ i : Nat, p - 22 = i := ⟨(p - 22).toNat, by omega⟩
    obtain ⟨x1, f1⟩ := t3 i (by omega)
    obtain ⟨x2, f2⟩ := t3 22 (by omega)
    have f3 : w.cell? ⟨b.block, b.off + 22, none⟩ = some (.float .f64 x2) := f2
    have p1 : ((0 : Int) ≤ (i : Int)) = True := eq_true (by omega)
    have q1 : ((i : Int) < 23) = True := eq_true (by omega)
    go_enter Tryz.func156, Tryz.ntmps156
    go_wp2
    all_goals go_ret2
    all_goals exact ⟨⟨_, _, rfl⟩, by repeat (first | exact Drawn0.refl _ | apply Drawn0.step)⟩
   ·have k3b : decide (22 < p) = false := decide_eq_false k3
    obtain ⟨i, rfl⟩ : ∃ i : Nat, p = i := ⟨p.toNat, by omega⟩
    obtain ⟨x1, f1⟩ := t3 i (by omega)
    have p1 : ((0 : Int) ≤ (i : Int)) = True := eq_true (by omega)
    have q1 : ((i : Int) < 23) = True := eq_true (by omega)
    go_enter Tryz.func156, Tryz.ntmps156
    go_wp2
    all_goals go_ret2
    all_goals exact ⟨⟨_, _, rfl⟩, by repeat (first | exact Drawn0.refl _ | apply Drawn0.step)⟩
  ·have k2b : decide (p ≤ 37) = false := decide_eq_false k2
   have k4b : decide (p < 0) = false := decide_eq_false (by omega)
   go_enter Tryz.func156, Tryz.ntmps156
   go_wp2
   all_goals go_ret2
   all_goals exact ⟨⟨_, _, rfl⟩, by repeat (first | exact Drawn0.refl _ | apply Drawn0.step)⟩
 ·have k1b : decide (0 < p) = false := decide_eq_false k1
  have k4b : decide (p < 0) = true := decide_eq_true (by omega)
  by_cases k5 : -22 ≤ p
  ·have k5b : decide (-22 ≤ p) = true := decide_eq_true k5
   obtain ⟨i, rfl⟩ : ∃ i : Nat, p = -(i : Int) := ⟨(-p).toNat, by omega⟩
   obtain ⟨x1, f1⟩ := t3 i (by omega)
   have p1 : ((0 : Int) ≤ (i : Int)) = True := eq_true (by omega)
   have q1 : ((i : Int) < 23) = True := eq_true (by omega)
   go_enter Tryz.func156, Tryz.ntmps156
   go_wp2
   all_goals go_ret2
   all_goals exact ⟨⟨_, _, rfl⟩, by repeat (first | exact Drawn0.refl _ | apply Drawn0.step)⟩
  ·have k5b : decide (-22 ≤ p) = false := decide_eq_false k5
   go_enter Tryz.func156, Tryz.ntmps156
   go_wp2
   all_goals go_ret2
   all_goals exact ⟨⟨_, _, rfl⟩, by repeat (first | exact Drawn0.refl _ | apply Drawn0.step)⟩
end Go.Proofs.YtpgfjbimodnkeaaGreatDoor.Dec
namespace Go.Proofs.YtpgfjbimodnkeaaGreatDoor.Q
open Go.RowKit Go.Proofs.YtpgfjbimodnkeaaGreatDoorW.PrintWords Go.Proofs.YtpgfjbimodnkeaaGreatDoorW.PrintLast Go.Proofs.YtpgfjbimodnkeaaGreatDoorW.PrintMore
attribute [local go_sem] max2_int min2_int max_two min_two max_three min_three max_four min_four
set_option linter.unusedVariables false
set_option linter.unusedSimpArgs false
def strconv_log2Pow10.f (a0 : Int) : Option (Int) := some ((wrap64 (a0 * 108853)) / 32768)
set_option maxHeartbeats 8000000 in
set_option maxRecDepth 100000 in
theorem strconv_log2Pow10.calls (a0 : Int) (r : Int) (w : World) (h : strconv_log2Pow10.f a0 = some r) :
 Calls Tryz.prog 162 #[.int .i64 a0] w fun e w' => e = .returned (.int .i64 r) ∧ Drawn0 w w' := by
 have H : (some ((wrap64 (a0 * 108853)) / 32768)) = some r := h
 clear h
 obtain rfl := Option.some.inj H
 go_enter Tryz.func162, Tryz.ntmps162
 go_wp2
 go_ret
 exact ⟨by first | rfl | (simp; done) | (simp [*]; done), by repeat (first | exact Drawn0.refl _ | apply Drawn0.step)⟩
end Go.Proofs.YtpgfjbimodnkeaaGreatDoor.Q
namespace Go.Proofs.YtpgfjbimodnkeaaGreatDoor.Q
open Go.RowKit Go.Proofs.YtpgfjbimodnkeaaGreatDoorW.PrintWords Go.Proofs.YtpgfjbimodnkeaaGreatDoorW.PrintLast Go.Proofs.YtpgfjbimodnkeaaGreatDoorW.PrintMore
attribute [local go_sem] max2_int min2_int max_two min_two max_three min_three max_four min_four
set_option linter.unusedVariables false
set_option linter.unusedSimpArgs false
def strconv_bool2_int.f (a0 : Bool) : Option (Int) := if a0 = true then (some 1) else (some 0)
set_option maxHeartbeats 8000000 in
set_option maxRecDepth 100000 in
theorem strconv_bool2_int.calls (a0 : Bool) (r : Int) (w : World) (h : strconv_bool2_int.f a0 = some r) :
 Calls Tryz.prog 165 #[.bool a0] w fun e w' => e = .returned (.int .i64 r) ∧ Drawn0 w w' := by
 have H : (if a0 = true then (some 1) else (some 0)) = some r := h
 clear h
 by_cases c2 : a0 = true
 ·subst c2
  have H1 : (some 1) = some r := by rw [if_pos rfl] at H; exact H
  clear H
  have H := H1
  clear H1
  obtain rfl := Option.some.inj H
  go_enter Tryz.func165, Tryz.ntmps165
  go_wp2
  go_ret
  exact ⟨by first | rfl | (simp; done) | (simp [*]; done), by repeat (first | exact Drawn0.refl _ | apply Drawn0.step)⟩
 ·replace c2 := Bool.eq_false_iff.mpr c2
  subst c2
  have H1 : (some 0) = some r := by rw [if_neg (show ¬ (false = true) by decide)] at H; exact H
  clear H
  have H := H1
  clear H1
  obtain rfl := Option.some.inj H
  go_enter Tryz.func165, Tryz.ntmps165
  go_wp2
  go_ret
  exact ⟨by first | rfl | (simp; done) | (simp [*]; done), by repeat (first | exact Drawn0.refl _ | apply Drawn0.step)⟩
end Go.Proofs.YtpgfjbimodnkeaaGreatDoor.Q
namespace Go.Proofs.YtpgfjbimodnkeaaGreatDoor.Q
open Go.RowKit Go.Proofs.YtpgfjbimodnkeaaGreatDoorW.PrintWords Go.Proofs.YtpgfjbimodnkeaaGreatDoorW.PrintLast Go.Proofs.YtpgfjbimodnkeaaGreatDoorW.PrintMore
attribute [local go_sem] max2_int min2_int max_two min_two max_three min_three max_four min_four
set_option linter.unusedVariables false
set_option linter.unusedSimpArgs false
def strconv_unmin.f (a0 : Int) : Option (Int) := some (IntKind.u64.wrap ((IntKind.u64.wrap (a0 * 4)) - 2))
set_option maxHeartbeats 8000000 in
set_option maxRecDepth 100000 in
theorem strconv_unmin.calls (a0 : Int) (r : Int) (w : World) (h : strconv_unmin.f a0 = some r) :
 Calls Tryz.prog 166 #[.int .u64 a0] w fun e w' => e = .returned (.int .u64 r) ∧ Drawn0 w w' := by
 have H : (some (IntKind.u64.wrap ((IntKind.u64.wrap (a0 * 4)) - 2))) = some r := h
 clear h
 obtain rfl := Option.some.inj H
 go_enter Tryz.func166, Tryz.ntmps166
 go_wp2
 go_ret
 exact ⟨by first | rfl | (simp; done) | (simp [*]; done), by repeat (first | exact Drawn0.refl _ | apply Drawn0.step)⟩
end Go.Proofs.YtpgfjbimodnkeaaGreatDoor.Q
namespace Go.Proofs.YtpgfjbimodnkeaaGreatDoor.Q
open Go.RowKit Go.Proofs.YtpgfjbimodnkeaaGreatDoorW.PrintWords Go.Proofs.YtpgfjbimodnkeaaGreatDoorW.PrintLast Go.Proofs.YtpgfjbimodnkeaaGreatDoorW.PrintMore
attribute [local go_sem] max2_int min2_int max_two min_two max_three min_three max_four min_four
set_option linter.unusedVariables false
set_option linter.unusedSimpArgs false
def strconv_unrounded_round.f (a0 : Int) : Option (Int) := some ((IntKind.u64.wrap ((IntKind.u64.wrap (a0 + 1)) + (Go.bits .and .u64 (a0 / 4) 1))) / 4)
set_option maxHeartbeats 8000000 in
set_option maxRecDepth 100000 in
theorem strconv_unrounded_round.calls (a0 : Int) (r : Int) (w : World) (h : strconv_unrounded_round.f a0 = some r) :
 Calls Tryz.prog 168 #[.int .u64 a0] w fun e w' => e = .returned (.int .u64 r) ∧ Drawn0 w w' := by
 have H : (some ((IntKind.u64.wrap ((IntKind.u64.wrap (a0 + 1)) + (Go.bits .and .u64 (a0 / 4) 1))) / 4)) = some r := h
 clear h
 obtain rfl := Option.some.inj H
 go_enter Tryz.func168, Tryz.ntmps168
 go_wp2
 go_ret
 exact ⟨by first | rfl | (simp; done) | (simp [*]; done), by repeat (first | exact Drawn0.refl _ | apply Drawn0.step)⟩
end Go.Proofs.YtpgfjbimodnkeaaGreatDoor.Q
set_option linter.unusedVariables false
set_option linter.unusedSimpArgs false
namespace Go.Proofs.YtpgfjbimodnkeaaGreatDoor.Dec
open Go Go.RowKit Go.Proofs.YtpgfjbimodnkeaaGreatDoorW.PrintWords Go.Proofs.YtpgfjbimodnkeaaGreatDoorW.PrintLast Go.Proofs.YtpgfjbimodnkeaaGreatDoorW.PrintMore
structure RetLen (e : Ending) : Prop where mk :: (out : ∃ n : Int, e = .returned (.int .i64 n) ∧ 0 ≤ n ∧ n ≤ 64)
theorem len_rng0 {b : ByteArray} (hb : b.data.all (fun c => decide (c.toNat ≤ 8)) = true) {i : Nat} {h : i < b.size} : 0 ≤ wrap64 (wrap64 ((b[i]'h).toNat : Int)) ∧ wrap64 (wrap64 ((b[i]'h).toNat : Int)) ≤ 8 := by
 have h1 : (b[i]'h).toNat ≤ 8 := by
  rw [Array.all_eq_true] at hb
  have := hb i h
  rw [ByteArray.getElem_eq_getElem_data]
  simpa using this
 unfold wrap64
 omega
theorem len_rng {b : ByteArray} (hb : b.data.all (fun c => decide (c.toNat ≤ 8)) = true) {n : Int} (hn : 0 ≤ n ∧ n ≤ 56) {i : Nat} {h : i < b.size} : 0 ≤ wrap64 (n + wrap64 ((b[i]'h).toNat : Int)) ∧ wrap64 (n + wrap64 ((b[i]'h).toNat : Int)) ≤ 64 := by
 have h1 : (b[i]'h).toNat ≤ 8 := by
  rw [Array.all_eq_true] at hb
  have := hb i h
  rw [ByteArray.getElem_eq_getElem_data]
  simpa using this
 unfold wrap64
 omega
set_option maxHeartbeats 8000000 in
set_option maxRecDepth 100000 in
theorem len_calls (w : World) (x : Int) (h0 : 0 ≤ x) (h1 : x < 18446744073709551616) :
 Calls Tryz.prog 114 #[.int .u64 x] w fun e w' => RetLen e ∧ Drawn0 w w' := by
 go_enter Tryz.func114, Tryz.ntmps114
 go_wp2
 all_goals go_ret
 all_goals refine ⟨⟨_, rfl, ?_, ?_⟩, Drawn0.refl _⟩
 all_goals first | exact (len_rng0 (by kernel_rfl)).1 | exact Int.le_trans (len_rng0 (by kernel_rfl)).2 (by decide) | exact (len_rng (by kernel_rfl) (by decide)).1 | exact (len_rng (by kernel_rfl) (by decide)).2
end Go.Proofs.YtpgfjbimodnkeaaGreatDoor.Dec
namespace Go.Proofs.YtpgfjbimodnkeaaGreatDoor.Q
open Go.RowKit Go.Proofs.YtpgfjbimodnkeaaGreatDoorW.PrintWords Go.Proofs.YtpgfjbimodnkeaaGreatDoorW.PrintLast Go.Proofs.YtpgfjbimodnkeaaGreatDoorW.PrintMore
attribute [local go_sem] max2_int min2_int max_two min_two max_three min_three max_four min_four
set_option linter.unusedVariables false
set_option linter.unusedSimpArgs false
def strconv_bool2_uint64.f (a0 : Bool) : Option (Int) := if a0 = true then (some 1) else (some 0)
set_option maxHeartbeats 8000000 in
set_option maxRecDepth 100000 in
theorem strconv_bool2_uint64.calls (a0 : Bool) (r : Int) (w : World) (h : strconv_bool2_uint64.f a0 = some r) :
 Calls Tryz.prog 154 #[.bool a0] w fun e w' => e = .returned (.int .u64 r) ∧ Drawn0 w w' := by
 have H : (if a0 = true then (some 1) else (some 0)) = some r := h
 clear h
 by_cases c2 : a0 = true
 ·subst c2
  have H1 : (some 1) = some r := by rw [if_pos rfl] at H; exact H
  clear H
  have H := H1
  clear H1
  obtain rfl := Option.some.inj H
  go_enter Tryz.func154, Tryz.ntmps154
  go_wp2
  go_ret
  exact ⟨by first | rfl | (simp; done) | (simp [*]; done), by repeat (first | exact Drawn0.refl _ | apply Drawn0.step)⟩
 ·replace c2 := Bool.eq_false_iff.mpr c2
  subst c2
  have H1 : (some 0) = some r := by rw [if_neg (show ¬ (false = true) by decide)] at H; exact H
  clear H
  have H := H1
  clear H1
  obtain rfl := Option.some.inj H
  go_enter Tryz.func154, Tryz.ntmps154
  go_wp2
  go_ret
  exact ⟨by first | rfl | (simp; done) | (simp [*]; done), by repeat (first | exact Drawn0.refl _ | apply Drawn0.step)⟩
end Go.Proofs.YtpgfjbimodnkeaaGreatDoor.Q
namespace Go.Proofs.YtpgfjbimodnkeaaGreatDoor.Q
open Go.RowKit Go.Proofs.YtpgfjbimodnkeaaGreatDoorW.PrintWords Go.Proofs.YtpgfjbimodnkeaaGreatDoorW.PrintLast Go.Proofs.YtpgfjbimodnkeaaGreatDoorW.PrintMore
attribute [local go_sem] max2_int min2_int max_two min_two max_three min_three max_four min_four
set_option linter.unusedVariables false
set_option linter.unusedSimpArgs false
def bits_Mul64.f (a0 : Int) (a1 : Int) : Option (Int × Int) := some (IntKind.u64.wrap ((IntKind.u64.wrap ((IntKind.u64.wrap ((a0 / 4294967296) * (a1 / 4294967296))) + ((IntKind.u64.wrap ((IntKind.u64.wrap ((a0 / 4294967296) * (Go.bits .and .u64 a1 4294967295))) + ((IntKind.u64.wrap ((Go.bits .and .u64 a0 4294967295) * (Go.bits .and .u64 a1 4294967295))) / 4294967296))) / 4294967296))) + ((IntKind.u64.wrap ((Go.bits .and .u64 (IntKind.u64.wrap ((IntKind.u64.wrap ((a0 / 4294967296) * (Go.bits .and .u64 a1 4294967295))) + ((IntKind.u64.wrap ((Go.bits .and .u64 a0 4294967295) * (Go.bits .and .u64 a1 4294967295))) / 4294967296))) 4294967295) + (IntKind.u64.wrap ((Go.bits .and .u64 a0 4294967295) * (a1 / 4294967296))))) / 4294967296)), IntKind.u64.wrap (a0 * a1))
set_option maxHeartbeats 8000000 in
set_option maxRecDepth 100000 in
theorem bits_Mul64.calls (a0 : Int) (a1 : Int) (r1 : Int) (r2 : Int) (w : World) (h : bits_Mul64.f a0 a1 = some (r1, r2)) :
 Calls Tryz.prog 173 #[.int .u64 a0, .int .u64 a1] w fun e w' => e = .returned (.tuple #[.int .u64 r1, .int .u64 r2]) ∧ Drawn0 w w' := by
 have H : (some (IntKind.u64.wrap ((IntKind.u64.wrap ((IntKind.u64.wrap ((a0 / 4294967296) * (a1 / 4294967296))) + ((IntKind.u64.wrap ((IntKind.u64.wrap ((a0 / 4294967296) * (Go.bits .and .u64 a1 4294967295))) + ((IntKind.u64.wrap ((Go.bits .and .u64 a0 4294967295) * (Go.bits .and .u64 a1 4294967295))) / 4294967296))) / 4294967296))) + ((IntKind.u64.wrap ((Go.bits .and .u64 (IntKind.u64.wrap ((IntKind.u64.wrap ((a0 / 4294967296) * (Go.bits .and .u64 a1 4294967295))) + ((IntKind.u64.wrap ((Go.bits .and .u64 a0 4294967295) * (Go.bits .and .u64 a1 4294967295))) / 4294967296))) 4294967295) + (IntKind.u64.wrap ((Go.bits .and .u64 a0 4294967295) * (a1 / 4294967296))))) / 4294967296)), IntKind.u64.wrap (a0 * a1))) = some (r1, r2) := h
 clear h
 simp only [Option.some.injEq, Prod.mk.injEq] at H
 obtain ⟨rfl, rfl⟩ := H
 go_enter Tryz.func173, Tryz.ntmps173
 go_wp2
 go_ret2
 exact ⟨by first | rfl | (simp; done) | (simp [*]; done), by repeat (first | exact Drawn0.refl _ | apply Drawn0.step)⟩
end Go.Proofs.YtpgfjbimodnkeaaGreatDoor.Q
set_option linter.unusedVariables false
set_option linter.unusedSimpArgs false
namespace Go.Proofs.YtpgfjbimodnkeaaGreatDoor.Dec
open Go Go.RowKit Go.Proofs.YtpgfjbimodnkeaaGreatDoorW.PrintWords Go.Proofs.YtpgfjbimodnkeaaGreatDoorW.PrintLast Go.Proofs.YtpgfjbimodnkeaaGreatDoorW.PrintMore
structure RetU64' (e : Ending) : Prop where mk :: (out : ∃ n : Int, e = .returned (.int .u64 n))
def bi (b : Bool) : Int := cond b 1 0
def IsSc (W : World) (g : Nat) (x y z : Int) : Prop := ∃ T, W.heap[g]? = some (.cells #[.int .u64 x, .int .u64 y, .int .i64 z] T (0, 0))
theorem add9 (g m : Nat) : (⟨g, 0, none⟩ : Addr).add m = ⟨g, m, none⟩ := by
 unfold Addr.add
 split
 ·subst_vars; rfl
 ·simp
attribute [local go_sem] add9
theorem IsSc.set0 {W : World} {g : Nat} {x y z : Int} (h : IsSc W g x y z) (u : Int) : IsSc (W.setCell ⟨g, 0, none⟩ (.int .u64 u)) g u y z := by
 obtain ⟨T, h⟩ := h
 exact ⟨T, blk_set h 0 _⟩
theorem IsSc.set1 {W : World} {g : Nat} {x y z : Int} (h : IsSc W g x y z) (u : Int) : IsSc (W.setCell ⟨g, 1, none⟩ (.int .u64 u)) g x u z := by
 obtain ⟨T, h⟩ := h
 exact ⟨T, blk_set h 1 _⟩
theorem IsSc.set2 {W : World} {g : Nat} {x y z : Int} (h : IsSc W g x y z) (u : Int) : IsSc (W.setCell ⟨g, 2, none⟩ (.int .i64 u)) g x y u := by
 obtain ⟨T, h⟩ := h
 exact ⟨T, blk_set h 2 _⟩
theorem IsSc.at0 {W : World} {g : Nat} {x y z : Int} (h : IsSc W g x y z) : W.cell? ⟨g, 0, none⟩ = some (.int .u64 x) := by
 obtain ⟨T, h⟩ := h
 exact (blk_cell h 0).trans rfl
theorem IsSc.at1 {W : World} {g : Nat} {x y z : Int} (h : IsSc W g x y z) : W.cell? ⟨g, 1, none⟩ = some (.int .u64 y) := by
 obtain ⟨T, h⟩ := h
 exact (blk_cell h 1).trans rfl
theorem IsSc.at2 {W : World} {g : Nat} {x y z : Int} (h : IsSc W g x y z) : W.cell? ⟨g, 2, none⟩ = some (.int .i64 z) := by
 obtain ⟨T, h⟩ := h
 exact (blk_cell h 2).trans rfl
theorem IsSc.frozen {W : World} {g : Nat} {x y z : Int} (h : IsSc W g x y z) (i : Nat) : W.frozen? ⟨g, i, none⟩ = false := by
 obtain ⟨T, h⟩ := h
 exact blk_frozen h i
set_option maxHeartbeats 8000000 in
set_option maxRecDepth 100000 in
theorem prescale_calls (w : World) (g : Nat) (e p lp x y z : Int) (hI : IsSc w g x y z) (hT : Tabs g w) (hp0 : -348 ≤ p) (hp1 : p < 348) :
 Calls Tryz.prog 163 #[.pointer (some ⟨g, 0, none⟩), .int .i64 e, .int .i64 p, .int .i64 lp] w fun r w' => r = .returned (.tuple #[]) ∧ (∃ x y z, IsSc w' g x y z) ∧ Below g w w' := by
 have HB := Below.refl g w
 obtain ⟨i, hi⟩ : ∃ i : Nat, p = (i : Int) - 348 := ⟨(p + 348).toNat, by omega⟩
 obtain ⟨u0, _, _, t0⟩ := hT.tab (i * 2) (by omega)
 obtain ⟨u1, _, _, t1⟩ := hT.tab (i * 2 + 1) (by omega)
 have hw : IntKind.i64.wrap ((i : Int) - 348 - -348) = (i : Int) := by rw [i64_w]; unfold wrap64; omega
 have e0 := hI.at0
 have e1 := hI.at1
 have e2 := hI.at2
 have e3 := hI.frozen
 have hl := hT.low
 have hg9 : (9 : Nat) ≠ g := by omega
 have p1 : (0 : Int) ≤ (i : Int) := by omega
 have q1 : (i : Int) < 696 := by omega
 replace p1 := eq_true p1
 replace q1 := eq_true q1
 subst hi
 go_enter Tryz.func163, Tryz.ntmps163
 go_wp2
 first | go_end0 | ((try simp only [Exit.inBlock, Exit.then]); refine bodyPost_ret (results_none rfl _ _ _) rfl ?_)
 exact ⟨by first | rfl | simp, ⟨_, _, _, ((hI.set0 _).set1 _).set2 _⟩, ((HB.setCell (Nat.le_refl _) _).setCell (Nat.le_refl _) _).setCell (Nat.le_refl _) _⟩
theorem i64_and63 (n : Int) : bits .and .i64 n 63 = n % 64 := by
 have h63 : (BitVec.ofInt 64 63).toNat = 2 ^ 6 - 1 := by decide
 have key : (BitVec.ofInt 64 n &&& BitVec.ofInt 64 63).toNat = (n % ((2 ^ 64 : Nat) : Int)).toNat % 2 ^ 6 := by
  rw [BitVec.toNat_and, BitVec.toNat_ofInt, h63, Nat.and_two_pow_sub_one_eq_mod]
 show IntKind.i64.wrap ((BitVec.ofInt 64 n &&& BitVec.ofInt 64 63).toNat : Nat) = n % 64
 rw [key, IntKind.wrap_i64]
 omega
set_option maxHeartbeats 8000000 in
set_option maxRecDepth 100000 in
theorem uscale_calls (w : World) (g : Nat) (d x y z : Int) (hI : IsSc w g x y z) :
 Calls Tryz.prog 164 #[.int .u64 d, .pointer (some ⟨g, 0, none⟩)] w fun r w' => RetU64' r ∧ Drawn0 w w' := by
 have e0 := hI.at0
 have e1 := hI.at1
 have e2 := hI.at2
 have e3 := hI.frozen
 have hm := i64_and63 z
 obtain ⟨s, hs⟩ : ∃ s : Nat, z % 64 = s := ⟨(z % 64).toNat, by omega⟩
 rw [hs] at hm
 have hs64 : s < 64 := by omega
 clear hs
 have hmul : ∀ a b : Int, ∃ r1 r2 : Int, ∀ W, Calls Tryz.prog 173 #[.int .u64 a, .int .u64 b] W fun e w' => e = .returned (.tuple #[.int .u64 r1, .int .u64 r2]) ∧ Drawn0 W w' := fun a b => by
  obtain ⟨⟨r1, r2⟩, hr⟩ : ∃ r, Go.Proofs.YtpgfjbimodnkeaaGreatDoor.Q.bits_Mul64.f a b = some r := by
   unfold Go.Proofs.YtpgfjbimodnkeaaGreatDoor.Q.bits_Mul64.f
   exact ⟨_, rfl⟩
  exact ⟨r1, r2, fun W => Go.Proofs.YtpgfjbimodnkeaaGreatDoor.Q.bits_Mul64.calls a b r1 r2 W hr⟩
 obtain ⟨h1, h2, hm1⟩ := hmul d x
 obtain ⟨h3, h4, hm2⟩ := hmul d y
 have hb2 : ∀ (b : Bool) (W : World), Calls Tryz.prog 154 #[.bool b] W fun e w' => e = .returned (.int .u64 (bi b)) ∧ Drawn0 W w' := fun b W => Go.Proofs.YtpgfjbimodnkeaaGreatDoor.Q.strconv_bool2_uint64.calls b _ W (by cases b <;> rfl)
 have p5 : ((0 : Int) ≤ (s : Int)) = True := eq_true (by omega)
 have q5 : ((s : Int) < 64) = True := eq_true (by omega)
 have q6 : ((s : Int) ≤ 64) = True := eq_true (by omega)
 clear hmul
 go_enter Tryz.func164, Tryz.ntmps164
 go_wp2_with (first | (go_at_call 173; first | (with_reducible refine (hm1 _).mono ?_; rintro e w4 ⟨rfl, ⟨m4, rfl⟩⟩) | (with_reducible refine (hm2 _).mono ?_; rintro e w4 ⟨rfl, ⟨m4, rfl⟩⟩)) | (go_at_call 154; refine (hb2 _ _).mono ?_; rintro e w4 ⟨rfl, ⟨m4, rfl⟩⟩))
 all_goals try (go_quiet (first | (go_at_call 154; refine (hb2 _ _).mono ?_; rintro e w' ⟨rfl, ⟨nd, rfl⟩⟩; first | exact ⟨rfl, _, rfl⟩ | exact ⟨rfl, _, World.drewN_drewN _ _ _⟩ | (refine ⟨rfl, ?_⟩; simp only [World.drewN_drewN, Nat.add_assoc]; exact ⟨_, rfl⟩))); try go_wp2)
 all_goals go_ret
 all_goals exact ⟨⟨_, rfl⟩, by repeat (first | exact Drawn0.refl _ | apply Drawn0.step)⟩
end Go.Proofs.YtpgfjbimodnkeaaGreatDoor.Dec
set_option linter.unusedVariables false
set_option linter.unusedSimpArgs false
namespace Go.Proofs.YtpgfjbimodnkeaaGreatDoor.Dec
open Go Go.RowKit Go.Proofs.YtpgfjbimodnkeaaGreatDoorW.PrintWords Go.Proofs.YtpgfjbimodnkeaaGreatDoorW.PrintLast Go.Proofs.YtpgfjbimodnkeaaGreatDoorW.PrintMore
theorem f64bits_run (n : Int) (w : World) : (callFunc 155 #[.int .u64 n]).run Tryz.prog w = .ok (.value (.float .f64 n.toNat)) w := by
 rw [run_callFunc_extern Tryz.func155 (by kernel_rfl) (by kernel_rfl) (by kernel_rfl) (e := Extern.MathFloatBits.float64frombits) (by kernel_rfl)]
 rfl
attribute [local go_sem] f64bits_run
structure RetFE (e : Ending) : Prop where mk :: (out : ∃ (b : Nat) (v : Value), e = .returned (.tuple #[.float .f64 b, v]) ∧ (v = .nilIface ∨ v = .iface 152 (.int .i64 1)))
set_option maxHeartbeats 8000000 in
set_option maxRecDepth 100000 in
theorem pack_calls (w : World) (m x : Int) (hx : -1000000 ≤ x ∧ x ≤ 1000000) :
 Calls Tryz.prog 171 #[.int .u64 m, .int .i64 x] w fun e w' => RetFE e ∧ Drawn0 w w' := by
 go_enter Tryz.func171, Tryz.ntmps171
 go_wp2
 all_goals go_ret2
 all_goals first | exact ⟨⟨_, _, rfl, .inl rfl⟩, Drawn0.refl _⟩ | exact ⟨⟨_, _, rfl, .inr rfl⟩, Drawn0.refl _⟩
end Go.Proofs.YtpgfjbimodnkeaaGreatDoor.Dec
