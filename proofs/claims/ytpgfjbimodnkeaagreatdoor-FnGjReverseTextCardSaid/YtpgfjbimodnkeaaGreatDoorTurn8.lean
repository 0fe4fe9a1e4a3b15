/- FnGjReverseText: whatever text comes in, the law returns true and the text reads afterwards as before; with the fourteen package-level variables that its row lists as the text of the program lays them (the tied card) (part 8 of 25: lemmas for its last part) -/
import Derived.WalkMore
import Derived.Laws.Cover2
import Derived.Laws.FloatArith
import Derived.Shelf.LaysM
import Derived.Shelf.Strconv.Clone
import Derived.Shelf.Strconv.SyntaxError
import Derived.Shelf.Strconv.RangeError
import Derived.Test.YtpgfjbimodnkeaaGreatDoorProg
import Derived.Lib.IfaceEq
import Derived.Test.YtpgfjbimodnkeaaGreatDoorTurn1
import Derived.Test.YtpgfjbimodnkeaaGreatDoorTurn2
import Derived.Test.YtpgfjbimodnkeaaGreatDoorTurn3
import Derived.Test.YtpgfjbimodnkeaaGreatDoorTurn4
import Derived.Test.YtpgfjbimodnkeaaGreatDoorTurn6
import Derived.Test.YtpgfjbimodnkeaaGreatDoorTurn7
set_option maxHeartbeats 16000000
set_option maxRecDepth 100000
set_option linter.unusedVariables false
set_option linter.unusedSimpArgs false
namespace Go.Proofs.YtpgfjbimodnkeaaGreatDoor.Dec
open Go Go.RowKit Go.Proofs.YtpgfjbimodnkeaaGreatDoorW.PrintWords Go.Proofs.YtpgfjbimodnkeaaGreatDoorW.PrintLast Go.Proofs.YtpgfjbimodnkeaaGreatDoorW.PrintMore
def fl2 (op : BinOp) (x y : Nat) (W : World) : Nat := match floatBits op .f64 x y with
 | some r => r
 | none => if (Question.nanBits .f64 x y).forced then 0 else (Question.nanBits .f64 x y).cut (W.tape W.drawn (Question.nanBits .f64 x y))
def fln (op : BinOp) (x y : Nat) : Nat := match floatBits op .f64 x y with
 | some _ => 0
 | none => if (Question.nanBits .f64 x y).forced then 0 else 1
theorem Dy (t : TypeId) (x y : Nat) (W : World) : (binOp .mul t (.float .f64 x) (.float .f64 y)).run Tryz.prog W = .ok (.float .f64 (fl2 .mul x y W)) (W.drewN (fln .mul x y)) := by
 cases h : floatBits .mul .f64 x y with
 | some r =>
   rw [run_float_arith W .mul t .f64 x y r h]
   simp only [fl2, fln, h]
   rfl
 | none =>
   have h' : FloatKind.f64.format.mul x y = none := h
   simp only [fl2, fln, h]
   by_cases hf : (Question.nanBits .f64 x y).forced
   ·simp [binOp, Op.floatArith, h', hf]; rfl
   ·simp [binOp, Op.floatArith, h', hf]; rfl
theorem DI (t : TypeId) (x y : Nat) (W : World) : (binOp .quo t (.float .f64 x) (.float .f64 y)).run Tryz.prog W = .ok (.float .f64 (fl2 .quo x y W)) (W.drewN (fln .quo x y)) := by
 cases h : floatBits .quo .f64 x y with
 | some r =>
   rw [run_float_arith W .quo t .f64 x y r h]
   simp only [fl2, fln, h]
   rfl
 | none =>
   have h' : FloatKind.f64.format.div x y = none := h
   simp only [fl2, fln, h]
   by_cases hf : (Question.nanBits .f64 x y).forced
   ·simp [binOp, Op.floatArith, h', hf]; rfl
   ·simp [binOp, Op.floatArith, h', hf]; rfl
theorem DF (x : Nat) (W : World) : (Op.unary .neg (.float .f64 x)).run Tryz.prog W = .ok (.float .f64 (Op.negFloat .f64 x)) W := by
 simp [Op.unary]
attribute [local go_sem] Dy DI DF
structure F5 (e : Ending) : Prop where mk :: (out : ∃ (b : Nat) (o : Bool), e = .returned (.tuple #[.float .f64 b, .bool o]))
theorem xg (w : World) (B : Nat) (d p : Int) (ng : Bool) (hd0 : 0 ≤ d) (hd1 : d < 18446744073709551616) (hp : -1000000 ≤ p ∧ p ≤ 1000000) (hT : Tabs B w) :
 Calls Tryz.prog 156 #[.int .u64 d, .int .i64 p, .bool ng] w fun e w' => F5 e ∧ aj w w' := by
 have t1 := hT.mM
 obtain ⟨b, cc, hb, t2, t3⟩ := hT.ten
 by_cases k0 : p = 0
 ·have k0b : (p == 0) = true := beq_iff_eq.mpr k0
  clear k0
  go_enter Tryz.func156, Tryz.ntmps156
  go_wp2
  all_goals go_ret2
  all_goals exact ⟨⟨_, _, rfl⟩, by repeat (first | exact aj.refl _ | apply aj.step)⟩
 have k0b : (p == 0) = false := beq_eq_false_iff_ne.mpr k0
 by_cases k1 : 0 < p
 ·have k1b : decide (0 < p) = true := decide_eq_true k1
  by_cases k2 : p ≤ 37
  ·have k2b : decide (p ≤ 37) = true := decide_eq_true k2
   by_cases k3 : 22 < p
   ·have k3b : decide (22 < p) = true := decide_eq_true k3
    obtain ⟨i, hi⟩ : ∃ i : Nat, p - 22 = i := ⟨(p - 22).toNat, by omega⟩
    obtain ⟨x1, f1⟩ := t3 i (by omega)
    obtain ⟨x2, f2⟩ := t3 22 (by omega)
    have f3 : w.cell? ⟨b.block, b.off + 22, none⟩ = some (.float .f64 x2) := f2
    have p1 : ((0 : Int) ≤ (i : Int)) = True := eq_true (by omega)
    have q1 : ((i : Int) < 23) = True := eq_true (by omega)
    go_enter Tryz.func156, Tryz.ntmps156
    go_wp2
    all_goals go_ret2
    all_goals exact ⟨⟨_, _, rfl⟩, by repeat (first | exact aj.refl _ | apply aj.step)⟩
   ·have k3b : decide (22 < p) = false := decide_eq_false k3
    obtain ⟨i, rfl⟩ : ∃ i : Nat, p = i := ⟨p.toNat, by omega⟩
    obtain ⟨x1, f1⟩ := t3 i (by omega)
    have p1 : ((0 : Int) ≤ (i : Int)) = True := eq_true (by omega)
    have q1 : ((i : Int) < 23) = True := eq_true (by omega)
    go_enter Tryz.func156, Tryz.ntmps156
    go_wp2
    all_goals go_ret2
    all_goals exact ⟨⟨_, _, rfl⟩, by repeat (first | exact aj.refl _ | apply aj.step)⟩
  ·have k2b : decide (p ≤ 37) = false := decide_eq_false k2
   have k4b : decide (p < 0) = false := decide_eq_false (by omega)
   go_enter Tryz.func156, Tryz.ntmps156
   go_wp2
   all_goals go_ret2
   all_goals exact ⟨⟨_, _, rfl⟩, by repeat (first | exact aj.refl _ | apply aj.step)⟩
 ·have k1b : decide (0 < p) = false := decide_eq_false k1
  have k4b : decide (p < 0) = true := decide_eq_true (by omega)
  by_cases k5 : -22 ≤ p
  ·have k5b : decide (-22 ≤ p) = true := decide_eq_true k5
   obtain ⟨i, rfl⟩ : ∃ i : Nat, p = -(i : Int) := ⟨(-p).toNat, by omega⟩
   obtain ⟨x1, f1⟩ := t3 i (by omega)
   have p1 : ((0 : Int) ≤ (i : Int)) = True := eq_true (by omega)
   have q1 : ((i : Int) < 23) = True := eq_true (by omega)
   go_enter Tryz.func156, Tryz.ntmps156
   go_wp2
   all_goals go_ret2
   all_goals exact ⟨⟨_, _, rfl⟩, by repeat (first | exact aj.refl _ | apply aj.step)⟩
  ·have k5b : decide (-22 ≤ p) = false := decide_eq_false k5
   go_enter Tryz.func156, Tryz.ntmps156
   go_wp2
   all_goals go_ret2
   all_goals exact ⟨⟨_, _, rfl⟩, by repeat (first | exact aj.refl _ | apply aj.step)⟩
end Go.Proofs.YtpgfjbimodnkeaaGreatDoor.Dec
namespace Go.Proofs.YtpgfjbimodnkeaaGreatDoor.Q
open Go.RowKit Go.Proofs.YtpgfjbimodnkeaaGreatDoorW.PrintWords Go.Proofs.YtpgfjbimodnkeaaGreatDoorW.PrintLast Go.Proofs.YtpgfjbimodnkeaaGreatDoorW.PrintMore
attribute [local go_sem] dH dI dW dY dm dw dK dL
def jg.f (a0 : Int) : Option (Int) := some ((wrap64 (a0 * 108853)) / 32768)
theorem jg.calls (a0 : Int) (r : Int) (w : World) (h : jg.f a0 = some r) :
 Calls Tryz.prog 162 #[.int .i64 a0] w fun e w' => e = .returned (.int .i64 r) ∧ aj w w' := by
 have H : (some ((wrap64 (a0 * 108853)) / 32768)) = some r := h
 clear h
 obtain rfl := Option.some.inj H
 go_enter Tryz.func162, Tryz.ntmps162
 go_wp2
 go_ret
 exact ⟨by first | rfl | (simp; done) | (simp [*]; done), by repeat (first | exact aj.refl _ | apply aj.step)⟩
attribute [local go_sem] dH dI dW dY dm dw dK dL
def jf.f (a0 : Bool) : Option (Int) := if a0 = true then (some 1) else (some 0)
theorem jf.calls (a0 : Bool) (r : Int) (w : World) (h : jf.f a0 = some r) :
 Calls Tryz.prog 165 #[.bool a0] w fun e w' => e = .returned (.int .i64 r) ∧ aj w w' := by
 have H : (if a0 = true then (some 1) else (some 0)) = some r := h
 clear h
 by_cases c2 : a0 = true
 ·subst c2
  have H1 : (some 1) = some r := by rw [if_pos rfl] at H; exact H
  clear H
  have H := H1
  clear H1
  obtain rfl := Option.some.inj H
  go_enter Tryz.func165, Tryz.ntmps165
  go_wp2
  go_ret
  exact ⟨by first | rfl | (simp; done) | (simp [*]; done), by repeat (first | exact aj.refl _ | apply aj.step)⟩
 ·replace c2 := Bool.eq_false_iff.mpr c2
  subst c2
  have H1 : (some 0) = some r := by rw [if_neg (show ¬ (false = true) by decide)] at H; exact H
  clear H
  have H := H1
  clear H1
  obtain rfl := Option.some.inj H
  go_enter Tryz.func165, Tryz.ntmps165
  go_wp2
  go_ret
  exact ⟨by first | rfl | (simp; done) | (simp [*]; done), by repeat (first | exact aj.refl _ | apply aj.step)⟩
attribute [local go_sem] dH dI dW dY dm dw dK dL
def lG.f (a0 : Int) : Option (Int) := some (IntKind.u64.wrap ((IntKind.u64.wrap (a0 * 4)) - 2))
theorem lG.calls (a0 : Int) (r : Int) (w : World) (h : lG.f a0 = some r) :
 Calls Tryz.prog 166 #[.int .u64 a0] w fun e w' => e = .returned (.int .u64 r) ∧ aj w w' := by
 have H : (some (IntKind.u64.wrap ((IntKind.u64.wrap (a0 * 4)) - 2))) = some r := h
 clear h
 obtain rfl := Option.some.inj H
 go_enter Tryz.func166, Tryz.ntmps166
 go_wp2
 go_ret
 exact ⟨by first | rfl | (simp; done) | (simp [*]; done), by repeat (first | exact aj.refl _ | apply aj.step)⟩
attribute [local go_sem] dH dI dW dY dm dw dK dL
def iL.f (a0 : Int) : Option (Int) := some ((IntKind.u64.wrap ((IntKind.u64.wrap (a0 + 1)) + (Go.bits .and .u64 (a0 / 4) 1))) / 4)
theorem iL.calls (a0 : Int) (r : Int) (w : World) (h : iL.f a0 = some r) :
 Calls Tryz.prog 168 #[.int .u64 a0] w fun e w' => e = .returned (.int .u64 r) ∧ aj w w' := by
 have H : (some ((IntKind.u64.wrap ((IntKind.u64.wrap (a0 + 1)) + (Go.bits .and .u64 (a0 / 4) 1))) / 4)) = some r := h
 clear h
 obtain rfl := Option.some.inj H
 go_enter Tryz.func168, Tryz.ntmps168
 go_wp2
 go_ret
 exact ⟨by first | rfl | (simp; done) | (simp [*]; done), by repeat (first | exact aj.refl _ | apply aj.step)⟩
end Go.Proofs.YtpgfjbimodnkeaaGreatDoor.Q
namespace Go.Proofs.YtpgfjbimodnkeaaGreatDoor.Dec
open Go Go.RowKit Go.Proofs.YtpgfjbimodnkeaaGreatDoorW.PrintWords Go.Proofs.YtpgfjbimodnkeaaGreatDoorW.PrintLast Go.Proofs.YtpgfjbimodnkeaaGreatDoorW.PrintMore
structure FI (e : Ending) : Prop where mk :: (out : ∃ n : Int, e = .returned (.int .i64 n) ∧ 0 ≤ n ∧ n ≤ 64)
theorem xw {b : ByteArray} (hb : b.data.all (fun c => decide (c.toNat ≤ 8)) = true) {i : Nat} {h : i < b.size} : 0 ≤ wrap64 (wrap64 ((b[i]'h).toNat : Int)) ∧ wrap64 (wrap64 ((b[i]'h).toNat : Int)) ≤ 8 := by
 have h1 : (b[i]'h).toNat ≤ 8 := by
  rw [Array.all_eq_true] at hb
  have := hb i h
  rw [ByteArray.getElem_eq_getElem_data]
  simpa using this
 unfold wrap64
 omega
theorem zB {b : ByteArray} (hb : b.data.all (fun c => decide (c.toNat ≤ 8)) = true) {n : Int} (hn : 0 ≤ n ∧ n ≤ 56) {i : Nat} {h : i < b.size} : 0 ≤ wrap64 (n + wrap64 ((b[i]'h).toNat : Int)) ∧ wrap64 (n + wrap64 ((b[i]'h).toNat : Int)) ≤ 64 := by
 have h1 : (b[i]'h).toNat ≤ 8 := by
  rw [Array.all_eq_true] at hb
  have := hb i h
  rw [ByteArray.getElem_eq_getElem_data]
  simpa using this
 unfold wrap64
 omega
theorem zU (w : World) (x : Int) (h0 : 0 ≤ x) (h1 : x < 18446744073709551616) :
 Calls Tryz.prog 114 #[.int .u64 x] w fun e w' => FI e ∧ aj w w' := by
 go_enter Tryz.func114, Tryz.ntmps114
 go_wp2
 all_goals go_ret
 all_goals refine ⟨⟨_, rfl, ?_, ?_⟩, aj.refl _⟩
 all_goals first | exact (xw (by kernel_rfl)).1 | exact Int.le_trans (xw (by kernel_rfl)).2 (by decide) | exact (zB (by kernel_rfl) (by decide)).1 | exact (zB (by kernel_rfl) (by decide)).2
end Go.Proofs.YtpgfjbimodnkeaaGreatDoor.Dec
namespace Go.Proofs.YtpgfjbimodnkeaaGreatDoor.Q
open Go.RowKit Go.Proofs.YtpgfjbimodnkeaaGreatDoorW.PrintWords Go.Proofs.YtpgfjbimodnkeaaGreatDoorW.PrintLast Go.Proofs.YtpgfjbimodnkeaaGreatDoorW.PrintMore
attribute [local go_sem] dH dI dW dY dm dw dK dL
def iD.f (a0 : Bool) : Option (Int) := if a0 = true then (some 1) else (some 0)
theorem iD.calls (a0 : Bool) (r : Int) (w : World) (h : iD.f a0 = some r) :
 Calls Tryz.prog 154 #[.bool a0] w fun e w' => e = .returned (.int .u64 r) ∧ aj w w' := by
 have H : (if a0 = true then (some 1) else (some 0)) = some r := h
 clear h
 by_cases c2 : a0 = true
 ·subst c2
  have H1 : (some 1) = some r := by rw [if_pos rfl] at H; exact H
  clear H
  have H := H1
  clear H1
  obtain rfl := Option.some.inj H
  go_enter Tryz.func154, Tryz.ntmps154
  go_wp2
  go_ret
  exact ⟨by first | rfl | (simp; done) | (simp [*]; done), by repeat (first | exact aj.refl _ | apply aj.step)⟩
 ·replace c2 := Bool.eq_false_iff.mpr c2
  subst c2
  have H1 : (some 0) = some r := by rw [if_neg (show ¬ (false = true) by decide)] at H; exact H
  clear H
  have H := H1
  clear H1
  obtain rfl := Option.some.inj H
  go_enter Tryz.func154, Tryz.ntmps154
  go_wp2
  go_ret
  exact ⟨by first | rfl | (simp; done) | (simp [*]; done), by repeat (first | exact aj.refl _ | apply aj.step)⟩
attribute [local go_sem] dH dI dW dY dm dw dK dL
def bits_Mul64.f (a0 : Int) (a1 : Int) : Option (Int × Int) := some (IntKind.u64.wrap ((IntKind.u64.wrap ((IntKind.u64.wrap ((a0 / 4294967296) * (a1 / 4294967296))) + ((IntKind.u64.wrap ((IntKind.u64.wrap ((a0 / 4294967296) * (Go.bits .and .u64 a1 4294967295))) + ((IntKind.u64.wrap ((Go.bits .and .u64 a0 4294967295) * (Go.bits .and .u64 a1 4294967295))) / 4294967296))) / 4294967296))) + ((IntKind.u64.wrap ((Go.bits .and .u64 (IntKind.u64.wrap ((IntKind.u64.wrap ((a0 / 4294967296) * (Go.bits .and .u64 a1 4294967295))) + ((IntKind.u64.wrap ((Go.bits .and .u64 a0 4294967295) * (Go.bits .and .u64 a1 4294967295))) / 4294967296))) 4294967295) + (IntKind.u64.wrap ((Go.bits .and .u64 a0 4294967295) * (a1 / 4294967296))))) / 4294967296)), IntKind.u64.wrap (a0 * a1))
theorem bits_Mul64.calls (a0 : Int) (a1 : Int) (r1 : Int) (r2 : Int) (w : World) (h : bits_Mul64.f a0 a1 = some (r1, r2)) :
 Calls Tryz.prog 173 #[.int .u64 a0, .int .u64 a1] w fun e w' => e = .returned (.tuple #[.int .u64 r1, .int .u64 r2]) ∧ aj w w' := by
 have H : (some (IntKind.u64.wrap ((IntKind.u64.wrap ((IntKind.u64.wrap ((a0 / 4294967296) * (a1 / 4294967296))) + ((IntKind.u64.wrap ((IntKind.u64.wrap ((a0 / 4294967296) * (Go.bits .and .u64 a1 4294967295))) + ((IntKind.u64.wrap ((Go.bits .and .u64 a0 4294967295) * (Go.bits .and .u64 a1 4294967295))) / 4294967296))) / 4294967296))) + ((IntKind.u64.wrap ((Go.bits .and .u64 (IntKind.u64.wrap ((IntKind.u64.wrap ((a0 / 4294967296) * (Go.bits .and .u64 a1 4294967295))) + ((IntKind.u64.wrap ((Go.bits .and .u64 a0 4294967295) * (Go.bits .and .u64 a1 4294967295))) / 4294967296))) 4294967295) + (IntKind.u64.wrap ((Go.bits .and .u64 a0 4294967295) * (a1 / 4294967296))))) / 4294967296)), IntKind.u64.wrap (a0 * a1))) = some (r1, r2) := h
 clear h
 simp only [Option.some.injEq, Prod.mk.injEq] at H
 obtain ⟨rfl, rfl⟩ := H
 go_enter Tryz.func173, Tryz.ntmps173
 go_wp2
 go_ret2
 exact ⟨by first | rfl | (simp; done) | (simp [*]; done), by repeat (first | exact aj.refl _ | apply aj.step)⟩
end Go.Proofs.YtpgfjbimodnkeaaGreatDoor.Q
namespace Go.Proofs.YtpgfjbimodnkeaaGreatDoor.Dec
open Go Go.RowKit Go.Proofs.YtpgfjbimodnkeaaGreatDoorW.PrintWords Go.Proofs.YtpgfjbimodnkeaaGreatDoorW.PrintLast Go.Proofs.YtpgfjbimodnkeaaGreatDoorW.PrintMore
structure DW (e : Ending) : Prop where mk :: (out : ∃ n : Int, e = .returned (.int .u64 n))
def bi (b : Bool) : Int := cond b 1 0
def lD (W : World) (g : Nat) (x y z : Int) : Prop := ∃ T, W.heap[g]? = some (.cells #[.int .u64 x, .int .u64 y, .int .i64 z] T (0, 0))
theorem Gt (g m : Nat) : (⟨g, 0, none⟩ : Addr).add m = ⟨g, m, none⟩ := by
 unfold Addr.add
 split
 ·subst_vars; rfl
 ·simp
attribute [local go_sem] Gt
theorem lD.set0 {W : World} {g : Nat} {x y z : Int} (h : lD W g x y z) (u : Int) : lD (W.setCell ⟨g, 0, none⟩ (.int .u64 u)) g u y z := by
 obtain ⟨T, h⟩ := h
 exact ⟨T, dS h 0 _⟩
theorem lD.set1 {W : World} {g : Nat} {x y z : Int} (h : lD W g x y z) (u : Int) : lD (W.setCell ⟨g, 1, none⟩ (.int .u64 u)) g x u z := by
 obtain ⟨T, h⟩ := h
 exact ⟨T, dS h 1 _⟩
theorem lD.set2 {W : World} {g : Nat} {x y z : Int} (h : lD W g x y z) (u : Int) : lD (W.setCell ⟨g, 2, none⟩ (.int .i64 u)) g x y u := by
 obtain ⟨T, h⟩ := h
 exact ⟨T, dS h 2 _⟩
theorem lD.at0 {W : World} {g : Nat} {x y z : Int} (h : lD W g x y z) : W.cell? ⟨g, 0, none⟩ = some (.int .u64 x) := by
 obtain ⟨T, h⟩ := h
 exact (ah h 0).trans rfl
theorem lD.at1 {W : World} {g : Nat} {x y z : Int} (h : lD W g x y z) : W.cell? ⟨g, 1, none⟩ = some (.int .u64 y) := by
 obtain ⟨T, h⟩ := h
 exact (ah h 1).trans rfl
theorem lD.at2 {W : World} {g : Nat} {x y z : Int} (h : lD W g x y z) : W.cell? ⟨g, 2, none⟩ = some (.int .i64 z) := by
 obtain ⟨T, h⟩ := h
 exact (ah h 2).trans rfl
theorem lD.frozen {W : World} {g : Nat} {x y z : Int} (h : lD W g x y z) (i : Nat) : W.frozen? ⟨g, i, none⟩ = false := by
 obtain ⟨T, h⟩ := h
 exact ak h i
theorem rJ (w : World) (g : Nat) (e p lp x y z : Int) (hI : lD w g x y z) (hT : Tabs g w) (hp0 : -348 ≤ p) (hp1 : p < 348) :
 Calls Tryz.prog 163 #[.pointer (some ⟨g, 0, none⟩), .int .i64 e, .int .i64 p, .int .i64 lp] w fun r w' => r = .returned (.tuple #[]) ∧ (∃ x y z, lD w' g x y z) ∧ Below g w w' := by
 have HB := Below.refl g w
 obtain ⟨i, hi⟩ : ∃ i : Nat, p = (i : Int) - 348 := ⟨(p + 348).toNat, by omega⟩
 obtain ⟨u0, _, _, t0⟩ := hT.tab (i * 2) (by omega)
 obtain ⟨u1, _, _, t1⟩ := hT.tab (i * 2 + 1) (by omega)
 have hw : IntKind.i64.wrap ((i : Int) - 348 - -348) = (i : Int) := by rw [cZ]; unfold wrap64; omega
 have e0 := hI.at0
 have e1 := hI.at1
 have e2 := hI.at2
 have e3 := hI.frozen
 have hl := hT.low
 have hg9 : (9 : Nat) ≠ g := by omega
 have p1 : (0 : Int) ≤ (i : Int) := by omega
 have q1 : (i : Int) < 696 := by omega
 replace p1 := eq_true p1
 replace q1 := eq_true q1
 subst hi
 go_enter Tryz.func163, Tryz.ntmps163
 go_wp2
 first | go_end0 | ((try simp only [Exit.inBlock, Exit.then]); refine bodyPost_ret (results_none rfl _ _ _) rfl ?_)
 exact ⟨by first | rfl | simp, ⟨_, _, _, ((hI.set0 _).set1 _).set2 _⟩, ((HB.setCell (Nat.le_refl _) _).setCell (Nat.le_refl _) _).setCell (Nat.le_refl _) _⟩
theorem Ap (n : Int) : bits .and .i64 n 63 = n % 64 := by
 have h63 : (BitVec.ofInt 64 63).toNat = 2 ^ 6 - 1 := by decide
 have key : (BitVec.ofInt 64 n &&& BitVec.ofInt 64 63).toNat = (n % ((2 ^ 64 : Nat) : Int)).toNat % 2 ^ 6 := by
  rw [BitVec.toNat_and, BitVec.toNat_ofInt, h63, Nat.and_two_pow_sub_one_eq_mod]
 show IntKind.i64.wrap ((BitVec.ofInt 64 n &&& BitVec.ofInt 64 63).toNat : Nat) = n % 64
 rw [key, IntKind.wrap_i64]
 omega
theorem vG (w : World) (g : Nat) (d x y z : Int) (hI : lD w g x y z) :
 Calls Tryz.prog 164 #[.int .u64 d, .pointer (some ⟨g, 0, none⟩)] w fun r w' => DW r ∧ aj w w' := by
 have e0 := hI.at0
 have e1 := hI.at1
 have e2 := hI.at2
 have e3 := hI.frozen
 have hm := Ap z
 obtain ⟨s, hs⟩ : ∃ s : Nat, z % 64 = s := ⟨(z % 64).toNat, by omega⟩
 rw [hs] at hm
 have hs64 : s < 64 := by omega
 clear hs
 have hmul : ∀ a b : Int, ∃ r1 r2 : Int, ∀ W, Calls Tryz.prog 173 #[.int .u64 a, .int .u64 b] W fun e w' => e = .returned (.tuple #[.int .u64 r1, .int .u64 r2]) ∧ aj W w' := fun a b => by
  obtain ⟨⟨r1, r2⟩, hr⟩ : ∃ r, Go.Proofs.YtpgfjbimodnkeaaGreatDoor.Q.bits_Mul64.f a b = some r := by
   unfold Go.Proofs.YtpgfjbimodnkeaaGreatDoor.Q.bits_Mul64.f
   exact ⟨_, rfl⟩
  exact ⟨r1, r2, fun W => Go.Proofs.YtpgfjbimodnkeaaGreatDoor.Q.bits_Mul64.calls a b r1 r2 W hr⟩
 obtain ⟨h1, h2, hm1⟩ := hmul d x
 obtain ⟨h3, h4, hm2⟩ := hmul d y
 have hb2 : ∀ (b : Bool) (W : World), Calls Tryz.prog 154 #[.bool b] W fun e w' => e = .returned (.int .u64 (bi b)) ∧ aj W w' := fun b W => Go.Proofs.YtpgfjbimodnkeaaGreatDoor.Q.iD.calls b _ W (by cases b <;> rfl)
 have p5 : ((0 : Int) ≤ (s : Int)) = True := eq_true (by omega)
 have q5 : ((s : Int) < 64) = True := eq_true (by omega)
 have q6 : ((s : Int) ≤ 64) = True := eq_true (by omega)
 clear hmul
 go_enter Tryz.func164, Tryz.ntmps164
 go_wp2_with (first | (go_at_call 173; first | (with_reducible refine (hm1 _).mono ?_; rintro e w4 ⟨rfl, ⟨m4, rfl⟩⟩) | (with_reducible refine (hm2 _).mono ?_; rintro e w4 ⟨rfl, ⟨m4, rfl⟩⟩)) | (go_at_call 154; refine (hb2 _ _).mono ?_; rintro e w4 ⟨rfl, ⟨m4, rfl⟩⟩))
 all_goals try (go_quiet (first | (go_at_call 154; refine (hb2 _ _).mono ?_; rintro e w' ⟨rfl, ⟨nd, rfl⟩⟩; first | exact ⟨rfl, _, rfl⟩ | exact ⟨rfl, _, World.drewN_drewN _ _ _⟩ | (refine ⟨rfl, ?_⟩; simp only [World.drewN_drewN, Nat.add_assoc]; exact ⟨_, rfl⟩))); try go_wp2)
 all_goals go_ret
 all_goals exact ⟨⟨_, rfl⟩, by repeat (first | exact aj.refl _ | apply aj.step)⟩
theorem mJ (n : Int) (w : World) : (callFunc 155 #[.int .u64 n]).run Tryz.prog w = .ok (.value (.float .f64 n.toNat)) w := by
 rw [run_callFunc_extern Tryz.func155 (by kernel_rfl) (by kernel_rfl) (by kernel_rfl) (e := Extern.MathFloatBits.float64frombits) (by kernel_rfl)]
 rfl
attribute [local go_sem] mJ
structure BB (e : Ending) : Prop where mk :: (out : ∃ (b : Nat) (v : Value), e = .returned (.tuple #[.float .f64 b, v]) ∧ (v = .nilIface ∨ v = .iface 152 (.int .i64 1)))
theorem yc (w : World) (m x : Int) (hx : -1000000 ≤ x ∧ x ≤ 1000000) :
 Calls Tryz.prog 171 #[.int .u64 m, .int .i64 x] w fun e w' => BB e ∧ aj w w' := by
 go_enter Tryz.func171, Tryz.ntmps171
 go_wp2
 all_goals go_ret2
 all_goals first | exact ⟨⟨_, _, rfl, .inl rfl⟩, aj.refl _⟩ | exact ⟨⟨_, _, rfl, .inr rfl⟩, aj.refl _⟩
open Go.Proofs.YtpgfjbimodnkeaaGreatDoor.Q
attribute [local go_sem] dH dI dW dY mJ
theorem Tabs.mono {B B' : Nat} {w : World} (h : Tabs B w) (h1 : B ≤ B') (h2 : B' ≤ w.heap.size) : Tabs B' w := by
 obtain ⟨b1, c1, g1, g2, g3⟩ := h.pow
 obtain ⟨b2, c2, k1, k2, k3⟩ := h.ten
 obtain ⟨b3, c3, l1, l2, l3⟩ := h.left
 exact ⟨Nat.le_trans h.low h1, h2, h.vch, h.Fq, h.FB, h.opt, h.mM, h.nU, h.bias, ⟨b1, c1, Nat.lt_of_lt_of_le g1 h1, g2, g3⟩, ⟨b2, c2, Nat.lt_of_lt_of_le k1 h1, k2, k3⟩, h.tab, ⟨b3, c3, Nat.lt_of_lt_of_le l1 h1, l2, l3⟩⟩
theorem vO (w : World) (B : Nat) (d p sg : Int) (hd0 : 0 ≤ d) (hd1 : d < 18446744073709551616) (hp0 : -345 ≤ p) (hp1 : p ≤ 310) (hT : Tabs B w) :
 Calls Tryz.prog 157 #[.int .u64 d, .int .i64 p, .int .u64 sg] w fun e w' => BB e ∧ Below w.heap.size w w' := by
 have hlen := fun W => zU W d hd0 hd1
 obtain ⟨lp, hlp⟩ : ∃ lp : Int, (wrap64 (p * 108853)) / 32768 = lp := ⟨_, rfl⟩
 have hlog := fun W => jg.calls p lp W (by rw [jg.f, hlp])
 have hlp0 : -1200 ≤ lp ∧ lp ≤ 1100 := by
  have h1 : wrap64 (p * 108853) = p * 108853 := by unfold wrap64; omega
  rw [h1] at hlp
  omega
 clear hlp
 have hb2 : ∀ (b : Bool) (W : World), Calls Tryz.prog 165 #[.bool b] W fun e w' => (∃ k : Int, e = .returned (.int .i64 k) ∧ 0 ≤ k ∧ k ≤ 1) ∧ aj W w' := fun b W => by
  cases b with
  | true => exact (jf.calls true 1 W rfl).mono (fun e w' h => ⟨⟨1, h.1, by omega, by omega⟩, h.2⟩)
  | false => exact (jf.calls false 0 W rfl).mono (fun e w' h => ⟨⟨0, h.1, by omega, by omega⟩, h.2⟩)
 have hum : ∀ (W : World), Calls Tryz.prog 166 #[.int .u64 9007199254740992] W fun e w' => (∃ k : Int, e = .returned (.int .u64 k)) ∧ aj W w' := fun W => (lG.calls 9007199254740992 _ W rfl).mono (fun e w' h => ⟨⟨_, h.1⟩, h.2⟩)
 have hrd : ∀ (u : Int) (W : World), Calls Tryz.prog 168 #[.int .u64 u] W fun e w' => (∃ k : Int, e = .returned (.int .u64 k)) ∧ aj W w' := fun u W => (iL.calls u _ W rfl).mono (fun e w' h => ⟨⟨_, h.1⟩, h.2⟩)
 have hTg := hT.mono hT.size (Nat.le_refl _)
 have hpre : ∀ (k : Nat) (e : Int), Calls Tryz.prog 163 #[.pointer (some ⟨w.heap.size, 0, none⟩), .int .i64 e, .int .i64 p, .int .i64 lp] ((w.drewN k).alloc (Obj.cells #[Value.int IntKind.u64 0, Value.int IntKind.u64 0, Value.int IntKind.i64 0] 207))
  fun r w' => r = .returned (.tuple #[]) ∧ (∃ x y z, lD w' w.heap.size x y z) ∧ Below w.heap.size w w' := by
  intro k e
  have h1 : Below w.heap.size w ((w.drewN k).alloc (Obj.cells #[Value.int IntKind.u64 0, Value.int IntKind.u64 0, Value.int IntKind.i64 0] 207)) := ai (ag (Below.refl _ _) k) _
  refine (rJ _ w.heap.size e p lp 0 0 0 ⟨207, by simpa using heap_alloc_new (w.drewN k) (Obj.cells #[Value.int IntKind.u64 0, Value.int IntKind.u64 0, Value.int IntKind.i64 0] 207)⟩ (hTg.below h1) (by omega) (by omega)).mono ?_
  rintro r w' ⟨h2, h3, h4⟩
  exact ⟨h2, h3, h1.trans h4⟩
 go_enter Tryz.func157, Tryz.ntmps157
 go_wp2_with (first | (go_at_call 114; (with_reducible refine (hlen _).mono ?_); rintro e w4 ⟨⟨b, rfl, hb0, hb1⟩, ⟨m4, rfl⟩⟩) | (go_at_call 162; (with_reducible refine (hlog _).mono ?_); rintro e w4 ⟨rfl, ⟨m4, rfl⟩⟩) | (go_at_call 163; (with_reducible refine (hpre _ _).mono ?_); rintro e wp ⟨rfl, ⟨x, y, z, hI⟩, hBp⟩; have s2 := hI.at2) |
  (go_at_call 164; (with_reducible refine (vG _ _ _ x y z hI).mono ?_); rintro e w4 ⟨⟨u, rfl⟩, ⟨m5, rfl⟩⟩) | (go_at_call 166; (with_reducible refine (hum _).mono ?_); rintro e w4 ⟨⟨q, rfl⟩, ⟨m6, rfl⟩⟩) | (go_at_call 165; (with_reducible refine (hb2 _ _).mono ?_); rintro e w4 ⟨⟨k, rfl, hk0, hk1⟩, ⟨m7, rfl⟩⟩) |
  (go_at_call 168; (with_reducible refine (hrd _ _).mono ?_); rintro e w4 ⟨⟨q2, rfl⟩, ⟨m8, rfl⟩⟩) | (go_at_call 171; refine (yc _ _ _ (by first | omega | (split <;> omega))).mono ?_; rintro e w4 ⟨⟨bb, v, rfl, hv⟩, ⟨m9, rfl⟩⟩))
 all_goals go_ret2
 all_goals first | exact ⟨⟨_, _, rfl, .inl rfl⟩, by repeat (first | exact hBp | apply ag)⟩ | exact ⟨⟨_, _, rfl, hv⟩, by repeat (first | exact hBp | apply ag)⟩
attribute [local go_sem] mJ
structure ED (s : ByteArray) (e : Ending) : Prop where mk :: (out : ∃ (b i : Nat) (v : Value), e = .returned (.tuple #[.float .f64 b, .int .i64 (i : Int), v]) ∧ (v = .nilIface ∨ v = .iface 152 (.int .i64 1) ∨ v = .iface 152 (.int .i64 2)))
structure nG (s : ByteArray) : Prop where
 ch : EC s
 yb : ∀ i : Nat, i < s.size → bt s (i : Int) ≠ 73 ∧ bt s (i : Int) ≠ 105 ∧ bt s (i : Int) ≠ 78 ∧ bt s (i : Int) ≠ 110
theorem Ec : Tryz.zeroCells190 = (List.replicate 800 (Value.int .u8 0) ++ [Value.int .i64 0, Value.int .i64 0, Value.bool false, Value.bool false]).toArray := by kernel_rfl
theorem row_of {v a b c d : Value} (n : Nat) (cs : Array Value) (h : cs = (List.replicate n v ++ [a, b, c, d]).toArray) :
 cs.size = n + 4 ∧ (∀ i, i < n → cs[i]? = some v) ∧ cs[n]? = some a ∧ cs[n + 1]? = some b ∧ cs[n + 2]? = some c ∧ cs[n + 3]? = some d := by
 subst h
 refine ⟨by simp, fun i hi => ?_, ?_, ?_, ?_, ?_⟩
 ·rw [List.getElem?_toArray, List.getElem?_append_left (by simpa using hi), List.getElem?_replicate, if_pos hi]
 all_goals
  rw [List.getElem?_toArray, List.getElem?_append_right (by simp)]
  simp
theorem Eo (W : World) : dG (W.alloc (Obj.cells Tryz.zeroCells190 190)) W.heap.size (fun _ => 0) 0 0 false false := by
 obtain ⟨h1, h2, h3, h4, h5, h6⟩ := row_of 800 _ Ec
 exact ⟨Tryz.zeroCells190, 190, by simpa using heap_alloc_new W (Obj.cells Tryz.zeroCells190 190), h1, h2, h3, h4, h5, h6⟩
structure EN (w : World) (g : Nat) (W : World) : Prop where mk :: (out : Below w.heap.size w W ∧ Tabs g W ∧ ∃ a nd dp neg tr, dG W g a nd dp neg tr ∧ Good a nd ∧ -1000000000 ≤ dp ∧ dp ≤ 1000000000 ∧ w.heap.size ≤ g)
theorem xY (w : World) (B : Nat) (s : ByteArray) (hs : s.size ≤ 1000000) (hN : nG s) (hT : Tabs B w) :
 Calls Tryz.prog 140 #[.string s] w fun e w' => ED s e ∧ Below w.heap.size w w' := by
 have hsp := fun W => tV W s hs (fun h => hN.yb 0 h) (fun h => ⟨(hN.yb 1 h).1, (hN.yb 1 h).2.1⟩)
 have hrf := fun W => Bg W s hs hN.ch
 have hb2 : ∀ (b : Bool) (W : World), Calls Tryz.prog 154 #[.bool b] W fun e w' => e = .returned (.int .u64 (bi b)) ∧ aj W w' := fun b W => Go.Proofs.YtpgfjbimodnkeaaGreatDoor.Q.iD.calls b _ W (by cases b <;> rfl)
 have t4 := hT.opt
 have hu := @lT
 have hpf : ∀ (W : World) (d p sg : Int) (hp0 : -345 ≤ p) (hp1 : p ≤ 310) (hd : 0 ≤ d ∧ d < 18446744073709551616) (hW : Below w.heap.size w W), Calls Tryz.prog 157 #[.int .u64 d, .int .i64 p, .int .u64 sg] W fun e w' => BB e ∧ Below w.heap.size w w' := by
  intro W d p sg hp0 hp1 hd hW
  have hTW : Tabs B W := hT.below (eU hW hT.size)
  refine (vO W B d p sg hd.1 hd.2 hp0 hp1 hTW).mono ?_
  rintro e w' ⟨h1, h2⟩
  exact ⟨h1, hW.trans (eU h2 hW.size)⟩
 have hset : ∀ (W : World) (i : Nat), Below w.heap.size w W → Calls Tryz.prog 152 #[.pointer (some ⟨W.heap.size, 0, none⟩), .string (s.extract 0 i)] (W.alloc (Obj.cells Tryz.zeroCells190 190)) fun e w' => uX e ∧ EN w W.heap.size w' := by
  intro W i hW
  have h0 : Below W.heap.size W (W.alloc (Obj.cells Tryz.zeroCells190 190)) := ai (Below.refl _ _) _
  refine (Am _ W.heap.size (s.extract 0 i) _ false false (Eo W) (by simp [ByteArray.size_extract]; omega)).mono ?_
  rintro e w' ⟨h1, a, nd, dp, ng, tr, h2, h3, h4, h5, h6⟩
  have h7 := h0.trans h6
  have hTW : Tabs B W := hT.below (eU hW hT.size)
  exact ⟨h1, ⟨hW.trans (eU h7 hW.size), (hTW.mono hTW.size (Nat.le_refl _)).below h7, a, nd, dp, ng, tr, h2, h3, h4, h5, hW.size⟩⟩
 have hfb : ∀ (g : Nat) (W : World), EN w g W → Calls Tryz.prog 153 #[.pointer (some ⟨g, 0, none⟩), .pointer (some ⟨5, 0, none⟩)] W fun e w' => Ez e ∧ Below w.heap.size w w' := by
  rintro g W ⟨h1, h2, a, nd, dp, ng, tr, h3, h4, h5, h6, h7⟩
  refine (qM W g a nd dp ng tr h3 h4 ⟨h5, h6⟩ h2).mono ?_
  rintro e w' ⟨h8, h9⟩
  exact ⟨h8, h1.trans (eU h9 h7)⟩
 go_enter Tryz.func140, Tryz.ntmps140
 go_wp2_with (first | (go_at_call 145; (with_reducible refine (hsp _).mono ?_); rintro e w4 ⟨rfl, ⟨m4, rfl⟩⟩) | (go_at_call 146; (with_reducible refine (hrf _).mono ?_); rintro e w4 ⟨⟨m, x, ng, tr, i, ok, rfl, hi, hm0, hm1, hx0, hx1⟩, ⟨m5, rfl⟩⟩) | (go_at_call 154; (with_reducible refine (hb2 _ _).mono ?_); rintro e w4 ⟨rfl, ⟨m6, rfl⟩⟩) | (go_at_call 156; (with_reducible refine (xg _ B _ _ _ (by omega) (by omega) (by omega) (hT.below (by repeat (first | exact Below.refl _ _ | apply ag)))).mono ?_); rintro e w4 ⟨⟨b1, o1, rfl⟩, ⟨m7, rfl⟩⟩) | (go_at_call 157; (with_reducible refine (hpf _ _ _ _ (by omega) (by omega) (by first | exact ⟨by omega, by omega⟩ | exact lT _) (by repeat (first | assumption | exact Below.refl _ _ | apply ag))).mono ?_); rintro e w4 ⟨⟨b2, v2, rfl, hv2⟩, hB4⟩; have hv3 : v2 = Value.nilIface ∨ v2 = Value.iface 152 (Value.int .i64 1) ∨ v2 = Value.iface 152 (Value.int .i64 2) := hv2.elim .inl (fun h => .inr (.inl h))) | (go_at_call 152; (with_reducible refine (hset _ _ (by assumption)).mono ?_); rintro e w6 ⟨⟨b3, rfl⟩, hP⟩; have hB6 := hP.out.1) | (go_at_call 153; (with_reducible refine (hfb _ _ (by assumption)).mono ?_); rintro e w7 ⟨⟨n7, o7, rfl⟩, hB7⟩))
 all_goals refine bodyPost_ret (ed (rs := [.tmp 2, .tmp 3, .tmp 4]) rfl (by simp) (.tmp (.tmp (.tmp .nil)))) rfl ?_
 all_goals first | exact ⟨⟨_, i, _, rfl, .inl rfl⟩, by repeat (first | assumption | exact Below.refl _ _ | apply ag)⟩ | exact ⟨⟨_, i, _, rfl, .inr (.inl rfl)⟩, by repeat (first | assumption | exact Below.refl _ _ | apply ag)⟩ | exact ⟨⟨_, i, _, rfl, .inr (.inr rfl)⟩, by repeat (first | assumption | exact Below.refl _ _ | apply ag)⟩ | exact ⟨⟨_, i, _, rfl, by assumption⟩, by repeat (first | assumption | exact Below.refl _ _ | apply ag)⟩
structure FZ (e : Ending) : Prop where mk :: (out : ∃ (b : Nat) (v : Value), e = .returned (.tuple #[.float .f64 b, v]) ∧ (v = .nilIface ∨ v = .iface 152 (.int .i64 1) ∨ v = .iface 152 (.int .i64 2)))
theorem AO (w : World) (B : Nat) (s : ByteArray) (hs : s.size ≤ 1000000) (hN : nG s) (hT : Tabs B w) :
 Calls Tryz.prog 123 #[.string s, .int .i64 64] w fun e w' => ED s e ∧ Below w.heap.size w w' := by
 have ha := xY w B s hs hN hT
 go_enter Tryz.func123, Tryz.ntmps123
 go_wp2_with (first | (go_at_call 140; (with_reducible refine ha.mono ?_); rintro e w4 ⟨⟨b, i, v, rfl, hv⟩, hB⟩))
 all_goals refine bodyPost_ret (ed (rs := [.tmp 4, .tmp 5, .tmp 6]) rfl (by simp) (.tmp (.tmp (.tmp .nil)))) rfl ?_
 all_goals exact ⟨⟨_, i, _, rfl, hv⟩, hB⟩
theorem xC (w : World) (B : Nat) (s : ByteArray) (hs : s.size ≤ 1000000) (hN : nG s) (hT : Tabs B w) :
 Calls Tryz.prog 102 #[.string s, .int .i64 64] w fun e w' => FZ e ∧ Below w.heap.size w w' := by
 have ha := AO w B s hs hN hT
 go_enter Tryz.func102, Tryz.ntmps102
 go_wp2_with (first | (go_at_call 123; (with_reducible refine ha.mono ?_); rintro e w4 ⟨⟨b, i, v, rfl, hv⟩, hB⟩))
 all_goals go_ret2
 all_goals first | exact ⟨⟨_, _, rfl, hv⟩, hB⟩ | exact ⟨⟨_, _, rfl, .inr (.inr rfl)⟩, hB⟩
end Go.Proofs.YtpgfjbimodnkeaaGreatDoor.Dec
namespace Go.Proofs
open Go.Shelf
def Tryz.vI : Go.Shelf.Ren := ⟨fun | 279 => 124 | 316 => 141 | n => n, fun | 9 => 9 | 168 => 153 | 75 => 123 | 210 => 168 | 3 => 3 | 4 => 4 | 37 => 99 | 0 => 0 | 127 => 198 | 80 => 240 | 5 => 5 | n => n, fun | 15 => 1 | n => n⟩
theorem Tryz.laysM279 : Go.Proofs.LaysM.n279 Tryz.prog Tryz.vI := {
 mixed := by kernel_rfl
 f279 := Tryz.func124.trans (congrArg some (by kernel_rfl))
 f316 := Tryz.func141.trans (congrArg some (by kernel_rfl))
 t0 := Tryz.underlying0
 a0 := Tryz.isAgg0
 z0 := Tryz.sizeOf0
 v0 := Tryz.zeroValue0
 t3 := Tryz.underlying3
 a3 := Tryz.isAgg3
 z3 := Tryz.sizeOf3
 v3 := Tryz.zeroValue3
 t4 := Tryz.underlying4
 a4 := Tryz.isAgg4
 z4 := Tryz.sizeOf4
 v4 := Tryz.zeroValue4
 t9 := Tryz.underlying9
 a9 := Tryz.isAgg9
 z9 := Tryz.sizeOf9
 v9 := Tryz.zeroValue9
 t37 := Tryz.underlying99
 a37 := Tryz.isAgg99
 z37 := Tryz.sizeOf99
 v37 := Tryz.zeroValue99
 t75 := Tryz.underlying123
 a75 := Tryz.isAgg123
 z75 := Tryz.sizeOf123
 v75 := Tryz.zeroValue123
 t127 := Tryz.underlying198
 a127 := Tryz.isAgg198
 z127 := Tryz.sizeOf198
 v127 := Tryz.zeroValue198
 t168 := Tryz.underlying153
 a168 := Tryz.isAgg153
 z168 := Tryz.sizeOf153
 v168 := Tryz.zeroValue153
 t210 := Tryz.underlying168
 a210 := Tryz.isAgg168
 z210 := Tryz.sizeOf168
 v210 := Tryz.zeroValue168
 g15 := by kernel_rfl
 t5 := Tryz.underlying5
 a5 := Tryz.isAgg5
 z5 := Tryz.sizeOf5
 v5 := Tryz.zeroValue5
 t80 := Tryz.underlying240
 a80 := Tryz.isAgg240
 z80 := Tryz.sizeOf240
 v80 := Tryz.zeroValue240
 i0 := by kernel_rfl
 i3 := by kernel_rfl
 i4 := by kernel_rfl
 i5 := by kernel_rfl
 i9 := by kernel_rfl
 i37 := by kernel_rfl
 i75 := by kernel_rfl
 i80 := by kernel_rfl
 i127 := by kernel_rfl
 i168 := by kernel_rfl
 i210 := by kernel_rfl
 m15 := by kernel_rfl }
open Go.RowKit in
theorem Tryz.strconv_syntaxError (fn s : ByteArray) (ev : Value) (w : World) (hlim : s.size ≤ 281474976710656) (hv : w.cell? ⟨1, 0, none⟩ = some ev) (hev : ev = .nilIface ∨ ∃ te pe, ev = .iface te pe) :
 Calls Tryz.prog 124 #[.string fn, .string s] w fun e w' => ∃ N, e = .returned (.pointer (some ⟨N, 0, none⟩)) ∧ w.heap.size ≤ N ∧ w'.heap[N]? = some (.cells #[.string fn, .string s, ev] 168 (0, 0)) ∧ Below w.heap.size w w' := Any.strconv_syntaxError Tryz.laysM279 fn s ev w hlim hv hev
def Tryz.wu : Go.Shelf.Ren := ⟨fun | 280 => 125 | 316 => 141 | n => n, fun | 9 => 9 | 168 => 153 | 75 => 123 | 210 => 168 | 3 => 3 | 4 => 4 | 37 => 99 | 0 => 0 | 127 => 198 | 80 => 240 | 5 => 5 | n => n, fun | 16 => 2 | n => n⟩
theorem Tryz.laysM280 : Go.Proofs.LaysM.n280 Tryz.prog Tryz.wu := {
 mixed := by kernel_rfl
 f280 := Tryz.func125.trans (congrArg some (by kernel_rfl))
 f316 := Tryz.func141.trans (congrArg some (by kernel_rfl))
 t0 := Tryz.underlying0
 a0 := Tryz.isAgg0
 z0 := Tryz.sizeOf0
 v0 := Tryz.zeroValue0
 t3 := Tryz.underlying3
 a3 := Tryz.isAgg3
 z3 := Tryz.sizeOf3
 v3 := Tryz.zeroValue3
 t4 := Tryz.underlying4
 a4 := Tryz.isAgg4
 z4 := Tryz.sizeOf4
 v4 := Tryz.zeroValue4
 t9 := Tryz.underlying9
 a9 := Tryz.isAgg9
 z9 := Tryz.sizeOf9
 v9 := Tryz.zeroValue9
 t37 := Tryz.underlying99
 a37 := Tryz.isAgg99
 z37 := Tryz.sizeOf99
 v37 := Tryz.zeroValue99
 t75 := Tryz.underlying123
 a75 := Tryz.isAgg123
 z75 := Tryz.sizeOf123
 v75 := Tryz.zeroValue123
 t127 := Tryz.underlying198
 a127 := Tryz.isAgg198
 z127 := Tryz.sizeOf198
 v127 := Tryz.zeroValue198
 t168 := Tryz.underlying153
 a168 := Tryz.isAgg153
 z168 := Tryz.sizeOf153
 v168 := Tryz.zeroValue153
 t210 := Tryz.underlying168
 a210 := Tryz.isAgg168
 z210 := Tryz.sizeOf168
 v210 := Tryz.zeroValue168
 g16 := by kernel_rfl
 t5 := Tryz.underlying5
 a5 := Tryz.isAgg5
 z5 := Tryz.sizeOf5
 v5 := Tryz.zeroValue5
 t80 := Tryz.underlying240
 a80 := Tryz.isAgg240
 z80 := Tryz.sizeOf240
 v80 := Tryz.zeroValue240
 i0 := by kernel_rfl
 i3 := by kernel_rfl
 i4 := by kernel_rfl
 i5 := by kernel_rfl
 i9 := by kernel_rfl
 i37 := by kernel_rfl
 i75 := by kernel_rfl
 i80 := by kernel_rfl
 i127 := by kernel_rfl
 i168 := by kernel_rfl
 i210 := by kernel_rfl
 m16 := by kernel_rfl }
open Go.RowKit in
theorem Tryz.strconv_rangeError (fn s : ByteArray) (ev : Value) (w : World) (hlim : s.size ≤ 281474976710656) (hv : w.cell? ⟨2, 0, none⟩ = some ev) (hev : ev = .nilIface ∨ ∃ te pe, ev = .iface te pe) :
 Calls Tryz.prog 125 #[.string fn, .string s] w fun e w' => ∃ N, e = .returned (.pointer (some ⟨N, 0, none⟩)) ∧ w.heap.size ≤ N ∧ w'.heap[N]? = some (.cells #[.string fn, .string s, ev] 168 (0, 0)) ∧ Below w.heap.size w w' := Any.strconv_rangeError Tryz.laysM280 fn s ev w hlim hv hev
end Go.Proofs
namespace Go.Proofs.YtpgfjbimodnkeaaGreatDoor.Dec
open Go Go.RowKit Go.Proofs.YtpgfjbimodnkeaaGreatDoorW.PrintWords Go.Proofs.YtpgfjbimodnkeaaGreatDoorW.PrintLast Go.Proofs.YtpgfjbimodnkeaaGreatDoorW.PrintMore
structure BC (e : Ending) : Prop where mk :: (out : ∃ (t : TypeId) (v : Value), e = .returned (.iface t v))
theorem tN (w : World) (B : Nat) (fn s : ByteArray) (x y : Int) (v : Value) (hs : s.size ≤ 1000000) (hT : Tabs B w) (hv : v = .iface 152 (.int .i64 1) ∨ v = .iface 152 (.int .i64 2)) :
 Calls Tryz.prog 103 #[.string fn, .string s, .int .i64 x, .int .i64 y, v] w fun e w' => BC e ∧ Below w.heap.size w w' := by
 obtain ⟨ts, vs, hes⟩ := hT.Fq
 obtain ⟨tr, vr, her⟩ := hT.FB
 have h1 := Tryz.strconv_syntaxError fn s _ w (by omega) hes (.inr ⟨_, _, rfl⟩)
 have h2 := Tryz.strconv_rangeError fn s _ w (by omega) her (.inr ⟨_, _, rfl⟩)
 have hq11 : ∀ W, (binOp .eql 123 (.iface 152 (.int .i64 1)) (.iface 152 (.int .i64 1))).run Tryz.prog W = .ok (.bool true) W := fun W => Lib.run_eql_iface_int W 1 1 Tryz.underlying123 (by kernel_rfl) Tryz.underlying152
 have hq12 : ∀ W, (binOp .eql 123 (.iface 152 (.int .i64 1)) (.iface 152 (.int .i64 2))).run Tryz.prog W = .ok (.bool false) W := fun W => Lib.run_eql_iface_int W 1 2 Tryz.underlying123 (by kernel_rfl) Tryz.underlying152
 have hq22 : ∀ W, (binOp .eql 123 (.iface 152 (.int .i64 2)) (.iface 152 (.int .i64 2))).run Tryz.prog W = .ok (.bool true) W := fun W => Lib.run_eql_iface_int W 2 2 Tryz.underlying123 (by kernel_rfl) Tryz.underlying152
 rcases hv with rfl | rfl
 all_goals
  go_enter Tryz.func103, Tryz.ntmps103
  go_wp2_with (first | (go_at_call 124; (with_reducible refine h1.mono ?_); rintro e w4 ⟨N, rfl, hN, hh, hB⟩) | (go_at_call 125; (with_reducible refine h2.mono ?_); rintro e w4 ⟨N, rfl, hN, hh, hB⟩))
  all_goals go_ret
  all_goals exact ⟨⟨_, _, rfl⟩, hB⟩
structure BF (e : Ending) : Prop where mk :: (out : ∃ (b : Nat) (v : Value), e = .returned (.tuple #[.float .f64 b, v]))
theorem sK (w : World) (B : Nat) (s : ByteArray) (hs : s.size ≤ 1000000) (hN : nG s) (hT : Tabs B w) :
 Calls Tryz.prog 87 #[.string s, .int .i64 64] w fun e w' => BF e ∧ Below w.heap.size w w' := by
 have ha := xC w B s hs hN hT
 have hte : ∀ (fn : ByteArray) (x y : Int) (v : Value) (W : World), Below w.heap.size w W → (v = .iface 152 (.int .i64 1) ∨ v = .iface 152 (.int .i64 2)) → Calls Tryz.prog 103 #[.string fn, .string s, .int .i64 x, .int .i64 y, v] W fun e w' => BC e ∧ Below w.heap.size w w' := by
  intro fn x y v W hW hv
  refine (tN W B fn s x y v hs (hT.below (eU hW hT.size)) hv).mono ?_
  rintro e w' ⟨h1, h2⟩
  exact ⟨h1, hW.trans (eU h2 hW.size)⟩
 go_enter Tryz.func87, Tryz.ntmps87
 go_wp2_with (first | (go_at_call 102; (with_reducible refine ha.mono ?_); rintro e w4 ⟨⟨b, v, rfl, hv⟩, hB⟩; rcases hv with rfl | rfl | rfl) | (go_at_call 103; (with_reducible refine (hte _ _ _ _ _ hB (by first | exact .inl rfl | exact .inr rfl)).mono ?_); rintro e w5 ⟨⟨t, v, rfl⟩, hB5⟩))
 all_goals go_ret2
 all_goals first | exact ⟨⟨_, _, rfl⟩, hB5⟩ | exact ⟨⟨_, _, rfl⟩, hB⟩
end Go.Proofs.YtpgfjbimodnkeaaGreatDoor.Dec
namespace Go.Proofs.YtpgfjbimodnkeaaGreatDoor.Scan
open Go Go.RowKit Go.Proofs.YtpgfjbimodnkeaaGreatDoorW.PrintWords
inductive Str (s : ByteArray) : Nat → Nat → Prop
 | close (p : Nat) : p < s.size → bt s p = 34 → Str s p p
 | plain (p q : Nat) : p < s.size → bt s p ≠ 34 → bt s p ≠ 92 → Str s (p + 1) q → Str s p q
 | esc (p q : Nat) : p + 1 < s.size → bt s p = 92 → Str s (p + 2) q → Str s p q
def slashes (s : ByteArray) (a : Nat) : Nat → Nat
 | 0 => 0
 | k + 1 => if a ≤ k ∧ bt s k = 92 then slashes s a k + 1 else 0
theorem jL (s : ByteArray) (a k : Nat) (h : k ≤ a) : slashes s a k = 0 := by
 cases k with
 | zero => rfl
 | succ k => rw [slashes, if_neg (by omega)]
structure Quo (s : ByteArray) (a q : Nat) : Prop where
 one : 1 ≤ a
 open_ : bt s ((a - 1 : Nat) : Int) = 34
 le : a ≤ q
 lt : q < s.size
 mark : bt s q = 34
 even : slashes s a q % 2 = 0
 odd : ∀ k, a ≤ k → k < q → bt s k = 34 → slashes s a k % 2 = 1
theorem zZ {s : ByteArray} {a p q : Nat} (h : Str s p q) (ha : a ≤ p) (he : slashes s a p % 2 = 0) :
 p ≤ q ∧ q < s.size ∧ bt s q = 34 ∧ slashes s a q % 2 = 0 ∧ ∀ k, p ≤ k → k < q → bt s k = 34 → slashes s a k % 2 = 1 := by
 induction h with
 | close p h0 h1 => exact ⟨Nat.le_refl _, h0, h1, he, fun k h2 h3 => by omega⟩
 | plain p q h0 h1 h2 h3 ih =>
   have e : slashes s a (p + 1) = 0 := by rw [slashes, if_neg (fun h => h2 h.2)]
   obtain ⟨i1, i2, i3, i4, i5⟩ := ih (by omega) (by rw [e])
   refine ⟨by omega, i2, i3, i4, fun k h4 h5 h6 => ?_⟩
   by_cases hk : k = p
   ·subst hk; exact absurd h6 h1
   ·exact i5 k (by omega) h5 h6
 | esc p q h0 h1 h3 ih =>
   have e : slashes s a (p + 1) = slashes s a p + 1 := by rw [slashes, if_pos ⟨ha, h1⟩]
   have e2 : slashes s a (p + 2) % 2 = 0 := by
    by_cases hb : bt s ((p + 1 : Nat) : Int) = 92
    ·rw [slashes, if_pos ⟨by omega, hb⟩, e]; omega
    ·rw [slashes, if_neg (fun h => hb h.2)]
   obtain ⟨i1, i2, i3, i4, i5⟩ := ih (by omega) e2
   refine ⟨by omega, i2, i3, i4, fun k h4 h5 h6 => ?_⟩
   by_cases hk : k = p
   ·subst hk; rw [h1] at h6; omega
   ·by_cases hk1 : k = p + 1
    ·subst hk1; rw [e]; omega
    ·exact i5 k (by omega) h5 h6
theorem Str.quo {s : ByteArray} {a q : Nat} (h : Str s a q) (h1 : 1 ≤ a) (h2 : bt s ((a - 1 : Nat) : Int) = 34) : Quo s a q := by
 obtain ⟨i1, i2, i3, i4, i5⟩ := zZ h (Nat.le_refl a) (by rw [jL s a a (Nat.le_refl a)])
 exact ⟨h1, h2, i1, i2, i3, i4, i5⟩
theorem Quo.same {s : ByteArray} {a q p : Nat} (h : Quo s a q) (h1 : a ≤ p) (h2 : p ≤ q) (hm : bt s p = 34) (he : slashes s a p % 2 = 0) : p = q := by
 rcases Nat.lt_or_ge p q with hl | hl
 ·have := h.odd p h1 hl hm; omega
 ·omega
theorem oQ (s : ByteArray) (a m : Nat) : slashes s a m ≤ m := by
 induction m with
 | zero => simp [slashes]
 | succ m ih => rw [slashes]; split <;> omega
theorem o6 {s : ByteArray} {a p : Nat} (h : slashes s a p ≠ 0) : a < p ∧ bt s ((p - 1 : Nat) : Int) = 92 ∧ slashes s a p = slashes s a (p - 1) + 1 := by
 cases p with
 | zero => exact absurd rfl h
 | succ p =>
   rw [slashes] at h ⊢
   by_cases hc : a ≤ p ∧ bt s p = 92
   ·rw [if_pos hc]; exact ⟨by omega, hc.2, rfl⟩
   ·rw [if_neg hc] at h; exact absurd rfl h
def vch (c : Int) : Int := if c = 34 then 2 else if c = 123 ∨ c = 91 ∨ c = 40 then 3 else if c = 125 ∨ c = 93 ∨ c = 41 then 1 else 0
inductive Sq (s : ByteArray) : Nat → Nat → Nat → Prop
 | last (i : Nat) : i < s.size → vch (bt s i) = 1 → Sq s i 1 (i + 1)
 | skip (i d e : Nat) : i < s.size → vch (bt s i) = 0 → Sq s (i + 1) d e → Sq s i d e
 | opens (i d e : Nat) : 1 ≤ d → i < s.size → vch (bt s i) = 3 → Sq s (i + 1) (d + 1) e → Sq s i d e
 | close (i d e : Nat) : i < s.size → vch (bt s i) = 1 → Sq s (i + 1) (d + 1) e → Sq s i (d + 2) e
 | str (i q d e : Nat) : i < s.size → vch (bt s i) = 2 → Quo s (i + 1) q → Sq s (q + 1) d e → Sq s i d e
theorem Sq.bound {s : ByteArray} {i d e : Nat} (h : Sq s i d e) : i < s.size ∧ i < e ∧ e ≤ s.size ∧ 1 ≤ d ∧ d + i ≤ s.size := by
 induction h with
 | last i h0 h1 => omega
 | skip i d e h0 h1 h2 ih => omega
 | opens i d e hd h0 h1 h2 ih => omega
 | close i d e h0 h1 h2 ih => omega
 | str i q d e h0 h1 h2 h3 ih => have := h2.le; have := h2.lt; omega
def iT (s : ByteArray) (i j : Nat) : Prop := ∀ d e, Sq s j d e → Sq s i d e
theorem iT.refl (s : ByteArray) (i : Nat) : iT s i i := fun _ _ h => h
theorem iT.trans {s : ByteArray} {i j k : Nat} (h : iT s i j) (h' : iT s j k) : iT s i k := fun d e h2 => h d e (h' d e h2)
theorem iT.one {s : ByteArray} {i : Nat} (h : i < s.size) (h0 : vch (bt s i) = 0) : iT s i (i + 1) := fun d e h2 => .skip i d e h h0 h2
theorem iT.quoted {s : ByteArray} {i q : Nat} (h : i < s.size) (h0 : bt s i = 34) (hq : Quo s (i + 1) q) : iT s i (q + 1) := fun d e h2 => .str i q d e h (by rw [h0]; rfl) hq h2
theorem iT.many {s : ByteArray} {i : Nat} : ∀ n : Nat, i + n ≤ s.size → (∀ k, i ≤ k → k < i + n → vch (bt s k) = 0) → iT s i (i + n)
 | 0, _, _ => iT.refl s i
 | n + 1, h, hk => (iT.many n (by omega) (fun k h1 h2 => hk k h1 (by omega))).trans (iT.one (by omega) (hk _ (by omega) (by omega)))
theorem iT.bracket {s : ByteArray} {i j : Nat} (hi : i < s.size) (ho : vch (bt s i) = 3) (hj : j < s.size) (hc : vch (bt s j) = 1) (h : iT s (i + 1) j) : iT s i (j + 1) := fun d e h2 => by
 have hd := h2.bound
 obtain ⟨d, rfl⟩ : ∃ m, d = m + 1 := ⟨d - 1, by omega⟩
 exact .opens i _ e (by omega) hi ho (h _ _ (.close j d e hj hc h2))
theorem iT.closes {s : ByteArray} {i j : Nat} (hj : j < s.size) (hc : vch (bt s j) = 1) (h : iT s (i + 1) j) : Sq s (i + 1) 1 (j + 1) := h _ _ (.last j hj hc)
end Go.Proofs.YtpgfjbimodnkeaaGreatDoor.Scan
namespace Go.Proofs.YtpgfjbimodnkeaaGreatDoor.Dec
open Go Go.RowKit Go.Proofs.YtpgfjbimodnkeaaGreatDoorW.PrintWords
def iI (c : Int) : Prop := (48 ≤ c ∧ c ≤ 57) ∨ (97 ≤ c ∧ c ≤ 102) ∨ (65 ≤ c ∧ c ≤ 70)
def jw (c : Int) : Int := if 48 ≤ c ∧ c ≤ 57 then c - 48 else if 97 ≤ c ∧ c ≤ 102 then c - 87 else c - 55
theorem jl {c : Int} (h : iI c) : 0 ≤ jw c ∧ jw c ≤ 15 := by
 unfold jw; rcases h with h | h | h
 ·rw [if_pos h]; omega
 ·rw [if_neg (by omega), if_pos h]; omega
 ·rw [if_neg (by omega), if_neg (by omega)]; omega
def iP (r : Int) : List Int :=
 if r ≤ 127 then [r] else if r ≤ 2047 then [192 + r / 64, 128 + r % 64]
 else if r ≤ 65535 then [224 + r / 4096, 128 + r / 64 % 64, 128 + r % 64]
 else [240 + r / 262144, 128 + r / 4096 % 64, 128 + r / 64 % 64, 128 + r % 64]
theorem gW (r : Int) : 1 ≤ (iP r).length ∧ (iP r).length ≤ 4 := by
 unfold iP
 split
 ·simp
 split
 ·simp
 split <;> simp
def kN (c : Int) : Int := if c = 98 then 8 else if c = 102 then 12 else if c = 110 then 10 else if c = 114 then 13 else if c = 116 then 9 else c
def fU (c : Int) : Prop := c = 92 ∨ c = 47 ∨ c = 98 ∨ c = 102 ∨ c = 110 ∨ c = 114 ∨ c = 116 ∨ c = 34
def eX (s : ByteArray) (p : Int) : Int := ((jw (bt s p) * 16 + jw (bt s (p + 1))) * 16 + jw (bt s (p + 2))) * 16 + jw (bt s (p + 3))
def qy (s : ByteArray) (p : Int) : Prop := iI (bt s p) ∧ iI (bt s (p + 1)) ∧ iI (bt s (p + 2)) ∧ iI (bt s (p + 3))
theorem kS {s : ByteArray} {p : Int} (h : qy s p) : 0 ≤ eX s p ∧ eX s p ≤ 65535 := by
 obtain ⟨h0, h1, h2, h3⟩ := h
 have h0 := jl h0
 have h1 := jl h1
 have h2 := jl h2
 have h3 := jl h3
 unfold eX
 omega
inductive Unq (s : ByteArray) : Nat → List Int → Prop
 | done (i : Nat) : i = s.size → Unq s i []
 | plain (i : Nat) (l : List Int) : i < s.size → 32 ≤ bt s i → bt s i ≠ 92 → Unq s (i + 1) l → Unq s i (bt s i :: l)
 | short (i : Nat) (l : List Int) : i + 1 < s.size → bt s i = 92 → fU (bt s ((i : Int) + 1)) → Unq s (i + 2) l → Unq s i (kN (bt s ((i : Int) + 1)) :: l)
 | uni (i : Nat) (l : List Int) : i + 6 ≤ s.size → bt s i = 92 → bt s ((i : Int) + 1) = 117 → qy s ((i : Int) + 2) → ¬ (55296 ≤ eX s ((i : Int) + 2) ∧ eX s ((i : Int) + 2) ≤ 57343) →
    Unq s (i + 6) l → Unq s i (iP (eX s ((i : Int) + 2)) ++ l)
 | pair (i : Nat) (l : List Int) : i + 12 ≤ s.size → bt s i = 92 → bt s ((i : Int) + 1) = 117 → qy s ((i : Int) + 2) → 55296 ≤ eX s ((i : Int) + 2) → eX s ((i : Int) + 2) ≤ 56319 →
    bt s ((i : Int) + 6) = 92 → bt s ((i : Int) + 7) = 117 → qy s ((i : Int) + 8) → 56320 ≤ eX s ((i : Int) + 8) → eX s ((i : Int) + 8) ≤ 57343 →
    Unq s (i + 12) l → Unq s i (iP (65536 + (eX s ((i : Int) + 2) - 55296) * 1024 + (eX s ((i : Int) + 8) - 56320)) ++ l)
theorem Unq.size {s : ByteArray} {i : Nat} {l : List Int} (h : Unq s i l) : i + l.length ≤ s.size := by
 induction h with
 | done i h => simp; omega
 | plain i l h0 _ _ _ ih => simp only [List.length_cons]; omega
 | short i l h0 _ _ _ ih => simp only [List.length_cons]; omega
 | uni i l h0 _ _ _ _ _ ih => have := gW (eX s ((i : Int) + 2)); simp only [List.length_append]; omega
 | pair i l h0 _ _ _ _ _ _ _ _ _ _ _ ih => have := gW (65536 + (eX s ((i : Int) + 2) - 55296) * 1024 + (eX s ((i : Int) + 8) - 56320)); simp only [List.length_append]; omega
theorem jo (s : ByteArray) (a b j : Nat) (hj : a + j < b) (hb : b ≤ s.size) : bt (s.extract a b) j = bt s ((a + j : Nat) : Int) := by
 unfold bt
 simp only [Int.toNat_natCast]
 have h' : j < (s.extract a b).size := by rw [ByteArray.size_extract]; omega
 rw [dif_pos h', dif_pos (by omega : a + j < s.size), ByteArray.getElem_extract]
theorem toList_inj {x y : ByteArray} (h : x.toList = y.toList) : x = y := by
 rw [ByteArray.toList_eq, ByteArray.toList_eq] at h
 exact WideShapes.bytes_inj h
theorem kU (s : ByteArray) (i : Nat) (h : s.size ≤ i) : bt s i = 0 := by
 unfold bt
 rw [dif_neg (by simp; omega)]
theorem gK {i : Int} (h0 : -9223372036854775808 ≤ i) (h1 : i ≤ 9223372036854775807) : wrap64 i = i := by
 unfold wrap64
 omega
end Go.Proofs.YtpgfjbimodnkeaaGreatDoor.Dec
namespace Go.Proofs.YtpgfjbimodnkeaaGreatDoor.Scan
def Evt {α : Type} (g : Nat → Option α) (r : α) : Prop := ∃ K, ∀ k, K ≤ k → g k = some r
section
variable {α β : Type}
theorem Evt.pure (r : α) : Evt (fun _ => some r) r := ⟨0, fun _ _ => rfl⟩
theorem Evt.of {a : Option α} {r : α} (h : a = some r) : Evt (fun _ => a) r := ⟨0, fun _ _ => h⟩
theorem Evt.bind {g : Nat → Option α} {x : α} {f : Nat → α → Option β} {r : β} (h : Evt g x) (h' : Evt (fun k => f k x) r) : Evt (fun k => (g k).bind (f k)) r := by
 obtain ⟨K, hK⟩ := h
 obtain ⟨L, hL⟩ := h'
 refine ⟨K + L, fun k hk => ?_⟩
 show (g k).bind (f k) = some r
 rw [hK k (by omega)]
 exact hL k (by omega)
theorem Evt.aI {a : Option α} {x : α} {f : Nat → α → Option β} {r : β} (h : a = some x) (h' : Evt (fun k => f k x) r) : Evt (fun k => a.bind (f k)) r := by
 subst h; exact h'
theorem Evt.step {g h : Nat → Option α} {r : α} (he : ∀ k, g (k + 1) = h k) (hh : Evt h r) : Evt g r := by
 obtain ⟨K, hK⟩ := hh
 refine ⟨K + 1, fun k hk => ?_⟩
 obtain ⟨m, rfl⟩ : ∃ m, k = m + 1 := ⟨k - 1, by omega⟩
 rw [he]; exact hK m (by omega)
theorem Evt.congr {g h : Nat → Option α} {r : α} (he : ∀ k, g k = h k) (hh : Evt h r) : Evt g r := by
 obtain ⟨K, hK⟩ := hh
 exact ⟨K, fun k hk => (he k).trans (hK k hk)⟩
theorem Evt.uniq {g : Nat → Option α} {r r' : α} (h : Evt g r) (h' : Evt g r') : r = r' := by
 obtain ⟨K, hK⟩ := h
 obtain ⟨L, hL⟩ := h'
 have h1 := hK (K + L) (by omega)
 rw [hL (K + L) (by omega)] at h1
 exact (Option.some.inj h1).symm
theorem Evt.pos {c : Prop} [Decidable c] {g h : Nat → Option α} {r : α} (hc : c) (hh : Evt g r) : Evt (fun k => if c then g k else h k) r :=
 Evt.congr (fun _ => if_pos hc) hh
theorem Evt.neg {c : Prop} [Decidable c] {g h : Nat → Option α} {r : α} (hc : ¬ c) (hh : Evt h r) : Evt (fun k => if c then g k else h k) r :=
 Evt.congr (fun _ => if_neg hc) hh
theorem Evt.at {g : Nat → Option α} {r : α} (h : Evt g r) : ∃ k, g k = some r := by
 obtain ⟨K, hK⟩ := h
 exact ⟨K, hK K (Nat.le_refl _)⟩
end
end Go.Proofs.YtpgfjbimodnkeaaGreatDoor.Scan
