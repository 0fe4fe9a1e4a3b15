/- FnGjValuesSeq: whatever text and stop come in, the law returns true and both read afterwards as before; with the package-level variables that its row lists as the program's own text lays them (part 9 of 27: lemmas for its last part) -/
import Derived.WalkMore
import Derived.ScopeJumps
import Derived.Test.YtpgfjbimodnkeaaGreatDoorVals3
import Derived.Test.YtpgfjbimodnkeaaGreatDoorVals6
import Derived.Test.YtpgfjbimodnkeaaGreatDoorVals8
set_option linter.unusedVariables false
set_option linter.unusedSimpArgs false
namespace Go.Proofs.YtpgfjbimodnkeaaGreatDoor.Dec
open Go Go.RowKit Go.Proofs.YtpgfjbimodnkeaaGreatDoorW.PrintWords Go.Proofs.YtpgfjbimodnkeaaGreatDoorW.PrintLast Go.Proofs.YtpgfjbimodnkeaaGreatDoorW.PrintMore
attribute [local go_sem] add0
theorem u64_rng (x : Int) : 0 ≤ IntKind.u64.wrap x ∧ IntKind.u64.wrap x < 18446744073709551616 := by
 simp [IntKind.wrap, IntKind.bits, IntKind.signed]; omega
set_option maxHeartbeats 8000000 in
set_option maxRecDepth 100000 in
theorem rounded_calls (w : World) (g : Nat) (a : Nat → Int) (nd dp : Int) (neg tr : Bool) (hD : IsDec w g a nd dp neg tr) (h : Good a nd) (hdp : -1000000000 ≤ dp ∧ dp ≤ 1000000000) :
 Calls Tryz.prog 170 #[.pointer (some ⟨g, 0, none⟩)] w fun e w' => RetU64 e ∧ Drawn0 w w' := by
 have e1 := hD.at_nd
 have e2 := hD.frozen
 have e4 := hD.at_dp
 have hN := h.high
 by_cases c1 : 20 < dp
 ·have c1b : decide (20 < dp) = true := decide_eq_true c1
  go_enter Tryz.func170, Tryz.ntmps170
  go_wp2
  repeat (go_quiet (fail); try go_wp2)
  go_ret
  exact ⟨⟨_, rfl, by omega, by omega⟩, by repeat (first | exact Drawn0.refl _ | apply Drawn0.step)⟩
 ·have c1b : decide (20 < dp) = false := decide_eq_false c1
  go_enter Tryz.func170, Tryz.ntmps170
  go_wp2
  go_loopg [3, 4] 21 (fun kq v3 v4 w' => ∃ (i : Nat) (n : Int), v3 = .int .i64 (i : Int) ∧ v4 = .int .u64 n ∧ kq = 21 - i ∧ (i = 0 ∨ ((i : Int) ≤ dp ∧ (i : Int) ≤ nd)) ∧ 0 ≤ n ∧ n < 18446744073709551616 ∧ Drawn0 w w')
  case atStart => exact ⟨0, 0, rfl, rfl, rfl, by omega, by omega, by omega, by repeat (first | exact Drawn0.refl _ | apply Drawn0.step)⟩
  case round =>
   obtain ⟨i, n, rfl, rfl, hkq, hi, hn0, hn1, hW⟩ := hrel
   obtain ⟨m, rfl⟩ := hW
   by_cases c2 : (i : Int) < dp ∧ (i : Int) < nd
   ·have c2b : decide ((i : Int) < dp) = true := decide_eq_true c2.1
    have c2c : decide ((i : Int) < nd) = true := decide_eq_true c2.2
    have e6 := hD.dig (i := i) (by omega)
    have e7 := h.dig i (by omega)
    have p3 : (0 ≤ (i : Int)) := by omega
    have q3 : ((i : Int) < 800) := by omega
    replace p3 := eq_true p3
    replace q3 := eq_true q3
    go_wp2
    repeat (go_quiet (fail); try go_wp2)
    go_roundg (21 - (i + 1))
    case measure => omega
    case rel => exact ⟨i + 1, _, by first | rfl | (congr 1; omega), rfl, rfl, by omega, (u64_rng _).1, (u64_rng _).2, by repeat (first | exact Drawn0.refl _ | apply Drawn0.step)⟩
   ·by_cases c4 : (i : Int) < dp
    ·have c4b : decide ((i : Int) < dp) = true := decide_eq_true c4
     have c4c : decide ((i : Int) < nd) = false := decide_eq_false (by omega)
     go_wp2
     repeat (go_quiet (fail); try go_wp2)
     go_loopg [3, 4] (21 - i) (fun kq v3 v4 w' => ∃ (i : Nat) (n : Int), v3 = .int .i64 (i : Int) ∧ v4 = .int .u64 n ∧ kq = 21 - i ∧ (i = 0 ∨ (i : Int) ≤ dp) ∧ 0 ≤ n ∧ n < 18446744073709551616 ∧ Drawn0 w w')
     case atStart => exact ⟨i, n, rfl, rfl, rfl, by omega, by omega, by omega, by repeat (first | exact Drawn0.refl _ | apply Drawn0.step)⟩
     case round =>
      clear hkq hi hn0 hn1
      obtain ⟨i, n, rfl, rfl, hkq, hi, hn0, hn1, hW⟩ := hrel
      obtain ⟨m1, rfl⟩ := hW
      by_cases c2 : (i : Int) < dp
      ·have c2b : decide ((i : Int) < dp) = true := decide_eq_true c2
       go_wp2
       repeat (go_quiet (fail); try go_wp2)
       go_roundg (21 - (i + 1))
       case measure => omega
       case rel => exact ⟨i + 1, _, by first | rfl | (congr 1; omega), rfl, rfl, by omega, (u64_rng _).1, (u64_rng _).2, by repeat (first | exact Drawn0.refl _ | apply Drawn0.step)⟩
      ·have c2b : decide ((i : Int) < dp) = false := decide_eq_false c2
       go_wp2_with (first | (go_at_call 176; refine (roundup_calls _ g dp a nd dp neg tr (hD.drewN' _) h hdp).mono ?_; rintro e w4 ⟨⟨b, rfl⟩, ⟨m2, rfl⟩⟩))
       all_goals go_ret
       all_goals exact ⟨⟨_, rfl, by first | omega | exact (u64_rng _).1, by first | omega | exact (u64_rng _).2⟩, by repeat (first | exact Drawn0.refl _ | apply Drawn0.step)⟩
    ·have c4b : decide ((i : Int) < dp) = false := decide_eq_false c4
     go_wp2
     repeat (go_quiet (fail); try go_wp2)
     go_loopg [3, 4] (21 - i) (fun kq v3 v4 w' => ∃ (i : Nat) (n : Int), v3 = .int .i64 (i : Int) ∧ v4 = .int .u64 n ∧ kq = 21 - i ∧ (i = 0 ∨ (i : Int) ≤ dp) ∧ 0 ≤ n ∧ n < 18446744073709551616 ∧ Drawn0 w w')
     case atStart => exact ⟨i, n, rfl, rfl, rfl, by omega, by omega, by omega, by repeat (first | exact Drawn0.refl _ | apply Drawn0.step)⟩
     case round =>
      clear hkq hi hn0 hn1
      obtain ⟨i, n, rfl, rfl, hkq, hi, hn0, hn1, hW⟩ := hrel
      obtain ⟨m1, rfl⟩ := hW
      by_cases c2 : (i : Int) < dp
      ·have c2b : decide ((i : Int) < dp) = true := decide_eq_true c2
       go_wp2
       repeat (go_quiet (fail); try go_wp2)
       go_roundg (21 - (i + 1))
       case measure => omega
       case rel => exact ⟨i + 1, _, by first | rfl | (congr 1; omega), rfl, rfl, by omega, (u64_rng _).1, (u64_rng _).2, by repeat (first | exact Drawn0.refl _ | apply Drawn0.step)⟩
      ·have c2b : decide ((i : Int) < dp) = false := decide_eq_false c2
       go_wp2_with (first | (go_at_call 176; refine (roundup_calls _ g dp a nd dp neg tr (hD.drewN' _) h hdp).mono ?_; rintro e w4 ⟨⟨b, rfl⟩, ⟨m2, rfl⟩⟩))
       all_goals go_ret
       all_goals exact ⟨⟨_, rfl, by first | omega | exact (u64_rng _).1, by first | omega | exact (u64_rng _).2⟩, by repeat (first | exact Drawn0.refl _ | apply Drawn0.step)⟩
end Go.Proofs.YtpgfjbimodnkeaaGreatDoor.Dec
namespace Go.Proofs.YtpgfjbimodnkeaaGreatDoor.Dec
open Go Go.RowKit Go.Proofs.YtpgfjbimodnkeaaGreatDoorW.PrintWords
def powAt (i : Nat) : Nat := [1, 3, 6, 9, 13, 16, 19, 23, 26].getD i 0
def vchar (i : Nat) : Nat := if i = 34 then 2 else if i = 40 ∨ i = 91 ∨ i = 123 then 3 else if i = 41 ∨ i = 93 ∨ i = 125 then 1 else 0
structure Tabs (B : Nat) (w : World) : Prop where
 low : 14 ≤ B
 size : B ≤ w.heap.size
 vch : ∀ i, i < 256 → w.cell? ⟨0, i, none⟩ = some (.int .u8 (vchar i : Nat))
 errS : ∃ t v, w.cell? ⟨1, 0, none⟩ = some (.iface t v)
 errR : ∃ t v, w.cell? ⟨2, 0, none⟩ = some (.iface t v)
 opt : w.cell? ⟨4, 0, none⟩ = some (.bool true)
 mant : w.cell? ⟨5, 0, none⟩ = some (.int .u64 52)
 expb : w.cell? ⟨5, 1, none⟩ = some (.int .u64 11)
 bias : w.cell? ⟨5, 2, none⟩ = some (.int .i64 (-1023))
 pow : ∃ (b : Addr) (cc : Nat), b.block < B ∧ w.cell? ⟨7, 0, none⟩ = some (.slice (some b) 9 cc) ∧ ∀ i, i < 9 → w.cell? (b.add i) = some (.int .i64 (powAt i : Nat))
 ten : ∃ (b : Addr) (cc : Nat), b.block < B ∧ w.cell? ⟨8, 0, none⟩ = some (.slice (some b) 23 cc) ∧ ∀ i, i < 23 → ∃ x, w.cell? (b.add i) = some (.float .f64 x)
 tab : ∀ i, i < 1392 → ∃ x : Int, 0 ≤ x ∧ x < 18446744073709551616 ∧ w.cell? ⟨9, i, none⟩ = some (.int .u64 x)
 left : ∃ (b : Addr) (cc : Nat), b.block < B ∧ w.cell? ⟨10, 0, none⟩ = some (.slice (some b) 61 cc) ∧ ∀ k, k < 61 →
  w.cell? (b.add (k * 2)) = some (.int .i64 ((cheatAt k).1 : Nat)) ∧ w.cell? ⟨(b.add (k * 2)).block, (b.add (k * 2)).off + 1, none⟩ = some (.string (cheatStr k))
theorem Tabs.below {B : Nat} {w w1 : World} (h : Tabs B w) (hB : Below B w w1) : Tabs B w1 := by
 have hl := h.low
 have hc : ∀ {p : Addr} {v : Value}, p.block < B → w.cell? p = some v → w1.cell? p = some v := fun hp hv => (hB.cell hp).trans hv
 refine ⟨h.low, Nat.le_trans h.size hB.size, fun i hi => hc (by show 0 < B; omega) (h.vch i hi), ?_, ?_, hc (by show 4 < B; omega) h.opt, hc (by show 5 < B; omega) h.mant, hc (by show 5 < B; omega) h.expb, hc (by show 5 < B; omega) h.bias, ?_, ?_, fun i hi => ?_, ?_⟩
 ·obtain ⟨t, v, h1⟩ := h.errS
  exact ⟨t, v, hc (by show 1 < B; omega) h1⟩
 ·obtain ⟨t, v, h1⟩ := h.errR
  exact ⟨t, v, hc (by show 2 < B; omega) h1⟩
 ·obtain ⟨b, cc, h1, h2, h3⟩ := h.pow
  exact ⟨b, cc, h1, hc (by show 7 < B; omega) h2, fun i hi => hc (by rw [add_block]; exact h1) (h3 i hi)⟩
 ·obtain ⟨b, cc, h1, h2, h3⟩ := h.ten
  exact ⟨b, cc, h1, hc (by show 8 < B; omega) h2, fun i hi => by
   obtain ⟨x, hx⟩ := h3 i hi
   exact ⟨x, hc (by rw [add_block]; exact h1) hx⟩⟩
 ·obtain ⟨x, h1, h2, h3⟩ := h.tab i hi
  exact ⟨x, h1, h2, hc (by show 9 < B; omega) h3⟩
 ·obtain ⟨b, cc, h1, h2, h3⟩ := h.left
  exact ⟨b, cc, h1, hc (by show 10 < B; omega) h2, fun k hk => ⟨hc (by rw [add_block]; exact h1) (h3 k hk).1, hc (by show (b.add (k * 2)).block < B; rw [add_block]; exact h1) (h3 k hk).2⟩⟩
theorem Tabs.toLeft {B : Nat} {w : World} (h : Tabs B w) : TabLeft w := by
 obtain ⟨b, cc, _, h2, h3⟩ := h.left
 exact ⟨b, cc, h2, h3⟩
theorem below_mono {B B' : Nat} {w w1 : World} (h : Below B w w1) (hB : B' ≤ B) : Below B' w w1 := ⟨h.os, h.tape, h.output, h.size, fun k hk => h.block k (Nat.lt_of_lt_of_le hk hB)⟩
end Go.Proofs.YtpgfjbimodnkeaaGreatDoor.Dec
namespace Go.Proofs.YtpgfjbimodnkeaaGreatDoorW.PrintWords
open Go
def jumpAny (J : Nat → Act → World → Prop) (Q : Exit → Act → World → Prop) : Exit → Act → World → Prop
 | .goto l, a, w => J l a w
 | e, a, w => Q e a w
section
variable {P : Program} {a : Act} {w : World} {Q : Exit → Act → World → Prop} {J : Nat → Act → World → Prop}
theorem jumpAny_normal : jumpAny J Q .normal a w = Q .normal a w := rfl
theorem jumpAny_exit (id : Nat) : jumpAny J Q (.exit id) a w = Q (.exit id) a w := rfl
theorem jumpAny_ret : jumpAny J Q .ret a w = Q .ret a w := rfl
theorem wp_scope_any {c : Code} (J : Nat → Act → World → Prop) (μ : Nat → Act → World → Nat)
 (first : c.wp P (jumpAny J Q) a w)
 (pass : ∀ l a w, J l a w → ∃ rest, findLabel c l = some rest ∧ rest.wp P (jumpAny (fun l' a' w' => J l' a' w' ∧ μ l' a' w' < μ l a w) Q) a w) : (Code.scope c).wp P Q a w := by
 intro b k cs
 have key : ∀ n l a w, μ l a w = n → J l a w → ∃ rest, findLabel c l = some rest ∧ ∃ e a' w', Q e a' w' ∧ Arrives P (lone (b.at a (.code rest :: .inScope c :: k)) cs w) b k cs e a' w' := by
  intro n
  induction n using Nat.strongRecOn with
  | _ n ih =>
    intro l a w hn hJ
    obtain ⟨rest, hf, hp⟩ := pass l a w hJ
    refine ⟨rest, hf, ?_⟩
    obtain ⟨e, a₁, w₁, hq, harr⟩ := hp b (.inScope c :: k) cs
    cases e with
    | normal => exact ⟨.normal, a₁, w₁, hq, Steps.trans harr (.one step_inScope)⟩
    | exit id => exact ⟨.exit id, a₁, w₁, hq, fun k' hk => harr k' (by simp [exitTo, hk])⟩
    | goto l' =>
      obtain ⟨hJ', hlt⟩ := hq
      obtain ⟨rest', hf', e₂, a₂, w₂, hq₂, harr₂⟩ := ih _ (by omega) l' a₁ w₁ rfl hJ'
      exact ⟨e₂, a₂, w₂, hq₂, .of_steps (harr _ (by simp [gotoIn, hf'])) harr₂⟩
    | ret => exact ⟨_, a₁, w₁, hq, harr⟩
    | panic ch => exact ⟨_, a₁, w₁, hq, harr⟩
    | outgrown => exact ⟨_, a₁, w₁, hq, harr⟩
 obtain ⟨e, a₁, w₁, hq, harr⟩ := first b (.inScope c :: k) cs
 cases e with
 | normal => exact ⟨.normal, a₁, w₁, hq, .head step_scope (Steps.trans harr (.one step_inScope))⟩
 | exit id => exact ⟨.exit id, a₁, w₁, hq, fun k' hk => .head step_scope (harr k' (by simp [exitTo, hk]))⟩
 | goto l' =>
   obtain ⟨rest', hf', e₂, a₂, w₂, hq₂, harr₂⟩ := key _ l' a₁ w₁ rfl hq
   exact ⟨e₂, a₂, w₂, hq₂, .of_steps (.head step_scope (harr _ (by simp [gotoIn, hf']))) harr₂⟩
 | ret => exact ⟨_, a₁, w₁, hq, .of_steps (.one step_scope) harr⟩
 | panic ch => exact ⟨_, a₁, w₁, hq, .of_steps (.one step_scope) harr⟩
 | outgrown => exact ⟨_, a₁, w₁, hq, .of_steps (.one step_scope) harr⟩
theorem wp_scope_fall {c rest : Code} (l0 : Nat) (J : Act → World → Prop) (hf : findLabel c l0 = some (Code.seq Code.skip rest))
 (hrest : ∀ (K : Nat → Act → World → Prop) a w, J a w → rest.wp P (jumpAny K Q) a w)
 (first : (∀ (K : Nat → Act → World → Prop) a w, J a w → rest.wp P (jumpAny K Q) a w) → c.wp P (jumpAny (fun l a w => l = l0 ∧ J a w) Q) a w) : (Code.scope c).wp P Q a w := by
 refine wp_scope_any (fun l a w => l = l0 ∧ J a w) (fun _ _ _ => 0) (first hrest) ?_
 rintro l a w ⟨rfl, hJ⟩
 exact ⟨_, hf, wp_seq (wp_skip (hrest _ a w hJ))⟩
theorem wp_scope_headn {c rest0 : Code} (l0 : Nat) (J : Nat → Nat → Act → World → Prop) (hf : findLabel c l0 = some (Code.seq Code.skip rest0))
 (head : ∀ n a w, J n l0 a w → rest0.wp P (jumpAny (fun l' a' w' => ∃ n', n' < n ∧ J n' l' a' w') Q) a w)
 (pass : ∀ n l a w, l ≠ l0 → J n l a w → ∃ rest, findLabel c l = some rest ∧ rest.wp P (jumpAny (fun l' a' w' => ∃ n', n' < n ∧ J n' l' a' w') Q) a w)
 (first : (∀ n a w, J n l0 a w → rest0.wp P (jumpAny (fun l' a' w' => ∃ n', J n' l' a' w') Q) a w) → c.wp P (jumpAny (fun l' a' w' => ∃ n', J n' l' a' w') Q) a w) : (Code.scope c).wp P Q a w := by
 intro b k cs
 have key : ∀ n l a w, J n l a w → ∃ rest, findLabel c l = some rest ∧ ∃ e a' w', Q e a' w' ∧ Arrives P (lone (b.at a (.code rest :: .inScope c :: k)) cs w) b k cs e a' w' := by
  intro n
  induction n using Nat.strongRecOn with
  | _ n ih =>
    intro l a w hJ
    have hp : ∃ rest, findLabel c l = some rest ∧ rest.wp P (jumpAny (fun l' a' w' => ∃ n', n' < n ∧ J n' l' a' w') Q) a w := by
     by_cases h : l = l0
     ·subst h
      exact ⟨_, hf, wp_seq (wp_skip (head n a w hJ))⟩
     ·exact pass n l a w h hJ
    obtain ⟨rest, hf, hp⟩ := hp
    refine ⟨rest, hf, ?_⟩
    obtain ⟨e, a₁, w₁, hq, harr⟩ := hp b (.inScope c :: k) cs
    cases e with
    | normal => exact ⟨.normal, a₁, w₁, hq, Steps.trans harr (.one step_inScope)⟩
    | exit id => exact ⟨.exit id, a₁, w₁, hq, fun k' hk => harr k' (by simp [exitTo, hk])⟩
    | goto l' =>
      obtain ⟨n', hlt, hJ'⟩ := hq
      obtain ⟨rest', hf', e₂, a₂, w₂, hq₂, harr₂⟩ := ih n' hlt l' a₁ w₁ hJ'
      exact ⟨e₂, a₂, w₂, hq₂, .of_steps (harr _ (by simp [gotoIn, hf'])) harr₂⟩
    | ret => exact ⟨_, a₁, w₁, hq, harr⟩
    | panic ch => exact ⟨_, a₁, w₁, hq, harr⟩
    | outgrown => exact ⟨_, a₁, w₁, hq, harr⟩
 have first' := first fun n a w hJ => by
  intro b k cs
  obtain ⟨e, a₁, w₁, hq, harr⟩ := head n a w hJ b k cs
  refine ⟨e, a₁, w₁, ?_, harr⟩
  cases e with
  | goto l' => obtain ⟨n', _, h⟩ := hq; exact ⟨n', h⟩
  | normal => exact hq
  | exit id => exact hq
  | ret => exact hq
  | panic ch => exact hq
  | outgrown => exact hq
 obtain ⟨e, a₁, w₁, hq, harr⟩ := first' b (.inScope c :: k) cs
 cases e with
 | normal => exact ⟨.normal, a₁, w₁, hq, .head step_scope (Steps.trans harr (.one step_inScope))⟩
 | exit id => exact ⟨.exit id, a₁, w₁, hq, fun k' hk => .head step_scope (harr k' (by simp [exitTo, hk]))⟩
 | goto l' =>
   obtain ⟨n', hJ'⟩ := hq
   obtain ⟨rest', hf', e₂, a₂, w₂, hq₂, harr₂⟩ := key n' l' a₁ w₁ hJ'
   exact ⟨e₂, a₂, w₂, hq₂, .of_steps (.head step_scope (harr _ (by simp [gotoIn, hf']))) harr₂⟩
 | ret => exact ⟨_, a₁, w₁, hq, .of_steps (.one step_scope) harr⟩
 | panic ch => exact ⟨_, a₁, w₁, hq, .of_steps (.one step_scope) harr⟩
 | outgrown => exact ⟨_, a₁, w₁, hq, .of_steps (.one step_scope) harr⟩
end
end Go.Proofs.YtpgfjbimodnkeaaGreatDoorW.PrintWords
