/- FnGjReverseText: whatever text comes in, the law returns true and the text reads afterwards as before; with the fourteen package-level variables that its row lists as the text of the program lays them (the tied card) (part 18 of 25: lemmas for its last part) -/
import Derived.WalkSpells
import Derived.Deep.Cut
import Derived.Deep.RegionWith
import Derived.IntWalk
import Derived.Test.YtpgfjbimodnkeaaGreatDoorTurn2
import Derived.Test.YtpgfjbimodnkeaaGreatDoorTurn10
import Derived.Test.YtpgfjbimodnkeaaGreatDoorTurn16
import Derived.Test.YtpgfjbimodnkeaaGreatDoorTurn17
set_option maxHeartbeats 16000000
set_option maxRecDepth 100000
set_option linter.unusedVariables false
set_option linter.unusedSimpArgs false
namespace Go.Proofs.YtpgfjbimodnkeaaGreatDoor.Dec
open Go Go.RowKit Go.Proofs.YtpgfjbimodnkeaaGreatDoorW.PrintWords Go.Proofs.YtpgfjbimodnkeaaGreatDoorW.PrintLast Go.Proofs.YtpgfjbimodnkeaaGreatDoorW.PrintMore Go.Proofs.YtpgfjbimodnkeaaGreatDoor.Scan
structure Rs where
 k : Int
 raw : ByteArray
 str : ByteArray
 num : Nat
 idx : Int
def Rs.ex (r : Rs) : Bool := if r.k = 0 then ((r.raw.size : Int) != 0) else true
theorem rf (w : World) (a b : Array Value) (t u : TypeId) : ((w.alloc (.cells a t)).alloc (.cells b u)).heap[w.heap.size]? = some (.cells a t (0, 0)) ∧ ((w.alloc (.cells a t)).alloc (.cells b u)).heap[w.heap.size + 1]? = some (.cells b u (0, 0)) := by
 refine ⟨aN (dX w _) _, ?_⟩
 have := dX (w.alloc (.cells a t)) (.cells b u)
 simpa using this
end Go.Proofs.YtpgfjbimodnkeaaGreatDoor.Dec
namespace Go.Proofs.YtpgfjbimodnkeaaGreatDoor.Q
open Go.RowKit Go.Proofs.YtpgfjbimodnkeaaGreatDoorW.PrintWords Go.Proofs.YtpgfjbimodnkeaaGreatDoorW.PrintLast Go.Proofs.YtpgfjbimodnkeaaGreatDoorW.PrintMore
attribute [local go_sem] dH dI dW dY dm dw dK dL
end Go.Proofs.YtpgfjbimodnkeaaGreatDoor.Q
namespace Go.Proofs.YtpgfjbimodnkeaaGreatDoor.Dec
open Go Go.RowKit Go.Proofs.YtpgfjbimodnkeaaGreatDoorW.PrintWords Go.Proofs.YtpgfjbimodnkeaaGreatDoorW.PrintLast Go.Proofs.YtpgfjbimodnkeaaGreatDoorW.PrintMore Go.Proofs.YtpgfjbimodnkeaaGreatDoor.Scan Go.Proofs.YtpgfjbimodnkeaaGreatDoor.Q
def gjk (kd : Int) : Int := if kd = 1 then 1 else if kd = 3 then 2 else if kd = 4 then 3 else if kd = 2 then 4 else if kd = 5 then 5 else if kd = 6 then 5 else 0
structure mH (s : ByteArray) (p : S32) (r : Rs) : Prop where
 at_ : ∃ b e : Nat, p.f1 = b ∧ p.f2 = e ∧ b < e ∧ e ≤ s.size ∧ r.raw = s.extract b e ∧ (p.f0 = 4 → ∃ q, e = q + 1 ∧ b < q ∧ Says s (b + 1) q r.str)
 kind : r.k = gjk p.f0
 ex : r.ex = true
structure rQ (s : ByteArray) (n : S44) (r : Rs) : Prop where
 at_ : ∃ b q : Nat, n.f0 = b ∧ n.f1 = (q + 1 : Nat) ∧ b < q ∧ q < s.size ∧ r.raw = s.extract b (q + 1) ∧ Says s (b + 1) q r.str
 kind : r.k = 3
theorem Fa {s : ByteArray} {b e : Nat} (h : b < e) (he : e ≤ s.size) (r : Rs) (hr : r.raw = s.extract b e) : r.ex = true := by
 unfold Rs.ex
 split
 ·rw [hr, ByteArray.size_extract]
  exact bne_iff_ne.mpr (by omega)
 ·rfl
theorem uS (w : World) (B : Nat) (s : ByteArray) (hs : s.size ≤ 65536) (hT : Tabs B w) {b m : Nat} {kd : Int} {ns : List S44} {ks : List S32} (hJ : J s .val b m kd ns ks) (hA : After s m) (hP : Prd s b) :
 Calls Tryz.prog 62 #[.string s, .int .i64 b, .bool true] w fun r w' => ∃ rs : Rs, r = .returned (.tuple #[.int .i64 m, resV rs.k rs.raw rs.str rs.num rs.idx, .bool true]) ∧ mH s ⟨kd, b, m, ns, ks⟩ rs ∧ Below w.heap.size w w' := by
 have hb := hJ.bound
 have key : ∀ (rs : Rs), rs.raw = s.extract b m → rs.k = gjk kd → (kd = 4 → ∃ q, m = q + 1 ∧ b < q ∧ Says s (b + 1) q rs.str) → mH s ⟨kd, b, m, ns, ks⟩ rs := fun rs h1 h2 h3 =>
  ⟨⟨b, m, rfl, rfl, hb.1, hb.2, h1, h3⟩, h2, Fa hb.1 hb.2 rs h1⟩
 have hsc := hJ.scan
 cases hJ with
 | null _ h =>
   refine (CG w s hs b h hA).mono ?_
   rintro r w' ⟨rfl, hB⟩
   exact ⟨⟨0, s.extract b (b + 4), ⟨#[]⟩, 0, 0⟩, rfl, key _ rfl rfl (fun h => absurd h (by decide)), hB⟩
 | fals _ h =>
   refine (zL w s hs b h hA).mono ?_
   rintro r w' ⟨rfl, hB⟩
   exact ⟨⟨1, s.extract b (b + 5), ⟨#[]⟩, 0, 0⟩, rfl, key _ rfl rfl (fun h => absurd h (by decide)), hB⟩
 | tru _ h =>
   refine (BI w s hs b h hA).mono ?_
   rintro r w' ⟨rfl, hB⟩
   exact ⟨⟨4, s.extract b (b + 4), ⟨#[]⟩, 0, 0⟩, rfl, key _ rfl rfl (fun h => absurd h (by decide)), hB⟩
 | num _ _ h0 h1 h2 h3 =>
   refine (yJ w B s hs b m h1 h2 h3 h0 hA hT).mono ?_
   rintro r w' ⟨⟨x, rfl⟩, hB⟩
   exact ⟨⟨2, s.extract b m, ⟨#[]⟩, x, 0⟩, rfl, key _ rfl rfl (fun h => absurd h (by decide)), hB⟩
 | str _ q h0 h1 h2 =>
   obtain ⟨hP1, v, hv⟩ := jd hs h2 (gG.prd hs h0 h1 h2 hP).1
   have hqb := h2.bound
   refine (yx w s hs b q h0 h1 h2 v hv).mono ?_
   rintro r w' ⟨rfl, hB⟩
   exact ⟨⟨3, s.extract b (q + 1), v, 0, 0⟩, rfl, key _ rfl rfl (fun _ => ⟨q, rfl, by omega, hv⟩), hB⟩
 | arr0 _ j h0 h1 h2 h3 h4 =>
   refine (lh w B s hs b _ h0 (.inr h1) (hsc.2 (by decide)) hT).mono ?_
   rintro r w' ⟨rfl, hB⟩
   exact ⟨⟨5, s.extract b (j + 1), ⟨#[]⟩, 0, b⟩, rfl, key _ rfl rfl (fun h => absurd h (by decide)), hB⟩
 | arr _ j _ _ h0 h1 h2 h3 =>
   refine (lh w B s hs b _ h0 (.inr h1) (hsc.2 (by decide)) hT).mono ?_
   rintro r w' ⟨rfl, hB⟩
   exact ⟨⟨5, s.extract b m, ⟨#[]⟩, 0, b⟩, rfl, key _ rfl rfl (fun h => absurd h (by decide)), hB⟩
 | obj0 _ j h0 h1 h2 h3 h4 =>
   refine (lh w B s hs b _ h0 (.inl h1) (hsc.2 (by decide)) hT).mono ?_
   rintro r w' ⟨rfl, hB⟩
   exact ⟨⟨5, s.extract b (j + 1), ⟨#[]⟩, 0, b⟩, rfl, key _ rfl rfl (fun h => absurd h (by decide)), hB⟩
 | obj _ j _ _ _ h0 h1 h2 h3 =>
   refine (lh w B s hs b _ h0 (.inl h1) (hsc.2 (by decide)) hT).mono ?_
   rintro r w' ⟨rfl, hB⟩
   exact ⟨⟨5, s.extract b m, ⟨#[]⟩, 0, b⟩, rfl, key _ rfl rfl (fun h => absurd h (by decide)), hB⟩
def iw (s : ByteArray) : List S32 → List (Rs × Rs) → Prop
 | [], [] => True
 | p :: ps, r :: rs => mH s p r.2 ∧ iw s ps rs
 | _, _ => False
def iC (s : ByteArray) : List S44 → List (Rs × Rs) → Prop
 | [], [] => True
 | p :: ps, r :: rs => rQ s p r.1 ∧ iC s ps rs
 | _, _ => False
theorem iw.length {s : ByteArray} : ∀ {ks : List S32} {ps : List (Rs × Rs)}, iw s ks ps → ks.length = ps.length
 | [], [], _ => rfl
 | _ :: _, _ :: _, h => by simp [iw.length h.2]
 | [], _ :: _, h => h.elim
 | _ :: _, [], h => h.elim
theorem iw.snoc {s : ByteArray} {p : S32} {r : Rs × Rs} (hp : mH s p r.2) : ∀ {ks : List S32} {ps : List (Rs × Rs)}, iw s ks ps → iw s (ks ++ [p]) (ps ++ [r])
 | [], [], _ => ⟨hp, trivial⟩
 | _ :: _, _ :: _, h => ⟨h.1, iw.snoc hp h.2⟩
 | [], _ :: _, h => h.elim
 | _ :: _, [], h => h.elim
theorem iC.snoc {s : ByteArray} {p : S44} {r : Rs × Rs} (hp : rQ s p r.1) : ∀ {ks : List S44} {ps : List (Rs × Rs)}, iC s ks ps → iC s (ks ++ [p]) (ps ++ [r])
 | [], [], _ => ⟨hp, trivial⟩
 | _ :: _, _ :: _, h => ⟨h.1, iC.snoc hp h.2⟩
 | [], _ :: _, h => h.elim
 | _ :: _, [], h => h.elim
theorem iC.length {s : ByteArray} : ∀ {ks : List S44} {ps : List (Rs × Rs)}, iC s ks ps → ks.length = ps.length
 | [], [], _ => rfl
 | _ :: _, _ :: _, h => by simp [iC.length h.2]
 | [], _ :: _, h => h.elim
 | _ :: _, [], h => h.elim
theorem iw.next {s : ByteArray} {done l ks : List S32} {p : S32} {ps : List (Rs × Rs)} (h : done ++ p :: l = ks) (hk : iw s done ps) : ks[ps.length]? = some p := by
 subst h
 rw [← hk.length, List.getElem?_append_right (Nat.le_refl _)]
 simp
theorem iC.next {s : ByteArray} {done l ns : List S44} {p : S44} {ps : List (Rs × Rs)} (h : done ++ p :: l = ns) (hk : iC s done ps) : ns[ps.length]? = some p := by
 subst h
 rw [← hk.length, List.getElem?_append_right (Nat.le_refl _)]
 simp
theorem BL (w : World) (s : ByteArray) (hs : s.size ≤ 65536) (i : Nat) (hi : i ≤ s.size) (h : ∀ p : Nat, i ≤ p → p < s.size → bt s p = 93 ∨ Scan.blank (bt s p)) :
 Calls Tryz.prog 62 #[.string s, .int .i64 i, .bool true] w fun r w' => r = .returned (.tuple #[.int .i64 s.size, resV 0 ⟨#[]⟩ ⟨#[]⟩ 0 0, .bool false]) ∧ Below w.heap.size w w' := by
 replace h := ae.mk h
 go_enter Tryz.func62, Tryz.ntmps62
 go_wp2
 go_loopg [1] (s.size - i) (fun kq v1 w' => ∃ p : Nat, v1 = .int .i64 p ∧ ae (p + kq = s.size ∧ i ≤ p) ∧ w' = (w.alloc (.cells #[.int .i64 0, .string ⟨#[]⟩, .string ⟨#[]⟩, .float .f64 0, .int .i64 0, .slice none 0 0] 67)).alloc (.cells #[.int .i64 0, .string ⟨#[]⟩, .string ⟨#[]⟩, .float .f64 0, .int .i64 0, .slice none 0 0] 67))
 case atStart => exact ⟨i, rfl, ⟨⟨by omega, Nat.le_refl _⟩⟩, rfl⟩
 case round =>
  obtain ⟨p, rfl, hp, rfl⟩ := hrel
  have hp1 := hp.out
  by_cases hlt : p < s.size
  ·have hx := iR s p
   have p0 : (0 ≤ (p : Int)) = True := eq_true (by omega)
   have p1 : ((p : Int) < (s.size : Int)) = True := eq_true (by omega)
   have hh := h.out p hp1.2 hlt
   clear hp1
   unfold Scan.blank at hh
   cases gk with
   | zero => exact absurd hp.out (by omega)
   | succ gk =>
   rcases hh with hh | hh
   ·rw [hh] at hx
    clear hh
    go_wp2
    go_roundg gk
    case measure => omega
    case rel => exact ⟨p + 1, by first | rfl | (congr 1; omega), ⟨⟨by have := hp.out; omega, by have := hp.out; omega⟩⟩, rfl⟩
   ·generalize bt s p = c at *
    have b1 : (c == 123) = false := beq_eq_false_iff_ne.mpr (by omega)
    have b2 : (c == 91) = false := beq_eq_false_iff_ne.mpr (by omega)
    have b3 : decide (c ≤ 32) = true := decide_eq_true (by omega)
    clear hh
    go_wp2
    go_roundg gk
    case measure => omega
    case rel => exact ⟨p + 1, by first | rfl | (congr 1; omega), ⟨⟨by have := hp.out; omega, by have := hp.out; omega⟩⟩, rfl⟩
  ·have hpe : p = s.size := by omega
   subst hpe
   have p1 : ((s.size : Int) < (s.size : Int)) = False := eq_false (by omega)
   clear hp1 hlt
   go_wp2
   go_region
   all_goals (try go_wp2)
   all_goals (try simp only [Exit.inBlock, Exit.then])
   refine bodyPost_ret (v := .tuple #[.int .i64 s.size, resV 0 ⟨#[]⟩ ⟨#[]⟩ 0 0, .bool false]) ?_ rfl ?_
   ·simp [results, go_sem]
    try omega
   ·exact ⟨rfl, (by repeat (with_reducible first | exact Below.refl _ _ | apply ai | apply dC | apply ag | (refine Below.setCell ?_ (by first | exact Nat.le_refl _ | exact Nat.le_succ _) _)))⟩
def qP (c : Int) : Prop := Go.Proofs.YtpgfjbimodnkeaaGreatDoor.Scan.blank c ∨ c = 44 ∨ c = 58
structure AtEnd (s : ByteArray) (c : Int) (i : Nat) : Prop where
 way : s.size ≤ i ∨ (i < s.size ∧ ∃ j, gB s qP i j ∧ j ≤ s.size ∧ (j = s.size ∨ (bt s j = c ∧ j < s.size ∧ Blanks s (j + 1) s.size)))
def ET (s : ByteArray) (e : Nat) (rest : List S32) (i : Nat) : Prop := (∃ j, gB s qP i j ∧ J s .els j e 0 [] rest) ∨ (rest = [] ∧ AtEnd s 93 i)
def zO (s : ByteArray) (e : Nat) (nrest : List S44) (rest : List S32) (i : Nat) : Prop := (∃ j, gB s qP i j ∧ J s .mems j e 0 nrest rest) ∨ (nrest = [] ∧ rest = [] ∧ AtEnd s 125 i)
theorem gm {s : ByteArray} {i j : Nat} (h : Blanks s i j) : gB s qP i j := ⟨h.le, fun m h1 h2 => .inl (h.all m h1 h2)⟩
theorem pq {s : ByteArray} {P : Int → Prop} {i : Nat} (h : P (bt s i)) : gB s P i (i + 1) := ⟨by omega, fun m h1 h2 => by
 have e : m = i := by omega
 rw [e]; exact h⟩
theorem lL {s : ByteArray} {P : Int → Prop} {i j : Nat} (h : gB s P i j) (hlt : i < j) : gB s P (i + 1) j := ⟨hlt, fun m h1 h2 => h.all m (by omega) h2⟩
theorem uB {s : ByteArray} {j m : Nat} {kd : Int} {ns : List S44} {ks : List S32} (h : J s .val j m kd ns ks) : 32 < bt s j ∧ bt s j ≠ 44 ∧ bt s j ≠ 58 ∧ bt s j ≠ 92 := by
 cases h with
 | null _ h => have := h.at 0 (by decide); rw [Nat.add_zero] at this; rw [this]; decide
 | fals _ h => have := h.at 0 (by decide); rw [Nat.add_zero] at this; rw [this]; decide
 | tru _ h => have := h.at 0 (by decide); rw [Nat.add_zero] at this; rw [this]; decide
 | num _ _ h0 h1 h2 h3 => omega
 | str _ q h0 h1 h2 => omega
 | arr0 _ j h0 h1 h2 h3 h4 => omega
 | arr _ j e ks h0 h1 h2 h3 => omega
 | obj0 _ j h0 h1 h2 h3 h4 => omega
 | obj _ j e ns ks h0 h1 h2 h3 => omega
theorem nO {c : Int} (h : qP c) : c ≤ 32 ∨ (¬ c ≤ 32 ∧ c = 44) ∨ (¬ c ≤ 32 ∧ c = 58) := by unfold qP Scan.blank at h; omega
theorem Es (t : TypeId) (x y : Nat) (W : World) : (binOp .add t (.float .f64 x) (.float .f64 y)).run Tryz.prog W = .ok (.float .f64 (fl2 .add x y W)) (W.drewN (fln .add x y)) := by
 cases h : floatBits .add .f64 x y with
 | some r =>
   rw [run_float_arith W .add t .f64 x y r h]
   simp only [fl2, fln, h]
   rfl
 | none =>
   have h' : FloatKind.f64.format.add x y = none := h
   simp only [fl2, fln, h]
   by_cases hf : (Question.nanBits .f64 x y).forced
   ·simp [binOp, Op.floatArith, h', hf]; rfl
   ·simp [binOp, Op.floatArith, h', hf]; rfl
theorem lU {s : ByteArray} {md : Md} {i e : Nat} {kd : Int} {ns : List S44} {ks : List S32} (h : J s md i e kd ns ks) : ks.length + i ≤ e := by
 induction h with
 | null i h => simp
 | fals i h => simp
 | tru i h => simp
 | num i e h0 h1 h2 h3 => simp; omega
 | str i q h0 h1 h2 => have := h2.bound; simp; omega
 | arr0 i j h0 h1 h2 h3 h4 => have := h2.le; simp; omega
 | arr i j e ks h0 h1 h2 h3 ih => have := h2.le; omega
 | obj0 i j h0 h1 h2 h3 h4 => have := h2.le; simp; omega
 | obj i j e ns ks h0 h1 h2 h3 ih => have := h2.le; omega
 | el1 i m e kd ns ks h0 h1 h2 h3 ih => have := h0.bound; have := h1.le; simp; omega
 | els i m c n e kd ns ks l h0 h1 h2 h3 h4 h5 ih ih2 => have := h0.bound; have := h1.le; have := h4.le; simp; omega
 | mem1 i q c b m e kd ns ks h0 h1 h2 h3 h4 h5 h6 h7 h8 h9 h10 ih => have := h2.bound; have := h3.le; have := h6.le; have := h7.bound; have := h8.le; simp; omega
 | mems i q c b m d n e kd ns nl ks l h0 h1 h2 h3 h4 h5 h6 h7 h8 h9 h10 h11 h12 ih ih2 => have := h2.bound; have := h3.le; have := h6.le; have := h7.bound; have := h8.le; have := h11.le; simp; omega
theorem lQ {α : Type} {a l ks : List α} {x : α} (h : a ++ x :: l = ks) : ks.take (a.length + 1) = a ++ [x] ∧ a.length + 1 ≤ ks.length := by
 subst h
 refine ⟨?_, by simp⟩
 rw [show a ++ x :: l = (a ++ [x]) ++ l by simp, List.take_left' (by simp)]
theorem at_end {s : ByteArray} {m e : Nat} {c : Int} (h1 : Blanks s m e) (h2 : e < s.size) (h3 : bt s e = c) (hE : Blanks s (e + 1) s.size) : AtEnd s c (m + 1) := by
 have hle := h1.le
 refine ⟨?_⟩
 by_cases hs : s.size ≤ m + 1
 ·exact .inl hs
 ·refine .inr ⟨by omega, ?_⟩
  by_cases he : m = e
  ·subst he
   exact ⟨s.size, gm hE, Nat.le_refl _, .inl rfl⟩
  ·exact ⟨e, lL (gm h1) (by omega), by omega, .inr ⟨h3, h2, hE⟩⟩
theorem yS {s : ByteArray} {i j : Nat} {c : Int} (h2 : Blanks s i j) (h3 : j < s.size) (h4 : bt s j = c) (hE : Blanks s (j + 1) s.size) : AtEnd s c i :=
 ⟨.inr ⟨by have := h2.le; omega, j, gm h2, by omega, .inr ⟨h4, h3, hE⟩⟩⟩
theorem Bc {s : ByteArray} {e j : Nat} {rest : List S32} (h : J s .els j e 0 [] rest) (hE : Blanks s e s.size) : ∃ (m : Nat) (kd : Int) (ns : List S44) (ks l : List S32), rest = ⟨kd, (j : Nat), (m : Nat), ns, ks⟩ :: l ∧ J s .val j m kd ns ks ∧ After s m ∧ ET s e l (m + 1) ∧ m < s.size := by
 have hes := h.bound.2
 cases h with
 | el1 _ m e kd ns ks h0 h1 h2 h3 =>
   have hle := h1.le
   refine ⟨m, kd, ns, ks, [], rfl, h0, .inr ⟨by omega, ?_⟩, .inr ⟨rfl, at_end h1 h2 h3 hE⟩, by omega⟩
   by_cases he : m = e
   ·subst he; exact .inr (.inr (.inl h3))
   ·exact .inl (h1.all m (Nat.le_refl _) (by omega))
 | els _ m c n e kd ns ks l h0 h1 h2 h3 h4 h5 =>
   have hle := h1.le
   have hle2 := h4.le
   refine ⟨m, kd, ns, ks, l, rfl, h0, .inr ⟨by omega, ?_⟩, .inl ⟨n, ?_, h5⟩, by omega⟩
   ·by_cases he : m = c
    ·subst he; exact .inr (.inl h3)
    ·exact .inl (h1.all m (Nat.le_refl _) (by omega))
   ·exact lL (((gm h1).trans (pq (.inr (.inl h3)))).trans (gm h4)) (by omega)
theorem Af {s : ByteArray} (hS : s.size ≤ 65536) {e j : Nat} {nrest : List S44} {rest : List S32} (h : J s .mems j e 0 nrest rest) (hE : Blanks s e s.size) : ∃ (q b m : Nat) (kd : Int) (ns nl : List S44) (ks l : List S32), nrest = ⟨(j : Nat), (q + 1 : Nat)⟩ :: nl ∧ rest = ⟨kd, (b : Nat), (m : Nat), ns, ks⟩ :: l ∧
 j < s.size ∧ bt s j = 34 ∧ gG s (j + 1) q ∧ gB s qP (q + 1) b ∧ J s .val b m kd ns ks ∧ After s m ∧ zO s e nl l (m + 1) ∧ m < s.size ∧ (Prd s j → Prd s b) := by
 have hes := h.bound.2
 cases h with
 | mem1 _ q c b m e kd ns ks h0 h1 h2 h3 h4 h5 h6 h7 h8 h9 h10 =>
   have hle := h8.le
   have hq := h2.bound
   have hc := h3.le
   have hb := h6.le
   have hv := h7.bound
   refine ⟨q, b, m, kd, ns, [], ks, [], rfl, rfl, by omega, h1, h2, ((gm h3).trans (pq (.inr (.inr h5)))).trans (gm h6), h7, .inr ⟨by omega, ?_⟩, .inr ⟨rfl, rfl, at_end h8 h9 h10 hE⟩, by omega, fun hp => ?_⟩
   ·by_cases he : m = e
    ·subst he; exact .inr (.inr (.inr h10))
    ·exact .inl (h8.all m (Nat.le_refl _) (by omega))
   ·exact h6.prd hS (by omega) (Prd.plain hS (h3.prd hS (by omega) (gG.prd hS h0 h1 h2 hp).2) h4 (by omega))
 | mems _ q c b m d n e kd ns nl ks l h0 h1 h2 h3 h4 h5 h6 h7 h8 h9 h10 h11 h12 =>
   have hle := h8.le
   have hq := h2.bound
   have hc := h3.le
   have hb := h6.le
   have hv := h7.bound
   have hn := h11.le
   refine ⟨q, b, m, kd, ns, nl, ks, l, rfl, rfl, by omega, h1, h2, ((gm h3).trans (pq (.inr (.inr h5)))).trans (gm h6), h7, .inr ⟨by omega, ?_⟩, .inl ⟨n, ?_, h12⟩, by omega, fun hp => ?_⟩
   ·by_cases he : m = d
    ·subst he; exact .inr (.inl h10)
    ·exact .inl (h8.all m (Nat.le_refl _) (by omega))
   ·exact lL (((gm h8).trans (pq (.inr (.inl h10)))).trans (gm h11)) (by omega)
   ·exact h6.prd hS (by omega) (Prd.plain hS (h3.prd hS (by omega) (gG.prd hS h0 h1 h2 hp).2) h4 (by omega))
theorem ug {s : ByteArray} {e : Nat} {ns : List S44} {ks : List S32} (h : J s .val 0 e 6 ns ks) (hE : Blanks s e s.size) : bt s ((0 : Nat) : Int) = 123 ∧ zO s e ns ks 1 := by
 generalize hi : (0 : Nat) = i at h
 generalize hk : (6 : Int) = kd at h
 cases h with
 | obj0 _ j h0 h1 h2 h3 h4 =>
   subst hi
   exact ⟨h1, .inr ⟨rfl, rfl, yS h2 h3 h4 hE⟩⟩
 | obj _ j e _ _ h0 h1 h2 h3 =>
   subst hi
   exact ⟨h1, .inl ⟨j, gm h2, h3⟩⟩
 | null => exact absurd hk (by decide)
 | fals => exact absurd hk (by decide)
 | tru => exact absurd hk (by decide)
 | num => exact absurd hk (by decide)
 | str => exact absurd hk (by decide)
 | arr0 => exact absurd hk (by decide)
 | arr => exact absurd hk (by decide)
theorem uM {s : ByteArray} {e : Nat} {ks : List S32} (h : J s .val 0 e 5 [] ks) (hE : Blanks s e s.size) : bt s ((0 : Nat) : Int) = 91 ∧ ET s e ks 1 := by
 generalize hi : (0 : Nat) = i at h
 generalize hk : (5 : Int) = kd at h
 generalize hn : ([] : List S44) = ns at h
 cases h with
 | arr0 _ j h0 h1 h2 h3 h4 =>
   subst hi
   exact ⟨h1, .inr ⟨rfl, yS h2 h3 h4 hE⟩⟩
 | arr _ j e _ h0 h1 h2 h3 =>
   subst hi
   exact ⟨h1, .inl ⟨j, gm h2, h3⟩⟩
 | null => exact absurd hk (by decide)
 | fals => exact absurd hk (by decide)
 | tru => exact absurd hk (by decide)
 | num => exact absurd hk (by decide)
 | str => exact absurd hk (by decide)
 | obj0 => exact absurd hk (by decide)
 | obj => exact absurd hk (by decide)
abbrev jh (r : Rs) : Array Value := #[.int .i64 r.k, .string r.raw, .string r.str, .float .f64 r.num, .int .i64 r.idx, .slice none 0 0]
structure Dw (B0 B1 : Nat) (w0 : World) (Inv : List (Rs × Rs) → World → Prop) : Prop where
 bel : ∀ {ps W}, Inv ps W → Below B0 w0 W
 lo : ∀ {ps W}, Inv ps W → B0 ≤ W.heap.size
 below : ∀ {ps W W'}, Inv ps W → Below W.heap.size W W' → Inv ps W'
 set : ∀ {ps W g cs}, Inv ps W → W.heap[g]? = some (.cells cs 67 (0, 0)) → B0 ≤ g → g < B1 → ∀ (j : Nat) (u : Value), Inv ps (W.setCell ⟨g, j, none⟩ u)
def Dv (B0 B1 : Nat) (stop : Int) (Inv : List (Rs × Rs) → World → Prop) (F : Nat) (C : Addr) (s : ByteArray) (nms : List S44) (ks : List S32) : Prop :=
 ∀ (ps : List (Rs × Rs)) (kr vr : Rs) (p : S32) (W : World), Inv ps W → ks[ps.length]? = some p → mH s p vr → (∀ n, nms[ps.length]? = some n → rQ s n kr) → ps.length ≤ 100000 → B1 ≤ W.heap.size →
  Calls Tryz.prog F #[resV kr.k kr.raw kr.str kr.num kr.idx, resV vr.k vr.raw vr.str vr.num vr.idx, .pointer (some C)] W fun e w' => e = .returned (.bool (((ps.length + 1 : Nat) : Int) != stop)) ∧ Inv (ps ++ [(kr, vr)]) w' ∧ ∀ (b : Nat) (cs : Array Value), B0 ≤ b → b < B1 → W.heap[b]? = some (.cells cs 67 (0, 0)) → w'.heap[b]? = some (.cells cs 67 (0, 0))
structure FEW (s : ByteArray) (B0 B1 : Nat) (w0 : World) (Inv : List (Rs × Rs) → World → Prop) (gt gk gv : Nat) (str : ByteArray) (num : Int) (ps : List (Rs × Rs)) (kr vr : Rs) (W : World) : Prop where
 feed : Dw B0 B1 w0 Inv
 inv : Inv ps W
 bt : W.heap[gt]? = some (.cells #[.int .i64 5, .string s, .string str, .float .f64 0, .int .i64 num, .slice none 0 0] 67 (0, 0))
 bk : W.heap[gk]? = some (.cells (jh kr) 67 (0, 0))
 bv : W.heap[gv]? = some (.cells (jh vr) 67 (0, 0))
 ne : gt ≠ gk ∧ gt ≠ gv ∧ gk ≠ gv
 lo : B0 ≤ gt ∧ B0 ≤ gk ∧ B0 ≤ gv
 hi : gt < B1 ∧ gk < B1 ∧ gv < B1
section
variable {s : ByteArray} {B0 B1 : Nat} {w0 : World} {Inv : List (Rs × Rs) → World → Prop} {gt gk gv : Nat} {str : ByteArray} {num : Int} {ps : List (Rs × Rs)} {kr vr : Rs} {W W' : World}
theorem FEW.bel (h : FEW s B0 B1 w0 Inv gt gk gv str num ps kr vr W) : Below B0 w0 W := h.feed.bel h.inv
theorem FEW.below (h : FEW s B0 B1 w0 Inv gt gk gv str num ps kr vr W) (hb : Below W.heap.size W W') : FEW s B0 B1 w0 Inv gt gk gv str num ps kr vr W' :=
 ⟨h.feed, h.feed.below h.inv hb, bI h.bt hb, bI h.bk hb, bI h.bv hb, h.ne, h.lo, h.hi⟩
theorem FEW.drewN (h : FEW s B0 B1 w0 Inv gt gk gv str num ps kr vr W) (n : Nat) : FEW s B0 B1 w0 Inv gt gk gv str num ps kr vr (W.drewN n) := h.below (ag (Below.refl _ _) n)
theorem FEW.drew (h : FEW s B0 B1 w0 Inv gt gk gv str num ps kr vr W) : FEW s B0 B1 w0 Inv gt gk gv str num ps kr vr W.drew := h.below (dC (Below.refl _ _))
theorem FEW.lX (h : FEW s B0 B1 w0 Inv gt gk gv str num ps kr vr W) (r : Rs) (j : Nat) (u : Value) (hr : (jh vr).setIfInBounds j u = jh r) : FEW s B0 B1 w0 Inv gt gk gv str num ps kr r (W.setCell ⟨gv, j, none⟩ u) :=
 ⟨h.feed, h.feed.set h.inv h.bv h.lo.2.2 h.hi.2.2 _ _, df h.bt h.ne.2.1 _, df h.bk h.ne.2.2 _, bV h.bv j _ hr, h.ne, h.lo, h.hi⟩
theorem FEW.yR (h : FEW s B0 B1 w0 Inv gt gk gv str num ps kr vr W) (r : Rs) (j : Nat) (u : Value) (hr : (jh kr).setIfInBounds j u = jh r) : FEW s B0 B1 w0 Inv gt gk gv str num ps r vr (W.setCell ⟨gk, j, none⟩ u) :=
 ⟨h.feed, h.feed.set h.inv h.bk h.lo.2.1 h.hi.2.1 _ _, df h.bt h.ne.1 _, bV h.bk j _ hr, df h.bv h.ne.2.2.symm _, h.ne, h.lo, h.hi⟩
theorem FEW.Cj (h : FEW s B0 B1 w0 Inv gt gk gv str num ps kr vr W) (x : Nat) : FEW s B0 B1 w0 Inv gt gk gv str num ps { kr with num := x } vr (W.setCell ⟨gk, 3, none⟩ (.float .f64 x)) := h.yR _ 3 _ rfl
theorem FEW.Fh (h : FEW s B0 B1 w0 Inv gt gk gv str num ps kr vr W) (r : Rs) (x : Int) : FEW s B0 B1 w0 Inv gt gk gv str num ps kr { r with idx := x }
 (((((((W.setCell ⟨gv, 0, none⟩ (.int .i64 r.k)).setCell ⟨gv, 1, none⟩ (.string r.raw)).setCell ⟨gv, 2, none⟩ (.string r.str)).setCell ⟨gv, 3, none⟩ (.float .f64 r.num)).setCell ⟨gv, 4, none⟩ (.int .i64 r.idx)).setCell ⟨gv, 5, none⟩ (.slice none 0 0)).setCell ⟨gv, 4, none⟩ (.int .i64 x)) :=
 ((((((h.lX ⟨r.k, vr.raw, vr.str, vr.num, vr.idx⟩ 0 _ rfl).lX ⟨r.k, r.raw, vr.str, vr.num, vr.idx⟩ 1 _ rfl).lX ⟨r.k, r.raw, r.str, vr.num, vr.idx⟩ 2 _ rfl).lX ⟨r.k, r.raw, r.str, r.num, vr.idx⟩ 3 _ rfl).lX ⟨r.k, r.raw, r.str, r.num, r.idx⟩ 4 _ rfl).lX ⟨r.k, r.raw, r.str, r.num, r.idx⟩ 5 _ rfl).lX ⟨r.k, r.raw, r.str, r.num, x⟩ 4 _ rfl
theorem FEW.after (h : FEW s B0 B1 w0 Inv gt gk gv str num ps kr vr W) {ps' : List (Rs × Rs)} (ho : Inv ps' W') (h67 : ∀ (b : Nat) (cs : Array Value), B0 ≤ b → b < B1 → W.heap[b]? = some (.cells cs 67 (0, 0)) → W'.heap[b]? = some (.cells cs 67 (0, 0))) :
 FEW s B0 B1 w0 Inv gt gk gv str num ps' kr vr W' := ⟨h.feed, ho, h67 _ _ h.lo.1 h.hi.1 h.bt, h67 _ _ h.lo.2.1 h.hi.2.1 h.bk, h67 _ _ h.lo.2.2 h.hi.2.2 h.bv, h.ne, h.lo, h.hi⟩
end
theorem mH.idx {s : ByteArray} {p : S32} {r : Rs} (h : mH s p r) (x : Int) : mH s p { r with idx := x } := ⟨h.at_, h.kind, h.ex⟩
structure LA (s : ByteArray) (e : Nat) (ks : List S32) (B0 B1 : Nat) (stop : Int) (w0 : World) (Inv : List (Rs × Rs) → World → Prop) (gt gk gv : Nat) (str : ByteArray) (num : Int) (kq i ix : Nat) (ps : List (Rs × Rs)) (kdone rest : List S32) (kr vr : Rs) (W : World) : Prop where
 kq : kq = s.size - i
 all : kdone ++ rest = ks
 ok : iw s kdone ps
 cnt : ix = ps.length
 bnd : ix ≤ i
 rem : ET s e rest i
 prd : i ≤ s.size → Prd s i
 few : FEW s B0 B1 w0 Inv gt gk gv str num ps kr vr W
 go : ∀ j : Nat, 0 < j → j ≤ ps.length → (j : Int) ≠ stop
structure InA (s : ByteArray) (B0 B1 : Nat) (w0 : World) (Inv : List (Rs × Rs) → World → Prop) (gt gk gv : Nat) (str : ByteArray) (num : Int) (ps : List (Rs × Rs)) (vr : Rs) (i j kq p : Nat) (W : World) : Prop where
 kq : kq = s.size - p
 lo : i ≤ p
 hi : p ≤ j
 few : ∃ kr, FEW s B0 B1 w0 Inv gt gk gv str num ps kr vr W
theorem zD {w W w1 : World} {base n g : Nat} {e t : TypeId} {size : Nat} {v : Value} {xs : List Value} {cs : Array Value} (ho : w.ownsRow base e size v n xs) (hg : w.heap[g]? = some (.cells cs t (0, 0))) (hb : Below w.heap.size w W) (hgr : W.grownBy w1 v.ownBlock) (hne : e ≠ t) : w1.heap[g]? = some (.cells cs t (0, 0)) :=
 gp (bI hg hb) hgr (own_ne ho hg hne)
def Rs.c6 (r : Rs) : List Value := [.int .i64 r.k, .string r.raw, .string r.str, .float .f64 r.num, .int .i64 r.idx, .slice none 0 0]
theorem CX (r : Rs) : ∀ u ∈ r.c6, u.oneCell' = true := by
 intro u hu
 simp only [Rs.c6, List.mem_cons, List.not_mem_nil, or_false] at hu
 rcases hu with rfl | rfl | rfl | rfl | rfl | rfl <;> rfl
theorem Ci : (Tryz.prog.info? 67).map (fun i => (i.zero, i.size, i.bytes)) = some (some (.agg #[.int .i64 0, .string ⟨#[]⟩, .string ⟨#[]⟩, .float .f64 0, .int .i64 0, .slice none 0 0]), 6, 80) := by kernel_rfl
theorem oO {w : World} {base : Nat} {e : TypeId} {size n g : Nat} {v : Value} {xs : List Value} (h : w.ownsRow base e size v n xs) (hg : g < base) : some g ≠ v.ownBlock := by
 rcases h.2 with ⟨rfl, _⟩ | ⟨g', cap, cur, rfl, hb, _⟩
 ·simp [Value.ownBlock]
 ·intro he
  have : g = g' := by simpa [Value.ownBlock] using he
  omega
structure Kept (B0 B1 Bo m : Nat) (f : Rs × Rs → List Value) (w0 : World) (ps : List (Rs × Rs)) (W : World) : Prop where
 bel : Below B0 w0 W
 out : ∃ v, W.heap[Bo]? = some (.cells #[v] 103 (0, 0)) ∧ W.ownsRow B1 67 6 v (ps.length * m) (ps.flatMap f)
 lo : B0 ≤ W.heap.size
 loO : B0 ≤ Bo
 hiO : Bo < B1
theorem uf (B0 B1 Bo m : Nat) (f : Rs × Rs → List Value) (w0 : World) : Dw B0 B1 w0 (Kept B0 B1 Bo m f w0) := by
 refine ⟨fun h => h.bel, fun h => h.lo, ?_, ?_⟩
 ·intro ps W W' h hb
  obtain ⟨v, h1, h2⟩ := h.out
  exact ⟨h.bel.trans (eU hb h.lo), ⟨v, bI h1 hb, iU h2 hb⟩, Nat.le_trans h.lo hb.size, h.loO, h.hiO⟩
 ·intro ps W g cs h hg hlo hhi j u
  obtain ⟨v, h1, h2⟩ := h.out
  have hb : Below B0 W (W.setCell ⟨g, j, none⟩ u) := (Below.refl _ _).setCell hlo u
  exact ⟨h.bel.trans hb, ⟨v, df h1 (Be h1 hg (by decide)) u, fM h2 (p := ⟨g, j, none⟩) (oO h2 hhi) u⟩, Nat.le_trans h.lo hb.size, h.loO, h.hiO⟩
theorem uo {B0 B1 Bo m : Nat} {f : Rs × Rs → List Value} {w0 w w6 : World} {ps : List (Rs × Rs)} {x : Rs × Rs} {v v1 : Value} (h : Kept B0 B1 Bo m f w0 ps w) (hb6 : Below B0 w w6)
 (ho : w6.ownsRow B1 67 6 v1 (ps.length * m + m) (ps.flatMap f ++ f x)) (kO6 : w6.heap[Bo]? = some (.cells #[v] 103 (0, 0)))
 (k67 : ∀ (b : Nat) (cs : Array Value), b < B1 → w.heap[b]? = some (.cells cs 67 (0, 0)) → w6.heap[b]? = some (.cells cs 67 (0, 0))) :
 Kept B0 B1 Bo m f w0 (ps ++ [x]) (w6.setCell ⟨Bo, 0, none⟩ v1) ∧ ∀ (b : Nat) (cs : Array Value), B0 ≤ b → b < B1 → w.heap[b]? = some (.cells cs 67 (0, 0)) → (w6.setCell ⟨Bo, 0, none⟩ v1).heap[b]? = some (.cells cs 67 (0, 0)) := by
 have hb7 : Below B0 w (w6.setCell ⟨Bo, 0, none⟩ v1) := hb6.setCell h.loO v1
 refine ⟨⟨h.bel.trans hb7, ⟨v1, bV kO6 0 v1 rfl, ?_⟩, Nat.le_trans h.lo hb7.size, h.loO, h.hiO⟩, fun b cs _ hb hg => df (k67 b cs hb hg) (Be (k67 b cs hb hg) kO6 (by decide)) v1⟩
 have h1 := fM ho (p := ⟨Bo, 0, none⟩) (oO ho h.hiO) v1
 rw [List.length_append, List.flatMap_append, List.length_singleton, Nat.add_mul, Nat.one_mul]
 simpa using h1
section
variable {P : Program} {ops : Array Oper} {rest : List Oper} {o : Oper} {a : Act} {Q : Exit → Act → World → Prop}
theorem kZ {w0 W : World} (base : Nat) (hgd : o.guard = none) (s x : Operand) (t e : TypeId) (z : Value) (size bytes m : Nat)
 (ho : o.op = .call { callee := .builtin .append, args := #[s, x], argTypes := #[t, t] })
 (ht : P.underlying t = some (.slice e)) (hinfo : (P.info? e).map (fun i => (i.zero, i.size, i.bytes)) = some (some z, size, bytes)) (hz : z.cells.size = size) (hs0 : 0 < size) (hb0 : 0 < bytes)
 (v : Value) (n : Nat) (xs ys : List Value) (hs : a.eval s = v) (hx : a.eval x = .slice (some ⟨W.heap.size, 0, none⟩) m m) (hys : ys.length = m * size) (h1 : ∀ u ∈ ys, u.oneCell' = true)
 (HO : W.ownsRow base e size v n xs) (HB : Below base w0 W) (hbase : base ≤ W.heap.size) (hl : (n + m) * bytes ≤ 140737488355328)
 (h : ∀ v1 w1, w1.ownsRow base e size v1 (n + m) (xs ++ ys) → Below base w0 w1 → W.grownBy w1 v.ownBlock → wpList P ops Q rest (a.put o.dst v1) w1) :
 wpList P ops Q (o :: rest) a (W.alloc (.cells ys.toArray e)) := by
 obtain ⟨i0, hi, hzz⟩ := Option.map_eq_some_iff.1 hinfo
 simp only [Prod.mk.injEq] at hzz
 obtain ⟨hz0, hz1, hz2⟩ := hzz
 have hlen : n + m ≤ 140737488355328 := Nat.le_trans (Nat.le_mul_of_pos_right _ hb0) hl
 refine wpList_append_own_at (W.alloc (.cells ys.toArray e)) hgd s x t ho base e i0 z size bytes ht hi hz0 hz1 hz2 hz hs0 v n xs hs (HO.alloc _) ⟨W.heap.size, 0, none⟩ m m ys hx hys
  (by simpa using World.news_of_block (cs := ys.toArray) (t := e) (fr := (0, 0)) (heap_alloc_new W (.cells ys.toArray e))) h1 (by simp only [maxLen]; omega) hl (by simp; omega) ?_
 intro v1 w1 hown hg _ hat
 exact h v1 w1 hown ((HB.alloc hbase _).grown hg (by simp; omega) (own_base HO)) (World.grownBy.trans (World.grownBy_alloc W _ _) hg)
end
theorem yM (B0 B1 Bo : Nat) (w0 : World) (s : ByteArray) (nms : List S44) (ks : List S32) : Dv B0 B1 0 (Kept B0 B1 Bo 1 (fun p => p.2.c6) w0) 92 ⟨Bo, 0, none⟩ s nms ks := by
 intro ps kr vr p w hK hat hkid hnm hps hB1
 obtain ⟨v, kBo, hown⟩ := hK.out
 have hlo := hK.lo
 have hz : (((ps.length + 1 : Nat) : Int) != 0) = true := bne_iff_ne.mpr (by omega)
 rw [hz]
 obtain ⟨W, hW⟩ : ∃ W, (w.alloc (.cells #[.int .i64 kr.k, .string kr.raw, .string kr.str, .float .f64 kr.num, .int .i64 kr.idx, .slice none 0 0] 67 (0, 0))).alloc (.cells #[.int .i64 vr.k, .string vr.raw, .string vr.str, .float .f64 vr.num, .int .i64 vr.idx, .slice none 0 0] 67 (0, 0)) = W := ⟨_, rfl⟩
 have hBW : Below w.heap.size w W := by rw [← hW]; exact ai (ai (Below.refl _ _) _) _
 have kk := rf w #[.int .i64 kr.k, .string kr.raw, .string kr.str, .float .f64 kr.num, .int .i64 kr.idx, .slice none 0 0] #[.int .i64 vr.k, .string vr.raw, .string vr.str, .float .f64 vr.num, .int .i64 vr.idx, .slice none 0 0] 67 67
 rw [hW] at kk
 have hown2 := iU hown hBW
 have kO := bI kBo hBW
 have ck0 := (ah kk.1 0).trans rfl
 have ck1 := (ah kk.1 1).trans rfl
 have ck2 := (ah kk.1 2).trans rfl
 have ck3 := (ah kk.1 3).trans rfl
 have ck4 := (ah kk.1 4).trans rfl
 have ck5 := (ah kk.1 5).trans rfl
 have cv0 := (ah kk.2 0).trans rfl
 have cv1 := (ah kk.2 1).trans rfl
 have cv2 := (ah kk.2 2).trans rfl
 have cv3 := (ah kk.2 3).trans rfl
 have cv4 := (ah kk.2 4).trans rfl
 have cv5 := (ah kk.2 5).trans rfl
 have co := (ah kO 0).trans rfl
 have fo := ak kO 0
 replace kO := ae.mk kO
 replace kBo := ae.mk kBo
 replace hown := ae.mk hown
 replace hown2 := ae.mk hown2
 replace hK := ae.mk hK
 replace kk := ae.mk kk
 have hB1W := ae.mk (eU hBW (show B1 ≤ w.heap.size by omega))
 have hBW2 := ae.mk hBW
 replace hBW := ae.mk hBW
 go_enter Tryz.func92, Tryz.ntmps92
 go_wp2_with (first | ((with_reducible refine bQ (b := .append) (xs := #[.tmp 6, .tmp 8]) rfl ?_); at_builtin; refine kZ (w0 := w) B1 rfl (.tmp 6) (.tmp 8) 103 67 _ 6 80 1 rfl Tryz.underlying103 Ci rfl (by decide) (by decide) v (ps.length * 1) (ps.flatMap (fun p => p.2.c6)) (vr.c6) rfl rfl rfl ?a1 ?aO ?aB ?aS ?aL ?_; (case a1 => exact CX vr); (case aO => exact hown2.out); (case aB => exact hB1W.out); (case aS => have := hBW.out.size; omega); (case aL => omega); intro v1 w6 ho6 hb6 hg6; obtain ⟨g6, cap6, rfl, _, _⟩ := nP ho6 (by omega); have kO6 := zD hown.out kBo.out hBW.out hg6 (by decide); have co6 := (ah kO6 0).trans rfl; have fo6 := ak kO6 0; have k67 := ae.mk (fun (b : Nat) (cs : Array Value) (h1 : b < B1) (h2 : w.heap[b]? = some (.cells cs 67 (0, 0))) => gp (bI h2 hBW.out) hg6 (oO hown2.out h1)); replace kO6 := ae.mk kO6; replace ho6 := ae.mk ho6; replace hb6 := ae.mk hb6; clear hg6))
 go_ret
 exact ⟨rfl, uo (x := (kr, vr)) hK.out (eU hb6.out (Nat.le_of_lt (Nat.lt_of_le_of_lt hK.out.loO hK.out.hiO))) (by have h := ho6.out; first | exact h | (rw [Nat.mul_one] at h ⊢; exact h)) kO6.out k67.out⟩
theorem yK (B0 B1 Bo : Nat) (w0 : World) (s : ByteArray) (nms : List S44) (ks : List S32) : Dv B0 B1 0 (Kept B0 B1 Bo 2 (fun p => p.1.c6 ++ p.2.c6) w0) 94 ⟨Bo, 0, none⟩ s nms ks := by
 intro ps kr vr p w hK hat hkid hnm hps hB1
 obtain ⟨v, kBo, hown⟩ := hK.out
 have hlo := hK.lo
 have hz : (((ps.length + 1 : Nat) : Int) != 0) = true := bne_iff_ne.mpr (by omega)
 rw [hz]
 obtain ⟨W, hW⟩ : ∃ W, (w.alloc (.cells #[.int .i64 kr.k, .string kr.raw, .string kr.str, .float .f64 kr.num, .int .i64 kr.idx, .slice none 0 0] 67 (0, 0))).alloc (.cells #[.int .i64 vr.k, .string vr.raw, .string vr.str, .float .f64 vr.num, .int .i64 vr.idx, .slice none 0 0] 67 (0, 0)) = W := ⟨_, rfl⟩
 have hBW : Below w.heap.size w W := by rw [← hW]; exact ai (ai (Below.refl _ _) _) _
 have kk := rf w #[.int .i64 kr.k, .string kr.raw, .string kr.str, .float .f64 kr.num, .int .i64 kr.idx, .slice none 0 0] #[.int .i64 vr.k, .string vr.raw, .string vr.str, .float .f64 vr.num, .int .i64 vr.idx, .slice none 0 0] 67 67
 rw [hW] at kk
 have hown2 := iU hown hBW
 have kO := bI kBo hBW
 have ck0 := (ah kk.1 0).trans rfl
 have ck1 := (ah kk.1 1).trans rfl
 have ck2 := (ah kk.1 2).trans rfl
 have ck3 := (ah kk.1 3).trans rfl
 have ck4 := (ah kk.1 4).trans rfl
 have ck5 := (ah kk.1 5).trans rfl
 have cv0 := (ah kk.2 0).trans rfl
 have cv1 := (ah kk.2 1).trans rfl
 have cv2 := (ah kk.2 2).trans rfl
 have cv3 := (ah kk.2 3).trans rfl
 have cv4 := (ah kk.2 4).trans rfl
 have cv5 := (ah kk.2 5).trans rfl
 have co := (ah kO 0).trans rfl
 have fo := ak kO 0
 replace kO := ae.mk kO
 replace kBo := ae.mk kBo
 replace hown := ae.mk hown
 replace hown2 := ae.mk hown2
 replace hK := ae.mk hK
 replace kk := ae.mk kk
 have hB1W := ae.mk (eU hBW (show B1 ≤ w.heap.size by omega))
 have hBW2 := ae.mk hBW
 replace hBW := ae.mk hBW
 go_enter Tryz.func94, Tryz.ntmps94
 go_wp2_with (first | ((with_reducible refine bQ (b := .append) (xs := #[.tmp 6, .tmp 9]) rfl ?_); at_builtin; refine kZ (w0 := w) B1 rfl (.tmp 6) (.tmp 9) 103 67 _ 6 80 2 rfl Tryz.underlying103 Ci rfl (by decide) (by decide) v (ps.length * 2) (ps.flatMap (fun p => p.1.c6 ++ p.2.c6)) (kr.c6 ++ vr.c6) rfl rfl rfl ?a1 ?aO ?aB ?aS ?aL ?_; (case a1 => exact (fun u hu => (List.mem_append.1 hu).elim (CX kr u) (CX vr u))); (case aO => exact hown2.out); (case aB => exact hB1W.out); (case aS => have := hBW.out.size; omega); (case aL => omega); intro v1 w6 ho6 hb6 hg6; obtain ⟨g6, cap6, rfl, _, _⟩ := nP ho6 (by omega); have kO6 := zD hown.out kBo.out hBW.out hg6 (by decide); have co6 := (ah kO6 0).trans rfl; have fo6 := ak kO6 0; have k67 := ae.mk (fun (b : Nat) (cs : Array Value) (h1 : b < B1) (h2 : w.heap[b]? = some (.cells cs 67 (0, 0))) => gp (bI h2 hBW.out) hg6 (oO hown2.out h1)); replace kO6 := ae.mk kO6; replace ho6 := ae.mk ho6; replace hb6 := ae.mk hb6; clear hg6))
 go_ret
 exact ⟨rfl, uo (x := (kr, vr)) hK.out (eU hb6.out (Nat.le_of_lt (Nat.lt_of_le_of_lt hK.out.loO hK.out.hiO))) (by have h := ho6.out; first | exact h | (rw [Nat.mul_one] at h ⊢; exact h)) kO6.out k67.out⟩
structure TL (hi : Nat) (w : World) (kq p : Nat) (W : World) : Prop where
 kq : kq = hi - p
 lo : 1 ≤ p
 hi : p ≤ hi
 drw : aj w W
theorem lZ (s : ByteArray) : s.extract 0 s.size = s := by simp
theorem mW (w : World) (s : ByteArray) (hs : s.size ≤ 65536) (m : Nat) (h1 : 1 ≤ m) (hm : m ≤ s.size) (hall : ∀ j : Nat, 1 ≤ j → j < m → 97 ≤ bt s j ∧ bt s j ≤ 122) (hend : bt s m < 97 ∨ 122 < bt s m) :
 Calls Tryz.prog 70 #[.string s] w fun e w' => e = .returned (.string (s.extract 0 m)) ∧ Below w.heap.size w w' := by
 have sl1 : ((0 : Int) ≤ (m : Int)) = True := eq_true (by omega)
 have sl2 : ((m : Int) ≤ (s.size : Int)) = True := eq_true (by omega)
 replace hall := ae.mk hall
 replace hend := ae.mk hend
 go_enter Tryz.func70, Tryz.ntmps70
 go_wp2_with (fail)
 go_loopg [3] (m - 1) (fun kq v3 W => ∃ p : Nat, v3 = .int .i64 p ∧ ae (TL m w kq p W))
 case atStart => exact ⟨1, rfl, ⟨⟨rfl, Nat.le_refl _, h1, ⟨0, rfl⟩⟩⟩⟩
 case round =>
  obtain ⟨p, rfl, hL⟩ := hrel
  obtain ⟨hkq, hp1, hpm, hd⟩ := hL.out
  clear hL
  replace hkq := ae.mk hkq
  replace hd := ae.mk hd
  by_cases hps : p < s.size
  ·have j0 : ((0 : Int) ≤ (p : Int)) = True := eq_true (by omega)
   have j1 : ((p : Int) < (s.size : Int)) = True := eq_true (by omega)
   have j2 : (p < s.size) = True := eq_true hps
   have j3 : decide ((p : Int) < (s.size : Int)) = true := decide_eq_true (by omega)
   have t0 : ((s[p]'hps).toNat : Int) = bt s p := by simpa using bU s p (by simpa using hps)
   by_cases hpe : p = m
   ·subst hpe
    have he := hend.out
    generalize bt s p = c at *
    rcases he with he | he
    ·have e1 : decide (c < 97) = true := decide_eq_true he
     go_wp2_with (fail)
     go_ret
     exact ⟨rfl, hd.out.below⟩
    ·have e1 : decide (c < 97) = false := decide_eq_false (by omega)
     have e2 : decide (122 < c) = true := decide_eq_true he
     go_wp2_with (fail)
     go_ret
     exact ⟨rfl, hd.out.below⟩
   ·have ha := hall.out p hp1 (by omega)
    generalize bt s p = c at *
    have e1 : decide (c < 97) = false := decide_eq_false (by omega)
    have e2 : decide (122 < c) = false := decide_eq_false (by omega)
    clear ha
    go_wp2_with (fail)
    go_roundg (m - (p + 1))
    case measure => have := hkq.out; omega
    case rel => exact ⟨p + 1, by first | rfl | (congr 1; omega), ⟨⟨rfl, by omega, by omega, hd.out⟩⟩⟩
  ·have hpm2 : p = m := by omega
   have hms : m = s.size := by omega
   have j3 : decide ((p : Int) < (s.size : Int)) = false := decide_eq_false (by omega)
   have j4 : decide (p < s.size) = false := decide_eq_false (by omega)
   replace hpm2 := ae.mk hpm2
   replace hms := ae.mk hms
   go_wp2_with (fail)
   go_ret
   exact ⟨by rw [hms.out, lZ]; rfl, hd.out.below⟩
theorem wU (w : World) (B : Nat) (s : ByteArray) (hs : s.size ≤ 65536) (m : Nat) (h1 : 1 ≤ m) (hm : m ≤ s.size) (hsp : gB s jS 0 m) (hend : m = s.size ∨ bt s m ≤ 32 ∨ bt s m = 44 ∨ bt s m = 93 ∨ bt s m = 125) (hT : Tabs B w) :
 Calls Tryz.prog 69 #[.string s] w fun e w' => (∃ b, e = .returned (.tuple #[.string (s.extract 0 m), .float .f64 b])) ∧ Below w.heap.size w w' := by
 have sl1 : ((0 : Int) ≤ (m : Int)) = True := eq_true (by omega)
 have sl2 : ((m : Int) ≤ (s.size : Int)) = True := eq_true (by omega)
 have hns := wZ hsp hm
 have hxs : (s.extract 0 m).size ≤ 1000000 := by rw [ByteArray.size_extract]; omega
 have hpf : ∀ W, aj w W → Calls Tryz.prog 87 #[.string (s.extract 0 m), .int .i64 64] W fun e w' => BF e ∧ Below w.heap.size w w' := fun W h =>
  (sK W B (s.extract 0 m) hxs hns (hT.below (eU h.below hT.size))).mono (fun e w' hh => ⟨hh.1, bZ h.below hh.2⟩)
 have hall : ∀ j : Nat, 1 ≤ j → j < m → jS (bt s j) := fun j _ h => hsp.all j (by omega) h
 replace hsp := ae.mk hsp
 replace hall := ae.mk hall
 replace hend := ae.mk hend
 replace hT := ae.mk hT
 replace hns := ae.mk hns
 replace hxs := ae.mk hxs
 go_enter Tryz.func69, Tryz.ntmps69
 go_wp2_with (fail)
 go_loopg [4] (m - 1) (fun kq v4 W => ∃ p : Nat, v4 = .int .i64 p ∧ ae (TL m w kq p W))
 case atStart => exact ⟨1, rfl, ⟨⟨rfl, Nat.le_refl _, h1, ⟨0, rfl⟩⟩⟩⟩
 case round =>
  obtain ⟨p, rfl, hL⟩ := hrel
  obtain ⟨hkq, hp1, hpm, hd⟩ := hL.out
  clear hL
  have hpf2 := hpf _ hd
  replace hkq := ae.mk hkq
  replace hd := ae.mk hd
  replace hpf := ae.mk hpf
  by_cases hps : p < s.size
  ·have j0 : ((0 : Int) ≤ (p : Int)) = True := eq_true (by omega)
   have j1 : ((p : Int) < (s.size : Int)) = True := eq_true (by omega)
   have j2 : (p < s.size) = True := eq_true hps
   have j3 : decide ((p : Int) < (s.size : Int)) = true := decide_eq_true (by omega)
   have t0 : ((s[p]'hps).toNat : Int) = bt s p := by simpa using bU s p (by simpa using hps)
   by_cases hpe : p = m
   ·subst hpe
    have he := hend.out.resolve_left (by omega)
    generalize bt s p = c at *
    rcases (show c ≤ 32 ∨ c = 44 ∨ c = 93 ∨ c = 125 by omega) with hc | rfl | rfl | rfl
    all_goals
     try (have e1 : decide (c ≤ 45) = true := decide_eq_true (by omega))
     try (have e2 : decide (c ≤ 32) = true := decide_eq_true hc)
     clear he
     go_wp2_with (fail)
     refine hpf2.mono ?_
     rintro e w3 ⟨⟨b, ev, rfl⟩, hB3⟩
     replace hB3 := ae.mk hB3
     go_wp2_with (fail)
     go_ret2
     exact ⟨⟨b, rfl⟩, hB3.out⟩
   ·have ha := hall.out p hp1 (by omega)
    have hcc : bt s p = 43 ∨ bt s p = 45 ∨ bt s p = 46 ∨ bt s p = 101 ∨ bt s p = 69 ∨ (48 ≤ bt s p ∧ bt s p ≤ 57) := by unfold jS at ha; omega
    generalize bt s p = c at *
    replace ha := ae.mk True.intro
    rcases (show c = 43 ∨ c = 45 ∨ (¬ c ≤ 45 ∧ c ≠ 93 ∧ c ≠ 125) by omega) with rfl | rfl | ⟨hc1, hc2, hc3⟩
    all_goals
     try (have e1 : decide (c ≤ 45) = false := decide_eq_false hc1)
     try (have e2 : (c == 93) = false := beq_eq_false_iff_ne.mpr hc2)
     try (have e3 : (c == 125) = false := beq_eq_false_iff_ne.mpr hc3)
     clear hcc
     go_wp2_with (fail)
     go_roundg (m - (p + 1))
     case measure => have := hkq.out; omega
     case rel => exact ⟨p + 1, by first | rfl | (congr 1; omega), ⟨⟨rfl, by omega, by omega, hd.out⟩⟩⟩
  ·have hpm2 : p = m := by omega
   have hms : m = s.size := by omega
   have j3 : decide ((p : Int) < (s.size : Int)) = false := decide_eq_false (by omega)
   have j4 : decide (p < s.size) = false := decide_eq_false (by omega)
   have hx : s.extract 0 m = s := by rw [hms, lZ]
   rw [hx] at hpf2
   clear hpm2 hms
   replace hx := ae.mk hx
   go_wp2_with (fail)
   refine hpf2.mono ?_
   rintro e w3 ⟨⟨b, ev, rfl⟩, hB3⟩
   replace hB3 := ae.mk hB3
   go_wp2_with (fail)
   go_ret2
   exact ⟨⟨b, by rw [hx.out]; rfl⟩, hB3.out⟩
structure TS (s : ByteArray) (lo hi : Nat) (w : World) (kq p : Nat) (W : World) : Prop where
 kq : kq = hi - p
 lo : lo ≤ p
 hi : p ≤ hi
 drw : aj w W
theorem xO (w : World) (s : ByteArray) (hs : s.size ≤ 65536) (q : Nat) (h0 : bt s (0 : Nat) = 34) (hq : gG s 1 q) (v : ByteArray) (hv : Says s 1 q v) :
 Calls Tryz.prog 71 #[.string s] w fun e w' => e = .returned (.tuple #[.string (s.extract 0 (q + 1)), .string v]) ∧ Below w.heap.size w w' := by
 have hQ := hq.str.quo (Nat.le_refl 1) h0
 have hqb := hq.bound
 have hlt := hQ.lt
 have hle := hQ.le
 have hmark := hQ.mark
 have sl1 : ((0 : Int) ≤ (q : Int) + 1) = True := eq_true (by omega)
 have sl2 : ((q : Int) + 1 ≤ (s.size : Int)) = True := eq_true (by omega)
 have sl3 : ((1 : Int) ≤ (q : Int)) = True := eq_true (by omega)
 have sl4 : ((q : Int) ≤ (s.size : Int)) = True := eq_true (by omega)
 have sl5 : ((q : Int) + 1).toNat = q + 1 := by omega
 have sl6 : ae (IntKind.i64.wrap ((q : Int) + 1) = (q : Int) + 1) := ⟨IntWalk.i64_in _ (by omega)⟩
 have hun : ∀ W, Calls Tryz.prog 61 #[.string (s.extract 1 q)] W fun e w' => e = .returned (.string v) ∧ Below W.heap.size W w' := fun W => by
  obtain ⟨l, h1, rfl⟩ := hv.unq
  exact kW W (s.extract 1 q) l (by rw [ByteArray.size_extract]; omega) h1
 have hpl : (∀ j : Nat, 1 ≤ j → j < q → bt s j ≠ 92) → s.extract 1 q = v := fun h => (hv.plain (by omega) h).symm
 replace hQ := ae.mk hQ
 replace hq := ae.mk hq
 replace hv := ae.mk hv
 replace h0 := ae.mk h0
 replace hmark := ae.mk hmark
 go_enter Tryz.func71, Tryz.ntmps71
 go_wp2_with (fail)
 go_loopg [4] (q - 1) (fun kq v4 W => ∃ p : Nat, v4 = .int .i64 p ∧ ae (TS s 1 q w kq p W) ∧ ae (∀ j : Nat, 1 ≤ j → j < p → bt s j ≠ 92))
 case atStart => exact ⟨1, rfl, ⟨⟨rfl, Nat.le_refl _, by omega, ⟨0, rfl⟩⟩⟩, ⟨fun j h1 h2 => by omega⟩⟩
 case round =>
  obtain ⟨p, rfl, hL, hno⟩ := hrel
  obtain ⟨hkq, hp1, hpq, hd⟩ := hL.out
  have hps : p < s.size := by omega
  have j0 : ((0 : Int) ≤ (p : Int)) = True := eq_true (by omega)
  have j1 : ((p : Int) < (s.size : Int)) = True := eq_true (by omega)
  have j2 : (p < s.size) = True := eq_true hps
  have j3 : decide ((p : Int) < (s.size : Int)) = true := decide_eq_true (by omega)
  have t0 : ((s[p]'hps).toNat : Int) = bt s p := by simpa using bU s p (by simpa using hps)
  have hz : bt s p = 34 → p = q := fun h => hQ.out.same hp1 hpq h (by
   have : slashes s 1 p = 0 := by
    cases p with
    | zero => rfl
    | succ p => rw [slashes, if_neg (fun h => hno.out p h.1 (by omega) h.2)]
   rw [this])
  replace hkq := ae.mk hkq
  replace hd := ae.mk hd
  replace hL := ae.mk True.intro
  by_cases hpe : p = q
  ·subst hpe
   have hm := hmark.out
   have hvv := hpl hno.out
   clear hz hpl
   rw [hm] at t0
   go_wp2_with (fail)
   go_quiet (fail)
   go_wp2_with (fail)
   go_ret2
   exact ⟨by first | rfl | (rw [hvv]), (hd.out.step _).below⟩
  ·generalize hcc : bt s p = c at *
   have hcq : c ≠ 34 := fun h => hpe (hz h)
   clear hz hpl
   rcases (show 92 < c ∨ c = 92 ∨ (¬ 92 < c ∧ c ≠ 92) by omega) with hc | hc | ⟨hc, hc2⟩
   ·have e1 : decide (92 < c) = true := decide_eq_true hc
    replace hcc := ae.mk hcc
    go_wp2_with (fail)
    go_roundg (q - (p + 1))
    case measure => have := hkq.out; omega
    case rel => exact ⟨p + 1, by first | rfl | (congr 1; omega), ⟨⟨rfl, by omega, by omega, hd.out⟩⟩, ⟨fun j g1 g2 => by
     by_cases hj : j = p
     ·rw [hj, hcc.out]; omega
     ·exact hno.out j g1 (by omega)⟩⟩
   ·subst hc
    replace hcc := ae.mk hcc
    replace hno := ae.mk True.intro
    go_wp2_with (fail)
    go_loopg [4, 5, 6] (q - (p + 1)) (fun kq v4 v5 v6 W => ∃ i : Nat, v4 = .int .i64 i ∧ ae (TS s (p + 1) q w kq i W))
    case atStart => exact ⟨p + 1, by first | rfl | (congr 1; omega), ⟨⟨rfl, Nat.le_refl _, by omega, hd.out⟩⟩⟩
    case round =>
     obtain ⟨i, rfl, hL⟩ := hrel
     obtain ⟨hkq2, hip, hiq, hd2⟩ := hL.out
     clear j0 j1 j2 j3 t0
     have his : i < s.size := by omega
     have j0 : ((0 : Int) ≤ (i : Int)) = True := eq_true (by omega)
     have j1 : ((i : Int) < (s.size : Int)) = True := eq_true (by omega)
     have j2 : (i < s.size) = True := eq_true his
     have j3 : decide ((i : Int) < (s.size : Int)) = true := decide_eq_true (by omega)
     have t0 : ((s[i]'his).toNat : Int) = bt s i := by simpa using bU s i (by simpa using his)
     replace hkq2 := ae.mk hkq2
     replace hd2 := ae.mk hd2
     replace hL := ae.mk True.intro
     have hm := hmark.out
     have hi1 : i - 1 < s.size := by omega
     have ht : ((i : Int) - 1).toNat = i - 1 := by omega
     have k0 : ((0 : Int) ≤ (i : Int) - 1) = True := eq_true (by omega)
     have k1 : ((i : Int) - 1 < (s.size : Int)) = True := eq_true (by omega)
     have k2 : (i - 1 < s.size) = True := eq_true hi1
     have t1 : ((s[i - 1]'hi1).toNat : Int) = bt s ((i - 1 : Nat) : Int) := by simpa using bU s ((i - 1 : Nat) : Int) (by simpa using hi1)
     have hsl : slashes s 1 i = if bt s ((i - 1 : Nat) : Int) = 92 then slashes s 1 (i - 1) + 1 else 0 := by
      obtain ⟨i', rfl⟩ : ∃ i', i = i' + 1 := ⟨i - 1, by omega⟩
      rw [Nat.add_sub_cancel, slashes]
      by_cases h : bt s (i' : Nat) = 92
      ·rw [if_pos h, if_pos ⟨by omega, h⟩]
      ·rw [if_neg h, if_neg (fun hh => h hh.2)]
     by_cases hci : bt s i = 34
     ·have hodd : i ≠ q → slashes s 1 i % 2 = 1 := fun h => hQ.out.odd i (by omega) (by omega) hci
      have hsame : slashes s 1 i % 2 = 0 → i = q := fun h => hQ.out.same (by omega) hiq hci h
      have heven := hQ.out.even
      rw [hci] at t0
      clear hm
      by_cases hb : bt s ((i - 1 : Nat) : Int) = 92
      ·rw [if_pos hb] at hsl
       rw [hb] at t1
       replace hci := ae.mk hci
       replace hb := ae.mk hb
       replace hsl := ae.mk hsl
       go_wp2_with (fail)
       go_loopg [5, 6] i (fun kq v5 v6 W => ∃ n j : Nat, v5 = .int .i64 n ∧ v6 = .int .i64 j ∧ ae (slashes s 1 (j + 1) + n = slashes s 1 (i - 1) ∧ j + 2 ≤ i ∧ kq = j + 2 ∧ aj w W))
       case atStart => exact ⟨0, i - 2, rfl, by first | rfl | (congr 1; omega), ⟨by rw [show i - 2 + 1 = i - 1 by omega]; rfl, by omega, by omega, hd2.out⟩⟩
       case round =>
        obtain ⟨n, j, rfl, rfl, hR⟩ := hrel
        obtain ⟨hR1, hR2, hR3, hR4⟩ := hR.out
        clear t0 t1 ht k0 k1 k2 j0 j1 j2 j3
        have hjs : j < s.size := by omega
        have g0 : ((0 : Int) ≤ (j : Int)) = True := eq_true (by omega)
        have g1 : ((j : Int) < (s.size : Int)) = True := eq_true (by omega)
        have g2 : (j < s.size) = True := eq_true hjs
        have t2 : ((s[j]'hjs).toNat : Int) = bt s j := by simpa using bU s j (by simpa using hjs)
        by_cases hgo : 0 < j ∧ bt s j = 92
        ·obtain ⟨hj0, hj9⟩ := hgo
         have f0 : decide ((0 : Int) < (j : Int)) = true := decide_eq_true (by omega)
         have f1 : decide (0 < j) = true := decide_eq_true hj0
         rw [hj9] at t2
         have hsj : slashes s 1 (j + 1) = slashes s 1 j + 1 := by rw [slashes, if_pos ⟨by omega, hj9⟩]
         have hnb : n ≤ s.size := by have := oQ s 1 (i - 1); omega
         replace hj9 := ae.mk hj9
         replace hsj := ae.mk hsj
         replace hR1 := ae.mk hR1
         replace hR4 := ae.mk hR4
         cases gk with
         | zero => exact absurd hR3 (by omega)
         | succ gk =>
         go_wp2_with (fail)
         go_roundg gk
         case measure => omega
         case rel => exact ⟨n + 1, j - 1, by first | rfl | (congr 1; omega), by first | rfl | (congr 1; omega), ⟨by rw [show j - 1 + 1 = j by omega]; have := hR1.out; have := hsj.out; omega, by omega, by omega, hR4.out⟩⟩
        ·have hsj : slashes s 1 (j + 1) = 0 := by rw [slashes, if_neg (fun h => hgo ⟨by omega, h.2⟩)]
         have hn : slashes s 1 i = n + 1 := by have := hsl.out; omega
         have hnb : n ≤ s.size := by have := oQ s 1 (i - 1); omega
         have hmod : Int.tmod (n : Int) 2 = ((n % 2 : Nat) : Int) := by rw [Int.tmod_eq_emod_of_nonneg (by omega)]; omega
         replace hsj := ae.mk hsj
         replace hR1 := ae.mk hR1
         replace hR4 := ae.mk hR4
         replace hn := ae.mk hn
         rcases (show j = 0 ∨ 0 < j ∧ bt s j ≠ 92 by omega) with rfl | ⟨hj0, hj9⟩
         all_goals
          try (have f0 : decide ((0 : Int) < (j : Int)) = true := decide_eq_true (by omega))
          try (have f1 : decide (0 < j) = true := decide_eq_true hj0)
          try (generalize bt s j = b at *; have f2 : (b != 92) = true := bne_iff_ne.mpr hj9)
          try (replace hj9 := ae.mk hj9)
          rcases Nat.mod_two_eq_zero_or_one n with hev | hev
          ·have hm2 : Int.tmod (n : Int) 2 = 0 := by rw [hmod, hev]; rfl
           have hne : i ≠ q := fun h => by have h1 := heven; rw [← h, hn.out] at h1; omega
           clear hmod hodd hsame heven
           go_wp2_with (fail)
           go_roundg (q - (i + 1))
           case measure => have := hkq2.out; omega
           case rel => exact ⟨i + 1, by first | rfl | (congr 1; omega), ⟨⟨rfl, by omega, by omega, hR4.out⟩⟩⟩
          ·have hm2 : Int.tmod (n : Int) 2 = 1 := by rw [hmod, hev]; rfl
           obtain rfl := hsame (by rw [hn.out]; omega)
           clear hmod hodd heven
           replace hsame := ae.mk True.intro
           go_wp2_with (fail)
           replace sl6 := sl6.out
           go_region_with (first | (go_at_call 61; refine (hun _).mono ?_; rintro e w3 ⟨rfl, hB3⟩; replace hB3 := ae.mk hB3))
           all_goals (try go_wp2_with (fail))
           all_goals go_ret2
           all_goals exact ⟨rfl, bZ (dC hR4.out.below) hB3.out⟩
      ·rw [if_neg hb] at hsl
       obtain rfl := hsame (by rw [hsl])
       generalize bt s ((i - 1 : Nat) : Int) = b at *
       have e1 : (b == 92) = false := beq_eq_false_iff_ne.mpr hb
       replace hci := ae.mk hci
       replace hb := ae.mk hb
       replace hsl := ae.mk hsl
       clear hodd hsame heven
       go_wp2_with (fail)
       replace sl6 := sl6.out
       go_region_with (first | (go_at_call 61; refine (hun _).mono ?_; rintro e w3 ⟨rfl, hB3⟩; replace hB3 := ae.mk hB3))
       all_goals (try go_wp2_with (fail))
       all_goals go_ret2
       all_goals exact ⟨rfl, bZ (dC hd2.out.below) hB3.out⟩
     ·generalize hcj : bt s i = c at *
      have hiq2 : i ≠ q := fun h => hci (by rw [← hcj, h]; exact hm)
      replace hcj := ae.mk hcj
      clear hm hsl ht k0 k1 k2 t1
      have e2 : (c == 34) = false := beq_eq_false_iff_ne.mpr hci
      by_cases hc9 : 92 < c
      ·have e1 : decide (92 < c) = true := decide_eq_true hc9
       go_wp2_with (fail)
       go_roundg (q - (i + 1))
       case measure => have := hkq2.out; omega
       case rel => exact ⟨i + 1, by first | rfl | (congr 1; omega), ⟨⟨rfl, by omega, by omega, hd2.out⟩⟩⟩
      ·have e1 : decide (92 < c) = false := decide_eq_false hc9
       go_wp2_with (fail)
       go_roundg (q - (i + 1))
       case measure => have := hkq2.out; omega
       case rel => exact ⟨i + 1, by first | rfl | (congr 1; omega), ⟨⟨rfl, by omega, by omega, hd2.out⟩⟩⟩
   ·have e1 : decide (92 < c) = false := decide_eq_false hc
    have e2 : (c == 34) = false := beq_eq_false_iff_ne.mpr hcq
    have e3 : (c == 92) = false := beq_eq_false_iff_ne.mpr hc2
    replace hcc := ae.mk hcc
    go_wp2_with (fail)
    go_roundg (q - (p + 1))
    case measure => have := hkq.out; omega
    case rel => exact ⟨p + 1, by first | rfl | (congr 1; omega), ⟨⟨rfl, by omega, by omega, hd.out⟩⟩, ⟨fun j g1 g2 => by
     by_cases hj : j = p
     ·rw [hj, hcc.out]; omega
     ·exact hno.out j g1 (by omega)⟩⟩
end Go.Proofs.YtpgfjbimodnkeaaGreatDoor.Dec
namespace Go.Proofs.YtpgfjbimodnkeaaGreatDoor.Q
open Go.RowKit Go.Proofs.YtpgfjbimodnkeaaGreatDoorW.PrintWords Go.Proofs.YtpgfjbimodnkeaaGreatDoorW.PrintLast Go.Proofs.YtpgfjbimodnkeaaGreatDoorW.PrintMore
attribute [local go_sem] dH dI dW dY dm dw dK dL
def iJ.f (a0_0 : Int) (a0_1 : ByteArray) (a0_2 : ByteArray) (a0_3 : Nat) (a0_4 : Int) (l0_5 : List Int) : Option (Bool) := if a0_0 = 0 then (some ((a0_1.size : Int) != 0)) else (some true)
theorem iJ.calls (a0_0 : Int) (a0_1 : ByteArray) (a0_2 : ByteArray) (a0_3 : Nat) (a0_4 : Int) (A0_5 : Option Addr) (c0_5 : Nat) (l0_5 : List Int) (r : Bool) (w : World) (hr0_5 : Kd.C (Kd.int .i64) w A0_5 l0_5.length l0_5) (hc0_5 : l0_5.length ≤ c0_5) (h : iJ.f a0_0 a0_1 a0_2 a0_3 a0_4 l0_5 = some r) :
 Calls Tryz.prog 59 #[.agg #[.int .i64 a0_0, .string a0_1, .string a0_2, .float .f64 a0_3, .int .i64 a0_4, .slice A0_5 l0_5.length c0_5]] w fun e w' => e = .returned (.bool r) ∧ Below w.heap.size w w' := by
 have hu67 := Tryz.underlying67
 have HR0_5 := ae.mk hr0_5
 have HC0_5 := ae.mk hc0_5
 clear hr0_5 hc0_5
 have HB := ae.mk (Below.refl w.heap.size w)
 have H : (if a0_0 = 0 then (some ((a0_1.size : Int) != 0)) else (some true)) = some r := h
 clear h
 by_cases c2 : a0_0 = 0
 ·rw [if_pos c2] at H
  have c2b0 : (a0_0 == 0) = true := beq_iff_eq.mpr c2
  have c2b1 : (a0_0 != 0) = false := bne_eq_false_iff_eq.mpr c2
  clear c2
  obtain rfl := Option.some.inj H
  go_enter Tryz.func59, Tryz.ntmps59
  go_wp2_with (first | ((with_reducible refine gJ (N := 1) rfl ?_); (try (refine ru (by rfl) ?_; dsimp only)); refine je ?hg (N := 1) ?hd (cs := #[.int .i64 a0_0, .string a0_1, .string a0_2, .float .f64 a0_3, .int .i64 a0_4, .slice A0_5 l0_5.length c0_5]) (t := 67) ?hr ?_; (case hd => rfl); (case hg => rfl); (case hr => first | (go_simp; done) | (go_simp; rfl)); intro gb408 hg w3 hbox hb; have n0_ := ae.mk (bZ (by repeat (first | (with_reducible first | exact HB.out | apply ai | apply ag | apply au) | exact HB.out)) hb); have n1_ := ae.mk (hbox); have n2_ := ae.mk ((by rw [hg]; exact (cO (by repeat (first | (with_reducible first | exact HB.out | apply ai | apply ag | apply au) | exact HB.out))) : w.heap.size ≤ gb408)); have n3_ := ae.mk ((by rw [hg]; exact (cO (by repeat (first | (with_reducible first | exact HB.out | apply ai | apply ag | apply au) | exact HB.out))) : w.heap.size ≤ gb408)); clear HB; have HB := n0_; have BK408 := n1_; have GW408 := n2_; have GE408 := n3_; clear n0_ n1_ n2_ n3_; clear hb hbox hg; have hcz4_0 : w3.cell? ⟨gb408, 0, none⟩ = some (.int .i64 a0_0) := (ah BK408.out 0).trans rfl; have hcz4_1 : w3.cell? ⟨gb408, 1, none⟩ = some (.string a0_1) := (ah BK408.out 1).trans rfl; have hcz4_2 : w3.cell? ⟨gb408, 2, none⟩ = some (.string a0_2) := (ah BK408.out 2).trans rfl; have hcz4_3 : w3.cell? ⟨gb408, 3, none⟩ = some (.float .f64 a0_3) := (ah BK408.out 3).trans rfl; have hcz4_4 : w3.cell? ⟨gb408, 4, none⟩ = some (.int .i64 a0_4) := (ah BK408.out 4).trans rfl; have hcz4_5 : w3.cell? ⟨gb408, 5, none⟩ = some (.slice A0_5 l0_5.length c0_5) := (ah BK408.out 5).trans rfl; have hfz4_0 := ak BK408.out 0; have hfz4_1 := ak BK408.out 1; have hfz4_2 := ak BK408.out 2; have hfz4_3 := ak BK408.out 3; have hfz4_4 := ak BK408.out 4; have hfz4_5 := ak BK408.out 5))
  go_ret
  exact ⟨by first | rfl | (simp [bg, bn] <;> rfl) | (simp [*, bg, bn] <;> rfl), by repeat (first | (with_reducible first | exact HB.out | apply ai | apply ag | apply au | refine aA ?_ GE408.out) | exact HB.out)⟩
 ·rw [if_neg c2] at H
  have c2b0 : (a0_0 == 0) = false := beq_eq_false_iff_ne.mpr c2
  have c2b1 : (a0_0 != 0) = true := bne_iff_ne.mpr c2
  obtain rfl := Option.some.inj H
  go_enter Tryz.func59, Tryz.ntmps59
  go_wp2_with (first | ((with_reducible refine gJ (N := 1) rfl ?_); (try (refine ru (by rfl) ?_; dsimp only)); refine je ?hg (N := 1) ?hd (cs := #[.int .i64 a0_0, .string a0_1, .string a0_2, .float .f64 a0_3, .int .i64 a0_4, .slice A0_5 l0_5.length c0_5]) (t := 67) ?hr ?_; (case hd => rfl); (case hg => rfl); (case hr => first | (go_simp; done) | (go_simp; rfl)); intro gb408 hg w5 hbox hb; have n0_ := ae.mk (bZ (by repeat (first | (with_reducible first | exact HB.out | apply ai | apply ag | apply au) | exact HB.out)) hb); have n1_ := ae.mk (hbox); have n2_ := ae.mk ((by rw [hg]; exact (cO (by repeat (first | (with_reducible first | exact HB.out | apply ai | apply ag | apply au) | exact HB.out))) : w.heap.size ≤ gb408)); have n3_ := ae.mk ((by rw [hg]; exact (cO (by repeat (first | (with_reducible first | exact HB.out | apply ai | apply ag | apply au) | exact HB.out))) : w.heap.size ≤ gb408)); clear HB; have HB := n0_; have BK408 := n1_; have GW408 := n2_; have GE408 := n3_; clear n0_ n1_ n2_ n3_; clear hb hbox hg; have hcz6_0 : w5.cell? ⟨gb408, 0, none⟩ = some (.int .i64 a0_0) := (ah BK408.out 0).trans rfl; have hcz6_1 : w5.cell? ⟨gb408, 1, none⟩ = some (.string a0_1) := (ah BK408.out 1).trans rfl; have hcz6_2 : w5.cell? ⟨gb408, 2, none⟩ = some (.string a0_2) := (ah BK408.out 2).trans rfl; have hcz6_3 : w5.cell? ⟨gb408, 3, none⟩ = some (.float .f64 a0_3) := (ah BK408.out 3).trans rfl; have hcz6_4 : w5.cell? ⟨gb408, 4, none⟩ = some (.int .i64 a0_4) := (ah BK408.out 4).trans rfl; have hcz6_5 : w5.cell? ⟨gb408, 5, none⟩ = some (.slice A0_5 l0_5.length c0_5) := (ah BK408.out 5).trans rfl; have hfz6_0 := ak BK408.out 0; have hfz6_1 := ak BK408.out 1; have hfz6_2 := ak BK408.out 2; have hfz6_3 := ak BK408.out 3; have hfz6_4 := ak BK408.out 4; have hfz6_5 := ak BK408.out 5))
  go_ret
  exact ⟨by first | rfl | (simp [bg, bn] <;> rfl) | (simp [*, bg, bn] <;> rfl), by repeat (first | (with_reducible first | exact HB.out | apply ai | apply ag | apply au | refine aA ?_ GE408.out) | exact HB.out)⟩
end Go.Proofs.YtpgfjbimodnkeaaGreatDoor.Q
