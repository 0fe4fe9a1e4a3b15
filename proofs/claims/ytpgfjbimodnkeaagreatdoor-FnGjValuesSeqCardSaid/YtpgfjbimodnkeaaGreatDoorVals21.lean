/- FnGjValuesSeq: whatever text and stop come in, the law returns true and both read afterwards as before; with the package-level variables that its row lists as the program's own text lays them (part 21 of 27: lemmas for its last part) -/
import Derived.Test.YtpgfjbimodnkeaaGreatDoorVals18
import Derived.Test.YtpgfjbimodnkeaaGreatDoorVals20
set_option linter.unusedVariables false
set_option linter.unusedSimpArgs false
namespace Go.Proofs.YtpgfjbimodnkeaaGreatDoor.Scan
open Go Go.RowKit Go.Proofs.YtpgfjbimodnkeaaGreatDoorW.PrintWords Go.Proofs.YtpgfjbimodnkeaaGreatDoor.Q Go.Proofs.YtpgfjbimodnkeaaGreatDoor.Dec
section
variable {s : ByteArray} {a q : Nat}
theorem ps_end (hS : s.size ≤ 65536) (h : Quo s a q) (p : Nat) (ve : Bool) (hpq : p = q) : (if 0 ≤ (wrap64 ((a : Int) - 1)) then (if (wrap64 ((a : Int) - 1)) ≤ (wrap64 ((p : Int) + 1)) then (if (wrap64 ((p : Int) + 1)) ≤ (s.size : Int) then (some (wrap64 ((p : Int) + 1), s.extract ((wrap64 ((a : Int) - 1)) : Int).toNat ((wrap64 ((p : Int) + 1)) : Int).toNat, ve, true)) else (none)) else (none)) else (none))
 = some (((q + 1 : Nat) : Int), s.extract (a - 1) (q + 1), ve, true) := by
 subst hpq
 have h1 := h.one
 have h2 := h.le
 have h3 := h.lt
 rw [wrap_nat (i := (a : Int) - 1) (a - 1) (by omega) (by omega), wrap_nat (i := (p : Int) + 1) (p + 1) (by omega) (by omega), if_pos (by omega), if_pos (by omega), if_pos (by omega), Int.toNat_natCast, Int.toNat_natCast]
theorem ps_l2 (hS : s.size ≤ 65536) (h : Quo s a q) (p : Nat) (h1 : a < p) (h2 : p ≤ q) (hm : bt s p = 34) (hb : slashes s a p = slashes s a (p - 1) + 1)
 (hl1 : p < q → Evt (fun k => gjson_parseString.l1 k s ((p + 1 : Nat) : Int) a) (((q + 1 : Nat) : Int), s.extract (a - 1) (q + 1), true, true)) :
 ∀ (j n : Nat), j < p → a ≤ j + 1 → slashes s a (j + 1) + n = slashes s a (p - 1) → Evt (fun k => gjson_parseString.l2 k s p a n j) (((q + 1 : Nat) : Int), s.extract (a - 1) (q + 1), true, true) := by
 have h3 := h.lt
 have fin : ∀ n : Nat, n = slashes s a (p - 1) → Evt (fun k => (if (Int.tmod (n : Int) 2) = 0 then (gjson_parseString.l1 k s (wrap64 ((p : Int) + 1)) a) else (if 0 ≤ (wrap64 ((a : Int) - 1)) then (if (wrap64 ((a : Int) - 1)) ≤ (wrap64 ((p : Int) + 1)) then (if (wrap64 ((p : Int) + 1)) ≤ (s.size : Int) then (some (wrap64 ((p : Int) + 1), s.extract ((wrap64 ((a : Int) - 1)) : Int).toNat ((wrap64 ((p : Int) + 1)) : Int).toNat, true, true)) else (none)) else (none)) else (none)))) (((q + 1 : Nat) : Int), s.extract (a - 1) (q + 1), true, true) := by
  intro n hn
  have htm : Int.tmod (n : Int) 2 = ((n % 2 : Nat) : Int) := by rw [Int.tmod_eq_emod_of_nonneg (by omega)]; omega
  rw [htm]
  by_cases hp : n % 2 = 0
  ·have hlt : p < q := by
    rcases Nat.lt_or_ge p q with hl | hl
    ·exact hl
    ·have : p = q := by omega
     subst this
     have := h.even; omega
   refine Evt.pos (by omega) ?_
   rw [wrap_nat (i := (p : Int) + 1) (p + 1) (by omega) (by omega)]
   exact hl1 hlt
  ·exact Evt.neg (by omega) (Evt.of (ps_end hS h p true (h.same (by omega) h2 hm (by omega))))
 intro j
 induction j with
 | zero =>
   intro n h4 h5 h6
   have hs1 : slashes s a (0 + 1) = 0 := slashes_zero s a 1 (by have := h.one; omega)
   refine Evt.succ ?_
   simp only [gjson_parseString.l2]
   exact Evt.neg (by omega) (fin n (by omega))
 | succ j ih =>
   intro n h4 h5 h6
   refine Evt.succ ?_
   simp only [gjson_parseString.l2]
   refine Evt.pos (by omega) (Evt.pos (by omega) (Evt.pos (by omega) ?_))
   by_cases hc : bt s ((j + 1 : Nat) : Int) = 92
   ·refine Evt.pos hc ?_
    have ha : a ≤ j + 1 := by
     rcases Nat.lt_or_ge (j + 1) a with hl | hl
     ·have : j + 1 = a - 1 := by omega
      rw [this] at hc
      have := h.open_
      omega
     ·exact hl
    rw [slashes, if_pos ⟨ha, hc⟩] at h6
    have := ih (n + 1) (by omega) ha (by omega)
    rw [wrap_nat (i := (n : Int) + 1) (n + 1) (by omega) (by have := slashes_le s a (p - 1); omega), wrap_nat (i := ((j + 1 : Nat) : Int) - 1) j (by omega) (by omega)]
    exact this
   ·refine Evt.neg hc (fin n ?_)
    rw [slashes, if_neg (fun hh => hc hh.2)] at h6
    omega
theorem ps_l1 (hS : s.size ≤ 65536) (h : Quo s a q) (n : Nat) : ∀ p : Nat, q - p = n → a < p → p ≤ q → Evt (fun k => gjson_parseString.l1 k s p a) (((q + 1 : Nat) : Int), s.extract (a - 1) (q + 1), true, true) := by
 have h3 := h.lt
 have hq := h.mark
 induction n with
 | zero =>
   intro p hn h1 h2
   obtain rfl : p = q := by omega
   refine Evt.succ ?_
   simp only [gjson_parseString.l1]
   refine Evt.pos (by omega) (Evt.pos (by omega) (Evt.neg (by omega) (Evt.pos hq ?_)))
   rw [wrap_nat (i := (p : Int) - 1) (p - 1) (by omega) (by omega)]
   refine Evt.pos (by omega) (Evt.pos (by omega) ?_)
   by_cases hb : bt s ((p - 1 : Nat) : Int) = 92
   ·refine Evt.pos hb ?_
    have hs : slashes s a p = slashes s a (p - 1) + 1 := by
     obtain ⟨m, rfl⟩ : ∃ m, p = m + 1 := ⟨p - 1, by omega⟩
     rw [slashes, if_pos ⟨by omega, hb⟩]; rfl
    have hev := h.even
    have ha2 : a + 1 < p := by
     rcases Nat.lt_or_ge (a + 1) p with hl | hl
     ·exact hl
     ·have : p - 1 = a := by omega
      rw [this, slashes_zero s a a (Nat.le_refl a)] at hs
      omega
    rw [wrap_nat (i := (p : Int) - 2) (p - 2) (by omega) (by omega)]
    exact ps_l2 hS h p h1 h2 hq hs (fun hl => absurd hl (by omega)) (p - 2) 0 (by omega) (by omega) (by rw [show p - 2 + 1 = p - 1 by omega]; omega)
   ·exact Evt.neg hb (Evt.of (ps_end hS h p true rfl))
 | succ n ih =>
   intro p hn h1 h2
   refine Evt.succ ?_
   simp only [gjson_parseString.l1]
   refine Evt.pos (by omega) (Evt.pos (by omega) ?_)
   have nxt := ih (p + 1) (by omega) (by omega) (by omega)
   have w1 : wrap64 ((p : Int) + 1) = ((p + 1 : Nat) : Int) := wrap_nat _ (by omega) (by omega)
   by_cases c0 : bt s p > 92
   ·refine Evt.pos c0 ?_
    rw [w1]; exact nxt
   refine Evt.neg c0 ?_
   by_cases c1 : bt s p = 34
   ·have hod := h.odd p (by omega) (by omega) c1
    obtain ⟨_, hb, hs⟩ := slashes_prev (show slashes s a p ≠ 0 by omega)
    refine Evt.pos c1 ?_
    rw [wrap_nat (i := (p : Int) - 1) (p - 1) (by omega) (by omega)]
    refine Evt.pos (by omega) (Evt.pos (by omega) (Evt.pos hb ?_))
    rw [wrap_id (i := (p : Int) - 2) (by omega) (by omega)]
    have hpa := h.one
    have := ps_l2 hS h p h1 h2 c1 hs (fun _ => nxt) (p - 2) 0 (by omega) (by omega) (by rw [show p - 2 + 1 = p - 1 by omega]; omega)
    rwa [show ((p - 2 : Nat) : Int) = (p : Int) - 2 by omega] at this
   ·refine Evt.neg c1 ?_
    rw [w1]; exact nxt
theorem ps_l0 (hS : s.size ≤ 65536) (h : Quo s a q) (n : Nat) : ∀ p : Nat, q - p = n → a ≤ p → p ≤ q → (∀ j : Nat, a ≤ j → j < p → bt s j ≠ 92) →
 ∃ ve : Bool, Evt (fun k => gjson_parseString.l0 k s p a) (((q + 1 : Nat) : Int), s.extract (a - 1) (q + 1), ve, true) ∧ (ve = false → ∀ j : Nat, a ≤ j → j < q → bt s j ≠ 92) := by
 have h3 := h.lt
 have hq := h.mark
 induction n with
 | zero =>
   intro p hn h1 h2 hno
   obtain rfl : p = q := by omega
   refine ⟨false, Evt.succ ?_, fun _ => hno⟩
   simp only [gjson_parseString.l0]
   exact Evt.pos (by omega) (Evt.pos (by omega) (Evt.neg (by omega) (Evt.pos hq (Evt.of (ps_end hS h p false rfl)))))
 | succ n ih =>
   intro p hn h1 h2 hno
   have w1 : wrap64 ((p : Int) + 1) = ((p + 1 : Nat) : Int) := wrap_nat _ (by omega) (by omega)
   by_cases c2 : bt s p = 92
   ·refine ⟨true, Evt.succ ?_, fun hh => by cases hh⟩
    simp only [gjson_parseString.l0]
    refine Evt.pos (by omega) (Evt.pos (by omega) (Evt.neg (by omega) (Evt.neg (by omega) (Evt.pos c2 ?_))))
    rw [w1]
    exact ps_l1 hS h _ (p + 1) rfl (by omega) (by omega)
   ·obtain ⟨ve, g1, g2⟩ := ih (p + 1) (by omega) (by omega) (by omega) (fun j k1 k2 => if hj : j = p then hj ▸ c2 else hno j k1 (by omega))
    refine ⟨ve, Evt.succ ?_, g2⟩
    simp only [gjson_parseString.l0]
    refine Evt.pos (by omega) (Evt.pos (by omega) ?_)
    rw [w1]
    by_cases c0 : bt s p > 92
    ·exact Evt.pos c0 g1
    refine Evt.neg c0 ?_
    by_cases c1 : bt s p = 34
    ·have hod := h.odd p h1 (by omega) c1
     obtain ⟨hb1, hb, _⟩ := slashes_prev (show slashes s a p ≠ 0 by omega)
     exact absurd hb (hno (p - 1) (by omega) (by omega))
    ·exact Evt.neg c1 (Evt.neg c2 g1)
theorem parse_string (hS : s.size ≤ 65536) (h : Quo s a q) : ∃ ve : Bool, Evt (fun k => gjson_parseString.f k s a) (((q + 1 : Nat) : Int), s.extract (a - 1) (q + 1), ve, true) ∧ (ve = false → ∀ j : Nat, a ≤ j → j < q → bt s j ≠ 92) := by
 unfold gjson_parseString.f
 exact ps_l0 hS h _ a rfl (Nat.le_refl a) h.le (fun j h1 h2 => by omega)
end
def After (s : ByteArray) (e : Nat) : Prop := e = s.size ∨ (e < s.size ∧ (blank (bt s e) ∨ bt s e = 44 ∨ bt s e = 93 ∨ bt s e = 125))
theorem pn_l0 {s : ByteArray} (hS : s.size ≤ 65536) {i e : Nat} (hsp : Span s NumC i e) (he : e ≤ s.size) (hA : After s e) (n : Nat) : ∀ p : Nat, e - p = n → i ≤ p → p ≤ e → Evt (fun k => gjson_parseNumber.l0 k s p i) ((e : Int), s.extract i e) := by
 induction n with
 | zero =>
   intro p hn h1 h2
   obtain rfl : p = e := by omega
   refine Evt.succ ?_
   simp only [gjson_parseNumber.l0]
   have fin : (if 0 ≤ (i : Int) then (if (i : Int) ≤ (p : Int) then (if (p : Int) ≤ (s.size : Int) then (some ((p : Int), s.extract (i : Int).toNat (p : Int).toNat)) else (none)) else (none)) else (none)) = some ((p : Int), s.extract i p) := by
    rw [if_pos (by omega), if_pos (by omega), if_pos (by omega), Int.toNat_natCast, Int.toNat_natCast]
   rcases hA with hA | ⟨hlt, hA⟩
   ·refine Evt.neg (by omega) (Evt.pos (by omega) (Evt.pos (by omega) (Evt.of ?_)))
    rw [Int.toNat_natCast, hA]
   ·refine Evt.pos (by omega) (Evt.pos (by omega) ?_)
    by_cases c0 : bt s p ≤ 32
    ·exact Evt.pos c0 (Evt.of fin)
    refine Evt.neg c0 ?_
    by_cases c1 : bt s p = 44
    ·exact Evt.pos c1 (Evt.of fin)
    refine Evt.neg c1 ?_
    by_cases c2 : bt s p = 93
    ·exact Evt.pos c2 (Evt.of fin)
    refine Evt.neg c2 ?_
    have c3 : bt s p = 125 := by unfold blank at hA; omega
    exact Evt.pos c3 (Evt.of fin)
 | succ n ih =>
   intro p hn h1 h2
   have hc := hsp.all p h1 (by omega)
   have g := ih (p + 1) (by omega) (by omega) (by omega)
   refine Evt.succ ?_
   simp only [gjson_parseNumber.l0]
   rw [wrap_nat (i := (p : Int) + 1) (p + 1) (by omega) (by omega)]
   unfold NumC at hc
   exact Evt.pos (by omega) (Evt.pos (by omega) (Evt.neg (by omega) (Evt.neg (by omega) (Evt.neg (by omega) (Evt.neg (by omega) g)))))
theorem parse_number {s : ByteArray} (hS : s.size ≤ 65536) {i e : Nat} (hie : i < e) (hsp : Span s NumC i e) (he : e ≤ s.size) (hA : After s e) : Evt (fun k => gjson_parseNumber.f k s i) ((e : Int), s.extract i e) := by
 unfold gjson_parseNumber.f
 rw [wrap_nat (i := (i : Int) + 1) (i + 1) (by omega) (by omega)]
 exact pn_l0 hS hsp he hA _ (i + 1) rfl (by omega) (by omega)
theorem pl_l0 {s : ByteArray} (hS : s.size ≤ 65536) {i e : Nat} (hsp : Span s (fun c => 97 ≤ c ∧ c ≤ 122) i e) (he : e ≤ s.size) (hA : After s e) (n : Nat) : ∀ p : Nat, e - p = n → i ≤ p → p ≤ e → Evt (fun k => gjson_parseLiteral.l0 k s p i) ((e : Int), s.extract i e) := by
 induction n with
 | zero =>
   intro p hn h1 h2
   obtain rfl : p = e := by omega
   refine Evt.succ ?_
   simp only [gjson_parseLiteral.l0]
   have fin : (if 0 ≤ (i : Int) then (if (i : Int) ≤ (p : Int) then (if (p : Int) ≤ (s.size : Int) then (some ((p : Int), s.extract (i : Int).toNat (p : Int).toNat)) else (none)) else (none)) else (none)) = some ((p : Int), s.extract i p) := by
    rw [if_pos (by omega), if_pos (by omega), if_pos (by omega), Int.toNat_natCast, Int.toNat_natCast]
   rcases hA with hA | ⟨hlt, hA⟩
   ·refine Evt.neg (by omega) (Evt.pos (by omega) (Evt.pos (by omega) (Evt.of ?_)))
    rw [Int.toNat_natCast, hA]
   ·refine Evt.pos (by omega) (Evt.pos (by omega) ?_)
    by_cases c0 : bt s p < 97
    ·exact Evt.pos c0 (Evt.of fin)
    refine Evt.neg c0 ?_
    have c3 : bt s p > 122 := by unfold blank at hA; omega
    exact Evt.pos c3 (Evt.of fin)
 | succ n ih =>
   intro p hn h1 h2
   have hc := hsp.all p h1 (by omega)
   have g := ih (p + 1) (by omega) (by omega) (by omega)
   refine Evt.succ ?_
   simp only [gjson_parseLiteral.l0]
   rw [wrap_nat (i := (p : Int) + 1) (p + 1) (by omega) (by omega)]
   exact Evt.pos (by omega) (Evt.pos (by omega) (Evt.neg (by omega) (Evt.neg (by omega) g)))
theorem parse_literal {s : ByteArray} (hS : s.size ≤ 65536) {i : Nat} {w : ByteArray} (hw : Word s i w) (h0 : 0 < w.size) (hl : ∀ m : Nat, m < w.size → 97 ≤ bt w m ∧ bt w m ≤ 122) (hA : After s (i + w.size)) : Evt (fun k => gjson_parseLiteral.f k s i) (((i + w.size : Nat) : Int), s.extract i (i + w.size)) := by
 unfold gjson_parseLiteral.f
 have hle := hw.le
 rw [wrap_nat (i := (i : Int) + 1) (i + 1) (by omega) (by omega)]
 refine pl_l0 hS ⟨by omega, fun m h1 h2 => ?_⟩ hle hA _ (i + 1) rfl (by omega) (by omega)
 have := hw.at (m - i) (by omega)
 rw [show i + (m - i) = m by omega] at this
 rw [this]
 exact hl _ (by omega)
theorem Blanks.pass {s : ByteArray} {i j : Nat} (h : Blanks s i j) (hj : j ≤ s.size) : Pass s i j := by
 have hle := h.le
 have := Pass.many (s := s) (i := i) (j - i) (by omega) (fun k h1 h2 => by
  have := h.all k h1 (by omega)
  unfold blank at this
  unfold vch
  rw [if_neg (by omega), if_neg (by omega), if_neg (by omega)])
 rwa [show i + (j - i) = j by omega] at this
theorem Span.pass {s : ByteArray} {P : Int → Prop} {i j : Nat} (h : Span s P i j) (hj : j ≤ s.size) (hP : ∀ c, P c → vch c = 0) : Pass s i j := by
 have hle := h.le
 have := Pass.many (s := s) (i := i) (j - i) (by omega) (fun k h1 h2 => hP _ (h.all k h1 (by omega)))
 rwa [show i + (j - i) = j by omega] at this
theorem vch_num (c : Int) (h : NumC c) : vch c = 0 := by
 unfold NumC at h
 unfold vch
 rw [if_neg (by omega), if_neg (by omega), if_neg (by omega)]
theorem Word.span {s : ByteArray} {i : Nat} {w : ByteArray} (h : Word s i w) {P : Int → Prop} (hP : ∀ m : Nat, m < w.size → P (bt w m)) : Span s P i (i + w.size) := ⟨by omega, fun m h1 h2 => by
 have := h.at (m - i) (by omega)
 rw [show i + (m - i) = m by omega] at this
 rw [this]
 exact hP _ (by omega)⟩
theorem null_chars : ∀ m : Nat, m < wNull.size → 97 ≤ bt wNull m ∧ bt wNull m ≤ 122 := by decide
theorem false_chars : ∀ m : Nat, m < wFalse.size → 97 ≤ bt wFalse m ∧ bt wFalse m ≤ 122 := by decide
theorem true_chars : ∀ m : Nat, m < wTrue.size → 97 ≤ bt wTrue m ∧ bt wTrue m ≤ 122 := by decide
theorem vch_letter (c : Int) (h : 97 ≤ c ∧ c ≤ 122) : vch c = 0 := by
 unfold vch
 rw [if_neg (by omega), if_neg (by omega), if_neg (by omega)]
def ScanOk (s : ByteArray) : Md → Nat → Nat → Int → Prop
 | .val, i, e, kd => Pass s i e ∧ (5 ≤ kd → Sq s (i + 1) 1 e)
 | _, i, e, _ => ∃ j, e = j + 1 ∧ j < s.size ∧ vch (bt s j) = 1 ∧ Pass s i j
theorem QStr.pass {s : ByteArray} {i q : Nat} (h0 : i < s.size) (h1 : bt s i = 34) (h : QStr s (i + 1) q) : Pass s i (q + 1) :=
 Pass.quoted h0 h1 (h.str.quo (by omega) (by simpa using h1))
theorem J.scan {s : ByteArray} {md : Md} {i e : Nat} {kd : Int} {ns : List S44} {ks : List S32} (h : J s md i e kd ns ks) : ScanOk s md i e kd := by
 induction h with
 | null i h => exact ⟨Span.pass (h.span null_chars) h.le vch_letter, fun h => by omega⟩
 | fals i h => exact ⟨Span.pass (h.span false_chars) h.le vch_letter, fun h => by omega⟩
 | tru i h => exact ⟨Span.pass (h.span true_chars) h.le vch_letter, fun h => by omega⟩
 | num i e h0 h1 h2 h3 => exact ⟨h3.pass h2 vch_num, fun h => by omega⟩
 | str i q h0 h1 h2 => exact ⟨QStr.pass h0 h1 h2, fun h => by omega⟩
 | arr0 i j h0 h1 h2 h3 h4 =>
   have hp := h2.pass (by omega)
   have ho : vch (bt s i) = 3 := by rw [h1]; rfl
   have hc : vch (bt s j) = 1 := by rw [h4]; rfl
   exact ⟨Pass.bracket h0 ho h3 hc hp, fun _ => Pass.closes h3 hc hp⟩
 | arr i j e ks h0 h1 h2 h3 ih =>
   obtain ⟨m, rfl, g1, g2, g3⟩ := ih
   have := h3.bound
   have hp := (h2.pass (by omega)).trans g3
   have ho : vch (bt s i) = 3 := by rw [h1]; rfl
   exact ⟨Pass.bracket h0 ho g1 g2 hp, fun _ => Pass.closes g1 g2 hp⟩
 | obj0 i j h0 h1 h2 h3 h4 =>
   have hp := h2.pass (by omega)
   have ho : vch (bt s i) = 3 := by rw [h1]; rfl
   have hc : vch (bt s j) = 1 := by rw [h4]; rfl
   exact ⟨Pass.bracket h0 ho h3 hc hp, fun _ => Pass.closes h3 hc hp⟩
 | obj i j e ns ks h0 h1 h2 h3 ih =>
   obtain ⟨m, rfl, g1, g2, g3⟩ := ih
   have := h3.bound
   have hp := (h2.pass (by omega)).trans g3
   have ho : vch (bt s i) = 3 := by rw [h1]; rfl
   exact ⟨Pass.bracket h0 ho g1 g2 hp, fun _ => Pass.closes g1 g2 hp⟩
 | el1 i m e kd ns ks h0 h1 h2 h3 ih => exact ⟨e, rfl, h2, by rw [h3]; rfl, ih.1.trans (h1.pass (by omega))⟩
 | els i m c n e kd ns ks l h0 h1 h2 h3 h4 h5 ih ih2 =>
   obtain ⟨j, rfl, g1, g2, g3⟩ := ih2
   have := h5.bound
   exact ⟨j, rfl, g1, g2, ((ih.1.trans (h1.pass (by omega))).trans (Pass.one h2 (by rw [h3]; rfl))).trans ((h4.pass (by omega)).trans g3)⟩
 | mem1 i q c b m e kd ns ks h0 h1 h2 h3 h4 h5 h6 h7 h8 h9 h10 ih =>
   have := h7.bound
   exact ⟨e, rfl, h9, by rw [h10]; rfl, ((QStr.pass h0 h1 h2).trans (h3.pass (by omega))).trans ((Pass.one h4 (by rw [h5]; rfl)).trans ((h6.pass (by omega)).trans (ih.1.trans (h8.pass (by omega)))))⟩
 | mems i q c b m d n e kd ns nl ks l h0 h1 h2 h3 h4 h5 h6 h7 h8 h9 h10 h11 h12 ih ih2 =>
   obtain ⟨j, rfl, g1, g2, g3⟩ := ih2
   have := h7.bound
   have := h12.bound
   exact ⟨j, rfl, g1, g2, (((QStr.pass h0 h1 h2).trans (h3.pass (by omega))).trans ((Pass.one h4 (by rw [h5]; rfl)).trans ((h6.pass (by omega)).trans (ih.1.trans (h8.pass (by omega)))))).trans ((Pass.one h9 (by rw [h10]; rfl)).trans ((h11.pass (by omega)).trans g3))⟩
theorem Span.prd {s : ByteArray} (hS : s.size ≤ 65536) {P : Int → Prop} {i j : Nat} (h : Span s P i j) (hj : j ≤ s.size) (hP : ∀ c, P c → c ≠ 92) (hp : Prd s i) : Prd s j := by
 have key : ∀ n m : Nat, m - i = n → i ≤ m → m ≤ j → Prd s m := by
  intro n
  induction n with
  | zero =>
    intro m h1 h2 h3
    have e : m = i := by omega
    rw [e]; exact hp
  | succ n ih =>
    intro m h1 h2 h3
    have := Prd.plain hS (ih (m - 1) (by omega) (by omega) (by omega)) (by omega) (hP _ (h.all (m - 1) (by omega) (by omega)))
    rwa [show m - 1 + 1 = m by omega] at this
 exact key _ j rfl h.le (Nat.le_refl _)
theorem Blanks.prd {s : ByteArray} (hS : s.size ≤ 65536) {i j : Nat} (h : Blanks s i j) (hj : j ≤ s.size) (hp : Prd s i) : Prd s j := Span.prd hS (P := blank) ⟨h.le, h.all⟩ hj (fun c hc => by unfold blank at hc; omega) hp
theorem QStr.prd {s : ByteArray} (hS : s.size ≤ 65536) {i q : Nat} (h0 : i < s.size) (h1 : bt s i = 34) (h : QStr s (i + 1) q) (hp : Prd s i) : Prd s (i + 1) ∧ Prd s (q + 1) := by
 have h2 := Prd.plain hS hp h0 (by omega)
 have hb := h.bound
 exact ⟨h2, Prd.plain hS (qstr_says hS h h2).1 (by omega) (by omega)⟩
theorem J.prd {s : ByteArray} (hS : s.size ≤ 65536) {md : Md} {i e : Nat} {kd : Int} {ns : List S44} {ks : List S32} (h : J s md i e kd ns ks) : Prd s i → Prd s e := by
 have let92 : ∀ c : Int, 97 ≤ c ∧ c ≤ 122 → c ≠ 92 := fun c hc => by omega
 induction h with
 | null i h => exact Span.prd hS (h.span null_chars) h.le let92
 | fals i h => exact Span.prd hS (h.span false_chars) h.le let92
 | tru i h => exact Span.prd hS (h.span true_chars) h.le let92
 | num i e h0 h1 h2 h3 => exact h3.prd hS h2 (fun c hc => by unfold NumC at hc; omega)
 | str i q h0 h1 h2 => exact fun hp => (QStr.prd hS h0 h1 h2 hp).2
 | arr0 i j h0 h1 h2 h3 h4 => exact fun hp => Prd.plain hS (h2.prd hS (by omega) (Prd.plain hS hp h0 (by omega))) h3 (by omega)
 | arr i j e ks h0 h1 h2 h3 ih => exact fun hp => ih (h2.prd hS (by have := h3.bound; omega) (Prd.plain hS hp h0 (by omega)))
 | obj0 i j h0 h1 h2 h3 h4 => exact fun hp => Prd.plain hS (h2.prd hS (by omega) (Prd.plain hS hp h0 (by omega))) h3 (by omega)
 | obj i j e ns ks h0 h1 h2 h3 ih => exact fun hp => ih (h2.prd hS (by have := h3.bound; omega) (Prd.plain hS hp h0 (by omega)))
 | el1 i m e kd ns ks h0 h1 h2 h3 ih => exact fun hp => Prd.plain hS (h1.prd hS (by omega) (ih hp)) h2 (by omega)
 | els i m c n e kd ns ks l h0 h1 h2 h3 h4 h5 ih ih2 => exact fun hp => ih2 (h4.prd hS (by have := h5.bound; omega) (Prd.plain hS (h1.prd hS (by omega) (ih hp)) h2 (by omega)))
 | mem1 i q c b m e kd ns ks h0 h1 h2 h3 h4 h5 h6 h7 h8 h9 h10 ih =>
   exact fun hp => Prd.plain hS (h8.prd hS (by omega) (ih (h6.prd hS (by have := h7.bound; omega) (Prd.plain hS (h3.prd hS (by omega) (QStr.prd hS h0 h1 h2 hp).2) h4 (by omega))))) h9 (by omega)
 | mems i q c b m d n e kd ns nl ks l h0 h1 h2 h3 h4 h5 h6 h7 h8 h9 h10 h11 h12 ih ih2 =>
   exact fun hp => ih2 (h11.prd hS (by have := h12.bound; omega) (Prd.plain hS (h8.prd hS (by omega) (ih (h6.prd hS (by have := h7.bound; omega) (Prd.plain hS (h3.prd hS (by omega) (QStr.prd hS h0 h1 h2 hp).2) h4 (by omega))))) h9 (by omega)))
end Go.Proofs.YtpgfjbimodnkeaaGreatDoor.Scan
