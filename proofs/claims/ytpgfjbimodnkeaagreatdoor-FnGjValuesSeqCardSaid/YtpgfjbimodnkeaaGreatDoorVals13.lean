/- FnGjValuesSeq: whatever text and stop come in, the law returns true and both read afterwards as before; with the package-level variables that its row lists as the program's own text lays them (part 13 of 27: lemmas for its last part) -/
import Derived.Shelf.Strings.BuilderK
import Derived.Lib.RuneBytes
import Derived.Laws.IdiomCopy
import Derived.Test.YtpgfjbimodnkeaaGreatDoorVals3
import Derived.Test.YtpgfjbimodnkeaaGreatDoorVals12
set_option linter.unusedVariables false
set_option linter.unusedSimpArgs false
namespace Go.Proofs.YtpgfjbimodnkeaaGreatDoor.Dec
open Go Go.RowKit Go.Proofs.YtpgfjbimodnkeaaGreatDoorW.PrintWords Go.Proofs.YtpgfjbimodnkeaaGreatDoorW.PrintLast Go.Proofs.YtpgfjbimodnkeaaGreatDoorW.PrintMore
set_option maxHeartbeats 4000000 in
set_option maxRecDepth 100000 in
theorem enc_two (b off len cap : Nat) (r : Int) (h0 : 128 ≤ r) (h1 : r ≤ 2047) (w : World) (hl : 2 ≤ len) (c0 c1 : Value)
 (hc0 : w.cell? ⟨b, off, none⟩ = some c0) (hc1 : w.cell? ⟨b, off + 1, none⟩ = some c1) (hf0 : w.frozen? ⟨b, off, none⟩ = false) (hf1 : w.frozen? ⟨b, off + 1, none⟩ = false) :
 Calls Tryz.prog 101 #[.slice (some ⟨b, off, none⟩) len cap, .int .i32 r] w fun e w' => e = .returned (.int .i64 2) ∧ w' = w.setCells b off [.int .u8 (192 + r / 64), .int .u8 (128 + r % 64)] := by
 go_enter Tryz.func101, Tryz.ntmps101
 go_wp2
 go_ret
 exact ⟨rfl, rfl⟩
set_option maxHeartbeats 4000000 in
set_option maxRecDepth 100000 in
theorem enc_three_lo (b off len cap : Nat) (r : Int) (h0 : 2048 ≤ r) (h1 : r < 55296) (w : World) (hl : 3 ≤ len) (c0 c1 c2 : Value)
 (hc0 : w.cell? ⟨b, off, none⟩ = some c0) (hc1 : w.cell? ⟨b, off + 1, none⟩ = some c1) (hc2 : w.cell? ⟨b, off + 2, none⟩ = some c2)
 (hf0 : w.frozen? ⟨b, off, none⟩ = false) (hf1 : w.frozen? ⟨b, off + 1, none⟩ = false) (hf2 : w.frozen? ⟨b, off + 2, none⟩ = false) :
 Calls Tryz.prog 101 #[.slice (some ⟨b, off, none⟩) len cap, .int .i32 r] w fun e w' => e = .returned (.int .i64 3) ∧ w' = w.setCells b off [.int .u8 (224 + r / 4096), .int .u8 (128 + r / 64 % 64), .int .u8 (128 + r % 64)] := by
 go_enter Tryz.func101, Tryz.ntmps101
 go_wp2
 go_ret
 exact ⟨rfl, rfl⟩
set_option maxHeartbeats 4000000 in
set_option maxRecDepth 100000 in
theorem enc_three_hi (b off len cap : Nat) (r : Int) (h0 : 57343 < r) (h1 : r ≤ 65535) (w : World) (hl : 3 ≤ len) (c0 c1 c2 : Value)
 (hc0 : w.cell? ⟨b, off, none⟩ = some c0) (hc1 : w.cell? ⟨b, off + 1, none⟩ = some c1) (hc2 : w.cell? ⟨b, off + 2, none⟩ = some c2)
 (hf0 : w.frozen? ⟨b, off, none⟩ = false) (hf1 : w.frozen? ⟨b, off + 1, none⟩ = false) (hf2 : w.frozen? ⟨b, off + 2, none⟩ = false) :
 Calls Tryz.prog 101 #[.slice (some ⟨b, off, none⟩) len cap, .int .i32 r] w fun e w' => e = .returned (.int .i64 3) ∧ w' = w.setCells b off [.int .u8 (224 + r / 4096), .int .u8 (128 + r / 64 % 64), .int .u8 (128 + r % 64)] := by
 go_enter Tryz.func101, Tryz.ntmps101
 go_wp2
 go_ret
 exact ⟨rfl, rfl⟩
set_option maxHeartbeats 4000000 in
set_option maxRecDepth 100000 in
theorem enc_four (b off len cap : Nat) (r : Int) (h0 : 65536 ≤ r) (h1 : r ≤ 1114111) (w : World) (hl : 4 ≤ len) (c0 c1 c2 c3 : Value)
 (hc0 : w.cell? ⟨b, off, none⟩ = some c0) (hc1 : w.cell? ⟨b, off + 1, none⟩ = some c1) (hc2 : w.cell? ⟨b, off + 2, none⟩ = some c2) (hc3 : w.cell? ⟨b, off + 3, none⟩ = some c3)
 (hf0 : w.frozen? ⟨b, off, none⟩ = false) (hf1 : w.frozen? ⟨b, off + 1, none⟩ = false) (hf2 : w.frozen? ⟨b, off + 2, none⟩ = false) (hf3 : w.frozen? ⟨b, off + 3, none⟩ = false) :
 Calls Tryz.prog 101 #[.slice (some ⟨b, off, none⟩) len cap, .int .i32 r] w fun e w' => e = .returned (.int .i64 4) ∧ w' = w.setCells b off [.int .u8 (240 + r / 262144), .int .u8 (128 + r / 4096 % 64), .int .u8 (128 + r / 64 % 64), .int .u8 (128 + r % 64)] := by
 go_enter Tryz.func101, Tryz.ntmps101
 go_wp2
 go_ret
 exact ⟨rfl, rfl⟩
def setL : List Int → Nat → List Int → List Int
 | xs, _, [] => xs
 | xs, o, b :: bs => setL (xs.set o b) (o + 1) bs
theorem setL_app : ∀ (bs ys zs : List Int), bs.length ≤ zs.length → setL (ys ++ zs) ys.length bs = ys ++ (bs ++ zs.drop bs.length)
 | [], ys, zs, _ => by simp [setL]
 | b :: bs, ys, [], h => by simp at h
 | b :: bs, ys, z :: zs, h => by
   have h1 := setL_app bs (ys ++ [b]) zs (by simpa using h)
   simp only [setL]
   rw [show (ys ++ z :: zs).set ys.length b = (ys ++ [b]) ++ zs by simp [List.set_append], show ys.length + 1 = (ys ++ [b]).length by simp, h1]
   simp
theorem own_setCells {g n cap base : Nat} {e : TypeId} : ∀ (bs : List Int) (o : Nat) (W : World) (xs : List Int), W.ownsRow base e 1 (.slice (some ⟨g, 0, none⟩) n cap) n (nums .u8 xs) →
 (W.setCells g o (nums .u8 bs)).ownsRow base e 1 (.slice (some ⟨g, 0, none⟩) n cap) n (nums .u8 (setL xs o bs)) ∧ W.grownBy (W.setCells g o (nums .u8 bs)) (some g)
 | [], o, W, xs, h => ⟨h, ⟨rfl, rfl, rfl, Nat.le_refl _, fun _ _ _ => rfl⟩⟩
 | b :: bs, o, W, xs, h => by
   have h1 := own_store h (o : Int) b
   have h2 := own_setCells bs (o + 1) _ _ h1.1
   exact ⟨h2.1, World.grownBy.trans h1.2 h2.2⟩
set_option maxHeartbeats 4000000 in
set_option maxRecDepth 100000 in
theorem enc_one (b off len cap : Nat) (r : Int) (h0 : 0 ≤ r) (h1 : r ≤ 127) (w : World) (hl : 1 ≤ len) (c0 : Value)
 (hc0 : w.cell? ⟨b, off, none⟩ = some c0) (hf0 : w.frozen? ⟨b, off, none⟩ = false) :
 Calls Tryz.prog 83 #[.slice (some ⟨b, off, none⟩) len cap, .int .i32 r] w fun e w' => e = .returned (.int .i64 1) ∧ w' = w.setCells b off [.int .u8 r] := by
 go_enter Tryz.func83, Tryz.ntmps83
 go_wp2
 go_ret
 exact ⟨rfl, rfl⟩
set_option maxHeartbeats 4000000 in
set_option maxRecDepth 100000 in
theorem enc_on (p : Value) (r : Int) (h0 : 128 ≤ r) (h1 : r ≤ 1114111) (w : World) (k : Int) (W' : World)
 (hc : Calls Tryz.prog 101 #[p, .int .i32 r] w fun e w' => e = .returned (.int .i64 k) ∧ w' = W') :
 Calls Tryz.prog 83 #[p, .int .i32 r] w fun e w' => e = .returned (.int .i64 k) ∧ w' = W' := by
 go_enter Tryz.func83, Tryz.ntmps83
 go_wp2_with (first | (go_at_call 101; (with_reducible refine hc.mono ?_); rintro e w4 ⟨rfl, rfl⟩))
 go_ret
 exact ⟨rfl, rfl⟩
theorem enc_all (b off cap : Nat) (r : Int) (h0 : 0 ≤ r) (h1 : r ≤ 1114111) (hs : ¬ (55296 ≤ r ∧ r ≤ 57343)) (w : World) (c0 c1 c2 c3 : Value)
 (hc0 : w.cell? ⟨b, off, none⟩ = some c0) (hc1 : w.cell? ⟨b, off + 1, none⟩ = some c1) (hc2 : w.cell? ⟨b, off + 2, none⟩ = some c2) (hc3 : w.cell? ⟨b, off + 3, none⟩ = some c3)
 (hf0 : w.frozen? ⟨b, off, none⟩ = false) (hf1 : w.frozen? ⟨b, off + 1, none⟩ = false) (hf2 : w.frozen? ⟨b, off + 2, none⟩ = false) (hf3 : w.frozen? ⟨b, off + 3, none⟩ = false) :
 Calls Tryz.prog 83 #[.slice (some ⟨b, off, none⟩) 8 cap, .int .i32 r] w fun e w' => e = .returned (.int .i64 (utf8Z r).length) ∧ w' = w.setCells b off (nums .u8 (utf8Z r)) := by
 unfold utf8Z
 split
 ·exact enc_one b off 8 cap r h0 (by omega) w (by omega) c0 hc0 hf0
 split
 ·exact enc_on _ r (by omega) h1 w _ _ (enc_two b off 8 cap r (by omega) (by omega) w (by omega) c0 c1 hc0 hc1 hf0 hf1)
 split
 ·by_cases h : r < 55296
  ·exact enc_on _ r (by omega) h1 w _ _ (enc_three_lo b off 8 cap r (by omega) h w (by omega) c0 c1 c2 hc0 hc1 hc2 hf0 hf1 hf2)
  ·exact enc_on _ r (by omega) h1 w _ _ (enc_three_hi b off 8 cap r (by omega) (by omega) w (by omega) c0 c1 c2 hc0 hc1 hc2 hf0 hf1 hf2)
 ·exact enc_on _ r (by omega) h1 w _ _ (enc_four b off 8 cap r (by omega) (by omega) w (by omega) c0 c1 c2 c3 hc0 hc1 hc2 hc3 hf0 hf1 hf2 hf3)
theorem encode_own (base g cap m : Nat) (ys : List Int) (hm : m = ys.length) (r : Int) (h0 : 0 ≤ r) (h1 : r ≤ 1114111) (hs : ¬ (55296 ≤ r ∧ r ≤ 57343)) (w : World)
 (HO : w.ownsRow base 5 1 (.slice (some ⟨g, 0, none⟩) (m + 8) cap) (m + 8) (nums .u8 (ys ++ List.replicate 8 0))) (cap' : Nat) :
 Calls Tryz.prog 83 #[.slice (some ⟨g, m, none⟩) 8 cap', .int .i32 r] w fun e w' => e = .returned (.int .i64 (utf8Z r).length) ∧
  w'.ownsRow base 5 1 (.slice (some ⟨g, 0, none⟩) (m + (utf8Z r).length) cap) (m + (utf8Z r).length) (nums .u8 (ys ++ utf8Z r)) ∧ w.grownBy w' (some g) := by
 have hl : (nums .u8 (ys ++ List.replicate 8 0)).length = m + 8 := by simp [nums, hm]
 have hc : ∀ j, j < 4 → ∃ c, w.cell? ⟨g, m + j, none⟩ = some c := fun j hj => by
  rw [HO.cellAt (m + j) (by omega)]
  exact ⟨_, List.getElem?_eq_getElem (by omega)⟩
 obtain ⟨c0, hc0⟩ := hc 0 (by omega)
 obtain ⟨c1, hc1⟩ := hc 1 (by omega)
 obtain ⟨c2, hc2⟩ := hc 2 (by omega)
 obtain ⟨c3, hc3⟩ := hc 3 (by omega)
 refine (enc_all g m cap' r h0 h1 hs w c0 c1 c2 c3 hc0 hc1 hc2 hc3 (HO.frozenAt _) (HO.frozenAt _) (HO.frozenAt _) (HO.frozenAt _)).mono ?_
 rintro e w' ⟨rfl, rfl⟩
 have hz := utf8Z_length r
 have h2 := own_setCells (utf8Z r) m w _ HO
 refine ⟨rfl, ?_, h2.2⟩
 have h3 := own_take h2.1 (m := m + (utf8Z r).length) (by omega)
 have h4 : (nums .u8 (setL (ys ++ List.replicate 8 0) m (utf8Z r))).take ((m + (utf8Z r).length) * 1) = nums .u8 (ys ++ utf8Z r) := by
  rw [hm, setL_app _ _ _ (by simp; omega)]
  simp only [nums, ← List.map_take, Nat.mul_one]
  rw [← List.append_assoc, List.take_left' (by simp)]
 rw [h4] at h3
 exact h3
end Go.Proofs.YtpgfjbimodnkeaaGreatDoor.Dec
namespace Go.Proofs.YtpgfjbimodnkeaaGreatDoor.Q
open Go.RowKit Go.Proofs.YtpgfjbimodnkeaaGreatDoorW.PrintWords Go.Proofs.YtpgfjbimodnkeaaGreatDoorW.PrintLast Go.Proofs.YtpgfjbimodnkeaaGreatDoorW.PrintMore
attribute [local go_sem] max2_int min2_int max_two min_two max_three min_three max_four min_four
set_option linter.unusedVariables false
set_option linter.unusedSimpArgs false
def utf16_IsSurrogate.f (a0 : Int) : Option (Bool) := if 55296 ≤ a0 then (some (decide (a0 < 57344))) else (some false)
set_option maxHeartbeats 8000000 in
set_option maxRecDepth 100000 in
theorem utf16_IsSurrogate.calls (a0 : Int) (r : Bool) (w : World) (h : utf16_IsSurrogate.f a0 = some r) :
 Calls Tryz.prog 81 #[.int .i32 a0] w fun e w' => e = .returned (.bool r) ∧ Drawn0 w w' := by
 have H : (if 55296 ≤ a0 then (some (decide (a0 < 57344))) else (some false)) = some r := h
 clear h
 by_cases c2 : 55296 ≤ a0
 ·rw [if_pos c2] at H
  have c2b0 : decide (55296 ≤ a0) = true := decide_eq_true c2
  clear c2
  obtain rfl := Option.some.inj H
  go_enter Tryz.func81, Tryz.ntmps81
  go_wp2
  go_ret
  exact ⟨by first | rfl | (simp; done) | (simp [*]; done), by repeat (first | exact Drawn0.refl _ | apply Drawn0.step)⟩
 ·rw [if_neg c2] at H
  have c2b0 : decide (55296 ≤ a0) = false := decide_eq_false c2
  clear c2
  obtain rfl := Option.some.inj H
  go_enter Tryz.func81, Tryz.ntmps81
  go_wp2
  go_ret
  exact ⟨by first | rfl | (simp; done) | (simp [*]; done), by repeat (first | exact Drawn0.refl _ | apply Drawn0.step)⟩
end Go.Proofs.YtpgfjbimodnkeaaGreatDoor.Q
namespace Go.Proofs.YtpgfjbimodnkeaaGreatDoor.Q
open Go.RowKit Go.Proofs.YtpgfjbimodnkeaaGreatDoorW.PrintWords Go.Proofs.YtpgfjbimodnkeaaGreatDoorW.PrintLast Go.Proofs.YtpgfjbimodnkeaaGreatDoorW.PrintMore
attribute [local go_sem] max2_int min2_int max_two min_two max_three min_three max_four min_four
set_option linter.unusedVariables false
set_option linter.unusedSimpArgs false
def utf16_DecodeRune.f (a0 : Int) (a1 : Int) : Option (Int) := if 55296 ≤ a0 then (if a0 < 56320 then (if 56320 ≤ a1 then (if a1 < 57344 then (some (wrap32 ((Go.bits .or .i32 (wrap32 ((wrap32 (a0 - 55296)) * 1024)) (wrap32 (a1 - 56320))) + 65536))) else (some 65533)) else (some 65533)) else (some 65533)) else (some 65533)
set_option maxHeartbeats 8000000 in
set_option maxRecDepth 100000 in
theorem utf16_DecodeRune.calls (a0 : Int) (a1 : Int) (r : Int) (w : World) (h : utf16_DecodeRune.f a0 a1 = some r) :
 Calls Tryz.prog 82 #[.int .i32 a0, .int .i32 a1] w fun e w' => e = .returned (.int .i32 r) ∧ Drawn0 w w' := by
 have H : (if 55296 ≤ a0 then (if a0 < 56320 then (if 56320 ≤ a1 then (if a1 < 57344 then (some (wrap32 ((Go.bits .or .i32 (wrap32 ((wrap32 (a0 - 55296)) * 1024)) (wrap32 (a1 - 56320))) + 65536))) else (some 65533)) else (some 65533)) else (some 65533)) else (some 65533)) = some r := h
 clear h
 by_cases c3 : 55296 ≤ a0
 ·rw [if_pos c3] at H
  have c3b0 : decide (55296 ≤ a0) = true := decide_eq_true c3
  clear c3
  by_cases c4 : a0 < 56320
  ·rw [if_pos c4] at H
   have c4b0 : decide (a0 < 56320) = true := decide_eq_true c4
   clear c4
   by_cases c5 : 56320 ≤ a1
   ·rw [if_pos c5] at H
    have c5b0 : decide (56320 ≤ a1) = true := decide_eq_true c5
    clear c5
    by_cases c6 : a1 < 57344
    ·rw [if_pos c6] at H
     have c6b0 : decide (a1 < 57344) = true := decide_eq_true c6
     clear c6
     obtain rfl := Option.some.inj H
     go_enter Tryz.func82, Tryz.ntmps82
     go_wp2
     go_ret
     exact ⟨by first | rfl | (simp; done) | (simp [*]; done), by repeat (first | exact Drawn0.refl _ | apply Drawn0.step)⟩
    ·rw [if_neg c6] at H
     have c6b0 : decide (a1 < 57344) = false := decide_eq_false c6
     clear c6
     obtain rfl := Option.some.inj H
     go_enter Tryz.func82, Tryz.ntmps82
     go_wp2
     go_ret
     exact ⟨by first | rfl | (simp; done) | (simp [*]; done), by repeat (first | exact Drawn0.refl _ | apply Drawn0.step)⟩
   ·rw [if_neg c5] at H
    have c5b0 : decide (56320 ≤ a1) = false := decide_eq_false c5
    clear c5
    obtain rfl := Option.some.inj H
    go_enter Tryz.func82, Tryz.ntmps82
    go_wp2
    go_ret
    exact ⟨by first | rfl | (simp; done) | (simp [*]; done), by repeat (first | exact Drawn0.refl _ | apply Drawn0.step)⟩
  ·rw [if_neg c4] at H
   have c4b0 : decide (a0 < 56320) = false := decide_eq_false c4
   clear c4
   obtain rfl := Option.some.inj H
   go_enter Tryz.func82, Tryz.ntmps82
   go_wp2
   go_ret
   exact ⟨by first | rfl | (simp; done) | (simp [*]; done), by repeat (first | exact Drawn0.refl _ | apply Drawn0.step)⟩
 ·rw [if_neg c3] at H
  have c3b0 : decide (55296 ≤ a0) = false := decide_eq_false c3
  clear c3
  obtain rfl := Option.some.inj H
  go_enter Tryz.func82, Tryz.ntmps82
  go_wp2
  go_ret
  exact ⟨by first | rfl | (simp; done) | (simp [*]; done), by repeat (first | exact Drawn0.refl _ | apply Drawn0.step)⟩
end Go.Proofs.YtpgfjbimodnkeaaGreatDoor.Q
