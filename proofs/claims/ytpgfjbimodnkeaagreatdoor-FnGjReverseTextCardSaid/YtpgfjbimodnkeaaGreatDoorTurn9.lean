/- FnGjReverseText: whatever text comes in, the law returns true and the text reads afterwards as before; with the fourteen package-level variables that its row lists as the text of the program lays them (the tied card) (part 9 of 25: lemmas for its last part) -/
import Derived.Shelf.Strings.BuilderK
import Derived.Lib.RuneBytes
import Derived.Laws.IdiomCopy
import Derived.Test.YtpgfjbimodnkeaaGreatDoorTurn2
import Derived.Test.YtpgfjbimodnkeaaGreatDoorTurn8
set_option maxHeartbeats 16000000
set_option maxRecDepth 100000
set_option linter.unusedVariables false
set_option linter.unusedSimpArgs false
namespace Go.Proofs.YtpgfjbimodnkeaaGreatDoor.Dec
open Go Go.RowKit Go.Proofs.YtpgfjbimodnkeaaGreatDoorW.PrintWords Go.Proofs.YtpgfjbimodnkeaaGreatDoorW.PrintLast Go.Proofs.YtpgfjbimodnkeaaGreatDoorW.PrintMore
def hexN (s : ByteArray) : Nat → Int
 | 0 => 0
 | k + 1 => hexN s k * 16 + jw (bt s k)
theorem qF (s : ByteArray) (k : Nat) (h : ∀ j : Nat, j < k → iI (bt s j)) : 0 ≤ hexN s k ∧ hexN s k < 16 ^ k := by
 induction k with
 | zero => simp [hexN]
 | succ k ih =>
   have h1 := ih (fun j hj => h j (by omega))
   have h2 := jl (h k (by omega))
   simp only [hexN, Int.pow_succ]
   omega
theorem BA : ∀ c : Fin 6, Go.bits .or .u8 (65 + (c.val : Int)) 32 = 97 + c.val := by decide
theorem Di : ∀ c : Fin 6, Go.bits .or .u8 (97 + (c.val : Int)) 32 = 97 + c.val := by decide
theorem zQ {c : Int} (h : (97 ≤ c ∧ c ≤ 102) ∨ (65 ≤ c ∧ c ≤ 70)) : Go.bits .or .u8 c 32 = jw c + 87 := by
 unfold jw
 rw [if_neg (by omega)]
 rcases h with h | h
 ·rw [if_pos h]
  have := Di ⟨(c - 97).toNat, by omega⟩
  simp only at this
  rw [show (97 : Int) + ((c - 97).toNat : Int) = c by omega] at this
  rw [this]; omega
 ·rw [if_neg (by omega)]
  have := BA ⟨(c - 65).toNat, by omega⟩
  simp only at this
  rw [show (65 : Int) + ((c - 65).toNat : Int) = c by omega] at this
  rw [this]; omega
theorem Eu (s : ByteArray) (j : Nat) : ((s.data.toList.getD j 0).toNat : Int) = bt s j := by
 unfold bt
 by_cases h : j < s.size
 ·have h' : ((j : Int).toNat) < s.size := by simpa using h
  rw [dif_pos h']
  have h2 : j < s.data.toList.length := by simpa using h
  rw [List.getD_eq_getElem?_getD, List.getElem?_eq_getElem h2]
  simp
  rfl
 ·have h' : ¬ ((j : Int).toNat) < s.size := by simpa using h
  rw [dif_neg h']
  have h2 : ¬ j < s.data.toList.length := by simpa using h
  simp only [List.getD_eq_getElem?_getD]
  rw [List.getElem?_eq_none (by omega)]
  rfl
theorem xR (a0 : Int) (w : World) : Calls Tryz.prog 137 #[.int .u8 a0] w fun e w' => e = .returned (.int .u8 (Go.bits .or .u8 a0 32)) ∧ w' = w := by
 go_enter Tryz.func137, Tryz.ntmps137
 go_wp2
 go_ret
 exact ⟨rfl, rfl⟩
theorem CB (w : World) (s : ByteArray) (hs : s.size = 4) (hh : ∀ j : Nat, j < 4 → iI (bt s j)) :
 Calls Tryz.prog 122 #[.string s, .int .i64 16, .int .i64 64] w fun e w' => e = .returned (.tuple #[.int .u64 (hexN s 4), .nilIface]) ∧ Below w.heap.size w w' := by
 have hemp : s.toList.isEmpty = false := by
  rw [← decide_eq_emptyBytes]
  exact decide_eq_false (fun h => by rw [h] at hs; exact absurd hs (by decide))
 have hcv := Lib.run_convert_string_bytes (P := Tryz.prog) w 9 99 5 s (u := .string) Tryz.underlying9 Tryz.underlying99 Tryz.underlying5
 rw [hs] at hcv
 have hB : ∀ j : Nat, j < 4 → (Lib.bytesWorld w 5 s).cell? ⟨w.heap.size, j, none⟩ = some (.int .u8 (bt s j)) := fun j hj => by
  rw [Lib.bytesWorld_cell w 5 s j (by omega), Eu]
 have hbel := ae.mk (show Below w.heap.size w (Lib.bytesWorld w 5 s) from ⟨rfl, rfl, rfl, by rw [Lib.bytesWorld_size]; omega, fun k hk => Lib.bytesWorld_at_old w 5 s k hk⟩)
 obtain ⟨W1, hW1⟩ : ∃ W1, W1 = Lib.bytesWorld w 5 s := ⟨_, rfl⟩
 rw [← hW1] at hcv hB hbel
 clear hW1
 have hmv : IntKind.u64.wrap (IntKind.u64.wrap 18446744073709551616 - 1) = 18446744073709551615 := by
  rw [IntKind.wrap_u64, IntKind.wrap_u64]
  decide
 replace hB := ae.mk hB
 replace hh := ae.mk hh
 have hS := ae.mk hs
 clear hs
 go_enter Tryz.func122, Tryz.ntmps122
 go_wp2
 go_loopg [12, 13, 101] 5 (fun kq vu vn vi w' => ∃ (k : Nat) (a : Int), vu = .bool false ∧ vn = .int .u64 a ∧ vi = .int .i64 k ∧ ae (k ≤ 4 ∧ a = hexN s k ∧ kq + k = 5) ∧ w' = W1)
 case atStart => exact ⟨0, 0, rfl, rfl, rfl, ⟨by omega, rfl, rfl⟩, rfl⟩
 case round =>
  obtain ⟨k, a, rfl, rfl, rfl, hA, rfl⟩ := hrel
  obtain ⟨hk, ha, hkq⟩ := hA.out
  clear hA
  by_cases hkn : k < 4
  ·have hc := hB.out k hkn
   have hd := hh.out k hkn
   have hv := jl hd
   have hb := qF s k (fun j hj => hh.out j (by omega))
   have hp : (16 : Int) ^ k ≤ 4096 := by
    have : k = 0 ∨ k = 1 ∨ k = 2 ∨ k = 3 := by omega
    rcases this with rfl | rfl | rfl | rfl <;> decide
   rw [← ha] at hb
   have hn : hexN s (k + 1) = a * 16 + jw (bt s k) := by rw [ha]; rfl
   have a0 : 0 ≤ a := hb.1
   have a1 : a < 4096 := by omega
   have HN : ae (k + 1 ≤ 4 ∧ a * 16 + jw (bt s k) = hexN s (k + 1) ∧ gk - 1 + (k + 1) = 5) := ⟨by omega, hn.symm, by omega⟩
   clear ha hn hb hp
   generalize bt s k = c at *
   by_cases hdig : 48 ≤ c ∧ c ≤ 57
   ·have he : jw c = c - 48 := if_pos hdig
    rw [he] at HN hv
    replace he := ae.mk he
    obtain ⟨h0, h1⟩ := hdig
    replace hd := ae.mk hd
    replace hkq := ae.mk hkq
    go_wp2
    go_roundg (gk - 1)
    case measure => have := hkq.out; omega
    case rel => exact ⟨k + 1, a * 16 + (c - 48), rfl, (by first | rfl | (congr 1; omega)), (by first | rfl | (congr 1; omega)), HN, rfl⟩
   ·have hl : (97 ≤ c ∧ c ≤ 102) ∨ (65 ≤ c ∧ c ≤ 70) := by rcases hd with h | h | h; exact absurd h hdig; exact .inl h; exact .inr h
    have hlow := zQ hl
    have h58 : 57 < c := by omega
    have hv10 : 10 ≤ jw c := by unfold jw; rw [if_neg hdig]; split <;> omega
    have hf : ∀ W, Calls Tryz.prog 137 #[.int .u8 c] W fun e w' => e = .returned (.int .u8 (jw c + 87)) ∧ w' = W := fun W => hlow ▸ xR c W
    replace hd := ae.mk hd
    replace hl := ae.mk hl
    replace hlow := ae.mk hlow
    replace hkq := ae.mk hkq
    have hc0 : 0 ≤ c := by omega
    have h95 : (c == 95) = false := beq_eq_false_iff_ne.mpr (by have := hl.out; omega)
    clear hdig
    generalize jw c = d at *
    go_wp2_with (first | (go_at_call 137; (with_reducible refine (hf _).mono ?_); rintro e w4 ⟨rfl, rfl⟩))
    go_roundg (gk - 1)
    case measure => have := hkq.out; omega
    case rel => exact ⟨k + 1, a * 16 + d, rfl, (by first | rfl | (congr 1; omega)), (by first | rfl | (congr 1; omega)), HN, rfl⟩
  ·have hkk : k = 4 := by omega
   subst hkk
   subst ha
   replace hkq := ae.mk hkq
   go_wp2
   go_ret2
   exact ⟨rfl, hbel.out⟩
theorem Ad (w : World) (s : ByteArray) (hs : s.size = 4) (hh : ∀ j : Nat, j < 4 → iI (bt s j)) :
 Calls Tryz.prog 100 #[.string s, .int .i64 16, .int .i64 64] w fun e w' => e = .returned (.tuple #[.int .u64 (hexN s 4), .nilIface]) ∧ Below w.heap.size w w' := by
 have hc := fun W => CB W s hs hh
 clear hs hh
 go_enter Tryz.func100, Tryz.ntmps100
 go_wp2_with (first | (go_at_call 122; (with_reducible refine (hc _).mono ?_); rintro e w4 ⟨rfl, hB⟩))
 go_ret2
 exact ⟨rfl, hB⟩
theorem xk (s t : ByteArray) : ∀ k : Nat, (∀ j : Nat, j < k → bt s j = bt t j) → hexN s k = hexN t k
 | 0, _ => rfl
 | k + 1, h => by simp only [hexN]; rw [xk s t k (fun j hj => h j (by omega)), h k (by omega)]
theorem wR (s : ByteArray) (n j : Nat) (hj : j < n) : bt (s.extract 0 n) j = bt s j := by
 unfold bt
 simp only [Int.toNat_natCast]
 by_cases h : j < s.size
 ·have h' : j < (s.extract 0 n).size := by rw [ByteArray.size_extract]; omega
  rw [dif_pos h', dif_pos h, ByteArray.getElem_extract]
  simp
 ·have h' : ¬ j < (s.extract 0 n).size := by rw [ByteArray.size_extract]; omega
  rw [dif_neg h', dif_neg h]
theorem vC (w : World) (s : ByteArray) (hs : 4 ≤ s.size) (hh : ∀ j : Nat, j < 4 → iI (bt s j)) :
 Calls Tryz.prog 80 #[.string s] w fun e w' => e = .returned (.int .i32 (hexN s 4)) ∧ Below w.heap.size w w' := by
 have hc : ∀ W, Calls Tryz.prog 100 #[.string (s.extract 0 4), .int .i64 16, .int .i64 64] W fun e w' => e = .returned (.tuple #[.int .u64 (hexN s 4), .nilIface]) ∧ Below W.heap.size W w' := fun W => by
  have h := Ad W (s.extract 0 4) (by rw [ByteArray.size_extract]; omega) (fun j hj => by rw [wR s 4 j hj]; exact hh j hj)
  rw [xk (s.extract 0 4) s 4 (fun j hj => wR s 4 j hj)] at h
  exact h
 have hb := qF s 4 hh
 generalize hexN s 4 = n at *
 have h0 : 0 ≤ n := hb.1
 have h1 : n < 65536 := hb.2
 have hs4 : (4 : Int) ≤ (s.size : Int) := by omega
 clear hb hh
 go_enter Tryz.func80, Tryz.ntmps80
 go_wp2_with (first | (go_at_call 100; (with_reducible refine (hc _).mono ?_); rintro e w4 ⟨rfl, hB⟩))
 go_ret
 exact ⟨rfl, hB⟩
theorem DX (b off len cap : Nat) (r : Int) (h0 : 128 ≤ r) (h1 : r ≤ 2047) (w : World) (hl : 2 ≤ len) (c0 c1 : Value)
 (hc0 : w.cell? ⟨b, off, none⟩ = some c0) (hc1 : w.cell? ⟨b, off + 1, none⟩ = some c1) (hf0 : w.frozen? ⟨b, off, none⟩ = false) (hf1 : w.frozen? ⟨b, off + 1, none⟩ = false) :
 Calls Tryz.prog 101 #[.slice (some ⟨b, off, none⟩) len cap, .int .i32 r] w fun e w' => e = .returned (.int .i64 2) ∧ w' = w.setCells b off [.int .u8 (192 + r / 64), .int .u8 (128 + r % 64)] := by
 go_enter Tryz.func101, Tryz.ntmps101
 go_wp2
 go_ret
 exact ⟨rfl, rfl⟩
theorem vk (b off len cap : Nat) (r : Int) (h0 : 2048 ≤ r) (h1 : r < 55296) (w : World) (hl : 3 ≤ len) (c0 c1 c2 : Value)
 (hc0 : w.cell? ⟨b, off, none⟩ = some c0) (hc1 : w.cell? ⟨b, off + 1, none⟩ = some c1) (hc2 : w.cell? ⟨b, off + 2, none⟩ = some c2)
 (hf0 : w.frozen? ⟨b, off, none⟩ = false) (hf1 : w.frozen? ⟨b, off + 1, none⟩ = false) (hf2 : w.frozen? ⟨b, off + 2, none⟩ = false) :
 Calls Tryz.prog 101 #[.slice (some ⟨b, off, none⟩) len cap, .int .i32 r] w fun e w' => e = .returned (.int .i64 3) ∧ w' = w.setCells b off [.int .u8 (224 + r / 4096), .int .u8 (128 + r / 64 % 64), .int .u8 (128 + r % 64)] := by
 go_enter Tryz.func101, Tryz.ntmps101
 go_wp2
 go_ret
 exact ⟨rfl, rfl⟩
theorem vw (b off len cap : Nat) (r : Int) (h0 : 57343 < r) (h1 : r ≤ 65535) (w : World) (hl : 3 ≤ len) (c0 c1 c2 : Value)
 (hc0 : w.cell? ⟨b, off, none⟩ = some c0) (hc1 : w.cell? ⟨b, off + 1, none⟩ = some c1) (hc2 : w.cell? ⟨b, off + 2, none⟩ = some c2)
 (hf0 : w.frozen? ⟨b, off, none⟩ = false) (hf1 : w.frozen? ⟨b, off + 1, none⟩ = false) (hf2 : w.frozen? ⟨b, off + 2, none⟩ = false) :
 Calls Tryz.prog 101 #[.slice (some ⟨b, off, none⟩) len cap, .int .i32 r] w fun e w' => e = .returned (.int .i64 3) ∧ w' = w.setCells b off [.int .u8 (224 + r / 4096), .int .u8 (128 + r / 64 % 64), .int .u8 (128 + r % 64)] := by
 go_enter Tryz.func101, Tryz.ntmps101
 go_wp2
 go_ret
 exact ⟨rfl, rfl⟩
theorem BP (b off len cap : Nat) (r : Int) (h0 : 65536 ≤ r) (h1 : r ≤ 1114111) (w : World) (hl : 4 ≤ len) (c0 c1 c2 c3 : Value)
 (hc0 : w.cell? ⟨b, off, none⟩ = some c0) (hc1 : w.cell? ⟨b, off + 1, none⟩ = some c1) (hc2 : w.cell? ⟨b, off + 2, none⟩ = some c2) (hc3 : w.cell? ⟨b, off + 3, none⟩ = some c3)
 (hf0 : w.frozen? ⟨b, off, none⟩ = false) (hf1 : w.frozen? ⟨b, off + 1, none⟩ = false) (hf2 : w.frozen? ⟨b, off + 2, none⟩ = false) (hf3 : w.frozen? ⟨b, off + 3, none⟩ = false) :
 Calls Tryz.prog 101 #[.slice (some ⟨b, off, none⟩) len cap, .int .i32 r] w fun e w' => e = .returned (.int .i64 4) ∧ w' = w.setCells b off [.int .u8 (240 + r / 262144), .int .u8 (128 + r / 4096 % 64), .int .u8 (128 + r / 64 % 64), .int .u8 (128 + r % 64)] := by
 go_enter Tryz.func101, Tryz.ntmps101
 go_wp2
 go_ret
 exact ⟨rfl, rfl⟩
def Aa : List Int → Nat → List Int → List Int
 | xs, _, [] => xs
 | xs, o, b :: bs => Aa (xs.set o b) (o + 1) bs
theorem xm : ∀ (bs ys zs : List Int), bs.length ≤ zs.length → Aa (ys ++ zs) ys.length bs = ys ++ (bs ++ zs.drop bs.length)
 | [], ys, zs, _ => by simp [Aa]
 | b :: bs, ys, [], h => by simp at h
 | b :: bs, ys, z :: zs, h => by
   have h1 := xm bs (ys ++ [b]) zs (by simpa using h)
   simp only [Aa]
   rw [show (ys ++ z :: zs).set ys.length b = (ys ++ [b]) ++ zs by simp [List.set_append], show ys.length + 1 = (ys ++ [b]).length by simp, h1]
   simp
theorem o9 {g n cap base : Nat} {e : TypeId} : ∀ (bs : List Int) (o : Nat) (W : World) (xs : List Int), W.ownsRow base e 1 (.slice (some ⟨g, 0, none⟩) n cap) n (nums .u8 xs) →
 (W.setCells g o (nums .u8 bs)).ownsRow base e 1 (.slice (some ⟨g, 0, none⟩) n cap) n (nums .u8 (Aa xs o bs)) ∧ W.grownBy (W.setCells g o (nums .u8 bs)) (some g)
 | [], o, W, xs, h => ⟨h, ⟨rfl, rfl, rfl, Nat.le_refl _, fun _ _ _ => rfl⟩⟩
 | b :: bs, o, W, xs, h => by
   have h1 := AC h (o : Int) b
   have h2 := o9 bs (o + 1) _ _ h1.1
   exact ⟨h2.1, World.grownBy.trans h1.2 h2.2⟩
theorem Em (b off len cap : Nat) (r : Int) (h0 : 0 ≤ r) (h1 : r ≤ 127) (w : World) (hl : 1 ≤ len) (c0 : Value)
 (hc0 : w.cell? ⟨b, off, none⟩ = some c0) (hf0 : w.frozen? ⟨b, off, none⟩ = false) :
 Calls Tryz.prog 83 #[.slice (some ⟨b, off, none⟩) len cap, .int .i32 r] w fun e w' => e = .returned (.int .i64 1) ∧ w' = w.setCells b off [.int .u8 r] := by
 go_enter Tryz.func83, Tryz.ntmps83
 go_wp2
 go_ret
 exact ⟨rfl, rfl⟩
theorem wC (p : Value) (r : Int) (h0 : 128 ≤ r) (h1 : r ≤ 1114111) (w : World) (k : Int) (W' : World)
 (hc : Calls Tryz.prog 101 #[p, .int .i32 r] w fun e w' => e = .returned (.int .i64 k) ∧ w' = W') :
 Calls Tryz.prog 83 #[p, .int .i32 r] w fun e w' => e = .returned (.int .i64 k) ∧ w' = W' := by
 go_enter Tryz.func83, Tryz.ntmps83
 go_wp2_with (first | (go_at_call 101; (with_reducible refine hc.mono ?_); rintro e w4 ⟨rfl, rfl⟩))
 go_ret
 exact ⟨rfl, rfl⟩
theorem Ef (b off cap : Nat) (r : Int) (h0 : 0 ≤ r) (h1 : r ≤ 1114111) (hs : ¬ (55296 ≤ r ∧ r ≤ 57343)) (w : World) (c0 c1 c2 c3 : Value)
 (hc0 : w.cell? ⟨b, off, none⟩ = some c0) (hc1 : w.cell? ⟨b, off + 1, none⟩ = some c1) (hc2 : w.cell? ⟨b, off + 2, none⟩ = some c2) (hc3 : w.cell? ⟨b, off + 3, none⟩ = some c3)
 (hf0 : w.frozen? ⟨b, off, none⟩ = false) (hf1 : w.frozen? ⟨b, off + 1, none⟩ = false) (hf2 : w.frozen? ⟨b, off + 2, none⟩ = false) (hf3 : w.frozen? ⟨b, off + 3, none⟩ = false) :
 Calls Tryz.prog 83 #[.slice (some ⟨b, off, none⟩) 8 cap, .int .i32 r] w fun e w' => e = .returned (.int .i64 (iP r).length) ∧ w' = w.setCells b off (nums .u8 (iP r)) := by
 unfold iP
 split
 ·exact Em b off 8 cap r h0 (by omega) w (by omega) c0 hc0 hf0
 split
 ·exact wC _ r (by omega) h1 w _ _ (DX b off 8 cap r (by omega) (by omega) w (by omega) c0 c1 hc0 hc1 hf0 hf1)
 split
 ·by_cases h : r < 55296
  ·exact wC _ r (by omega) h1 w _ _ (vk b off 8 cap r (by omega) h w (by omega) c0 c1 c2 hc0 hc1 hc2 hf0 hf1 hf2)
  ·exact wC _ r (by omega) h1 w _ _ (vw b off 8 cap r (by omega) (by omega) w (by omega) c0 c1 c2 hc0 hc1 hc2 hf0 hf1 hf2)
 ·exact wC _ r (by omega) h1 w _ _ (BP b off 8 cap r (by omega) (by omega) w (by omega) c0 c1 c2 c3 hc0 hc1 hc2 hc3 hf0 hf1 hf2 hf3)
theorem sW (base g cap m : Nat) (ys : List Int) (hm : m = ys.length) (r : Int) (h0 : 0 ≤ r) (h1 : r ≤ 1114111) (hs : ¬ (55296 ≤ r ∧ r ≤ 57343)) (w : World)
 (HO : w.ownsRow base 5 1 (.slice (some ⟨g, 0, none⟩) (m + 8) cap) (m + 8) (nums .u8 (ys ++ List.replicate 8 0))) (cap' : Nat) :
 Calls Tryz.prog 83 #[.slice (some ⟨g, m, none⟩) 8 cap', .int .i32 r] w fun e w' => e = .returned (.int .i64 (iP r).length) ∧
  w'.ownsRow base 5 1 (.slice (some ⟨g, 0, none⟩) (m + (iP r).length) cap) (m + (iP r).length) (nums .u8 (ys ++ iP r)) ∧ w.grownBy w' (some g) := by
 have hl : (nums .u8 (ys ++ List.replicate 8 0)).length = m + 8 := by simp [nums, hm]
 have hc : ∀ j, j < 4 → ∃ c, w.cell? ⟨g, m + j, none⟩ = some c := fun j hj => by
  rw [HO.cellAt (m + j) (by omega)]
  exact ⟨_, List.getElem?_eq_getElem (by omega)⟩
 obtain ⟨c0, hc0⟩ := hc 0 (by omega)
 obtain ⟨c1, hc1⟩ := hc 1 (by omega)
 obtain ⟨c2, hc2⟩ := hc 2 (by omega)
 obtain ⟨c3, hc3⟩ := hc 3 (by omega)
 refine (Ef g m cap' r h0 h1 hs w c0 c1 c2 c3 hc0 hc1 hc2 hc3 (HO.frozenAt _) (HO.frozenAt _) (HO.frozenAt _) (HO.frozenAt _)).mono ?_
 rintro e w' ⟨rfl, rfl⟩
 have hz := gW r
 have h2 := o9 (iP r) m w _ HO
 refine ⟨rfl, ?_, h2.2⟩
 have h3 := xq h2.1 (m := m + (iP r).length) (by omega)
 have h4 : (nums .u8 (Aa (ys ++ List.replicate 8 0) m (iP r))).take ((m + (iP r).length) * 1) = nums .u8 (ys ++ iP r) := by
  rw [hm, xm _ _ _ (by simp; omega)]
  simp only [nums, ← List.map_take, Nat.mul_one]
  rw [← List.append_assoc, List.take_left' (by simp)]
 rw [h4] at h3
 exact h3
end Go.Proofs.YtpgfjbimodnkeaaGreatDoor.Dec
namespace Go.Proofs.YtpgfjbimodnkeaaGreatDoor.Q
open Go.RowKit Go.Proofs.YtpgfjbimodnkeaaGreatDoorW.PrintWords Go.Proofs.YtpgfjbimodnkeaaGreatDoorW.PrintLast Go.Proofs.YtpgfjbimodnkeaaGreatDoorW.PrintMore
attribute [local go_sem] dH dI dW dY dm dw dK dL
attribute [local go_sem] dH dI dW dY dm dw dK dL
def jy.f (a0 : Int) (a1 : Int) : Option (Int) := if 55296 ≤ a0 then (if a0 < 56320 then (if 56320 ≤ a1 then (if a1 < 57344 then (some (wrap32 ((Go.bits .or .i32 (wrap32 ((wrap32 (a0 - 55296)) * 1024)) (wrap32 (a1 - 56320))) + 65536))) else (some 65533)) else (some 65533)) else (some 65533)) else (some 65533)
theorem jy.calls (a0 : Int) (a1 : Int) (r : Int) (w : World) (h : jy.f a0 a1 = some r) :
 Calls Tryz.prog 82 #[.int .i32 a0, .int .i32 a1] w fun e w' => e = .returned (.int .i32 r) ∧ aj w w' := by
 have H : (if 55296 ≤ a0 then (if a0 < 56320 then (if 56320 ≤ a1 then (if a1 < 57344 then (some (wrap32 ((Go.bits .or .i32 (wrap32 ((wrap32 (a0 - 55296)) * 1024)) (wrap32 (a1 - 56320))) + 65536))) else (some 65533)) else (some 65533)) else (some 65533)) else (some 65533)) = some r := h
 clear h
 by_cases c3 : 55296 ≤ a0
 ·rw [if_pos c3] at H
  have c3b0 : decide (55296 ≤ a0) = true := decide_eq_true c3
  clear c3
  by_cases c4 : a0 < 56320
  ·rw [if_pos c4] at H
   have c4b0 : decide (a0 < 56320) = true := decide_eq_true c4
   clear c4
   by_cases c5 : 56320 ≤ a1
   ·rw [if_pos c5] at H
    have c5b0 : decide (56320 ≤ a1) = true := decide_eq_true c5
    clear c5
    by_cases c6 : a1 < 57344
    ·rw [if_pos c6] at H
     have c6b0 : decide (a1 < 57344) = true := decide_eq_true c6
     clear c6
     obtain rfl := Option.some.inj H
     go_enter Tryz.func82, Tryz.ntmps82
     go_wp2
     go_ret
     exact ⟨by first | rfl | (simp; done) | (simp [*]; done), by repeat (first | exact aj.refl _ | apply aj.step)⟩
    ·rw [if_neg c6] at H
     have c6b0 : decide (a1 < 57344) = false := decide_eq_false c6
     clear c6
     obtain rfl := Option.some.inj H
     go_enter Tryz.func82, Tryz.ntmps82
     go_wp2
     go_ret
     exact ⟨by first | rfl | (simp; done) | (simp [*]; done), by repeat (first | exact aj.refl _ | apply aj.step)⟩
   ·rw [if_neg c5] at H
    have c5b0 : decide (56320 ≤ a1) = false := decide_eq_false c5
    clear c5
    obtain rfl := Option.some.inj H
    go_enter Tryz.func82, Tryz.ntmps82
    go_wp2
    go_ret
    exact ⟨by first | rfl | (simp; done) | (simp [*]; done), by repeat (first | exact aj.refl _ | apply aj.step)⟩
  ·rw [if_neg c4] at H
   have c4b0 : decide (a0 < 56320) = false := decide_eq_false c4
   clear c4
   obtain rfl := Option.some.inj H
   go_enter Tryz.func82, Tryz.ntmps82
   go_wp2
   go_ret
   exact ⟨by first | rfl | (simp; done) | (simp [*]; done), by repeat (first | exact aj.refl _ | apply aj.step)⟩
 ·rw [if_neg c3] at H
  have c3b0 : decide (55296 ≤ a0) = false := decide_eq_false c3
  clear c3
  obtain rfl := Option.some.inj H
  go_enter Tryz.func82, Tryz.ntmps82
  go_wp2
  go_ret
  exact ⟨by first | rfl | (simp; done) | (simp [*]; done), by repeat (first | exact aj.refl _ | apply aj.step)⟩
end Go.Proofs.YtpgfjbimodnkeaaGreatDoor.Q
