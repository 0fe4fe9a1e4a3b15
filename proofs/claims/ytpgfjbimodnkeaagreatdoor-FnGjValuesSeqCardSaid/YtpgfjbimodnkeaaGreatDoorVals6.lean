/- FnGjValuesSeq: whatever text and stop come in, the law returns true and both read afterwards as before; with the package-level variables that its row lists as the program's own text lays them (part 6 of 27: lemmas for its last part) -/
import GoSem.PinnedTables
import Derived.WalkMore
import Derived.Test.YtpgfjbimodnkeaaGreatDoorVals1
import Derived.Test.YtpgfjbimodnkeaaGreatDoorVals3
namespace Go.Proofs.YtpgfjbimodnkeaaGreatDoor.Dec
open Go
def cheatAt (k : Nat) : Nat × List UInt8 := Go.Pinned.cheatRows.getD k (0, [])
def cheatCut (k : Nat) (j : Nat) : Nat := ((cheatAt k).2.getD j 0).toNat
def cheatLen (k : Nat) : Nat := (cheatAt k).2.length
def cheatOk (k : Nat) : Bool :=
 (List.range (cheatLen k)).all (fun j => decide (48 ≤ cheatCut k j) && decide (cheatCut k j ≤ 57)) && (decide (cheatCut k (cheatLen k - 1) ≠ 48)) &&
 decide (10 ^ ((cheatAt k).1 - 1) ≤ 2 ^ k) && decide (2 ^ k < 10 ^ (cheatAt k).1) && decide (val (cheatCut k) 0 (cheatLen k) * 2 ^ k = 10 ^ (cheatLen k + (cheatAt k).1 - 1)) && decide (0 < (cheatAt k).1) && decide ((cheatAt k).1 ≤ 19) && decide (cheatLen k ≤ 42)
theorem cheats_ok : ∀ k, k < 61 → 0 < k → cheatOk k = true := by decide +kernel
theorem cheat_at {k : Nat} (hk : k < 61) (h0 : 0 < k) : Cheat k (cheatAt k).1 (cheatLen k) (cheatCut k) ∧ (cheatAt k).1 ≤ 19 ∧ cheatLen k ≤ 42 := by
 have h := cheats_ok k hk h0
 simp only [cheatOk, Bool.and_eq_true, decide_eq_true_eq, List.all_eq_true, List.mem_range] at h
 obtain ⟨⟨⟨⟨⟨⟨⟨h1, h2⟩, h3⟩, h4⟩, h5⟩, h6⟩, h7⟩, h8⟩ := h
 exact ⟨⟨h1, fun _ => h2, h3, h4, h5, h6⟩, h7, h8⟩
end Go.Proofs.YtpgfjbimodnkeaaGreatDoor.Dec
namespace Go.Proofs.YtpgfjbimodnkeaaGreatDoor.Dec
open Go Go.RowKit Go.Proofs.YtpgfjbimodnkeaaGreatDoorW.PrintWords
def dn (a : Nat → Int) : Nat → Nat := fun j => (a j).toNat
def cn (s : ByteArray) : Nat → Nat := fun j => (bt s j).toNat
def cheatStr (k : Nat) : ByteArray := ⟨(cheatAt k).2.toArray⟩
theorem cheatStr_size (k : Nat) : (cheatStr k).size = cheatLen k := by
 simp [cheatStr, cheatLen, ByteArray.size]
theorem cheatStr_cn (k : Nat) : cn (cheatStr k) = cheatCut k := by
 funext j
 have hb : (cheatStr k).size = (cheatAt k).2.length := cheatStr_size k
 by_cases h : j < (cheatStr k).size
 ·simp only [cn, bt, Int.toNat_natCast, cheatCut, dif_pos h]
  have h' : j < (cheatAt k).2.length := by omega
  simp [cheatStr, ByteArray.getElem_eq_getElem_data, List.getD_eq_getElem?_getD, h']
 ·simp only [cn, bt, Int.toNat_natCast, cheatCut, dif_neg h]
  have h' : (cheatAt k).2.length ≤ j := by omega
  simp [List.getD_eq_getElem?_getD, h']
def TabLeft (w : World) : Prop :=
 ∃ (b : Addr) (cc : Nat), w.cell? ⟨10, 0, none⟩ = some (.slice (some b) 61 cc) ∧ ∀ k, k < 61 →
  w.cell? (b.add (k * 2)) = some (.int .i64 ((cheatAt k).1 : Nat)) ∧ w.cell? ⟨(b.add (k * 2)).block, (b.add (k * 2)).off + 1, none⟩ = some (.string (cheatStr k))
theorem TabLeft.below {w w1 : World} (h : TabLeft w) (hB : Below w.heap.size w w1) : TabLeft w1 := by
 obtain ⟨b, cc, h1, h2⟩ := h
 exact ⟨b, cc, pw_cell_below hB h1, fun k hk => ⟨pw_cell_below hB (h2 k hk).1, pw_cell_below hB (h2 k hk).2⟩⟩
end Go.Proofs.YtpgfjbimodnkeaaGreatDoor.Dec
set_option linter.unusedVariables false
set_option linter.unusedSimpArgs false
namespace Go.Proofs.YtpgfjbimodnkeaaGreatDoor.Dec
open Go Go.RowKit Go.Proofs.YtpgfjbimodnkeaaGreatDoorW.PrintWords Go.Proofs.YtpgfjbimodnkeaaGreatDoorW.PrintLast Go.Proofs.YtpgfjbimodnkeaaGreatDoorW.PrintMore
attribute [local go_sem] add0
set_option maxHeartbeats 8000000 in
set_option maxRecDepth 100000 in
theorem less_calls (w : World) (g n : Nat) (a : Nat → Int) (nd dp : Int) (neg tr : Bool) (s : ByteArray) (hD : IsDec w g a nd dp neg tr) (h : Good a n) (hs : s.size ≤ 1000) :
 Calls Tryz.prog 181 #[.slice (some ⟨g, 0, none⟩) n 800, .string s] w fun e w' => e = .returned (.bool (less (dn a) (cn s) 0 n 0 s.size)) ∧ Drawn0 w w' := by
 go_enter Tryz.func181, Tryz.ntmps181
 go_wp2
 repeat (go_quiet (fail); try go_wp2)
 go_loopg [5] s.size (fun kq v5 w' => ∃ (i : Nat), v5 = .int .i64 (i : Int) ∧ kq = s.size - i ∧ i ≤ s.size ∧ i ≤ n ∧ less (dn a) (cn s) 0 n 0 s.size = less (dn a) (cn s) i (n - i) i (s.size - i) ∧ Drawn0 w w')
 case atStart => exact ⟨0, rfl, rfl, by omega, by omega, rfl, Drawn0.refl _⟩
 case round =>
  obtain ⟨i, rfl, hk, hi, hin, he, hW⟩ := hrel
  obtain ⟨m, rfl⟩ := hW
  have hn := h.high
  have wi : IntKind.i64.wrap ((i : Int) + 1) = ((i + 1 : Nat) : Int) := by rw [i64_w]; unfold wrap64; omega
  by_cases c1 : i < s.size
  ·have c1b : decide ((i : Int) < (s.size : Int)) = true := decide_eq_true (by omega)
   obtain ⟨L, hL⟩ : ∃ L, s.size - i = L + 1 := ⟨s.size - i - 1, by omega⟩
   by_cases c2 : n ≤ i
   ·have c2b : decide ((n : Int) ≤ (i : Int)) = true := decide_eq_true (by omega)
    have hz : n - i = 0 := by omega
    go_wp2
    repeat (go_quiet (fail); try go_wp2)
    go_ret
    refine ⟨?_, by repeat (first | exact Drawn0.refl _ | apply Drawn0.step)⟩
    rw [he, hL, hz]; rfl
   ·have c2b : decide ((n : Int) ≤ (i : Int)) = false := decide_eq_false (by omega)
    obtain ⟨N, hN⟩ : ∃ N, n - i = N + 1 := ⟨n - i - 1, by omega⟩
    have e3 := hD.dig (i := i) (by omega)
    have p1 : 0 ≤ (i : Int) := by omega
    have q1 : (i : Int) < (n : Int) := by omega
    have q2 : (i : Int) < (s.size : Int) := by omega
    have hx : ((s[i]'c1).toNat : Int) = bt s (i : Int) := bt_at s (i : Int) (by simpa using c1)
    have r1 := bt_range s (i : Int)
    have r2 := h.dig i (by omega)
    have r2 := h.dig i (by omega)
    replace p1 := eq_true p1
    replace q1 := eq_true q1
    replace q2 := eq_true q2
    by_cases c3 : a i = bt s i
    ·have c3b : (a i != bt s i) = false := bne_eq_false_iff_eq.mpr c3
     go_wp2
     repeat (go_quiet (fail); try go_wp2)
     go_roundg (s.size - (i + 1))
     case measure => omega
     case rel =>
      refine ⟨i + 1, rfl, rfl, by omega, by omega, ?_, by repeat (first | exact Drawn0.refl _ | apply Drawn0.step)⟩
      rw [he, hL, hN]
      have : dn a i = cn s i := by simp [dn, cn, c3]
      simp only [less, this, if_true]
      congr 1 <;> omega
    ·have c3b : (a i != bt s i) = true := bne_iff_ne.mpr c3
     go_wp2
     repeat (go_quiet (fail); try go_wp2)
     go_ret
     refine ⟨?_, by repeat (first | exact Drawn0.refl _ | apply Drawn0.step)⟩
     rw [he, hL, hN]
     have : dn a i ≠ cn s i := by simp only [dn, cn]; omega
     simp only [less, this, if_false]
     have : (decide (a i < bt s i)) = decide (dn a i < cn s i) := by
      simp only [dn, cn]
      congr 1
      exact propext (by omega)
     first | (rw [this]; rfl) | (simp [this]; done) | (rw [this]; simp)
  ·have c1b : decide ((i : Int) < (s.size : Int)) = false := decide_eq_false (by omega)
   have hz : s.size - i = 0 := by omega
   go_wp2
   repeat (go_quiet (fail); try go_wp2)
   go_ret
   refine ⟨?_, by repeat (first | exact Drawn0.refl _ | apply Drawn0.step)⟩
   rw [he, hz]; simp [less]
end Go.Proofs.YtpgfjbimodnkeaaGreatDoor.Dec
set_option linter.unusedVariables false
set_option linter.unusedSimpArgs false
namespace Go.Proofs.YtpgfjbimodnkeaaGreatDoor.Dec
open Go Go.RowKit Go.Proofs.YtpgfjbimodnkeaaGreatDoorW.PrintWords Go.Proofs.YtpgfjbimodnkeaaGreatDoorW.PrintLast Go.Proofs.YtpgfjbimodnkeaaGreatDoorW.PrintMore
attribute [local go_sem] add0
set_option maxHeartbeats 8000000 in
set_option maxRecDepth 100000 in
theorem trim_calls (w : World) (g : Nat) (a : Nat → Int) (nd dp : Int) (neg tr : Bool) (hD : IsDec w g a nd dp neg tr) (h : Good a nd) :
 Calls Tryz.prog 182 #[.pointer (some ⟨g, 0, none⟩)] w fun e w' => e = .returned (.tuple #[]) ∧ ∃ nd' dp', IsDec w' g a nd' dp' neg tr ∧ Good a nd' ∧ nd' ≤ nd ∧ (0 < nd → 0 < nd' ∧ dp' = dp) ∧ (dp' = dp ∨ dp' = 0) ∧ Below g w w' := by
 have HB := Below.refl g w
 go_enter Tryz.func182, Tryz.ntmps182
 go_wp2
 repeat (go_quiet (fail); try go_wp2)
 go_loopg [] nd.toNat (fun kq w' => ∃ (n : Int), kq = n.toNat ∧ IsDec w' g a n dp neg tr ∧ Good a n ∧ n ≤ nd ∧ (0 < nd → 0 < n) ∧ Below g w w')
 case atStart => exact ⟨nd, rfl, hD, h, Int.le_refl _, id, HB⟩
 case round =>
  obtain ⟨n, hn, hD, hG, hle, hpos, HB⟩ := hrel
  have e1 := hD.at_nd
  have e2 := hD.frozen
  have e4 := hD.at_dp
  by_cases c : 0 < n
  ·have c1 : decide (0 < n) = true := decide_eq_true c
   obtain ⟨m, rfl⟩ : ∃ m : Nat, n = (m : Int) + 1 := ⟨(n - 1).toNat, by omega⟩
   have hm := hG.high
   have hw : IntKind.i64.wrap ((m : Int) + 1 - 1) = (m : Int) := by rw [i64_w]; unfold wrap64; omega
   have e3 := hD.dig (i := m) (by omega)
   have p1 : 0 ≤ (m : Int) := by omega
   have q1 : (m : Int) < 800 := by omega
   replace p1 := eq_true p1
   replace q1 := eq_true q1
   by_cases c2 : a m = 48
   ·have c2b : (a m == 48) = true := beq_iff_eq.mpr c2
    have hm0 : 0 < m := by
     refine Nat.pos_of_ne_zero (fun h0 => ?_)
     subst h0
     exact hG.first (by omega) c2
    go_wp2
    repeat (go_quiet (fail); try go_wp2)
    go_roundg m
    case measure => omega
    case rel => exact ⟨(m : Int), by omega, (hD.drewN' _).set_nd _, hG.less (by omega) (by omega), by omega, fun _ => by omega, (pw_below_drewN HB _).setCell (Nat.le_refl _) _⟩
   ·have c2b : (a m == 48) = false := beq_eq_false_iff_ne.mpr c2
    have c3 : ((m : Int) + 1 == 0) = false := beq_eq_false_iff_ne.mpr (by omega)
    go_wp2
    repeat (go_quiet (fail); try go_wp2)
    first | go_end0 | ((try simp only [Exit.inBlock, Exit.then]); refine bodyPost_ret (results_none rfl _ _ _) rfl ?_)
    exact ⟨by first | rfl | simp, _, _, hD.drewN' _, hG, hle, fun hp => ⟨hpos hp, rfl⟩, .inl rfl, pw_below_drewN HB _⟩
  ·have c1 : decide (0 < n) = false := decide_eq_false c
   have hz : n = 0 := by have := hG.low; omega
   subst hz
   have c3 : ((0 : Int) == 0) = true := rfl
   go_wp2
   repeat (go_quiet (fail); try go_wp2)
   first | go_end0 | ((try simp only [Exit.inBlock, Exit.then]); refine bodyPost_ret (results_none rfl _ _ _) rfl ?_)
   exact ⟨by first | rfl | simp, _, _, (hD.drewN' _).set_dp _, hG, hle, fun hp => absurd (hpos hp) (by omega), .inr rfl, (pw_below_drewN HB _).setCell (Nat.le_refl _) _⟩
end Go.Proofs.YtpgfjbimodnkeaaGreatDoor.Dec
