/- FnGjReverseText: whatever text comes in, the law returns true and the text reads afterwards as before; with the fourteen package-level variables that its row lists as the text of the program lays them (the tied card) (part 25 of 25) -/
import Derived.Deep.QuietTactic
import Derived.BigQuiet
import Derived.Deep.RegionLaw
import Derived.ChangeArms
import Derived.OpenShut
import Derived.LaidLaws
import Derived.MakeChecks
import Derived.ChangeOld
import Derived.Test.YtpgfjbimodnkeaaGreatDoorRows
import Derived.Test.YtpgfjbimodnkeaaGreatDoorTie
import Derived.Test.YtpgfjbimodnkeaaGreatDoorCards
import Derived.WalkKit
import Derived.ProofKit
import Derived.ShutString
import Derived.Below
import Derived.LaidMore
import Derived.Lay
import Derived.SevenTiedAt
import Derived.Stop.Joined
import Derived.Test.YtpgfjbimodnkeaaGreatDoorTurn6
import Derived.Test.YtpgfjbimodnkeaaGreatDoorTurn12
import Derived.Test.YtpgfjbimodnkeaaGreatDoorTurn23
import Derived.Test.YtpgfjbimodnkeaaGreatDoorTurn24
set_option maxHeartbeats 16000000
set_option maxRecDepth 100000
set_option linter.unusedVariables false
set_option linter.unusedSimpArgs false
namespace Go.Proofs.YtpgfjbimodnkeaaGreatDoor.Q
open Go.RowKit Go.Proofs.YtpgfjbimodnkeaaGreatDoorW.PrintWords Go.Proofs.YtpgfjbimodnkeaaGreatDoorW.PrintLast Go.Proofs.YtpgfjbimodnkeaaGreatDoorW.PrintMore
structure Ba (w : World) (gn : Nat) (u : Array Value) (W : World) : Prop where
 kz : W.heap[w.heap.size]? = some (.cells #[.int .i64 0, .string ⟨#[]⟩, .slice none 0 0, .slice none 0 0] 25 (0, 0))
 kn : W.heap[gn]? = some (.cells u 25 (0, 0))
 bel : Below w.heap.size w W
theorem Ba.below {w W W' : World} {gn : Nat} {u : Array Value} (h : Ba w gn u W) (hb : Below W.heap.size W W') : Ba w gn u W' := ⟨bI h.kz hb, bI h.kn hb, dR h.bel h.bel.size hb⟩
theorem Ba.drew {w W : World} {gn : Nat} {u : Array Value} (h : Ba w gn u W) : Ba w gn u W.drew := h.below (dC (Below.refl _ _))
structure BaC (w : World) (gn : Nat) (u : Array Value) (W : World) : Prop where
 z0 : W.cell? ⟨w.heap.size, 0, none⟩ = some (.int .i64 0)
 z1 : W.cell? ⟨w.heap.size, 1, none⟩ = some (.string ⟨#[]⟩)
 z2 : W.cell? ⟨w.heap.size, 2, none⟩ = some (.slice none 0 0)
 z3 : W.cell? ⟨w.heap.size, 3, none⟩ = some (.slice none 0 0)
 f0 : W.frozen? ⟨w.heap.size, 0, none⟩ = false
 f1 : W.frozen? ⟨w.heap.size, 1, none⟩ = false
 f2 : W.frozen? ⟨w.heap.size, 2, none⟩ = false
 f3 : W.frozen? ⟨w.heap.size, 3, none⟩ = false
 n0 : W.cell? ⟨gn, 0, none⟩ = u[0]?
 n1 : W.cell? ⟨gn, 1, none⟩ = u[1]?
 n2 : W.cell? ⟨gn, 2, none⟩ = u[2]?
 n3 : W.cell? ⟨gn, 3, none⟩ = u[3]?
theorem Ba.cells {w W : World} {gn : Nat} {u : Array Value} (h : Ba w gn u W) : BaC w gn u W :=
 ⟨(ah h.kz 0).trans rfl, (ah h.kz 1).trans rfl, (ah h.kz 2).trans rfl, (ah h.kz 3).trans rfl, ak h.kz 0, ak h.kz 1, ak h.kz 2, ak h.kz 3, ah h.kn 0, ah h.kn 1, ah h.kn 2, ah h.kn 3⟩
def tt (k : Nat) : Array Bool := ((List.range 23).map fun x => decide (x < k)).toArray
theorem nD {w w' : World} (h : aj w w') : Below w.heap.size w w' := by
 obtain ⟨nd, rfl⟩ := h
 exact ag (Below.refl _ _) nd
def EG : Bool × List (List Nat × List Nat) := (true, [([], []), ([], []), ([1], [1]), ([2], [2]), ([3, 2, 2], [2, 3]), ([2, 4], [2, 4]), ([5, 4], [5]), ([6], [6]), ([7, 6], [6, 7]), ([8, 6, 6], [6, 8]), ([9, 6], [6, 9]), ([6, 10], [6, 10]), ([11, 9], [11]), ([12], [12]), ([12], [12]), ([14, 12], [12, 14]), ([15, 12], [12, 15]), ([13, 16, 12], [12, 13, 16]), ([17, 12, 12], [12, 17]), ([18, 12], [12, 18]), ([12, 19], [12, 19]), ([0, 18, 0], [0]), ([20, 21, 0, 1, 2, 3, 4, 5, 6, 7, 8, 9, 10, 11, 12, 13, 14, 15, 16, 17, 18, 19, 20, 21], [20])])
def FY : List Nat := [0, 0, 2, 6, 14, 30, 62, 126, 254, 510, 1022, 2046, 4094, 8190, 8190, 24574, 57342, 131070, 262142, 524286, 1048574, 524287, 4194303]
theorem sF : lH .any (opsOf Tryz.f13 2) = EG := by kernel_rfl
theorem qA : o5 EG.2 FY = true := by kernel_rfl
theorem Ba.post {w W : World} {gn : Nat} {u : Array Value} {kd : Int} {txt : ByteArray} {v2 v3 : Value} {keys : List ByteArray} {ts : List S25} {o : Bool} {tmps : Array Value} (h : Ba w gn u W) (h3 : Kd.string.R 9 W (w.heap.size + 1) (fun _ => True) v2 keys) (h4 : k25.R 25 W (w.heap.size + 1) (fun k => some k ≠ v2.ownBlock) v3 ts) (hp : tmps.getD 2 undef = .pointer (some ⟨w.heap.size, 0, none⟩)) (ho : tmps.getD 3 undef = .bool o) :
 bodyPost Tryz.prog Tryz.f13 (fun e w' => ∃ A c A3 c3, e = .returned (.tuple #[.agg #[.int .i64 kd, .string txt, .slice A keys.length c, .slice A3 ts.length c3], .bool o]) ∧ Kd.string.C w' A keys.length keys ∧ k25.C w' A3 ts.length ts ∧ Below w.heap.size w w') .ret { tmps := tmps, defers := [] }
  ((((W.setCell ⟨w.heap.size, 0, none⟩ (.int .i64 kd)).setCell ⟨w.heap.size, 1, none⟩ (.string txt)).setCell ⟨w.heap.size, 2, none⟩ v2).setCell ⟨w.heap.size, 3, none⟩ v3) := by
 refine bodyPost_ret (iZ rfl _ _ w.heap.size 25 #[.int .i64 kd, .string txt, v2, v3] (0, 0) _ hp (bV (bV (bV (bV h.kz 0 _ rfl) 1 _ rfl) 2 _ rfl) 3 _ rfl) Tryz.underlying25 rfl (by kernel_rfl)) rfl ?_
 have hl := Nat.le_refl w.heap.size
 have r3 := ji (ji (ji (ji h3 (p := ⟨w.heap.size, 0, none⟩) (by simp) (.int .i64 kd)) (p := ⟨w.heap.size, 1, none⟩) (by simp) (.string txt)) (p := ⟨w.heap.size, 2, none⟩) (by simp) v2) (p := ⟨w.heap.size, 3, none⟩) (by simp) v3
 have r4 := ji (ji (ji (ji h4 (p := ⟨w.heap.size, 0, none⟩) (by simp) (.int .i64 kd)) (p := ⟨w.heap.size, 1, none⟩) (by simp) (.string txt)) (p := ⟨w.heap.size, 2, none⟩) (by simp) v2) (p := ⟨w.heap.size, 3, none⟩) (by simp) v3
 obtain ⟨A2, c2, rfl, -, hC2⟩ := Kd.kT r3
 obtain ⟨A3, c3, rfl, -, hC3⟩ := Kd.kT r4
 exact ⟨A2, c2, A3, c3, by rw [ho], hC2, hC3, aA (aA (aA (aA h.bel hl) hl) hl) hl⟩
theorem ya (w : World) (s : ByteArray) (kd : Int) (txt : ByteArray) (keys : List ByteArray) (ts : List S25) (ok : Bool) (k : Nat) (h : ig.f k s = some (kd, txt, keys, ts, ok)) (hs : ok = true → 0 < s.size) (hsz : s.size ≤ 2147483647) (u b0 b1 : Bool) (hu : u = uq (SizeOf.sizeOf (⟨kd, txt, keys, ts⟩ : S25) + 1) ⟨kd, txt, keys, ts⟩) (h0 : fJ.f (bt s 0) = some b0) (h1 : fJ.f (bt s ((s.size : Int) - 1)) = some b1) :
 Calls Tryz.prog 13 #[.string s] w fun e w' => ∃ A c A3 c3, e = .returned (.tuple #[.agg #[.int .i64 kd, .string txt, .slice A keys.length c, .slice A3 ts.length c3], .bool (ok && u && !b0 && !b1)]) ∧ Kd.string.C w' A keys.length keys ∧ k25.C w' A3 ts.length ts ∧ Below w.heap.size w w' := by
 have hgt := fun W => ig.calls k s kd txt keys ts ok W h
 have hbl0 := fun W => fJ.calls (bt s 0) b0 W h0
 obtain ⟨j, hj⟩ : ∃ j, j = (s.size : Int) - 1 := ⟨_, rfl⟩
 rw [← hj] at h1
 have hbl1 := fun W => fJ.calls (bt s j) b1 W h1
 replace hj := ae.mk hj
 have hun := fun A2 c2 A3 c3 W => uZ _ (⟨kd, txt, keys, ts⟩ : S25) (Nat.lt_succ_self _) A2 c2 A3 c3 W
 rw [← Nat.succ_eq_add_one] at hu
 rw [← hu] at hun
 clear h0 h1 h hu
 go_enter Tryz.func13, Tryz.ntmps13
 go_wp2_with (fail)
 refine (hgt _).mono ?_
 rintro e w1 ⟨v2, v3, rfl, r2, r3, hB1⟩
 have hz : (w.alloc (.cells #[.int .i64 0, .string ⟨#[]⟩, .slice none 0 0, .slice none 0 0] 25)).heap.size = w.heap.size + 1 := by simp
 rw [hz] at r2 r3
 clear hz
 obtain ⟨A2, c2, rfl, -, hC2⟩ := Kd.kT r2
 obtain ⟨A3, c3, rfl, -, hC3⟩ := Kd.kT r3
 replace r2 := Kd.di r2 (.cells #[.int .i64 kd, .string txt, .slice A2 keys.length c2, .slice A3 ts.length c3] 25)
 replace r3 := Kd.di r3 (.cells #[.int .i64 kd, .string txt, .slice A2 keys.length c2, .slice A3 ts.length c3] 25)
 replace hC2 := Kd.fC hC2 (ai (Below.refl w1.heap.size w1) (.cells #[.int .i64 kd, .string txt, .slice A2 keys.length c2, .slice A3 ts.length c3] 25))
 replace hC3 := Kd.fC hC3 (ai (Below.refl w1.heap.size w1) (.cells #[.int .i64 kd, .string txt, .slice A2 keys.length c2, .slice A3 ts.length c3] 25))
 have S1 : Ba w w1.heap.size #[.int .i64 kd, .string txt, .slice A2 keys.length c2, .slice A3 ts.length c3] (w1.alloc (.cells #[.int .i64 kd, .string txt, .slice A2 keys.length c2, .slice A3 ts.length c3] 25)) :=
  ⟨aN (bI (dX w _) hB1) _, dX w1 _, ai (dR (ai (Below.refl _ _) _) (by simp) hB1) _⟩
 clear hgt
 have hgn : w1.heap.size ≠ w.heap.size := by have := jA (bI (dX w (.cells #[.int .i64 0, .string ⟨#[]⟩, .slice none 0 0, .slice none 0 0] 25)) hB1); omega
 go_wp2_with (fail)
 generalize w1.alloc (.cells #[.int .i64 kd, .string txt, .slice A2 keys.length c2, .slice A3 ts.length c3] 25) = W1 at S1 hC2 hC3 r2 r3 ⊢
 generalize w1.heap.size = gn at S1 hC2 hC3 r2 r3 hgn ⊢
 replace hun := fun W (hW : Below W1.heap.size W1 W) => hun A2 c2 A3 c3 W (Kd.fC hC2 hW) (Kd.fC hC3 hW)
 have SA0 : Ba w gn #[.int .i64 kd, .string txt, .slice A2 keys.length c2, .slice A3 ts.length c3] W1.drew ∧ Below W1.heap.size W1 W1.drew := ⟨S1.drew, dC (Below.refl _ _)⟩
 have SAnext : ∀ {W W' : World}, (Ba w gn #[.int .i64 kd, .string txt, .slice A2 keys.length c2, .slice A3 ts.length c3] W ∧ Below W1.heap.size W1 W) → Below W.heap.size W W' → (Ba w gn #[.int .i64 kd, .string txt, .slice A2 keys.length c2, .slice A3 ts.length c3] W' ∧ Below W1.heap.size W1 W') := fun h hb => ⟨h.1.below hb, dR h.2 h.2.size hb⟩
 have SA := ae.mk SA0
 obtain ⟨z0, z1, z2, z3, f0, f1, f2, f3, n0, n1, n2, n3⟩ := S1.cells
 have SA1 := ae.mk S1
 have hne := ae.mk hgn
 replace r2 := ae.mk r2
 replace r3 := ae.mk r3
 clear S1 SA0 hC2 hC3 hB1 hgn
 have hor : ok = false ∨ ok = true ∧ 0 < s.size := by
  cases ok
  ·exact .inl rfl
  ·exact .inr ⟨rfl, hs rfl⟩
 clear hs
 rcases hor with rfl | ⟨rfl, hpos⟩
 ·go_region
  all_goals go_wp2
  all_goals exact SA1.out.drew.post (Kd.dN r2.out) (Kd.dN r3.out) rfl rfl
 clear z0 z1 z2 z3 f0 f1 f2 f3 n0 n1 n2 n3 SA1
 have i0 : ((0 : Int) < (s.size : Int)) = True := eq_true (by omega)
 have i1 : (0 < s.size) = True := eq_true hpos
 have t0 : ((s[0]'hpos).toNat : Int) = bt s 0 := by simpa using bU s 0 (by simpa using hpos)
 have hj0 : 0 ≤ j := by rw [hj.out]; omega
 have hj1 : j < (s.size : Int) := by rw [hj.out]; omega
 have i2 := eq_true hj0
 have i3 := eq_true hj1
 have hjw : wrap64 ((s.size : Int) - 1) = j := by rw [hj.out]; unfold wrap64; omega
 have t1 := fun h => bU s j h
 clear hj0 hj1
 cases u
 ·
   refine yE (n := 23) (S := fun w' => w'.heap[gn]? = some (.cells #[.int .i64 kd, .string txt, .slice A2 keys.length c2, .slice A3 ts.length c3] 25 (0, 0))) (ds := []) (tt 0) (by kernel_rfl) rfl (by kernel_rfl) SA.out.1.kn (fun hHeld => ?_); refine qc sF qA (fun HT_ HW_ => ?_)
   refine eY (i := 1) (N := some 12) (v := ?_) (a' := ?_) #[false, true, false, false, false, false, false, false, false, false, false, false, false, false, false, false, false, false, false, false, false, false, false] rfl rfl (dP HT_.out (by kernel_rfl)) (fun _ _ _ h => h) (Or.inl ⟨by rfl, ?_⟩) ?_ ?_; rotate_left; (intro w'; go_simp; with_reducible rfl); rotate_left; (simp only [Act.put, List.setIfInBounds_toArray, List.set_cons_zero, List.set_cons_succ, cZ, dD]; rfl)
   refine eY (i := 2) (N := some 13) (v := ?_) (a' := ?_) #[false, true, true, false, false, false, false, false, false, false, false, false, false, false, false, false, false, false, false, false, false, false, false] rfl rfl (dP HT_.out (by kernel_rfl)) (fun _ _ _ h => h) (Or.inl ⟨by rfl, ?_⟩) ?_ ?_; rotate_left; (intro w'; go_simp; with_reducible rfl); rotate_left; (simp only [Act.put, List.setIfInBounds_toArray, List.set_cons_zero, List.set_cons_succ, cZ, dD]; rfl)
   refine pW (i := 0) (N := some 11) (v := ?_) (a' := ?_) (tt 3) rfl rfl (jR HT_.out HW_.out (by kernel_rfl)) (fun _ _ _ h => h) (Or.inl ⟨by rfl, ?_⟩) hHeld ?_ ?_; rotate_left; (intro w' hk; have n0 := (ah hk 0).trans rfl; have n1 := (ah hk 1).trans rfl; have n2 := (ah hk 2).trans rfl; have n3 := (ah hk 3).trans rfl; go_simp; with_reducible rfl); rotate_left; (simp only [Act.put, List.setIfInBounds_toArray, List.set_cons_zero, List.set_cons_succ, cZ, dD]; rfl)
   refine pW (i := 3) (N := some 14) (v := ?_) (a' := ?_) (tt 4) rfl rfl (jR HT_.out HW_.out (by kernel_rfl)) (fun _ _ _ h => h) (Or.inl ⟨by rfl, ?_⟩) hHeld ?_ ?_; rotate_left; (intro w' hk; have n0 := (ah hk 0).trans rfl; have n1 := (ah hk 1).trans rfl; have n2 := (ah hk 2).trans rfl; have n3 := (ah hk 3).trans rfl; go_simp; with_reducible rfl); rotate_left; (simp only [Act.put, List.setIfInBounds_toArray, List.set_cons_zero, List.set_cons_succ, cZ, dD]; rfl)
   refine vg (i := 4) (N := some 15) (tt 5) rfl rfl (lY HT_.out (by kernel_rfl)) (by decide) (fun K hK => ?_); refine uC Tryz.func19 (by kernel_rfl) rfl #[.agg #[.int .i64 kd, .string txt, .slice A2 keys.length c2, .slice A3 ts.length c3]] (by rfl) rfl rfl (by (try simp only [List.map_toArray, List.map_cons, List.map_nil]); first | done | rfl) ?_; (with_reducible refine (hun _ SA.out.2).mono ?_); rintro e wc ⟨rfl, hb⟩; refine ⟨_, rfl, ?_⟩; replace SA := ae.mk (SAnext SA.out hb); clear hb; refine hK.out _ _ SA.out.1.kn (fun hHeld => ?_); clear hK K; refine uO (a' := ?_) ?_ ?_; rotate_left; (show Act.put _ (some 15) _ = _; simp only [Act.put, List.setIfInBounds_toArray, List.set_cons_zero, List.set_cons_succ, cZ, dD]; rfl)
   refine eY (i := 5) (N := some 16) (v := ?_) (a' := ?_) (tt 6) rfl rfl (dP HT_.out (by kernel_rfl)) (fun _ _ _ h => h) (Or.inl ⟨by rfl, ?_⟩) ?_ ?_; rotate_left; (intro w'; go_simp; with_reducible rfl); rotate_left; (simp only [Act.put, List.setIfInBounds_toArray, List.set_cons_zero, List.set_cons_succ, cZ, dD]; rfl)
   refine eY (i := 6) (N := some 17) (v := ?_) (a' := ?_) (tt 7) rfl rfl (dP HT_.out (by kernel_rfl)) (fun _ _ _ h => h) (Or.inl ⟨by rfl, ?_⟩) ?_ ?_; rotate_left; (intro w'; go_simp; with_reducible rfl); rotate_left; (simp only [Act.put, List.setIfInBounds_toArray, List.set_cons_zero, List.set_cons_succ, cZ, dD]; rfl)
   refine eY (i := 7) (N := some 18) (v := undef) (a' := ?_) (tt 8) rfl rfl (dP HT_.out (by kernel_rfl)) (fun _ _ _ h => h) (Or.inr ⟨by rfl, rfl⟩) ?_ ?_; rotate_left; (simp only [Act.put, List.setIfInBounds_toArray, List.set_cons_zero, List.set_cons_succ, cZ, dD]; rfl)
   refine eY (i := 8) (N := some 19) (v := undef) (a' := ?_) (tt 9) rfl rfl (dP HT_.out (by kernel_rfl)) (fun _ _ _ h => h) (Or.inr ⟨by rfl, rfl⟩) ?_ ?_; rotate_left; (simp only [Act.put, List.setIfInBounds_toArray, List.set_cons_zero, List.set_cons_succ, cZ, dD]; rfl)
   refine eY (i := 9) (N := some 20) (v := undef) (a' := ?_) (tt 10) rfl rfl (dP HT_.out (by kernel_rfl)) (fun _ _ _ h => h) (Or.inr ⟨by rfl, rfl⟩) ?_ ?_; rotate_left; (simp only [Act.put, List.setIfInBounds_toArray, List.set_cons_zero, List.set_cons_succ, cZ, dD]; rfl)
   refine eY (i := 10) (N := some 21) (v := undef) (a' := ?_) (tt 11) rfl rfl (dP HT_.out (by kernel_rfl)) (fun _ _ _ h => h) (Or.inr ⟨by rfl, rfl⟩) ?_ ?_; rotate_left; (simp only [Act.put, List.setIfInBounds_toArray, List.set_cons_zero, List.set_cons_succ, cZ, dD]; rfl)
   refine eY (i := 11) (N := some 22) (v := ?_) (a' := ?_) (tt 12) rfl rfl (dP HT_.out (by kernel_rfl)) (fun _ _ _ h => h) (Or.inl ⟨by rfl, ?_⟩) ?_ ?_; rotate_left; (intro w'; go_simp; with_reducible rfl); rotate_left; (simp only [Act.put, List.setIfInBounds_toArray, List.set_cons_zero, List.set_cons_succ, cZ, dD]; rfl)
   refine eY (i := 12) (N := some 23) (v := ?_) (a' := ?_) (tt 13) rfl rfl (dP HT_.out (by kernel_rfl)) (fun _ _ _ h => h) (Or.inl ⟨by rfl, ?_⟩) ?_ ?_; rotate_left; (intro w'; go_simp; with_reducible rfl); rotate_left; (simp only [Act.put, List.setIfInBounds_toArray, List.set_cons_zero, List.set_cons_succ, cZ, dD]; rfl)
   refine eY (i := 13) (N := some 24) (v := undef) (a' := ?_) (tt 14) rfl rfl (dP HT_.out (by kernel_rfl)) (fun _ _ _ h => h) (Or.inr ⟨by rfl, rfl⟩) ?_ ?_; rotate_left; (simp only [Act.put, List.setIfInBounds_toArray, List.set_cons_zero, List.set_cons_succ, cZ, dD]; rfl)
   refine eY (i := 14) (N := some 25) (v := undef) (a' := ?_) (tt 15) rfl rfl (dP HT_.out (by kernel_rfl)) (fun _ _ _ h => h) (Or.inr ⟨by rfl, rfl⟩) ?_ ?_; rotate_left; (simp only [Act.put, List.setIfInBounds_toArray, List.set_cons_zero, List.set_cons_succ, cZ, dD]; rfl)
   refine eY (i := 15) (N := some 26) (v := undef) (a' := ?_) (tt 16) rfl rfl (dP HT_.out (by kernel_rfl)) (fun _ _ _ h => h) (Or.inr ⟨by rfl, rfl⟩) ?_ ?_; rotate_left; (simp only [Act.put, List.setIfInBounds_toArray, List.set_cons_zero, List.set_cons_succ, cZ, dD]; rfl)
   refine eY (i := 16) (N := some 27) (v := undef) (a' := ?_) (tt 17) rfl rfl (dP HT_.out (by kernel_rfl)) (fun _ _ _ h => h) (Or.inr ⟨by rfl, rfl⟩) ?_ ?_; rotate_left; (simp only [Act.put, List.setIfInBounds_toArray, List.set_cons_zero, List.set_cons_succ, cZ, dD]; rfl)
   refine eY (i := 17) (N := some 28) (v := undef) (a' := ?_) (tt 18) rfl rfl (dP HT_.out (by kernel_rfl)) (fun _ _ _ h => h) (Or.inr ⟨by rfl, rfl⟩) ?_ ?_; rotate_left; (simp only [Act.put, List.setIfInBounds_toArray, List.set_cons_zero, List.set_cons_succ, cZ, dD]; rfl)
   refine eY (i := 18) (N := some 29) (v := undef) (a' := ?_) (tt 19) rfl rfl (dP HT_.out (by kernel_rfl)) (fun _ _ _ h => h) (Or.inr ⟨by rfl, rfl⟩) ?_ ?_; rotate_left; (simp only [Act.put, List.setIfInBounds_toArray, List.set_cons_zero, List.set_cons_succ, cZ, dD]; rfl)
   refine eY (i := 19) (N := some 30) (v := undef) (a' := ?_) (tt 20) rfl rfl (dP HT_.out (by kernel_rfl)) (fun _ _ _ h => h) (Or.inr ⟨by rfl, rfl⟩) ?_ ?_; rotate_left; (simp only [Act.put, List.setIfInBounds_toArray, List.set_cons_zero, List.set_cons_succ, cZ, dD]; rfl)
   refine eY (i := 20) (N := some 31) (v := ?_) (a' := ?_) (tt 21) rfl rfl (dP HT_.out (by kernel_rfl)) (fun _ _ _ h => h) (Or.inl ⟨by rfl, ?_⟩) ?_ ?_; rotate_left; (intro w'; go_simp; with_reducible rfl); rotate_left; (simp only [Act.put, List.setIfInBounds_toArray, List.set_cons_zero, List.set_cons_succ, cZ, dD]; rfl)
   refine vg (i := 21) (N := none) (tt 22) rfl rfl (lY HT_.out (by kernel_rfl)) (by decide) (fun K hK => ?_)
   obtain ⟨z0, z1, z2, z3, f0, f1, f2, f3, n0, n1, n2, n3⟩ := SA.out.1.cells
   refine CS (w1 := ?_) (by rfl) rfl ?_ ?_
   rotate_left
   ·go_simp
    rfl
   refine hK.out _ _ (df (df (df (df hHeld hne.out _) hne.out _) hne.out _) hne.out _) (fun hHeld => ?_)
   clear hK K z0 z1 z2 z3 f0 f1 f2 f3 n0 n1 n2 n3
   refine eY (i := 22) (N := some 3) (v := ?_) (a' := ?_) (tt 23) rfl rfl (dP HT_.out (by kernel_rfl)) (fun _ _ _ h => h) (Or.inl ⟨by rfl, ?_⟩) ?_ ?_; rotate_left; (intro w'; go_simp; with_reducible rfl); rotate_left; (simp only [Act.put, List.setIfInBounds_toArray, List.set_cons_zero, List.set_cons_succ, cZ, dD]; rfl)
   refine BZ (uY HT_.out (by kernel_rfl)) ?_
   try go_wp2
   exact SA.out.1.post (Kd.gX r2.out SA.out.2) (Kd.gX r3.out SA.out.2) rfl rfl
 cases b0
 ·
   refine yE (n := 23) (S := fun w' => w'.heap[gn]? = some (.cells #[.int .i64 kd, .string txt, .slice A2 keys.length c2, .slice A3 ts.length c3] 25 (0, 0))) (ds := []) (tt 0) (by kernel_rfl) rfl (by kernel_rfl) SA.out.1.kn (fun hHeld => ?_); refine qc sF qA (fun HT_ HW_ => ?_)
   refine eY (i := 1) (N := some 12) (v := ?_) (a' := ?_) #[false, true, false, false, false, false, false, false, false, false, false, false, false, false, false, false, false, false, false, false, false, false, false] rfl rfl (dP HT_.out (by kernel_rfl)) (fun _ _ _ h => h) (Or.inl ⟨by rfl, ?_⟩) ?_ ?_; rotate_left; (intro w'; go_simp; with_reducible rfl); rotate_left; (simp only [Act.put, List.setIfInBounds_toArray, List.set_cons_zero, List.set_cons_succ, cZ, dD]; rfl)
   refine eY (i := 2) (N := some 13) (v := ?_) (a' := ?_) #[false, true, true, false, false, false, false, false, false, false, false, false, false, false, false, false, false, false, false, false, false, false, false] rfl rfl (dP HT_.out (by kernel_rfl)) (fun _ _ _ h => h) (Or.inl ⟨by rfl, ?_⟩) ?_ ?_; rotate_left; (intro w'; go_simp; with_reducible rfl); rotate_left; (simp only [Act.put, List.setIfInBounds_toArray, List.set_cons_zero, List.set_cons_succ, cZ, dD]; rfl)
   refine pW (i := 0) (N := some 11) (v := ?_) (a' := ?_) (tt 3) rfl rfl (jR HT_.out HW_.out (by kernel_rfl)) (fun _ _ _ h => h) (Or.inl ⟨by rfl, ?_⟩) hHeld ?_ ?_; rotate_left; (intro w' hk; have n0 := (ah hk 0).trans rfl; have n1 := (ah hk 1).trans rfl; have n2 := (ah hk 2).trans rfl; have n3 := (ah hk 3).trans rfl; go_simp; with_reducible rfl); rotate_left; (simp only [Act.put, List.setIfInBounds_toArray, List.set_cons_zero, List.set_cons_succ, cZ, dD]; rfl)
   refine pW (i := 3) (N := some 14) (v := ?_) (a' := ?_) (tt 4) rfl rfl (jR HT_.out HW_.out (by kernel_rfl)) (fun _ _ _ h => h) (Or.inl ⟨by rfl, ?_⟩) hHeld ?_ ?_; rotate_left; (intro w' hk; have n0 := (ah hk 0).trans rfl; have n1 := (ah hk 1).trans rfl; have n2 := (ah hk 2).trans rfl; have n3 := (ah hk 3).trans rfl; go_simp; with_reducible rfl); rotate_left; (simp only [Act.put, List.setIfInBounds_toArray, List.set_cons_zero, List.set_cons_succ, cZ, dD]; rfl)
   refine vg (i := 4) (N := some 15) (tt 5) rfl rfl (lY HT_.out (by kernel_rfl)) (by decide) (fun K hK => ?_); refine uC Tryz.func19 (by kernel_rfl) rfl #[.agg #[.int .i64 kd, .string txt, .slice A2 keys.length c2, .slice A3 ts.length c3]] (by rfl) rfl rfl (by (try simp only [List.map_toArray, List.map_cons, List.map_nil]); first | done | rfl) ?_; (with_reducible refine (hun _ SA.out.2).mono ?_); rintro e wc ⟨rfl, hb⟩; refine ⟨_, rfl, ?_⟩; replace SA := ae.mk (SAnext SA.out hb); clear hb; refine hK.out _ _ SA.out.1.kn (fun hHeld => ?_); clear hK K; refine uO (a' := ?_) ?_ ?_; rotate_left; (show Act.put _ (some 15) _ = _; simp only [Act.put, List.setIfInBounds_toArray, List.set_cons_zero, List.set_cons_succ, cZ, dD]; rfl)
   refine eY (i := 5) (N := some 16) (v := ?_) (a' := ?_) (tt 6) rfl rfl (dP HT_.out (by kernel_rfl)) (fun _ _ _ h => h) (Or.inl ⟨by rfl, ?_⟩) ?_ ?_; rotate_left; (intro w'; go_simp; with_reducible rfl); rotate_left; (simp only [Act.put, List.setIfInBounds_toArray, List.set_cons_zero, List.set_cons_succ, cZ, dD]; rfl)
   refine eY (i := 6) (N := some 17) (v := ?_) (a' := ?_) (tt 7) rfl rfl (dP HT_.out (by kernel_rfl)) (fun _ _ _ h => h) (Or.inl ⟨by rfl, ?_⟩) ?_ ?_; rotate_left; (intro w'; go_simp; with_reducible rfl); rotate_left; (simp only [Act.put, List.setIfInBounds_toArray, List.set_cons_zero, List.set_cons_succ, cZ, dD]; rfl)
   refine eY (i := 7) (N := some 18) (v := ?_) (a' := ?_) (tt 8) rfl rfl (dP HT_.out (by kernel_rfl)) (fun _ _ _ h => h) (Or.inl ⟨by rfl, ?_⟩) ?_ ?_; rotate_left; (intro w'; go_simp; with_reducible rfl); rotate_left; (simp only [Act.put, List.setIfInBounds_toArray, List.set_cons_zero, List.set_cons_succ, cZ, dD]; rfl)
   refine pW (i := 8) (N := some 19) (v := ?_) (a' := ?_) (tt 9) rfl rfl (jR HT_.out HW_.out (by kernel_rfl)) (fun _ _ _ h => h) (Or.inl ⟨by rfl, ?_⟩) hHeld ?_ ?_; rotate_left; (intro w' hk; have n0 := (ah hk 0).trans rfl; have n1 := (ah hk 1).trans rfl; have n2 := (ah hk 2).trans rfl; have n3 := (ah hk 3).trans rfl; go_simp; with_reducible rfl); rotate_left; (simp only [Act.put, List.setIfInBounds_toArray, List.set_cons_zero, List.set_cons_succ, cZ, dD]; rfl)
   refine vg (i := 9) (N := some 20) (tt 10) rfl rfl (lY HT_.out (by kernel_rfl)) (by decide) (fun K hK => ?_); refine uC Tryz.func9 (by kernel_rfl) rfl #[.int .u8 (bt s 0)] (by rfl) rfl rfl (by (try simp only [List.map_toArray, List.map_cons, List.map_nil]); first | done | rfl) ?_; (with_reducible refine (hbl0 _).mono ?_); rintro e wc ⟨rfl, hd⟩; refine ⟨_, rfl, ?_⟩; replace SA := ae.mk (SAnext SA.out (nD hd)); clear hd; refine hK.out _ _ SA.out.1.kn (fun hHeld => ?_); clear hK K; refine uO (a' := ?_) ?_ ?_; rotate_left; (show Act.put _ (some 20) _ = _; simp only [Act.put, List.setIfInBounds_toArray, List.set_cons_zero, List.set_cons_succ, cZ, dD]; rfl)
   refine eY (i := 10) (N := some 21) (v := ?_) (a' := ?_) (tt 11) rfl rfl (dP HT_.out (by kernel_rfl)) (fun _ _ _ h => h) (Or.inl ⟨by rfl, ?_⟩) ?_ ?_; rotate_left; (intro w'; go_simp; with_reducible rfl); rotate_left; (simp only [Act.put, List.setIfInBounds_toArray, List.set_cons_zero, List.set_cons_succ, cZ, dD]; rfl)
   refine eY (i := 11) (N := some 22) (v := ?_) (a' := ?_) (tt 12) rfl rfl (dP HT_.out (by kernel_rfl)) (fun _ _ _ h => h) (Or.inl ⟨by rfl, ?_⟩) ?_ ?_; rotate_left; (intro w'; go_simp; with_reducible rfl); rotate_left; (simp only [Act.put, List.setIfInBounds_toArray, List.set_cons_zero, List.set_cons_succ, cZ, dD]; rfl)
   refine eY (i := 12) (N := some 23) (v := ?_) (a' := ?_) (tt 13) rfl rfl (dP HT_.out (by kernel_rfl)) (fun _ _ _ h => h) (Or.inl ⟨by rfl, ?_⟩) ?_ ?_; rotate_left; (intro w'; go_simp; with_reducible rfl); rotate_left; (simp only [Act.put, List.setIfInBounds_toArray, List.set_cons_zero, List.set_cons_succ, cZ, dD]; rfl)
   refine eY (i := 13) (N := some 24) (v := ?_) (a' := ?_) (tt 14) rfl rfl (dP HT_.out (by kernel_rfl)) (fun _ _ _ h => h) (Or.inl ⟨by rfl, ?_⟩) ?_ ?_; rotate_left; (intro w'; go_simp; with_reducible rfl); rotate_left; (simp only [Act.put, List.setIfInBounds_toArray, List.set_cons_zero, List.set_cons_succ, cZ, dD]; rfl)
   refine eY (i := 14) (N := some 25) (v := ?_) (a' := ?_) (tt 15) rfl rfl (dP HT_.out (by kernel_rfl)) (fun _ _ _ h => h) (Or.inl ⟨by rfl, ?_⟩) ?_ ?_; rotate_left; (intro w'; go_simp; with_reducible rfl); rotate_left; (simp only [Act.put, List.setIfInBounds_toArray, List.set_cons_zero, List.set_cons_succ, cZ, dD]; rfl)
   refine eY (i := 15) (N := some 26) (v := ?_) (a' := ?_) (tt 16) rfl rfl (dP HT_.out (by kernel_rfl)) (fun _ _ _ h => h) (Or.inl ⟨by rfl, ?_⟩) ?_ ?_; rotate_left; (intro w'; go_simp; with_reducible rfl); rotate_left; (simp only [Act.put, List.setIfInBounds_toArray, List.set_cons_zero, List.set_cons_succ, cZ, dD]; rfl)
   refine eY (i := 16) (N := some 27) (v := ?_) (a' := ?_) (tt 17) rfl rfl (dP HT_.out (by kernel_rfl)) (fun _ _ _ h => h) (Or.inl ⟨by rfl, ?_⟩) ?_ ?_; rotate_left; (intro w'; go_simp; with_reducible rfl); rotate_left; (simp only [Act.put, List.setIfInBounds_toArray, List.set_cons_zero, List.set_cons_succ, cZ, dD]; rfl)
   refine pW (i := 17) (N := some 28) (v := ?_) (a' := ?_) (tt 18) rfl rfl (jR HT_.out HW_.out (by kernel_rfl)) (fun _ _ _ h => h) (Or.inl ⟨by rfl, ?_⟩) hHeld ?_ ?_; rotate_left; (intro w' hk; have n0 := (ah hk 0).trans rfl; have n1 := (ah hk 1).trans rfl; have n2 := (ah hk 2).trans rfl; have n3 := (ah hk 3).trans rfl; go_simp; with_reducible rfl); rotate_left; (simp only [Act.put, List.setIfInBounds_toArray, List.set_cons_zero, List.set_cons_succ, cZ, dD]; rfl)
   refine vg (i := 18) (N := some 29) (tt 19) rfl rfl (lY HT_.out (by kernel_rfl)) (by decide) (fun K hK => ?_); refine uC Tryz.func9 (by kernel_rfl) rfl #[.int .u8 (bt s j)] (by rfl) rfl rfl (by (try simp only [List.map_toArray, List.map_cons, List.map_nil]); first | done | rfl) ?_; (with_reducible refine (hbl1 _).mono ?_); rintro e wc ⟨rfl, hd⟩; refine ⟨_, rfl, ?_⟩; replace SA := ae.mk (SAnext SA.out (nD hd)); clear hd; refine hK.out _ _ SA.out.1.kn (fun hHeld => ?_); clear hK K; refine uO (a' := ?_) ?_ ?_; rotate_left; (show Act.put _ (some 29) _ = _; simp only [Act.put, List.setIfInBounds_toArray, List.set_cons_zero, List.set_cons_succ, cZ, dD]; rfl)
   refine eY (i := 19) (N := some 30) (v := ?_) (a' := ?_) (tt 20) rfl rfl (dP HT_.out (by kernel_rfl)) (fun _ _ _ h => h) (Or.inl ⟨by rfl, ?_⟩) ?_ ?_; rotate_left; (intro w'; go_simp; with_reducible rfl); rotate_left; (simp only [Act.put, List.setIfInBounds_toArray, List.set_cons_zero, List.set_cons_succ, cZ, dD]; rfl)
   refine eY (i := 20) (N := some 31) (v := ?_) (a' := ?_) (tt 21) rfl rfl (dP HT_.out (by kernel_rfl)) (fun _ _ _ h => h) (Or.inl ⟨by rfl, ?_⟩) ?_ ?_; rotate_left; (intro w'; go_simp; with_reducible rfl); rotate_left; (simp only [Act.put, List.setIfInBounds_toArray, List.set_cons_zero, List.set_cons_succ, cZ, dD]; rfl)
   refine vg (i := 21) (N := none) (tt 22) rfl rfl (lY HT_.out (by kernel_rfl)) (by decide) (fun K hK => ?_)
   obtain ⟨z0, z1, z2, z3, f0, f1, f2, f3, n0, n1, n2, n3⟩ := SA.out.1.cells
   refine CS (w1 := ?_) (by rfl) rfl ?_ ?_
   rotate_left
   ·go_simp
    rfl
   refine hK.out _ _ (df (df (df (df hHeld hne.out _) hne.out _) hne.out _) hne.out _) (fun hHeld => ?_)
   clear hK K z0 z1 z2 z3 f0 f1 f2 f3 n0 n1 n2 n3
   refine eY (i := 22) (N := some 3) (v := ?_) (a' := ?_) (tt 23) rfl rfl (dP HT_.out (by kernel_rfl)) (fun _ _ _ h => h) (Or.inl ⟨by rfl, ?_⟩) ?_ ?_; rotate_left; (intro w'; go_simp; with_reducible rfl); rotate_left; (simp only [Act.put, List.setIfInBounds_toArray, List.set_cons_zero, List.set_cons_succ, cZ, dD]; rfl)
   refine BZ (uY HT_.out (by kernel_rfl)) ?_
   try go_wp2
   exact SA.out.1.post (Kd.gX r2.out SA.out.2) (Kd.gX r3.out SA.out.2) rfl rfl
 ·
   refine yE (n := 23) (S := fun w' => w'.heap[gn]? = some (.cells #[.int .i64 kd, .string txt, .slice A2 keys.length c2, .slice A3 ts.length c3] 25 (0, 0))) (ds := []) (tt 0) (by kernel_rfl) rfl (by kernel_rfl) SA.out.1.kn (fun hHeld => ?_); refine qc sF qA (fun HT_ HW_ => ?_)
   refine eY (i := 1) (N := some 12) (v := ?_) (a' := ?_) #[false, true, false, false, false, false, false, false, false, false, false, false, false, false, false, false, false, false, false, false, false, false, false] rfl rfl (dP HT_.out (by kernel_rfl)) (fun _ _ _ h => h) (Or.inl ⟨by rfl, ?_⟩) ?_ ?_; rotate_left; (intro w'; go_simp; with_reducible rfl); rotate_left; (simp only [Act.put, List.setIfInBounds_toArray, List.set_cons_zero, List.set_cons_succ, cZ, dD]; rfl)
   refine eY (i := 2) (N := some 13) (v := ?_) (a' := ?_) #[false, true, true, false, false, false, false, false, false, false, false, false, false, false, false, false, false, false, false, false, false, false, false] rfl rfl (dP HT_.out (by kernel_rfl)) (fun _ _ _ h => h) (Or.inl ⟨by rfl, ?_⟩) ?_ ?_; rotate_left; (intro w'; go_simp; with_reducible rfl); rotate_left; (simp only [Act.put, List.setIfInBounds_toArray, List.set_cons_zero, List.set_cons_succ, cZ, dD]; rfl)
   refine pW (i := 0) (N := some 11) (v := ?_) (a' := ?_) (tt 3) rfl rfl (jR HT_.out HW_.out (by kernel_rfl)) (fun _ _ _ h => h) (Or.inl ⟨by rfl, ?_⟩) hHeld ?_ ?_; rotate_left; (intro w' hk; have n0 := (ah hk 0).trans rfl; have n1 := (ah hk 1).trans rfl; have n2 := (ah hk 2).trans rfl; have n3 := (ah hk 3).trans rfl; go_simp; with_reducible rfl); rotate_left; (simp only [Act.put, List.setIfInBounds_toArray, List.set_cons_zero, List.set_cons_succ, cZ, dD]; rfl)
   refine pW (i := 3) (N := some 14) (v := ?_) (a' := ?_) (tt 4) rfl rfl (jR HT_.out HW_.out (by kernel_rfl)) (fun _ _ _ h => h) (Or.inl ⟨by rfl, ?_⟩) hHeld ?_ ?_; rotate_left; (intro w' hk; have n0 := (ah hk 0).trans rfl; have n1 := (ah hk 1).trans rfl; have n2 := (ah hk 2).trans rfl; have n3 := (ah hk 3).trans rfl; go_simp; with_reducible rfl); rotate_left; (simp only [Act.put, List.setIfInBounds_toArray, List.set_cons_zero, List.set_cons_succ, cZ, dD]; rfl)
   refine vg (i := 4) (N := some 15) (tt 5) rfl rfl (lY HT_.out (by kernel_rfl)) (by decide) (fun K hK => ?_); refine uC Tryz.func19 (by kernel_rfl) rfl #[.agg #[.int .i64 kd, .string txt, .slice A2 keys.length c2, .slice A3 ts.length c3]] (by rfl) rfl rfl (by (try simp only [List.map_toArray, List.map_cons, List.map_nil]); first | done | rfl) ?_; (with_reducible refine (hun _ SA.out.2).mono ?_); rintro e wc ⟨rfl, hb⟩; refine ⟨_, rfl, ?_⟩; replace SA := ae.mk (SAnext SA.out hb); clear hb; refine hK.out _ _ SA.out.1.kn (fun hHeld => ?_); clear hK K; refine uO (a' := ?_) ?_ ?_; rotate_left; (show Act.put _ (some 15) _ = _; simp only [Act.put, List.setIfInBounds_toArray, List.set_cons_zero, List.set_cons_succ, cZ, dD]; rfl)
   refine eY (i := 5) (N := some 16) (v := ?_) (a' := ?_) (tt 6) rfl rfl (dP HT_.out (by kernel_rfl)) (fun _ _ _ h => h) (Or.inl ⟨by rfl, ?_⟩) ?_ ?_; rotate_left; (intro w'; go_simp; with_reducible rfl); rotate_left; (simp only [Act.put, List.setIfInBounds_toArray, List.set_cons_zero, List.set_cons_succ, cZ, dD]; rfl)
   refine eY (i := 6) (N := some 17) (v := ?_) (a' := ?_) (tt 7) rfl rfl (dP HT_.out (by kernel_rfl)) (fun _ _ _ h => h) (Or.inl ⟨by rfl, ?_⟩) ?_ ?_; rotate_left; (intro w'; go_simp; with_reducible rfl); rotate_left; (simp only [Act.put, List.setIfInBounds_toArray, List.set_cons_zero, List.set_cons_succ, cZ, dD]; rfl)
   refine eY (i := 7) (N := some 18) (v := ?_) (a' := ?_) (tt 8) rfl rfl (dP HT_.out (by kernel_rfl)) (fun _ _ _ h => h) (Or.inl ⟨by rfl, ?_⟩) ?_ ?_; rotate_left; (intro w'; go_simp; with_reducible rfl); rotate_left; (simp only [Act.put, List.setIfInBounds_toArray, List.set_cons_zero, List.set_cons_succ, cZ, dD]; rfl)
   refine pW (i := 8) (N := some 19) (v := ?_) (a' := ?_) (tt 9) rfl rfl (jR HT_.out HW_.out (by kernel_rfl)) (fun _ _ _ h => h) (Or.inl ⟨by rfl, ?_⟩) hHeld ?_ ?_; rotate_left; (intro w' hk; have n0 := (ah hk 0).trans rfl; have n1 := (ah hk 1).trans rfl; have n2 := (ah hk 2).trans rfl; have n3 := (ah hk 3).trans rfl; go_simp; with_reducible rfl); rotate_left; (simp only [Act.put, List.setIfInBounds_toArray, List.set_cons_zero, List.set_cons_succ, cZ, dD]; rfl)
   refine vg (i := 9) (N := some 20) (tt 10) rfl rfl (lY HT_.out (by kernel_rfl)) (by decide) (fun K hK => ?_); refine uC Tryz.func9 (by kernel_rfl) rfl #[.int .u8 (bt s 0)] (by rfl) rfl rfl (by (try simp only [List.map_toArray, List.map_cons, List.map_nil]); first | done | rfl) ?_; (with_reducible refine (hbl0 _).mono ?_); rintro e wc ⟨rfl, hd⟩; refine ⟨_, rfl, ?_⟩; replace SA := ae.mk (SAnext SA.out (nD hd)); clear hd; refine hK.out _ _ SA.out.1.kn (fun hHeld => ?_); clear hK K; refine uO (a' := ?_) ?_ ?_; rotate_left; (show Act.put _ (some 20) _ = _; simp only [Act.put, List.setIfInBounds_toArray, List.set_cons_zero, List.set_cons_succ, cZ, dD]; rfl)
   refine eY (i := 10) (N := some 21) (v := ?_) (a' := ?_) (tt 11) rfl rfl (dP HT_.out (by kernel_rfl)) (fun _ _ _ h => h) (Or.inl ⟨by rfl, ?_⟩) ?_ ?_; rotate_left; (intro w'; go_simp; with_reducible rfl); rotate_left; (simp only [Act.put, List.setIfInBounds_toArray, List.set_cons_zero, List.set_cons_succ, cZ, dD]; rfl)
   refine eY (i := 11) (N := some 22) (v := ?_) (a' := ?_) (tt 12) rfl rfl (dP HT_.out (by kernel_rfl)) (fun _ _ _ h => h) (Or.inl ⟨by rfl, ?_⟩) ?_ ?_; rotate_left; (intro w'; go_simp; with_reducible rfl); rotate_left; (simp only [Act.put, List.setIfInBounds_toArray, List.set_cons_zero, List.set_cons_succ, cZ, dD]; rfl)
   refine eY (i := 12) (N := some 23) (v := ?_) (a' := ?_) (tt 13) rfl rfl (dP HT_.out (by kernel_rfl)) (fun _ _ _ h => h) (Or.inl ⟨by rfl, ?_⟩) ?_ ?_; rotate_left; (intro w'; go_simp; with_reducible rfl); rotate_left; (simp only [Act.put, List.setIfInBounds_toArray, List.set_cons_zero, List.set_cons_succ, cZ, dD]; rfl)
   refine eY (i := 13) (N := some 24) (v := undef) (a' := ?_) (tt 14) rfl rfl (dP HT_.out (by kernel_rfl)) (fun _ _ _ h => h) (Or.inr ⟨by rfl, rfl⟩) ?_ ?_; rotate_left; (simp only [Act.put, List.setIfInBounds_toArray, List.set_cons_zero, List.set_cons_succ, cZ, dD]; rfl)
   refine eY (i := 14) (N := some 25) (v := undef) (a' := ?_) (tt 15) rfl rfl (dP HT_.out (by kernel_rfl)) (fun _ _ _ h => h) (Or.inr ⟨by rfl, rfl⟩) ?_ ?_; rotate_left; (simp only [Act.put, List.setIfInBounds_toArray, List.set_cons_zero, List.set_cons_succ, cZ, dD]; rfl)
   refine eY (i := 15) (N := some 26) (v := undef) (a' := ?_) (tt 16) rfl rfl (dP HT_.out (by kernel_rfl)) (fun _ _ _ h => h) (Or.inr ⟨by rfl, rfl⟩) ?_ ?_; rotate_left; (simp only [Act.put, List.setIfInBounds_toArray, List.set_cons_zero, List.set_cons_succ, cZ, dD]; rfl)
   refine eY (i := 16) (N := some 27) (v := undef) (a' := ?_) (tt 17) rfl rfl (dP HT_.out (by kernel_rfl)) (fun _ _ _ h => h) (Or.inr ⟨by rfl, rfl⟩) ?_ ?_; rotate_left; (simp only [Act.put, List.setIfInBounds_toArray, List.set_cons_zero, List.set_cons_succ, cZ, dD]; rfl)
   refine eY (i := 17) (N := some 28) (v := undef) (a' := ?_) (tt 18) rfl rfl (dP HT_.out (by kernel_rfl)) (fun _ _ _ h => h) (Or.inr ⟨by rfl, rfl⟩) ?_ ?_; rotate_left; (simp only [Act.put, List.setIfInBounds_toArray, List.set_cons_zero, List.set_cons_succ, cZ, dD]; rfl)
   refine eY (i := 18) (N := some 29) (v := undef) (a' := ?_) (tt 19) rfl rfl (dP HT_.out (by kernel_rfl)) (fun _ _ _ h => h) (Or.inr ⟨by rfl, rfl⟩) ?_ ?_; rotate_left; (simp only [Act.put, List.setIfInBounds_toArray, List.set_cons_zero, List.set_cons_succ, cZ, dD]; rfl)
   refine eY (i := 19) (N := some 30) (v := undef) (a' := ?_) (tt 20) rfl rfl (dP HT_.out (by kernel_rfl)) (fun _ _ _ h => h) (Or.inr ⟨by rfl, rfl⟩) ?_ ?_; rotate_left; (simp only [Act.put, List.setIfInBounds_toArray, List.set_cons_zero, List.set_cons_succ, cZ, dD]; rfl)
   refine eY (i := 20) (N := some 31) (v := ?_) (a' := ?_) (tt 21) rfl rfl (dP HT_.out (by kernel_rfl)) (fun _ _ _ h => h) (Or.inl ⟨by rfl, ?_⟩) ?_ ?_; rotate_left; (intro w'; go_simp; with_reducible rfl); rotate_left; (simp only [Act.put, List.setIfInBounds_toArray, List.set_cons_zero, List.set_cons_succ, cZ, dD]; rfl)
   refine vg (i := 21) (N := none) (tt 22) rfl rfl (lY HT_.out (by kernel_rfl)) (by decide) (fun K hK => ?_)
   obtain ⟨z0, z1, z2, z3, f0, f1, f2, f3, n0, n1, n2, n3⟩ := SA.out.1.cells
   refine CS (w1 := ?_) (by rfl) rfl ?_ ?_
   rotate_left
   ·go_simp
    rfl
   refine hK.out _ _ (df (df (df (df hHeld hne.out _) hne.out _) hne.out _) hne.out _) (fun hHeld => ?_)
   clear hK K z0 z1 z2 z3 f0 f1 f2 f3 n0 n1 n2 n3
   refine eY (i := 22) (N := some 3) (v := ?_) (a' := ?_) (tt 23) rfl rfl (dP HT_.out (by kernel_rfl)) (fun _ _ _ h => h) (Or.inl ⟨by rfl, ?_⟩) ?_ ?_; rotate_left; (intro w'; go_simp; with_reducible rfl); rotate_left; (simp only [Act.put, List.setIfInBounds_toArray, List.set_cons_zero, List.set_cons_succ, cZ, dD]; rfl)
   refine BZ (uY HT_.out (by kernel_rfl)) ?_
   try go_wp2
   exact SA.out.1.post (Kd.gX r2.out SA.out.2) (Kd.gX r3.out SA.out.2) rfl rfl
structure Sm (w : World) (g1 g2 : Nat) (u v : Array Value) (W : World) : Prop where
 k1 : W.heap[g1]? = some (.cells u 25 (0, 0))
 k2 : W.heap[g2]? = some (.cells v 25 (0, 0))
 bel : Below w.heap.size w W
theorem Sm.below {w W W' : World} {g1 g2 : Nat} {u v : Array Value} (h : Sm w g1 g2 u v W) (hb : Below W.heap.size W W') : Sm w g1 g2 u v W' := ⟨bI h.k1 hb, bI h.k2 hb, dR h.bel h.bel.size hb⟩
theorem Sm.drewN {w W : World} {g1 g2 : Nat} {u v : Array Value} (h : Sm w g1 g2 u v W) (n : Nat) : Sm w g1 g2 u v (W.drewN n) := h.below (ag (Below.refl _ _) n)
theorem Sm.drew {w W : World} {g1 g2 : Nat} {u v : Array Value} (h : Sm w g1 g2 u v W) : Sm w g1 g2 u v W.drew := h.below (dC (Below.refl _ _))
theorem ye (n : Nat) : ∀ (t : S25), SizeOf.sizeOf t < n → ∀ (A2 : Option Addr) (c2 : Nat) (A3 : Option Addr) (c3 : Nat) (B2 : Option Addr) (d2 : Nat) (B3 : Option Addr) (d3 : Nat) (w : World) (h2 : Kd.string.C w A2 t.f2.length t.f2) (h3 : k25.C w A3 t.f3.length t.f3) (h4 : Kd.string.C w B2 t.f2.length t.f2) (h5 : k25.C w B3 t.f3.length t.f3),
 Calls Tryz.prog 38 #[.agg #[.int .i64 t.f0, .string t.f1, .slice A2 t.f2.length c2, .slice A3 t.f3.length c3], .agg #[.int .i64 t.f0, .string t.f1, .slice B2 t.f2.length d2, .slice B3 t.f3.length d3]] w fun e w' => e = .returned (.bool true) ∧ Below w.heap.size w w' := by
 induction n with
 | zero => exact fun t h => absurd h (by omega)
 | succ n ih =>
 intro t ht A2 c2 A3 c3 B2 d2 B3 d3 w h2 h3 h4 h5
 have hm := Kd.xG h2
 have hm3 := Kd.xG h3
 have hsub : ∀ x ∈ t.f3, SizeOf.sizeOf x < n := fun x hx => by have := zH t x hx; omega
 generalize t.f0 = kd at *
 generalize t.f1 = txt at *
 generalize t.f2 = ks at *
 generalize t.f3 = ts at *
 replace h2 := ae.mk h2
 replace h3 := ae.mk h3
 replace h4 := ae.mk h4
 replace h5 := ae.mk h5
 replace hsub := ae.mk hsub
 replace ih := ae.mk ih
 clear ht
 have x1 : (kd != kd) = false := bne_self_eq_false _
 have x2 : (txt.toList != txt.toList) = false := bne_self_eq_false _
 have x3 : ((ks.length : Int) != (ks.length : Int)) = false := bne_self_eq_false _
 have x4 : ((ts.length : Int) != (ts.length : Int)) = false := bne_self_eq_false _
 obtain ⟨W0, hW0⟩ : ∃ W0, (w.alloc (.cells #[.int .i64 kd, .string txt, .slice A2 ks.length c2, .slice A3 ts.length c3] 25)).alloc (.cells #[.int .i64 kd, .string txt, .slice B2 ks.length d2, .slice B3 ts.length d3] 25) = W0 := ⟨_, rfl⟩
 have S0 : Sm w w.heap.size (w.heap.size + 1) #[.int .i64 kd, .string txt, .slice A2 ks.length c2, .slice A3 ts.length c3] #[.int .i64 kd, .string txt, .slice B2 ks.length d2, .slice B3 ts.length d3] W0 := by
  rw [← hW0]
  refine ⟨aN (dX w _) _, ?_, ai (ai (Below.refl _ _) _) _⟩
  have := dX (w.alloc (.cells #[.int .i64 kd, .string txt, .slice A2 ks.length c2, .slice A3 ts.length c3] 25)) (.cells #[.int .i64 kd, .string txt, .slice B2 ks.length d2, .slice B3 ts.length d3] 25)
  simpa using this
 replace hW0 := ae.mk hW0
 replace S0 := ae.mk S0
 go_enter Tryz.func38, Tryz.ntmps38
 go_wp2_with (fail)
 go_loopg [5] ks.length (fun kq v5 w' => ∃ i : Nat, v5 = .int .i64 i ∧ ae (i + kq = ks.length) ∧ ae (Sm w w.heap.size (w.heap.size + 1) #[.int .i64 kd, .string txt, .slice A2 ks.length c2, .slice A3 ts.length c3] #[.int .i64 kd, .string txt, .slice B2 ks.length d2, .slice B3 ts.length d3] w'))
 case atStart => exact ⟨0, rfl, ⟨by omega⟩, ⟨by have := S0.out; rw [← hW0.out] at this; exact this⟩⟩
 case round =>
  clear S0 hW0
  obtain ⟨i, rfl, hi, hS⟩ := hrel
  have a0 := (ah hS.out.k1 0).trans rfl
  have a1 := (ah hS.out.k1 1).trans rfl
  have a2 := (ah hS.out.k1 2).trans rfl
  have a3 := (ah hS.out.k1 3).trans rfl
  have b0 := (ah hS.out.k2 0).trans rfl
  have b1 := (ah hS.out.k2 1).trans rfl
  have b2 := (ah hS.out.k2 2).trans rfl
  have b3 := (ah hS.out.k2 3).trans rfl
  cases gk with
  | zero =>
    have hi' := hi.out
    have e0 : decide (i < ks.length) = false := decide_eq_false (by omega)
    replace hm := ae.mk hm
    clear hi'
    go_wp2_with (fail)
    go_loopg [6] ts.length (fun kq v6 w' => ∃ i : Nat, v6 = .int .i64 i ∧ ae (i + kq = ts.length) ∧ ae (Sm w w.heap.size (w.heap.size + 1) #[.int .i64 kd, .string txt, .slice A2 ks.length c2, .slice A3 ts.length c3] #[.int .i64 kd, .string txt, .slice B2 ks.length d2, .slice B3 ts.length d3] w'))
    case atStart => exact ⟨0, rfl, ⟨by omega⟩, hS⟩
    case round =>
     clear a0 a1 a2 a3 b0 b1 b2 b3 hS hi e0
     obtain ⟨i, rfl, hi, hS⟩ := hrel
     have a0 := (ah hS.out.k1 0).trans rfl
     have a1 := (ah hS.out.k1 1).trans rfl
     have a2 := (ah hS.out.k1 2).trans rfl
     have a3 := (ah hS.out.k1 3).trans rfl
     have b0 := (ah hS.out.k2 0).trans rfl
     have b1 := (ah hS.out.k2 1).trans rfl
     have b2 := (ah hS.out.k2 2).trans rfl
     have b3 := (ah hS.out.k2 3).trans rfl
     cases gk with
     | zero =>
       have hi' := hi.out
       have e0 : decide (i < ts.length) = false := decide_eq_false (by omega)
       clear hi'
       go_wp2
       go_ret
       exact ⟨rfl, hS.out.bel⟩
     | succ gk =>
       have hi' := hi.out
       have e0 : decide (i < ts.length) = true := decide_eq_true (by omega)
       obtain ⟨ad, X2, x2, X3, x3, rfl, q0, q1, q2, q3, l2, g2, l3, g3⟩ := vZ (Kd.fC h3.out hS.out.bel) (i : Int) (by omega) (by omega)
       obtain ⟨bd, Y2, y2, Y3, y3, rfl, r0, r1, r2, r3, l4, g4, l5, g5⟩ := vZ (Kd.fC h5.out hS.out.bel) (i : Int) (by omega) (by omega)
       have p1 : (0 ≤ (i : Int)) = True := eq_true (by omega)
       have p2 : ((i : Int) < (ts.length : Int)) = True := eq_true (by omega)
       have hcall := fun W (hW : Below wr.heap.size wr W) => ih.out (iE ts i) (hsub.out _ (xu ts i (by omega) (by omega))) X2 x2 X3 x3 Y2 y2 Y3 y3 W (Kd.fC g2 hW) (Kd.fC g3 hW) (Kd.fC g4 hW) (Kd.fC g5 hW)
       replace g2 := ae.mk g2
       replace g3 := ae.mk g3
       replace g4 := ae.mk g4
       replace g5 := ae.mk g5
       rw [Int.toNat_natCast] at q0 q1 q2 q3 r0 r1 r2 r3
       generalize iE ts (i : Int) = x at *
       clear hi'
       go_wp2_with (fail)
       go_region_with (first | (go_at_call 38; refine (hcall _ ?_).mono ?_; (repeat (with_reducible first | exact Below.refl _ _ | apply ai | apply ag | apply dC)); rintro e w5 ⟨rfl, hb5⟩; replace hb5 := ae.mk hb5))
       all_goals
        have hS5 := ae.mk (hS.out.drew.below hb5.out)
        go_wp2
        go_roundg gk
        case measure => omega
        case rel => exact ⟨i + 1, by have := hi.out; congr 1; unfold wrap64; omega, ⟨by have := hi.out; omega⟩, hS5⟩
  | succ gk =>
    have hi' := hi.out
    have e0 : decide (i < ks.length) = true := decide_eq_true (by omega)
    obtain ⟨ad, rfl, hx⟩ := Kd.lV (Kd.fC h2.out hS.out.bel) (i : Int) (by omega) (by omega)
    obtain ⟨bd, rfl, hy⟩ := Kd.lV (Kd.fC h4.out hS.out.bel) (i : Int) (by omega) (by omega)
    have p1 : (0 ≤ (i : Int)) = True := eq_true (by omega)
    have p2 : ((i : Int) < (ks.length : Int)) = True := eq_true (by omega)
    rw [Int.toNat_natCast] at hx hy
    generalize tJ ByteArray.empty ks i = y at *
    have x5 : (y.toList != y.toList) = false := bne_self_eq_false _
    clear hi'
    go_wp2_with (fail)
    go_quiet (fail)
    have hS5 := ae.mk (hS.out.drewN nq)
    go_wp2
    go_roundg gk
    case measure => omega
    case rel => exact ⟨i + 1, by have := hi.out; congr 1; unfold wrap64; omega, ⟨by have := hi.out; omega⟩, hS5⟩
theorem xE (w : World) (s : ByteArray) (t : S25) (k : Nat) (h : fO.f k s = some (t.f0, t.f1, t.f2, t.f3, true)) (A2 : Option Addr) (c2 : Nat) (A3 : Option Addr) (c3 : Nat) (h2 : Kd.string.C w A2 t.f2.length t.f2) (h3 : k25.C w A3 t.f3.length t.f3) :
 Calls Tryz.prog 15 #[.string s, .agg #[.int .i64 t.f0, .string t.f1, .slice A2 t.f2.length c2, .slice A3 t.f3.length c3]] w fun e w' => e = .returned (.bool true) ∧ Below w.heap.size w w' := by
 have hrd := fun W => fO.calls k s t.f0 t.f1 t.f2 t.f3 true W h
 have hsm := fun A2 c2 A3 c3 B2 d2 B3 d3 W => ye _ t (Nat.lt_succ_self _) A2 c2 A3 c3 B2 d2 B3 d3 W
 clear h
 generalize t.f0 = kd at *
 generalize t.f1 = txt at *
 generalize t.f2 = keys at *
 generalize t.f3 = ts at *
 replace h2 := ae.mk h2
 replace h3 := ae.mk h3
 go_enter Tryz.func15, Tryz.ntmps15
 go_wp2_with (fail)
 refine (hrd _).mono ?_
 rintro e w1 ⟨v2, v3, rfl, r2, r3, hB1⟩
 obtain ⟨B2, d2, rfl, -, g2⟩ := Kd.kT r2
 obtain ⟨B3, d3, rfl, -, g3⟩ := Kd.kT r3
 have hb0 : Below w.heap.size w w1 := dR (ai (Below.refl _ _) _) (by simp) hB1
 have hb1 : Below w1.heap.size w1 (w1.alloc (.cells #[.int .i64 kd, .string txt, .slice B2 keys.length d2, .slice B3 ts.length d3] 25)) := ai (Below.refl _ _) _
 have hb2 := bZ hb0 hb1
 have kp := aN (bI (dX w (.cells #[.int .i64 kd, .string txt, .slice A2 keys.length c2, .slice A3 ts.length c3] 25)) hB1) (.cells #[.int .i64 kd, .string txt, .slice B2 keys.length d2, .slice B3 ts.length d3] 25)
 have c0 := (ah kp 0).trans rfl
 have c1 := (ah kp 1).trans rfl
 have c2' := (ah kp 2).trans rfl
 have c3' := (ah kp 3).trans rfl
 have hcall := hsm B2 d2 B3 d3 A2 c2 A3 c3 _ (Kd.fC g2 hb1) (Kd.fC g3 hb1) (Kd.fC h2.out hb2) (Kd.fC h3.out hb2)
 clear r2 r3 hB1 hrd hsm
 replace kp := ae.mk kp
 replace hb2 := ae.mk hb2
 go_wp2_with (fail)
 refine hcall.mono ?_
 rintro e w5 ⟨rfl, hb5⟩
 replace hb5 := ae.mk hb5
 go_wp2
 go_ret
 exact ⟨rfl, bZ hb2.out hb5.out⟩
structure Rv (w : World) (u : Array Value) (kd : Int) (c2 c3 v2 v3 : Value) (n2 n3 : Nat) (xs2 xs3 : List Value) (W : World) : Prop where
 k0 : W.heap[w.heap.size]? = some (.cells u 25 (0, 0))
 k1 : W.heap[w.heap.size + 1]? = some (.cells #[.int .i64 0, .string ⟨#[]⟩, .slice none 0 0, .slice none 0 0] 25 (0, 0))
 k2 : W.heap[w.heap.size + 2]? = some (.cells #[.int .i64 kd, .string ⟨#[]⟩, c2, c3] 25 (0, 0))
 o2 : W.ownsRow (w.heap.size + 3) 9 1 v2 n2 xs2
 o3 : W.ownsRow (w.heap.size + 3) 25 4 v3 n3 xs3
 bel : Below w.heap.size w W
section
variable {w W W' : World} {u : Array Value} {kd : Int} {c2 c3 v2 v3 v1 : Value} {n2 n3 : Nat} {xs2 xs3 ys : List Value}
theorem Rv.size (h : Rv w u kd c2 c3 v2 v3 n2 n3 xs2 xs3 W) : w.heap.size + 3 ≤ W.heap.size := by have := jA h.k2; omega
theorem Rv.below (h : Rv w u kd c2 c3 v2 v3 n2 n3 xs2 xs3 W) (hb : Below W.heap.size W W') : Rv w u kd c2 c3 v2 v3 n2 n3 xs2 xs3 W' :=
 ⟨bI h.k0 hb, bI h.k1 hb, bI h.k2 hb, iU h.o2 hb, iU h.o3 hb, dR h.bel h.bel.size hb⟩
theorem Rv.drew (h : Rv w u kd c2 c3 v2 v3 n2 n3 xs2 xs3 W) : Rv w u kd c2 c3 v2 v3 n2 n3 xs2 xs3 W.drew := h.below (dC (Below.refl _ _))
theorem Rv.alloc (h : Rv w u kd c2 c3 v2 v3 n2 n3 xs2 xs3 W) (o : Obj) : Rv w u kd c2 c3 v2 v3 n2 n3 xs2 xs3 (W.alloc o) := h.below (ai (Below.refl _ _) _)
theorem Rv.far {base : Nat} {e : TypeId} {size n g : Nat} {v : Value} {xs : List Value} (h : W.ownsRow base e size v n xs) (hg : g < base) : some g ≠ v.ownBlock := fun he => by have := own_base h g he.symm; omega
theorem Rv.ES (h : Rv w u kd c2 c3 v2 v3 n2 n3 xs2 xs3 W) (ho : W'.ownsRow (w.heap.size + 3) 9 1 v1 (n2 + 1) (xs2 ++ ys)) (hb : Below w.heap.size w W') (hg : W.grownBy W' v2.ownBlock) : Rv w u kd c2 c3 v1 v3 (n2 + 1) n3 (xs2 ++ ys) xs3 W' :=
 ⟨gp h.k0 hg (Rv.far h.o2 (by omega)), gp h.k1 hg (Rv.far h.o2 (by omega)), gp h.k2 hg (Rv.far h.o2 (by omega)), ho, uH h.o3 hg (qE h.o3 h.o2 (by decide)), hb⟩
theorem Rv.E8 (h : Rv w u kd c2 c3 v2 v3 n2 n3 xs2 xs3 W) (ho : W'.ownsRow (w.heap.size + 3) 25 4 v1 (n3 + 1) (xs3 ++ ys)) (hb : Below w.heap.size w W') (hg : W.grownBy W' v3.ownBlock) : Rv w u kd c2 c3 v2 v1 n2 (n3 + 1) xs2 (xs3 ++ ys) W' :=
 ⟨gp h.k0 hg (Rv.far h.o3 (by omega)), gp h.k1 hg (Rv.far h.o3 (by omega)), gp h.k2 hg (Rv.far h.o3 (by omega)), uH h.o2 hg (qE h.o2 h.o3 (by decide)), ho, hb⟩
theorem Rv.Gn (h : Rv w u kd c2 c3 v2 v3 n2 n3 xs2 xs3 W) (v : Value) : Rv w u kd v c3 v2 v3 n2 n3 xs2 xs3 (W.setCell ⟨w.heap.size + 2, 2, none⟩ v) :=
 ⟨df h.k0 (by simp) _, df h.k1 (by simp) _, bV h.k2 2 _ rfl, fM h.o2 (Rv.far h.o2 (by simp)) _, fM h.o3 (Rv.far h.o3 (by simp)) _, aA h.bel (by simp)⟩
theorem Rv.EZ (h : Rv w u kd c2 c3 v2 v3 n2 n3 xs2 xs3 W) (v : Value) : Rv w u kd c2 v v2 v3 n2 n3 xs2 xs3 (W.setCell ⟨w.heap.size + 2, 3, none⟩ v) :=
 ⟨df h.k0 (by simp) _, df h.k1 (by simp) _, bV h.k2 3 _ rfl, fM h.o2 (Rv.far h.o2 (by simp)) _, fM h.o3 (Rv.far h.o3 (by simp)) _, aA h.bel (by simp)⟩
end
theorem xM {α : Type} (xs : List α) (k : Nat) (h : k < xs.length) : (xs.drop k).reverse = (xs.drop (k + 1)).reverse ++ [xs[k]] := by
 rw [List.drop_eq_getElem_cons h, List.reverse_cons]
theorem En (xs : List S25) (k : Nat) (h : k < xs.length) : iE xs (k : Int) = xs[k] := by
 unfold iE
 rw [List.getD_eq_getElem?_getD, Int.toNat_natCast, List.getElem?_eq_getElem h]
 rfl
theorem Ae (xs : List ByteArray) (k : Nat) (h : k < xs.length) : tJ ByteArray.empty xs (k : Int) = xs[k] := by
 unfold tJ
 rw [List.getD_eq_getElem?_getD, Int.toNat_natCast, List.getElem?_eq_getElem h]
 rfl
theorem tC (kd : Int) (txt : ByteArray) (A2 : Option Addr) (c2 : Nat) (ks dn : List ByteArray) (A3 : Option Addr) (c3 : Nat) (ts : List S25) (w : World) (h2 : Kd.string.C w A2 ks.length ks) (h3 : k25.C w A3 ts.length ts) (hl : ts.length ≤ 65536) (hk : kd = 5 ∧ dn = [] ∨ kd = 6 ∧ dn = ks ∧ ks.length = ts.length) :
 Calls Tryz.prog 18 #[.agg #[.int .i64 kd, .string txt, .slice A2 ks.length c2, .slice A3 ts.length c3]] w fun e w' => ∃ (X2 : Option Addr) (x2 : Nat) (X3 : Option Addr) (x3 : Nat), e = .returned (.agg #[.int .i64 kd, .string ⟨#[]⟩, .slice X2 dn.length x2, .slice X3 ts.length x3]) ∧
  Kd.string.C w' X2 dn.length dn.reverse ∧ k25.C w' X3 ts.length ts.reverse ∧ Below w.heap.size w w' := by
 have S0 : Rv w #[.int .i64 kd, .string txt, .slice A2 ks.length c2, .slice A3 ts.length c3] kd (.slice none 0 0) (.slice none 0 0) (.slice none 0 0) (.slice none 0 0) 0 0 [] [] (((w.alloc (.cells #[.int .i64 kd, .string txt, .slice A2 ks.length c2, .slice A3 ts.length c3] 25)).alloc (.cells #[.int .i64 0, .string ⟨#[]⟩, .slice none 0 0, .slice none 0 0] 25)).alloc (.cells #[.int .i64 kd, .string ⟨#[]⟩, .slice none 0 0, .slice none 0 0] 25)) := by
  refine ⟨aN (aN (dX w _) _) _, ?_, ?_, rq _ _ _ _, rq _ _ _ _, ai (ai (ai (Below.refl _ _) _) _) _⟩
  ·have := aN (dX (w.alloc (.cells #[.int .i64 kd, .string txt, .slice A2 ks.length c2, .slice A3 ts.length c3] 25)) (.cells #[.int .i64 0, .string ⟨#[]⟩, .slice none 0 0, .slice none 0 0] 25)) (.cells #[.int .i64 kd, .string ⟨#[]⟩, .slice none 0 0, .slice none 0 0] 25)
   simpa using this
  ·have := dX ((w.alloc (.cells #[.int .i64 kd, .string txt, .slice A2 ks.length c2, .slice A3 ts.length c3] 25)).alloc (.cells #[.int .i64 0, .string ⟨#[]⟩, .slice none 0 0, .slice none 0 0] 25)) (.cells #[.int .i64 kd, .string ⟨#[]⟩, .slice none 0 0, .slice none 0 0] 25)
   simpa using this
 have hdn : dn.drop ts.length = [] := by
  rcases hk with ⟨_, rfl⟩ | ⟨_, rfl, h⟩
  ·exact List.drop_nil
  ·exact List.drop_eq_nil_of_le (by omega)
 have hor : (kd == 6) = false ∧ dn = [] ∨ (kd == 6) = true ∧ dn = ks ∧ ks.length = ts.length := by
  rcases hk with ⟨rfl, h⟩ | ⟨rfl, h⟩
  ·exact .inl ⟨rfl, h⟩
  ·exact .inr ⟨rfl, h⟩
 have hdl : dn.length - ts.length = 0 := by
  have := congrArg List.length hdn
  rw [List.length_drop] at this
  exact this
 replace h2 := ae.mk h2
 replace h3 := ae.mk h3
 replace S0 := ae.mk S0
 replace hdn := ae.mk hdn
 replace hor := ae.mk hor
 clear hk
 go_enter Tryz.func18, Tryz.ntmps18
 go_wp2_with (fail)
 go_loopg [4] ts.length (fun kq v4 w' => ∃ i : Int, v4 = .int .i64 i ∧ ae (i = (kq : Int) - 1 ∧ kq ≤ ts.length) ∧ ∃ (y2 y3 : Value) (xs3 : List Value), ae (Rv w #[.int .i64 kd, .string txt, .slice A2 ks.length c2, .slice A3 ts.length c3] kd y2 y3 y2 y3 (dn.length - kq) (ts.length - kq) (encs Value.string (dn.drop kq).reverse) xs3 w') ∧ ae (gu (fun t cs => k25.K w t cs) 4 (ts.drop kq).reverse xs3))
 case atStart => exact ⟨(ts.length : Int) - 1, rfl, ⟨rfl, Nat.le_refl _⟩, _, _, [], ⟨by rw [hdn.out, hdl, Nat.sub_self]; exact S0.out⟩, ⟨by rw [List.drop_length]; exact gu.none _ _⟩⟩
 case round =>
  clear S0 hdn hdl
  obtain ⟨i, rfl, hi, y2, y3, xs3, hS, hR⟩ := hrel
  obtain ⟨he, hle⟩ := hi.out
  obtain ⟨Y2, z2, rfl⟩ := lK hS.out.o2
  obtain ⟨Y3, z3, rfl⟩ := lK hS.out.o3
  have a0 := (ah hS.out.k0 0).trans rfl
  have a1 := (ah hS.out.k0 1).trans rfl
  have a2 := (ah hS.out.k0 2).trans rfl
  have a3 := (ah hS.out.k0 3).trans rfl
  have b0 := (ah hS.out.k2 0).trans rfl
  have b1 := (ah hS.out.k2 1).trans rfl
  have b2 := (ah hS.out.k2 2).trans rfl
  have b3 := (ah hS.out.k2 3).trans rfl
  have f0 := ak hS.out.k2 0
  have f1 := ak hS.out.k2 1
  have f2 := ak hS.out.k2 2
  have f3 := ak hS.out.k2 3
  cases gk with
  | zero =>
    have e0 : decide (0 ≤ i) = false := decide_eq_false (by omega)
    clear he hle
    have d0 := (ah hS.out.k1 0).trans rfl
    have d1 := (ah hS.out.k1 1).trans rfl
    have d2 := (ah hS.out.k1 2).trans rfl
    have d3 := (ah hS.out.k1 3).trans rfl
    have g0 := ak hS.out.k1 0
    have g1 := ak hS.out.k1 1
    have g2 := ak hS.out.k1 2
    have g3 := ak hS.out.k1 3
    go_wp2
    refine bodyPost_ret (results_cell_row rfl _ _ (w.heap.size + 1) 25 #[.int .i64 kd, .string ⟨#[]⟩, .slice Y2 dn.length z2, .slice Y3 ts.length z3] (0, 0) _ rfl (bV (bV (bV (bV hS.out.k1 0 _ rfl) 1 _ rfl) 2 _ rfl) 3 _ rfl) Tryz.underlying25 rfl (by kernel_rfl)) rfl ?_
    have hl1 : w.heap.size ≤ w.heap.size + 1 := by omega
    have hB := aA (aA (aA (aA hS.out.bel hl1 (j := 0) (v := .int .i64 kd)) hl1 (j := 1) (v := .string ⟨#[]⟩)) hl1 (j := 2) (v := .slice Y2 dn.length z2)) hl1 (j := 3) (v := .slice Y3 ts.length z3)
    have o2 := fM (fM (fM (fM hS.out.o2 (p := ⟨w.heap.size + 1, 0, none⟩) (Rv.far hS.out.o2 (by simp)) (.int .i64 kd)) (p := ⟨w.heap.size + 1, 1, none⟩) (Rv.far hS.out.o2 (by simp)) (.string ⟨#[]⟩)) (p := ⟨w.heap.size + 1, 2, none⟩) (Rv.far hS.out.o2 (by simp)) (.slice Y2 dn.length z2)) (p := ⟨w.heap.size + 1, 3, none⟩) (Rv.far hS.out.o2 (by simp)) (.slice Y3 ts.length z3)
    have o3 := fM (fM (fM (fM hS.out.o3 (p := ⟨w.heap.size + 1, 0, none⟩) (Rv.far hS.out.o3 (by simp)) (.int .i64 kd)) (p := ⟨w.heap.size + 1, 1, none⟩) (Rv.far hS.out.o3 (by simp)) (.string ⟨#[]⟩)) (p := ⟨w.heap.size + 1, 2, none⟩) (Rv.far hS.out.o3 (by simp)) (.slice Y2 dn.length z2)) (p := ⟨w.heap.size + 1, 3, none⟩) (Rv.far hS.out.o3 (by simp)) (.slice Y3 ts.length z3)
    obtain ⟨A, c, e2, r2⟩ := jC o2 (Kd.wI (dn.drop 0).reverse) (by simp)
    obtain ⟨A', c', e3, r3⟩ := jC o3 hR.out (by simp)
    simp only [Value.slice.injEq, true_and] at e2 e3
    obtain ⟨rfl, rfl⟩ := e2
    obtain ⟨rfl, rfl⟩ := e3
    exact ⟨_, _, _, _, rfl, r2, gV.kR r3 (Below.refl _ _) (fun _ _ h => k25.gY hB h), hB⟩
  | succ gk =>
    have e0 : decide (0 ≤ i) = true := decide_eq_true (by omega)
    obtain rfl : i = (gk : Int) := by omega
    have hlt : gk < ts.length := by omega
    obtain ⟨ad, X2, x2, X3, x3, rfl, q0, q1, q2, q3, l2, g2, l3, g3⟩ := vZ h3.out (gk : Int) (by omega) (by omega)
    rw [Int.toNat_natCast] at q0 q1 q2 q3
    replace q0 := (hS.out.bel.cell (World.block_lt_of_cell? w _ q0)).trans q0
    replace q1 := (hS.out.bel.cell (World.block_lt_of_cell? w _ q1)).trans q1
    replace q2 := (hS.out.bel.cell (World.block_lt_of_cell? w _ q2)).trans q2
    replace q3 := (hS.out.bel.cell (World.block_lt_of_cell? w _ q3)).trans q3
    have p1 : (0 ≤ (gk : Int)) = True := eq_true (by omega)
    have p2 : ((gk : Int) < (ts.length : Int)) = True := eq_true (by omega)
    have hK := ae.mk (ER w (iE ts (gk : Int)) l2 g2 l3 g3)
    have hx := ae.mk (En ts gk hlt)
    clear g2 g3
    generalize iE ts (gk : Int) = x at *
    clear he hle
    have hlen : ts.length - (gk + 1) + 1 ≤ 65536 := by omega
    have w3 := (ah (hS.out.alloc (.cells #[.int .i64 x.f0, .string x.f1, .slice X2 x.f2.length x2, .slice X3 x.f3.length x3] 25)).k2 3).trans rfl
    go_wp2_with (fail)
    go_region_law (first | (refine jQ (w0 := wr) (W := wr.drew) (w.heap.size + 3) rfl (.tmp 17) (.tmp 23) 23 25 _ 4 72 rfl Tryz.underlying23 info25 rfl (by decide) (by decide) (.slice Y3 (ts.length - (gk + 1)) z3) (ts.length - (gk + 1)) xs3 [.int .i64 x.f0, .string x.f1, .slice X2 x.f2.length x2, .slice X3 x.f3.length x3] (by simp [Act.eval, Act.put]) (by simp [Act.eval, Act.put]) rfl ?a1 ?aO ?aB ?aS ?aL ?_; (case a1 => intro u hu; simp only [List.mem_cons, List.not_mem_nil, or_false] at hu; rcases hu with rfl | rfl | rfl | rfl <;> rfl); (case aO => exact Rv.o3 (by repeat (with_reducible first | exact hS.out | apply Rv.drew | apply Rv.alloc))); (case aB => exact Below.mono (dC (Below.refl _ _)) hS.out.size); (case aS => exact Rv.size (by repeat (with_reducible first | exact hS.out | apply Rv.drew | apply Rv.alloc))); (case aL => omega); intro v1 w6 ho hb hg hat; obtain ⟨a6, n6, e6⟩ := lK ho; subst e6; have T6 := ae.mk (Rv.E8 (by repeat (with_reducible first | exact hS.out | apply Rv.drew | apply Rv.alloc)) ho (hS.out.bel.trans (Below.mono hb (by omega))) hg); have s2 := (ah T6.out.k2 3).trans rfl; have s3 := ak T6.out.k2 3; clear ho hb hg hat))
    all_goals
     obtain ⟨w7, hw7⟩ : ∃ w7, w6.setCell ⟨w.heap.size + 1 + 1, 3, none⟩ (.slice a6 (ts.length - (gk + 1) + 1) n6) = w7 := ⟨_, rfl⟩
     rw [hw7]
     have T7 := T6.out.EZ (.slice a6 (ts.length - (gk + 1) + 1) n6)
     rw [show w6.setCell ⟨w.heap.size + 2, 3, none⟩ (.slice a6 (ts.length - (gk + 1) + 1) n6) = w7 from hw7] at T7
     have hR7 : gu (fun t cs => k25.K w t cs) 4 (ts.drop gk).reverse (xs3 ++ [.int .i64 x.f0, .string x.f1, .slice X2 x.f2.length x2, .slice X3 x.f3.length x3]) := by
      rw [xM ts gk hlt, ← hx.out]
      exact gu.snoc hR.out hK.out rfl
     rw [show ts.length - (gk + 1) + 1 = ts.length - gk by omega] at T7 ⊢
     replace T7 := ae.mk T7
     replace hR7 := ae.mk hR7
     clear hw7 a0 a1 a2 a3 b0 b1 b2 b3 f0 f1 f2 f3 w3 s2 s3 T6 hS hR hK hx q0 q1 q2 q3
     have a0 := (ah T7.out.k0 0).trans rfl
     have a1 := (ah T7.out.k0 1).trans rfl
     have a2 := (ah T7.out.k0 2).trans rfl
     have a3 := (ah T7.out.k0 3).trans rfl
     have b2 := (ah T7.out.k2 2).trans rfl
     have f2 := ak T7.out.k2 2
     rcases hor.out with ⟨h6, rfl⟩ | ⟨h6, rfl, hkl⟩
     ·go_wp2
      go_roundg gk
      case measure => omega
      case rel => exact ⟨(gk : Int) - 1, by congr 1, ⟨rfl, by omega⟩, _, _, _, ⟨by have h := T7.out; rw [show ([] : List ByteArray).length - (gk + 1) = ([] : List ByteArray).length - gk by simp, List.drop_nil] at h; rw [List.drop_nil]; exact h⟩, hR7⟩
     ·obtain ⟨bd, rfl, hy⟩ := Kd.lV h2.out (gk : Int) (by omega) (by omega)
      rw [Int.toNat_natCast] at hy
      replace hy := (T7.out.bel.cell (World.block_lt_of_cell? w _ hy)).trans hy
      have hgk : gk < dn.length := by omega
      have hrd := ae.mk (Ae dn gk hgk)
      have hlen2 : dn.length - (gk + 1) + 1 ≤ 65536 := by omega
      have p3 : ((gk : Int) < (dn.length : Int)) = True := eq_true (by omega)
      replace hkl := ae.mk hkl
      generalize tJ ByteArray.empty dn (gk : Int) = y at *
      have w2 := (ah (T7.out.alloc (.cells #[.string y] 9)).k2 2).trans rfl
      go_wp2_with (fail)
      go_region_law (first | (refine jQ (w0 := w7) (W := w7.drew) (w.heap.size + 3) rfl (.tmp 30) (.tmp 36) 22 9 _ 1 16 rfl Tryz.underlying22 info9 rfl (by decide) (by decide) (.slice Y2 (dn.length - (gk + 1)) z2) (dn.length - (gk + 1)) (encs Value.string (dn.drop (gk + 1)).reverse) [.string y] (by simp [Act.eval, Act.put]) (by simp [Act.eval, Act.put]) rfl ?a1 ?aO ?aB ?aS ?aL ?_; (case a1 => intro u hu; simp only [List.mem_cons, List.not_mem_nil, or_false] at hu; subst hu; rfl); (case aO => exact Rv.o2 (by repeat (with_reducible first | exact T7.out | apply Rv.drew | apply Rv.alloc))); (case aB => exact Below.mono (dC (Below.refl _ _)) T7.out.size); (case aS => exact Rv.size (by repeat (with_reducible first | exact T7.out | apply Rv.drew | apply Rv.alloc))); (case aL => omega); intro v1 w8 ho hb hg hat; obtain ⟨a8, n8, e8⟩ := lK ho; subst e8; have T8 := ae.mk (Rv.ES (by repeat (with_reducible first | exact T7.out | apply Rv.drew | apply Rv.alloc)) ho (T7.out.bel.trans (Below.mono hb (by omega))) hg); have s2 := (ah T8.out.k2 2).trans rfl; have s3 := ak T8.out.k2 2; clear ho hb hg hat))
      all_goals
       have T9 := T8.out.Gn (.slice a8 (dn.length - (gk + 1) + 1) n8)
       have hc9 : encs Value.string (dn.drop (gk + 1)).reverse ++ [.string y] = encs Value.string (dn.drop gk).reverse := by
        rw [xM dn gk hgk, ← hrd.out, wH]
        rfl
       rw [hc9] at T9
       replace T9 := ae.mk T9
       clear a0 a1 a2 a3 b2 f2 w2 s2 s3 T8 T7 hc9
       go_wp2
       go_roundg gk
       case measure => omega
       case rel =>
        refine ⟨(gk : Int) - 1, by congr 1, ⟨rfl, by omega⟩, .slice a8 (dn.length - (gk + 1) + 1) n8, .slice a6 (ts.length - gk) n6, _, ⟨?_⟩, hR7⟩
        have h := T9.out
        rw [show dn.length - (gk + 1) + 1 = dn.length - gk by have := hkl.out; omega] at h ⊢
        exact h
end Go.Proofs.YtpgfjbimodnkeaaGreatDoor.Q
namespace Go.Proofs.YtpgfjbimodnkeaaGreatDoor.Dec
open Go Go.RowKit Go.Proofs.YtpgfjbimodnkeaaGreatDoorW.PrintWords Go.Proofs.YtpgfjbimodnkeaaGreatDoorW.PrintLast Go.Proofs.YtpgfjbimodnkeaaGreatDoorW.PrintMore Go.Proofs.YtpgfjbimodnkeaaGreatDoor.Scan Go.Proofs.YtpgfjbimodnkeaaGreatDoor.Q
theorem xN (c : Int) : ∃ b, fJ.f c = some b ∧ (b = false → ¬ Scan.blank c) := by
 unfold fJ.f Scan.blank
 by_cases h1 : c = 32
 ·exact ⟨true, by rw [if_pos h1], fun h => by cases h⟩
 rw [if_neg h1]
 by_cases h2 : c = 9
 ·exact ⟨true, by rw [if_pos h2], fun h => by cases h⟩
 rw [if_neg h2]
 by_cases h3 : c = 10
 ·exact ⟨true, by rw [if_pos h3], fun h => by cases h⟩
 rw [if_neg h3]
 refine ⟨_, rfl, fun h => ?_⟩
 have := beq_eq_false_iff_ne.mp h
 omega
def sZ (s : ByteArray) (kd : Int) (txt : ByteArray) (keys : List ByteArray) (ts : List S25) (b : Bool) : Prop :=
 ∀ w : World, Calls Tryz.prog 13 #[.string s] w fun e w' => ∃ A c A3 c3, e = .returned (.tuple #[.agg #[.int .i64 kd, .string txt, .slice A keys.length c, .slice A3 ts.length c3], .bool b]) ∧ Kd.string.C w' A keys.length keys ∧ k25.C w' A3 ts.length ts ∧ Below w.heap.size w w'
theorem DV (s : ByteArray) (hsz : s.size ≤ 2147483647) : ∃ (kd : Int) (txt : ByteArray) (keys : List ByteArray) (ts : List S25) (b : Bool), sZ s kd txt keys ts b ∧ (b = true → ∃ (ns : List S44) (ks : List S32), yQ s kd 0 s.size ns ks keys ∧ Evt (fun k => bG.f k s kd 0 (s.size : Int) ns ks) (kd, txt, keys, ts)) := by
 obtain ⟨kd, txt, keys, ts, ok, hE, hx⟩ := Bh s
 obtain ⟨k, hk⟩ := hE.at
 obtain ⟨b0, h0, hb0⟩ := xN (bt s 0)
 obtain ⟨b1, h1, hb1⟩ := xN (bt s ((s.size : Int) - 1))
 refine ⟨kd, txt, keys, ts, _, fun w => ya w s kd txt keys ts ok k hk (fun h => ?_) hsz _ b0 b1 rfl h0 h1, fun h => ?_⟩
 ·obtain ⟨i, m, ns, ks, hx⟩ := hx h
  have := hx.val.bound
  omega
 ·simp only [Bool.and_eq_true, Bool.not_eq_true'] at h
  obtain ⟨⟨⟨hok, _⟩, g0⟩, g1⟩ := h
  obtain ⟨i, m, ns, ks, hy⟩ := hx hok
  clear hx
  have hx := hy
  clear hy
  have hb := hx.val.bound
  subst hok
  have hT := hx.tree _ hE
  have hi : i = 0 := by
   rcases Nat.eq_zero_or_pos i with h | h
   ·exact h
   ·exact absurd (hx.pre.all 0 (Nat.le_refl _) h) (hb0 g0)
  have hm : m = s.size := by
   rcases Nat.lt_or_ge m s.size with h | h
   ·have h2 := hx.post.all (s.size - 1) (by omega) (by omega)
    rw [show ((s.size - 1 : Nat) : Int) = (s.size : Int) - 1 by omega] at h2
    exact absurd h2 (hb1 g1)
   ·omega
  subst hi
  subst hm
  exact ⟨ns, ks, hx, hT⟩
theorem DC (w : World) (s : ByteArray) (h : 2147483647 < s.size) :
 Calls Tryz.prog 5 #[.string s] w fun e w' => e = .returned (.bool true) ∧ Below w.heap.size w w' := by
 have h1 : decide (2147483647 < (s.size : Int)) = true := decide_eq_true (by omega)
 have h2 : decide (2147483647 < s.size) = true := decide_eq_true (by omega)
 go_enter Tryz.func5, Tryz.ntmps5
 go_wp2
 go_ret
 exact ⟨rfl, Below.refl _ _⟩
theorem FH (w : World) (s : ByteArray) (h : s.size ≤ 2147483647) (kd : Int) (txt : ByteArray) (keys : List ByteArray) (ts : List S25) (hb : sZ s kd txt keys ts false) :
 Calls Tryz.prog 5 #[.string s] w fun e w' => e = .returned (.bool true) ∧ Below w.heap.size w w' := by
 have h1 : decide (2147483647 < (s.size : Int)) = false := decide_eq_false (by omega)
 have h2 : decide (2147483647 < s.size) = false := decide_eq_false (by omega)
 have hbc := fun W => hb W
 unfold sZ at hb
 clear hb
 go_enter Tryz.func5, Tryz.ntmps5
 go_wp2_with (fail)
 with_reducible refine (hbc _).mono ?_
 rintro e w1 ⟨A2, c2, A3, c3, rfl, -, -, hB1⟩
 replace hB1 := ae.mk hB1
 clear hbc
 go_wp2
 go_ret
 exact ⟨rfl, ai hB1.out _⟩
theorem BM (w : World) (B : Nat) (hT : Tabs B w) (s : ByteArray) (h : s.size ≤ 2147483647) (kd : Int) (h5 : kd ≠ 5) (h6 : kd ≠ 6) (txt : ByteArray) (keys : List ByteArray) (ts : List S25) (hb : sZ s kd txt keys ts true) (ns : List S44) (ks : List S32) (hx : yQ s kd 0 s.size ns ks keys) :
 Calls Tryz.prog 5 #[.string s] w fun e w' => e = .returned (.bool true) ∧ Below w.heap.size w w' := by
 have h1 : decide (2147483647 < (s.size : Int)) = false := decide_eq_false (by omega)
 have h2 : decide (2147483647 < s.size) = false := decide_eq_false (by omega)
 have h51 : (kd != 5) = true := bne_iff_ne.mpr h5
 have h61 : (kd != 6) = true := bne_iff_ne.mpr h6
 have hss : (s.toList == s.toList) = true := beq_self_eq_true _
 have hbc := fun W => hb W
 have hrev := fun W hT => rE W s s (vK W B s hx.size kd h5 h6 ns ks hx.val hx.prd hT)
 clear hb hx
 replace hT := ae.mk hT
 go_enter Tryz.func5, Tryz.ntmps5
 go_wp2_with (fail)
 with_reducible refine (hbc _).mono ?_
 rintro e w1 ⟨A2, c2, A3, c3, rfl, -, -, hB1⟩
 have kn := dX w1 (.cells #[.int .i64 kd, .string txt, .slice A2 keys.length c2, .slice A3 ts.length c3] 25)
 have hb1 : Below w.heap.size w (w1.alloc (.cells #[.int .i64 kd, .string txt, .slice A2 keys.length c2, .slice A3 ts.length c3] 25)) := ai hB1 _
 replace hB1 := ae.mk hB1
 replace kn := ae.mk kn
 replace hb1 := ae.mk hb1
 clear hbc
 go_wp2_with (fail)
 with_reducible refine (hrev _ (hT.out.below (Below.mono hb1.out hT.out.size))).mono ?_
 rintro e w2 ⟨rfl, hB2⟩
 have kn2 := bI kn.out hB2
 have d0 := (ah kn2 0).trans rfl
 replace kn2 := ae.mk kn2
 replace hB2 := ae.mk hB2
 go_wp2
 go_ret
 exact ⟨rfl, bZ hb1.out hB2.out⟩
theorem wX (w : World) (B : Nat) (hT : Tabs B w) (s out : ByteArray) (h : s.size ≤ 2147483647) (kd : Int) (txt : ByteArray) (keys dn : List ByteArray) (ts : List S25) (hb : sZ s kd txt keys ts true) (hk : kd = 5 ∧ dn = [] ∨ kd = 6 ∧ dn = keys ∧ keys.length = ts.length) (hl : ts.length ≤ 65536)
 (hrev : ∀ W, Tabs B W → Calls Tryz.prog 66 #[.string s, .string ⟨#[]⟩] W fun e w' => e = .returned (.string out) ∧ Below W.heap.size W w') (k : Nat) (hrd : fO.f k out = some (kd, ⟨#[]⟩, dn.reverse, ts.reverse, true)) :
 Calls Tryz.prog 5 #[.string s] w fun e w' => e = .returned (.bool true) ∧ Below w.heap.size w w' := by
 have h1 : decide (2147483647 < (s.size : Int)) = false := decide_eq_false (by omega)
 have h2 : decide (2147483647 < s.size) = false := decide_eq_false (by omega)
 have hor : (kd != 5) = false ∨ (kd != 5) = true ∧ (kd != 6) = false := by rcases hk with ⟨rfl, _⟩ | ⟨rfl, _⟩ <;> simp
 have hbc := fun W => hb W
 have hdoor := fun W hT => rE W s out (hrev W hT)
 have htn := fun A2 c2 A3 c3 W g2 g3 => tC kd txt A2 c2 keys dn A3 c3 ts W g2 g3 hl hk
 have hre := fun A2 c2 A3 c3 W (g2 : Kd.string.C W A2 dn.length dn.reverse) (g3 : k25.C W A3 ts.length ts.reverse) => xE W out (⟨kd, ⟨#[]⟩, dn.reverse, ts.reverse⟩ : S25) k hrd A2 c2 A3 c3 (by rw [List.length_reverse]; exact g2) (by rw [List.length_reverse]; exact g3)
 simp only [List.length_reverse] at hre
 clear hb hrev hrd hk
 replace hT := ae.mk hT
 rcases hor with h51 | ⟨h51, h61⟩
 all_goals
  go_enter Tryz.func5, Tryz.ntmps5
  go_wp2_with (fail)
  with_reducible refine (hbc _).mono ?_
  rintro e w1 ⟨A2, c2, A3, c3, rfl, g2, g3, hB1⟩
  have kn := dX w1 (.cells #[.int .i64 kd, .string txt, .slice A2 keys.length c2, .slice A3 ts.length c3] 25)
  have hb1 : Below w.heap.size w (w1.alloc (.cells #[.int .i64 kd, .string txt, .slice A2 keys.length c2, .slice A3 ts.length c3] 25)) := ai hB1 _
  have hb11 : Below w1.heap.size w1 (w1.alloc (.cells #[.int .i64 kd, .string txt, .slice A2 keys.length c2, .slice A3 ts.length c3] 25)) := ai (Below.refl _ _) _
  replace hB1 := ae.mk hB1
  replace kn := ae.mk kn
  replace hb1 := ae.mk hb1
  replace hb11 := ae.mk hb11
  replace g2 := ae.mk g2
  replace g3 := ae.mk g3
  clear hbc
  go_wp2_with (fail)
  with_reducible refine (hdoor _ (hT.out.below (Below.mono hb1.out hT.out.size))).mono ?_
  rintro e w2 ⟨rfl, hB2⟩
  have kn2 := bI kn.out hB2
  have d0 := (ah kn2 0).trans rfl
  have d1 := (ah kn2 1).trans rfl
  have d2 := (ah kn2 2).trans rfl
  have d3 := (ah kn2 3).trans rfl
  have htn2 := htn A2 c2 A3 c3 w2 (Kd.fC g2.out (bZ hb11.out hB2)) (Kd.fC g3.out (bZ hb11.out hB2))
  replace kn2 := ae.mk kn2
  replace hB2 := ae.mk hB2
  clear hdoor htn
  go_wp2_with (fail)
  with_reducible refine htn2.mono ?_
  rintro e w3 ⟨X2, x2, X3, x3, rfl, r2, r3, hB3⟩
  have hre2 := hre X2 x2 X3 x3 w3 r2 r3
  replace hB3 := ae.mk hB3
  clear hre htn2 r2 r3
  go_wp2_with (fail)
  with_reducible refine hre2.mono ?_
  rintro e w4 ⟨rfl, hB4⟩
  replace hB4 := ae.mk hB4
  go_wp2
  go_ret
  exact ⟨rfl, bZ (bZ (bZ hb1.out hB2.out) hB3.out) hB4.out⟩
theorem fG.length {s : ByteArray} : ∀ {ps : List S32} {ts : List S25}, fG s ps ts → ps.length = ts.length
 | [], [], _ => rfl
 | _ :: _, _ :: _, h => by simp [fG.length h.2]
 | [], _ :: _, h => h.elim
 | _ :: _, [], h => h.elim
theorem AU (w : World) (B : Nat) (hT : Tabs B w) (s : ByteArray) :
 Calls Tryz.prog 5 #[.string s] w fun e w' => e = .returned (.bool true) ∧ Below w.heap.size w w' := by
 rcases Nat.lt_or_ge 2147483647 s.size with h | h
 ·exact DC w s h
 obtain ⟨kd, txt, keys, ts, b, hb, hx⟩ := DV s h
 cases b with
 | false => exact FH w s h kd txt keys ts hb
 | true =>
 obtain ⟨ns, ks, hy, hE⟩ := hx rfl
 clear hx
 have hx := hy
 clear hy
 have hs := hx.size
 by_cases h5 : kd = 5
 ·subst h5
  obtain rfl := CO hx.val
  obtain ⟨ts', e, ht⟩ := uD hs (.inl rfl) hx.val hx.prd hx.names hE
  obtain ⟨rfl, rfl⟩ : txt = ⟨#[]⟩ ∧ ts = ts' := by injection e with _ e; injection e with e1 e; injection e with _ e2; exact ⟨e1, e2⟩
  obtain ⟨k, hk⟩ := (yh hs hx.val hx.prd ht).at
  have hl := hx.val.lens
  exact wX w B hT s _ h 5 _ keys [] ts hb (.inl ⟨rfl, rfl⟩) (by have := fG.length ht; omega) (fun W hW => wG W B s hs ks hx.val hx.prd hW) k hk
 by_cases h6 : kd = 6
 ·subst h6
  obtain ⟨ts', e, ht⟩ := uD hs (.inr rfl) hx.val hx.prd hx.names hE
  obtain ⟨rfl, rfl⟩ : txt = ⟨#[]⟩ ∧ ts = ts' := by injection e with _ e; injection e with e1 e; injection e with _ e2; exact ⟨e1, e2⟩
  have hnk := J.same hx.val (.inr ⟨rfl, rfl⟩)
  obtain ⟨k, hk⟩ := (yt hs hx.val hx.prd hx.names ht hnk).at
  have hl := hx.val.lens
  have h7 := fG.length ht
  have h8 := hx.names.length
  exact wX w B hT s _ h 6 _ keys keys ts hb (.inr ⟨rfl, rfl, by omega⟩) (by omega) (fun W hW => xy W B s hs ns ks hx.val hx.prd hW) k hk
 ·exact BM w B hT s h kd h5 h6 txt keys ts hb ns ks hx
end Go.Proofs.YtpgfjbimodnkeaaGreatDoor.Dec
namespace Go.Proofs.YtpgfjbimodnkeaaGreatDoor.Laid
open Go
section
variable {P : Program} {w : World} {base : Nat} {sp : Nat → Bool} {held : Bool} {fuel : Nat} {t : TypeId} {cs : List Value} {p : List MemPlace}
abbrev en : TypeId × Value → Unit := fun _ => ()
theorem zq : ∀ {l : List (String × DataW Unit)} {ps : List MemPlace}, DataW.LaidVars P w l ps → ∀ (i : Nat) {n : String} {d : DataW Unit}, l[i]? = some (n, d) →
 ∃ g t cs fuel p, P.globalNamed n = some g ∧ (P.globals[g]?).map (·.type) = some t ∧ w.var? P n = some cs ∧ DataW.trod en P w 0 (fun _ => true) false fuel t cs.toList = some (d, p)
 | [], _, _, i, _, _, h => by simp at h
 | (n0, d0) :: r, ps, hl, i, n, d, h => by
  obtain ⟨g, t, cs, fuel, p, q, h1, h2, h3, h4, h5, _⟩ := hl
  cases i with
  | zero =>
    simp only [List.getElem?_cons_zero, Option.some.injEq, Prod.mk.injEq] at h
    obtain ⟨rfl, rfl⟩ := h
    exact ⟨g, t, cs, fuel, p, h1, h2, h3, h4⟩
  | succ i => exact zq h5 i (by simpa using h)
theorem jO {l : List (String × DataW Unit)} {ps : List MemPlace} (hl : DataW.LaidVars P w l ps) (i : Nat) {n : String} {d : DataW Unit} (h : l[i]? = some (n, d)) {g : Nat} {t : TypeId}
 (hg : P.globalNamed n = some g) (ht : (P.globals[g]?).map (·.type) = some t) :
 ∃ (cs : List Value) (fuel : Nat) (p : List MemPlace), (∀ j, w.cell? ⟨g, j, none⟩ = cs[j]?) ∧ g < w.heap.size ∧ DataW.trod en P w 0 (fun _ => true) false fuel t cs = some (d, p) := by
 obtain ⟨g', t', cs, fuel, p, h1, h2, h3, h4⟩ := zq hl i h
 obtain rfl := Option.some.inj (hg.symm.trans h1)
 obtain rfl := Option.some.inj (ht.symm.trans h2)
 refine ⟨cs.toList, fuel, p, fun j => by rw [World.var?_cell hg h3 j]; simp, ?_, h4⟩
 simp only [World.var?, hg, Option.bind_some] at h3
 rcases Nat.lt_or_ge g w.heap.size with hlt | hge
 ·exact hlt
 ·rw [Array.getElem?_eq_none hge] at h3
  simp at h3
theorem Au {b : Bool} (ht : P.underlying t = some .bool) (h : DataW.trod en P w base sp held fuel t cs = some (.lit (.bool b), p)) : cs = [.bool b] := by
 obtain ⟨b', e1, e2⟩ := DataW.trod_bool ht h
 simp only [Prod.mk.injEq, DataW.lit.injEq, Lit.bool.injEq] at e2
 rw [e1, e2.1]
theorem pM {k : IntKind} {z : Int} (ht : P.underlying t = some (.int k)) (h : DataW.trod en P w base sp held fuel t cs = some (.lit (.int k z), p)) : cs = [.int k z] ∧ (Lit.int k z).wf = true := by
 obtain ⟨n, e1, e2, e3⟩ := DataW.trod_int ht h
 simp only [Prod.mk.injEq, DataW.lit.injEq, Lit.int.injEq, true_and] at e2
 rw [e1, e2.1]
 exact ⟨rfl, e3⟩
theorem qW {k : IntKind} {d : DataW Unit} (ht : P.underlying t = some (.int k)) (h : DataW.trod en P w base sp held fuel t cs = some (d, p)) : ∃ z, cs = [.int k z] ∧ d = .lit (.int k z) ∧ (Lit.int k z).wf = true := by
 obtain ⟨n, e1, e2, e3⟩ := DataW.trod_int ht h
 simp only [Prod.mk.injEq] at e2
 exact ⟨n, e1, e2.1, e3⟩
theorem zY {k : FloatKind} {d : DataW Unit} (ht : P.underlying t = some (.float k)) (h : DataW.trod en P w base sp held fuel t cs = some (d, p)) : ∃ z, cs = [.float k z] := by
 cases fuel with
 | zero => simp [DataW.trod] at h
 | succ n =>
   unfold DataW.trod at h
   rw [ht] at h
   split at h <;> simp_all
theorem wP {l : List UInt8} (ht : P.underlying t = some .string) (h : DataW.trod en P w base sp held fuel t cs = some (.lit (.string l), p)) : cs = [.string ⟨l.toArray⟩] := by
 obtain ⟨s, e1, e2, _⟩ := DataW.trod_string ht h
 simp only [Prod.mk.injEq, DataW.lit.injEq, Lit.string.injEq] at e2
 rw [e1, e2.1]
theorem iV {fs : Array Field} {ds : List (DataW Unit)} (ht : P.underlying t = some (.struct fs)) (h : DataW.trod en P w base sp held fuel t cs = some (.agg ds, p)) (i : Nat) {f : Field} (hf : fs[i]? = some f) :
 cs.length = P.cellsOf t ∧ ∃ n d q, ds[i]? = some d ∧ DataW.trod en P w base sp held n f.type ((cs.drop f.offset).take (P.cellsOf f.type)) = some (d, q) := by
 obtain ⟨xs, n, rfl, hx, hl, hn, hi⟩ := DataW.trod_struct ht h
 simp only [Prod.mk.injEq, DataW.agg.injEq] at hx
 refine ⟨hl, n, ?_⟩
 have h1 := hi i f hf
 have hlt : i < xs.length := by
  rw [hn]
  exact (Array.getElem?_eq_some_iff.1 hf).1
 rw [List.getElem?_eq_getElem hlt] at h1
 refine ⟨xs[i].1, xs[i].2, ?_, h1⟩
 rw [hx.1]
 simp [hlt]
theorem array_elem {m : Nat} {e : TypeId} {ds : List (DataW Unit)} (ht : P.underlying t = some (.array m e)) (h : DataW.trod en P w base sp held fuel t cs = some (.agg ds, p)) :
 cs.length = P.cellsOf t ∧ ds.length = m ∧ ∀ i, i < m → ∃ n d q, ds[i]? = some d ∧ DataW.trod en P w base sp held n e ((cs.drop (i * P.cellsOf e)).take (P.cellsOf e)) = some (d, q) := by
 obtain ⟨xs, n, rfl, hx, hl, hn, hi⟩ := DataW.trod_array ht h
 simp only [Prod.mk.injEq, DataW.agg.injEq] at hx
 refine ⟨hl, by rw [hx.1]; simp [hn], fun i hlt => ⟨n, ?_⟩⟩
 have h1 := hi i hlt
 have hlt' : i < xs.length := by omega
 rw [List.getElem?_eq_getElem hlt'] at h1
 refine ⟨xs[i].1, xs[i].2, ?_, h1⟩
 rw [hx.1]
 simp [hlt']
theorem oI {e : TypeId} {ds rs : List (DataW Unit)} (ht : P.underlying t = some (.slice e)) (h : DataW.trod en P w base sp held fuel t cs = some (.slice ds rs, p)) :
 ∃ (a : Addr) (cap : Nat), cs = [.slice (some a) ds.length cap] ∧ ∀ i, i < ds.length → ∃ n d q vs, ds[i]? = some d ∧ vs.length = P.cellsOf e ∧ (∀ j, j < P.cellsOf e → w.cell? ((a.add (i * P.cellsOf e)).add j) = vs[j]?) ∧ DataW.trod en P w base sp held n e vs = some (d, q) := by
 rcases DataW.trod_slice ht h with ⟨_, hx⟩ | ⟨a, len, cap, elems, rest, n, rfl, hc, hx, hb, hl, hm, hn, hi, _, _⟩
 ·simp at hx
 ·simp only [Prod.mk.injEq, DataW.slice.injEq] at hx
  have hlen : ds.length = len := by rw [hx.1.1]; simp [hn]
  refine ⟨a, cap, by rw [hc, hlen], fun i hlt => ⟨n, ?_⟩⟩
  rw [hlen] at hlt
  have h1 := hi i hlt
  have hlt' : i < elems.length := by omega
  rw [List.getElem?_eq_getElem hlt'] at h1
  obtain ⟨vs, hv, ht'⟩ := Option.bind_eq_some_iff.1 h1
  obtain ⟨_, hvl, hvc⟩ := World.cells?_some hv
  refine ⟨elems[i].1, elems[i].2, vs, ?_, hvl, hvc, ht'⟩
  rw [hx.1.1]
  simp [hlt']
end
end Go.Proofs.YtpgfjbimodnkeaaGreatDoor.Laid
namespace Go.Proofs.YtpgfjbimodnkeaaGreatDoor.Dec
open Go Go.RowKit Go.Proofs.YtpgfjbimodnkeaaGreatDoor.Laid Go.Proofs.YtpgfjbimodnkeaaGreatDoorW.PrintWords
theorem kD {cs : List Value} {i : Nat} {v : Value} (h : (cs.drop (i * 1)).take 1 = [v]) : cs[i]? = some v := by
 have := congrArg (·[0]?) h
 simpa using this
def EO (ds : List (DataW Unit)) (i : Nat) : Bool := match ds[i]? with | some (.lit (.int .u8 z)) => z == (pI i : Nat) | _ => false
def Ew (ds : List (DataW Unit)) (i : Nat) : Bool := match ds[i]? with | some (.lit (.int .i64 z)) => z == (nX i : Nat) | _ => false
theorem Ah : ∃ ds, (Rows.laid_pub_tetrapla_pub_gjson_vchars : DataW Unit) = .agg ds ∧ (List.range 256).all (EO ds) = true := ⟨_, rfl, by kernel_rfl⟩
theorem Ac : ∃ ds, (Rows.laid_internal_strconv_powtab : DataW Unit) = .slice ds [] ∧ ds.length = 9 ∧ (List.range 9).all (Ew ds) = true := ⟨_, rfl, rfl, by kernel_rfl⟩
theorem AP : ∃ ds, (Rows.laid_internal_strconv_float64pow10 : DataW Unit) = .slice ds [] ∧ ds.length = 23 := ⟨_, rfl, rfl⟩
theorem c5 : Tryz.prog.cellsOf 5 = 1 := by kernel_rfl
theorem c3 : Tryz.prog.cellsOf 3 = 1 := by kernel_rfl
theorem c37 : Tryz.prog.cellsOf 37 = 1 := by kernel_rfl
theorem Gp : Tryz.prog.cellsOf 221 = 2 := by kernel_rfl
theorem c232 : Tryz.prog.cellsOf 232 = 2 := by kernel_rfl
section
variable {W : World} {l : List (String × DataW Unit)} {ps : List MemPlace}
theorem Dx (hl : DataW.LaidVars Tryz.prog W l ps) (i : Nat) (h : l[i]? = some ("pub-tetrapla/pub/gjson.vchars", Rows.laid_pub_tetrapla_pub_gjson_vchars)) : ∀ i, i < 256 → W.cell? ⟨0, i, none⟩ = some (.int .u8 (pI i : Nat)) := by
 obtain ⟨cs, fuel, p, hc, _, ht⟩ := jO hl i h (g := 0) (t := 138) (by kernel_rfl) (by kernel_rfl)
 intro j hj
 obtain ⟨ds, eds, htab⟩ := Ah
 rw [eds] at ht
 obtain ⟨_, _, hel⟩ := array_elem Tryz.underlying138 ht
 obtain ⟨n, d, q, hd, hr⟩ := hel j hj
 rw [c5] at hr
 obtain ⟨z, hz, rfl, _⟩ := qW Tryz.underlying5 hr
 rw [hc j, kD hz]
 have hv := List.all_eq_true.1 htab j (List.mem_range.2 hj)
 unfold EO at hv
 simp only [hd] at hv
 rw [eq_of_beq hv]
theorem zi (hl : DataW.LaidVars Tryz.prog W l ps) (i : Nat) {g : Nat} {n : String} {s : List UInt8} (h : l[i]? = some (n, .iface "*errors.errorString" (.ptr (.agg [.lit (.string s)])))) (hg : Tryz.prog.globalNamed n = some g) (ht : (Tryz.prog.globals[g]?).map (·.type) = some 123) : ∃ t v, W.cell? ⟨g, 0, none⟩ = some (.iface t v) := by
 obtain ⟨cs, fuel, p, hc, _, hr⟩ := jO hl i h hg ht
 obtain ⟨f, u, v, e, _, _⟩ := iface_of_trod Tryz.underlying123 hr
 exact ⟨u, v, by rw [hc 0, e]; rfl⟩
theorem DK (hl : DataW.LaidVars Tryz.prog W l ps) (i : Nat) (h : l[i]? = some ("internal/strconv.optimize", Rows.laid_internal_strconv_optimize)) : W.cell? ⟨4, 0, none⟩ = some (.bool true) := by
 obtain ⟨cs, fuel, p, hc, _, ht⟩ := jO hl i h (g := 4) (t := 4) (by kernel_rfl) (by kernel_rfl)
 rw [hc 0, Au Tryz.underlying4 ht]
 rfl
theorem Cb (hl : DataW.LaidVars Tryz.prog W l ps) (i : Nat) (h : l[i]? = some ("internal/strconv.float64info", Rows.laid_internal_strconv_float64info)) :
 W.cell? ⟨5, 0, none⟩ = some (.int .u64 52) ∧ W.cell? ⟨5, 1, none⟩ = some (.int .u64 11) ∧ W.cell? ⟨5, 2, none⟩ = some (.int .i64 (-1023)) := by
 obtain ⟨cs, fuel, p, hc, _, ht⟩ := jO hl i h (g := 5) (t := 181) (by kernel_rfl) (by kernel_rfl)
 unfold Rows.laid_internal_strconv_float64info at ht
 have c133 : Tryz.prog.cellsOf 133 = 1 := by kernel_rfl
 obtain ⟨_, n0, d0, q0, e0, h0⟩ := iV Tryz.underlying181 ht 0 rfl
 obtain ⟨_, n1, d1, q1, e1, h1⟩ := iV Tryz.underlying181 ht 1 rfl
 obtain ⟨_, n2, d2, q2, e2, h2⟩ := iV Tryz.underlying181 ht 2 rfl
 obtain rfl := Option.some.inj e0
 obtain rfl := Option.some.inj e1
 obtain rfl := Option.some.inj e2
 have h0' : (cs.drop (0 * 1)).take (Tryz.prog.cellsOf 133) = _ := (pM Tryz.underlying133 h0).1
 have h1' : (cs.drop (1 * 1)).take (Tryz.prog.cellsOf 133) = _ := (pM Tryz.underlying133 h1).1
 have h2' : (cs.drop (2 * 1)).take (Tryz.prog.cellsOf 3) = _ := (pM Tryz.underlying3 h2).1
 rw [c133] at h0' h1'
 rw [c3] at h2'
 exact ⟨by rw [hc 0]; exact kD h0', by rw [hc 1]; exact kD h1', by rw [hc 2]; exact kD h2'⟩
theorem Eh (hl : DataW.LaidVars Tryz.prog W l ps) (i : Nat) (h : l[i]? = some ("internal/strconv.powtab", Rows.laid_internal_strconv_powtab)) :
 ∃ (b : Addr) (cc : Nat), b.block < W.heap.size ∧ W.cell? ⟨7, 0, none⟩ = some (.slice (some b) 9 cc) ∧ ∀ i, i < 9 → W.cell? (b.add i) = some (.int .i64 (nX i : Nat)) := by
 obtain ⟨cs, fuel, p, hc, _, ht⟩ := jO hl i h (g := 7) (t := 65) (by kernel_rfl) (by kernel_rfl)
 obtain ⟨ds, eds, hlen, hp⟩ := Ac
 rw [eds] at ht
 obtain ⟨a, cap, e, hel⟩ := oI Tryz.underlying65 ht
 rw [hlen] at e hel
 have key : ∀ j, j < 9 → W.cell? (a.add j) = some (.int .i64 (nX j : Nat)) := fun j hj => by
  obtain ⟨n, d, q, vs, hd, hvl, hvc, hr⟩ := hel j hj
  obtain ⟨z, rfl, rfl, _⟩ := qW Tryz.underlying3 hr
  have hx := hvc 0 (by rw [c3]; decide)
  rw [c3, Nat.mul_one] at hx
  have hv := List.all_eq_true.1 hp j (List.mem_range.2 hj)
  unfold Ew at hv
  simp only [hd] at hv
  rw [← eq_of_beq hv]
  exact hx
 refine ⟨a, cap, ?_, by rw [hc 0, e]; rfl, key⟩
 have := World.block_lt_of_cell? W _ (key 0 (by decide))
 exact this
theorem Ee (hl : DataW.LaidVars Tryz.prog W l ps) (i : Nat) (h : l[i]? = some ("internal/strconv.float64pow10", Rows.laid_internal_strconv_float64pow10)) :
 ∃ (b : Addr) (cc : Nat), b.block < W.heap.size ∧ W.cell? ⟨8, 0, none⟩ = some (.slice (some b) 23 cc) ∧ ∀ i, i < 23 → ∃ x, W.cell? (b.add i) = some (.float .f64 x) := by
 obtain ⟨cs, fuel, p, hc, _, ht⟩ := jO hl i h (g := 8) (t := 217) (by kernel_rfl) (by kernel_rfl)
 obtain ⟨ds, eds, hlen⟩ := AP
 rw [eds] at ht
 obtain ⟨a, cap, e, hel⟩ := oI Tryz.underlying217 ht
 rw [hlen] at e hel
 have key : ∀ j, j < 23 → ∃ x, W.cell? (a.add j) = some (.float .f64 x) := fun j hj => by
  obtain ⟨n, d, q, vs, hd, hvl, hvc, hr⟩ := hel j hj
  obtain ⟨z, rfl⟩ := zY Tryz.underlying37 hr
  have hx := hvc 0 (by rw [c37]; decide)
  rw [c37, Nat.mul_one] at hx
  exact ⟨z, hx⟩
 refine ⟨a, cap, ?_, by rw [hc 0, e]; rfl, key⟩
 obtain ⟨x, hx⟩ := key 0 (by decide)
 have := World.block_lt_of_cell? W _ hx
 exact this
theorem DD (hl : DataW.LaidVars Tryz.prog W l ps) (i : Nat) (h : l[i]? = some ("internal/strconv.pow10Tab", Rows.laid_internal_strconv_pow10Tab)) :
 ∀ i, i < 1392 → ∃ x : Int, 0 ≤ x ∧ x < 18446744073709551616 ∧ W.cell? ⟨9, i, none⟩ = some (.int .u64 x) := by
 obtain ⟨cs, fuel, p, hc, _, ht⟩ := jO hl i h (g := 9) (t := 222) (by kernel_rfl) (by kernel_rfl)
 unfold Rows.laid_internal_strconv_pow10Tab Go.Pinned.pow10Tab at ht
 obtain ⟨_, _, hel⟩ := array_elem Tryz.underlying222 ht
 have wf : ∀ z : Int, (Lit.int .u64 z).wf = true → 0 ≤ z ∧ z < 18446744073709551616 := fun z hz => by
  simp [Lit.wf, IntKind.min, IntKind.max, IntKind.signed, IntKind.bits] at hz
  omega
 have c134 : Tryz.prog.cellsOf 134 = 1 := by kernel_rfl
 intro j hj
 obtain ⟨n, d, q, hd, hr⟩ := hel (j / 2) (by omega)
 rw [Gp] at hr
 rw [List.getElem?_map, Option.map_eq_some_iff] at hd
 obtain ⟨x, _, rfl⟩ := hd
 obtain ⟨_, n0, d0, q0, e0, h0⟩ := iV Tryz.underlying221 hr 0 rfl
 obtain ⟨_, n1, d1, q1, e1, h1⟩ := iV Tryz.underlying221 hr 1 rfl
 obtain ⟨z0, h0a, _, w0⟩ := qW Tryz.underlying134 h0
 obtain ⟨z1, h1a, _, w1⟩ := qW Tryz.underlying134 h1
 have h0' : ((((cs.drop (j / 2 * 2)).take 2)).drop (0 * 1)).take (Tryz.prog.cellsOf 134) = _ := h0a
 have h1' : ((((cs.drop (j / 2 * 2)).take 2)).drop (1 * 1)).take (Tryz.prog.cellsOf 134) = _ := h1a
 rw [c134] at h0' h1'
 have k0 := kD h0'
 have k1 := kD h1'
 rw [List.getElem?_take, if_pos (by decide), List.getElem?_drop] at k0 k1
 rcases Nat.mod_two_eq_zero_or_one j with hm | hm
 ·rw [show j / 2 * 2 + 0 = j by omega] at k0
  exact ⟨z0, (wf z0 w0).1, (wf z0 w0).2, by rw [hc j, k0]⟩
 ·rw [show j / 2 * 2 + 1 = j by omega] at k1
  exact ⟨z1, (wf z1 w1).1, (wf z1 w1).2, by rw [hc j, k1]⟩
theorem Cf (hl : DataW.LaidVars Tryz.prog W l ps) (i : Nat) (h : l[i]? = some ("internal/strconv.leftcheats", Rows.laid_internal_strconv_leftcheats)) :
 ∃ (b : Addr) (cc : Nat), b.block < W.heap.size ∧ W.cell? ⟨10, 0, none⟩ = some (.slice (some b) 61 cc) ∧ ∀ k, k < 61 →
  W.cell? (b.add (k * 2)) = some (.int .i64 ((fP k).1 : Nat)) ∧ W.cell? ⟨(b.add (k * 2)).block, (b.add (k * 2)).off + 1, none⟩ = some (.string (jc k)) := by
 obtain ⟨cs, fuel, p, hc, _, ht⟩ := jO hl i h (g := 10) (t := 233) (by kernel_rfl) (by kernel_rfl)
 unfold Rows.laid_internal_strconv_leftcheats Go.Pinned.leftcheats at ht
 obtain ⟨a, cap, e, hel⟩ := oI Tryz.underlying233 ht
 have hlen : Go.Pinned.cheatRows.length = 61 := by decide +kernel
 rw [List.length_map, hlen] at e hel
 have key : ∀ k, k < 61 → W.cell? (a.add (k * 2)) = some (.int .i64 ((fP k).1 : Nat)) ∧ W.cell? ⟨(a.add (k * 2)).block, (a.add (k * 2)).off + 1, none⟩ = some (.string (jc k)) := fun k hk => by
  obtain ⟨n, d, q, vs, hd, hvl, hvc, hr⟩ := hel k hk
  rw [c232] at hvl hvc
  rw [List.getElem?_map, Option.map_eq_some_iff] at hd
  obtain ⟨x, hx, rfl⟩ := hd
  have hxa : fP k = x := by unfold fP; rw [List.getD_eq_getElem?_getD, hx]; rfl
  obtain ⟨_, n0, d0, q0, e0, h0⟩ := iV Tryz.underlying232 hr 0 rfl
  obtain ⟨_, n1, d1, q1, e1, h1⟩ := iV Tryz.underlying232 hr 1 rfl
  obtain rfl := Option.some.inj e0
  obtain rfl := Option.some.inj e1
  have h0' : (vs.drop (0 * 1)).take (Tryz.prog.cellsOf 3) = _ := (pM Tryz.underlying3 h0).1
  have h1' : (vs.drop (1 * 1)).take (Tryz.prog.cellsOf 9) = _ := wP Tryz.underlying9 h1
  have c9 : Tryz.prog.cellsOf 9 = 1 := by kernel_rfl
  rw [c3] at h0'
  rw [c9] at h1'
  have k0 := (hvc 0 (by decide)).trans (kD h0')
  have k1 := (hvc 1 (by decide)).trans (kD h1')
  rw [hxa]
  refine ⟨k0, ?_⟩
  unfold jc
  rw [hxa]
  exact k1
 refine ⟨a, cap, ?_, by rw [hc 0, e]; rfl, key⟩
 have := World.block_lt_of_cell? W _ (key 0 (by decide)).1
 exact this
end
theorem zJ {W : World} (h : laidMetH Tryz.prog Rows.fnGjResultEachOfRow.laid W) : Tabs W.heap.size W := by
 rw [MakeChecks.laidMetH_plain _ _ _ (by kernel_rfl)] at h
 obtain ⟨ps, hl, _, _⟩ := h
 obtain ⟨_, _, _, _, hlow, _⟩ := jO hl 1 (n := "math/bits.deBruijn64tab") (d := Rows.laid_math_bits_deBruijn64tab) rfl (g := 13) (t := 239) (by kernel_rfl) (by kernel_rfl)
 obtain ⟨i0, i1, i2⟩ := Cb hl 3 rfl
 exact ⟨by omega, Nat.le_refl _, Dx hl 11 rfl, zi hl 10 (n := "strconv.ErrSyntax") rfl (by kernel_rfl) (by kernel_rfl), zi hl 9 (n := "strconv.ErrRange") rfl (by kernel_rfl) (by kernel_rfl), DK hl 4 rfl, i0, i1, i2, Eh hl 5 rfl, Ee hl 6 rfl, DD hl 13 rfl, Cf hl 12 rfl⟩
end Go.Proofs.YtpgfjbimodnkeaaGreatDoor.Dec
namespace Go.Proofs.YtpgfjbimodnkeaaGreatDoor
namespace fnGjReverseText
open Go Go.ChangeShapes Go.WideShapes Go.ChangeAt Go.RowKit
open Go.ChangeMaps (open_string shut_string)
theorem own : ownKnob Tryz.prog.godebug = Option.none := by kernel_rfl
abbrev laid : List (String × DataW Unit) := Rows.fnGjReverseTextRow.laid
theorem lifted (os : Os) (started : os.Started) (H : Type) (enc : TypeId × Value → H) :
 ReturnsInHanded {} Tryz.checked os 5 .any (fun w args => (Rows.fnGjReverseTextSpec.pre enc Tryz.prog Tryz.f5 Rows.fnGjReverseTextRow.domain false w args ∧ laidMetH Tryz.prog laid w) ∧ sizedMet enc Tryz.prog Tryz.f5 (OpenSpec.ofChange Rows.fnGjReverseTextSpec) false w args)
  (Rows.fnGjReverseTextSpec.post enc Tryz.prog Tryz.f5 false true false false) := by
 refine returnsInHanded_of_change_and (C := Tryz.checked) (X := fun w _ => laidMetH Tryz.prog laid w) (fun _ _ _ hh h => h.of_heap hh) own started (by kernel_rfl) Tryz.func5
  (ChangeSpec.witness_shaped (enc := enc) (C := Tryz.checked) (os := os) (X := fun w _ => laidMetH Tryz.prog laid w) false (World.laidAll Tryz.prog os laid) #[.string ByteArray.empty] 8 (World.laidAll_os _ _ _)
    (World.shaped_of_ZipB (by kernel_rfl) (by kernel_rfl)) (by kernel_rfl) (by kernel_rfl) (by kernel_rfl)
    (by rw [MakeChecks.laidMetH_plain _ _ _ (by kernel_rfl)]; exact laidMet_laidAll _ (by kernel_rfl) (by kernel_rfl))) ?_
 intro W base args ds gs before hval0 hW _ _ hL _
 have hval : ∀ (j : Nat) t v, Tryz.f5.params[j]? = some t → args[j]? = some v → Value.okWide Tryz.prog W .any base t v := hval0
 have hW' := hW
 obtain ⟨p, q, hA0, hV, rfl, _, _⟩ := hW
 have hA : DataW.TrodAll enc Tryz.prog W 0 (fun _ => true) true Tryz.f5.params.toList args.toList ds p := hA0
 rw [Tryz.params5] at hA hval
 obtain ⟨v0, d0, rfl, rfl, h0⟩ := trodAll_one hA
 obtain ⟨rfl, rfl⟩ := trodVars_none hV
 obtain ⟨a0, rfl, rfl, rfl, y0⟩ := open_string Tryz.underlying9 (hval 0 9 v0 rfl rfl) h0
 clear hA0 hval0
 simp only [List.append_nil] at hW'
 refine (Dec.AU W _ (Dec.zJ hL) a0).mono fun e W' ⟨he, bel⟩ => ?_
 subst he
 exact ⟨_, rfl, _, _, _, [], _, [], hW', trodAll_mk1 (shut_bool Tryz.underlying4 _), trodAll_mk1 (shut_string Tryz.underlying9 y0), rfl, bel.frame _, fun h => by cases h⟩
theorem over : Rows.FnGjReverseTextSaid :=
 OpenClaim.holds_of_wide 5 Tryz.f5 rfl rfl rfl rfl rfl rfl rfl ⟨rfl, rfl, rfl, rfl, rfl⟩ rfl rfl rfl rfl rfl (by kernel_rfl) Tryz.func5 (by kernel_rfl)
  (of_decide_eq_true (by kernel_rfl)) (by unfold Func.isWrapper; first | (rw [if_pos (by decide +kernel)]; kernel_rfl) | (rw [if_neg (by decide +kernel)]; exact ⟨rfl, rfl⟩))
  (fun os started H enc _ => lifted os started H enc)
end fnGjReverseText
theorem fnGjReverseText_card : Rows.FnGjReverseTextCardSaid :=
 Claim7.holds_tied_plain_at .later [] Rows.fnGjReverseTextCard.laidKinds true (true, "8b9c496fbe4d17382abc0d2718ccfab891b4798a5aaf0721fdc382d64c84c845") true fnGjReverseText.over (fun _ h => by cases h) (by kernel_rfl) (fun _ h => by cases h) fnGjReverseText_row_tie rfl ⟨rfl, rfl⟩ (by kernel_rfl) rfl
  (fun f fn hf hfn => by
    obtain rfl : f = 5 := Option.some.inj ((show Tryz.prog.funcNamed "pub-tetrapla/laws.FnGjReverseText" = some 5 by kernel_rfl).symm.trans hf) |>.symm
    obtain rfl : fn = Tryz.f5 := (Option.some.inj (Tryz.func5.symm.trans hfn)).symm
    exact ⟨by kernel_rfl, fun j t ht => by
     rw [Tryz.params5] at ht
     have hm : t ∈ [9] := by simpa using Array.mem_of_getElem? ht
     have hall : ([9].all fun u => !Tryz.prog.wantsStandIn u) = true := by kernel_rfl
     exact (show Tryz.prog.wantsStandIn t = false by simpa using List.all_eq_true.1 hall t hm)⟩)
  (by kernel_rfl)
#print axioms fnGjReverseText_card
end Go.Proofs.YtpgfjbimodnkeaaGreatDoor
