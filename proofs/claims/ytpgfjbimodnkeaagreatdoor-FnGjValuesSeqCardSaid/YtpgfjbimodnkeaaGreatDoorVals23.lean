/- FnGjValuesSeq: whatever text and stop come in, the law returns true and both read afterwards as before; with the package-level variables that its row lists as the program's own text lays them (part 23 of 27: lemmas for its last part) -/
import Derived.Deep.RegionLaw
import Derived.WalkSpells
import Derived.Deep.Cut
import Derived.Test.YtpgfjbimodnkeaaGreatDoorVals3
import Derived.Test.YtpgfjbimodnkeaaGreatDoorVals22
namespace Go.Proofs.YtpgfjbimodnkeaaGreatDoor.Q
open Go.RowKit Go.Proofs.YtpgfjbimodnkeaaGreatDoorW.PrintWords Go.Proofs.YtpgfjbimodnkeaaGreatDoorW.PrintLast Go.Proofs.YtpgfjbimodnkeaaGreatDoorW.PrintMore
attribute [local go_sem] max2_int min2_int max_two min_two max_three min_three max_four min_four
set_option linter.unusedVariables false
set_option linter.unusedSimpArgs false
def gjson_Result_Exists.f (a0_0 : Int) (a0_1 : ByteArray) (a0_2 : ByteArray) (a0_3 : Nat) (a0_4 : Int) (l0_5 : List Int) : Option (Bool) := if a0_0 = 0 then (some ((a0_1.size : Int) != 0)) else (some true)
set_option maxHeartbeats 8000000 in
set_option maxRecDepth 100000 in
theorem gjson_Result_Exists.calls (a0_0 : Int) (a0_1 : ByteArray) (a0_2 : ByteArray) (a0_3 : Nat) (a0_4 : Int) (A0_5 : Option Addr) (c0_5 : Nat) (l0_5 : List Int) (r : Bool) (w : World) (hr0_5 : Kd.C (Kd.int .i64) w A0_5 l0_5.length l0_5) (hc0_5 : l0_5.length ≤ c0_5) (h : gjson_Result_Exists.f a0_0 a0_1 a0_2 a0_3 a0_4 l0_5 = some r) :
 Calls Tryz.prog 59 #[.agg #[.int .i64 a0_0, .string a0_1, .string a0_2, .float .f64 a0_3, .int .i64 a0_4, .slice A0_5 l0_5.length c0_5]] w fun e w' => e = .returned (.bool r) ∧ Below w.heap.size w w' := by
 have hu67 := Tryz.underlying67
 have HR0_5 := Aside0.mk hr0_5
 have HC0_5 := Aside0.mk hc0_5
 clear hr0_5 hc0_5
 have HB := Aside0.mk (Below.refl w.heap.size w)
 have H : (if a0_0 = 0 then (some ((a0_1.size : Int) != 0)) else (some true)) = some r := h
 clear h
 by_cases c2 : a0_0 = 0
 ·rw [if_pos c2] at H
  have c2b0 : (a0_0 == 0) = true := beq_iff_eq.mpr c2
  have c2b1 : (a0_0 != 0) = false := bne_eq_false_iff_eq.mpr c2
  clear c2
  obtain rfl := Option.some.inj H
  go_enter Tryz.func59, Tryz.ntmps59
  go_wp2_with (first | ((with_reducible refine gate_dst (N := 1) rfl ?_); (try (refine gate_guard (by rfl) ?_; dsimp only)); refine box_event ?hg (N := 1) ?hd (cs := #[.int .i64 a0_0, .string a0_1, .string a0_2, .float .f64 a0_3, .int .i64 a0_4, .slice A0_5 l0_5.length c0_5]) (t := 67) ?hr ?_; (case hd => rfl); (case hg => rfl); (case hr => first | (go_simp; done) | (go_simp; rfl)); intro gb408 hg w3 hbox hb; have n0_ := Aside0.mk (below_step (by repeat (first | (with_reducible first | exact HB.out | apply below_alloc | apply pw_below_drewN | apply below_drew1) | exact HB.out)) hb); have n1_ := Aside0.mk (hbox); have n2_ := Aside0.mk ((by rw [hg]; exact (below_size (by repeat (first | (with_reducible first | exact HB.out | apply below_alloc | apply pw_below_drewN | apply below_drew1) | exact HB.out))) : w.heap.size ≤ gb408)); have n3_ := Aside0.mk ((by rw [hg]; exact (below_size (by repeat (first | (with_reducible first | exact HB.out | apply below_alloc | apply pw_below_drewN | apply below_drew1) | exact HB.out))) : w.heap.size ≤ gb408)); clear HB; have HB := n0_; have BK408 := n1_; have GW408 := n2_; have GE408 := n3_; clear n0_ n1_ n2_ n3_; clear hb hbox hg; have hcz4_0 : w3.cell? ⟨gb408, 0, none⟩ = some (.int .i64 a0_0) := (blk_cell BK408.out 0).trans rfl; have hcz4_1 : w3.cell? ⟨gb408, 1, none⟩ = some (.string a0_1) := (blk_cell BK408.out 1).trans rfl; have hcz4_2 : w3.cell? ⟨gb408, 2, none⟩ = some (.string a0_2) := (blk_cell BK408.out 2).trans rfl; have hcz4_3 : w3.cell? ⟨gb408, 3, none⟩ = some (.float .f64 a0_3) := (blk_cell BK408.out 3).trans rfl; have hcz4_4 : w3.cell? ⟨gb408, 4, none⟩ = some (.int .i64 a0_4) := (blk_cell BK408.out 4).trans rfl; have hcz4_5 : w3.cell? ⟨gb408, 5, none⟩ = some (.slice A0_5 l0_5.length c0_5) := (blk_cell BK408.out 5).trans rfl; have hfz4_0 := blk_frozen BK408.out 0; have hfz4_1 := blk_frozen BK408.out 1; have hfz4_2 := blk_frozen BK408.out 2; have hfz4_3 := blk_frozen BK408.out 3; have hfz4_4 := blk_frozen BK408.out 4; have hfz4_5 := blk_frozen BK408.out 5))
  go_ret
  exact ⟨by first | rfl | (simp [errW_none, errW_some] <;> rfl) | (simp [*, errW_none, errW_some] <;> rfl), by repeat (first | (with_reducible first | exact HB.out | apply below_alloc | apply pw_below_drewN | apply below_drew1 | refine below_set ?_ GE408.out) | exact HB.out)⟩
 ·rw [if_neg c2] at H
  have c2b0 : (a0_0 == 0) = false := beq_eq_false_iff_ne.mpr c2
  have c2b1 : (a0_0 != 0) = true := bne_iff_ne.mpr c2
  obtain rfl := Option.some.inj H
  go_enter Tryz.func59, Tryz.ntmps59
  go_wp2_with (first | ((with_reducible refine gate_dst (N := 1) rfl ?_); (try (refine gate_guard (by rfl) ?_; dsimp only)); refine box_event ?hg (N := 1) ?hd (cs := #[.int .i64 a0_0, .string a0_1, .string a0_2, .float .f64 a0_3, .int .i64 a0_4, .slice A0_5 l0_5.length c0_5]) (t := 67) ?hr ?_; (case hd => rfl); (case hg => rfl); (case hr => first | (go_simp; done) | (go_simp; rfl)); intro gb408 hg w5 hbox hb; have n0_ := Aside0.mk (below_step (by repeat (first | (with_reducible first | exact HB.out | apply below_alloc | apply pw_below_drewN | apply below_drew1) | exact HB.out)) hb); have n1_ := Aside0.mk (hbox); have n2_ := Aside0.mk ((by rw [hg]; exact (below_size (by repeat (first | (with_reducible first | exact HB.out | apply below_alloc | apply pw_below_drewN | apply below_drew1) | exact HB.out))) : w.heap.size ≤ gb408)); have n3_ := Aside0.mk ((by rw [hg]; exact (below_size (by repeat (first | (with_reducible first | exact HB.out | apply below_alloc | apply pw_below_drewN | apply below_drew1) | exact HB.out))) : w.heap.size ≤ gb408)); clear HB; have HB := n0_; have BK408 := n1_; have GW408 := n2_; have GE408 := n3_; clear n0_ n1_ n2_ n3_; clear hb hbox hg; have hcz6_0 : w5.cell? ⟨gb408, 0, none⟩ = some (.int .i64 a0_0) := (blk_cell BK408.out 0).trans rfl; have hcz6_1 : w5.cell? ⟨gb408, 1, none⟩ = some (.string a0_1) := (blk_cell BK408.out 1).trans rfl; have hcz6_2 : w5.cell? ⟨gb408, 2, none⟩ = some (.string a0_2) := (blk_cell BK408.out 2).trans rfl; have hcz6_3 : w5.cell? ⟨gb408, 3, none⟩ = some (.float .f64 a0_3) := (blk_cell BK408.out 3).trans rfl; have hcz6_4 : w5.cell? ⟨gb408, 4, none⟩ = some (.int .i64 a0_4) := (blk_cell BK408.out 4).trans rfl; have hcz6_5 : w5.cell? ⟨gb408, 5, none⟩ = some (.slice A0_5 l0_5.length c0_5) := (blk_cell BK408.out 5).trans rfl; have hfz6_0 := blk_frozen BK408.out 0; have hfz6_1 := blk_frozen BK408.out 1; have hfz6_2 := blk_frozen BK408.out 2; have hfz6_3 := blk_frozen BK408.out 3; have hfz6_4 := blk_frozen BK408.out 4; have hfz6_5 := blk_frozen BK408.out 5))
  go_ret
  exact ⟨by first | rfl | (simp [errW_none, errW_some] <;> rfl) | (simp [*, errW_none, errW_some] <;> rfl), by repeat (first | (with_reducible first | exact HB.out | apply below_alloc | apply pw_below_drewN | apply below_drew1 | refine below_set ?_ GE408.out) | exact HB.out)⟩
end Go.Proofs.YtpgfjbimodnkeaaGreatDoor.Q
namespace Go.Proofs.YtpgfjbimodnkeaaGreatDoor.Q
open Go.RowKit Go.Proofs.YtpgfjbimodnkeaaGreatDoorW.PrintWords Go.Proofs.YtpgfjbimodnkeaaGreatDoorW.PrintLast Go.Proofs.YtpgfjbimodnkeaaGreatDoorW.PrintMore
attribute [local go_sem] max2_int min2_int max_two min_two max_three min_three max_four min_four
set_option linter.unusedVariables false
set_option linter.unusedSimpArgs false
def impl_gj.f (a0_0 : Int) (a0_1 : ByteArray) (a0_2 : ByteArray) (a0_3 : Nat) (a0_4 : Int) (l0_5 : List Int) : Option (Int × ByteArray × ByteArray × Nat × Bool) := (gjson_Result_Exists.f a0_0 a0_1 a0_2 a0_3 a0_4 l0_5).bind fun t646 => (some (a0_0, a0_1, a0_2, a0_3, t646))
def impl_gj.T1 : Bool × List (List Nat × List Nat) := (true, [([], []), ([0], [0]), ([], []), ([2], [2]), ([], []), ([4], [4]), ([], []), ([6], [6]), ([], []), ([8], [8]), ([1, 3, 5, 7, 9], [1, 3, 5, 7, 9]), ([10, 9, 0, 1, 2, 3, 4, 5, 6, 7, 8, 9, 10], [10])])
def impl_gj.B1 : List Nat := [0, 1, 0, 4, 0, 16, 0, 64, 0, 256, 1023, 2047]
theorem impl_gj.tab1 : rtab .any (opsOf Tryz.f34 1) = impl_gj.T1 := by kernel_rfl
theorem impl_gj.bits1 : waitsOk impl_gj.T1.2 impl_gj.B1 = true := by kernel_rfl
set_option maxHeartbeats 8000000 in
set_option maxRecDepth 100000 in
theorem impl_gj.calls (a0_0 : Int) (a0_1 : ByteArray) (a0_2 : ByteArray) (a0_3 : Nat) (a0_4 : Int) (A0_5 : Option Addr) (c0_5 : Nat) (l0_5 : List Int) (r1 : Int) (r2 : ByteArray) (r3 : ByteArray) (r4 : Nat) (r5 : Bool) (w : World) (hr0_5 : Kd.C (Kd.int .i64) w A0_5 l0_5.length l0_5) (hc0_5 : l0_5.length ≤ c0_5) (h : impl_gj.f a0_0 a0_1 a0_2 a0_3 a0_4 l0_5 = some (r1, r2, r3, r4, r5)) :
 Calls Tryz.prog 34 #[.agg #[.int .i64 a0_0, .string a0_1, .string a0_2, .float .f64 a0_3, .int .i64 a0_4, .slice A0_5 l0_5.length c0_5]] w fun e w' => e = .returned (.agg #[.int .i64 r1, .string r2, .string r3, .float .f64 r4, .bool r5]) ∧ Below w.heap.size w w' := by
 have hu67 := Tryz.underlying67
 have hu39 := Tryz.underlying39
 have HR0_5 := Aside0.mk hr0_5
 have HC0_5 := Aside0.mk hc0_5
 clear hr0_5 hc0_5
 have HB := Aside0.mk (Below.refl w.heap.size w)
 have H : ((gjson_Result_Exists.f a0_0 a0_1 a0_2 a0_3 a0_4 l0_5).bind fun t646 => (some (a0_0, a0_1, a0_2, a0_3, t646))) = some (r1, r2, r3, r4, r5) := h
 clear h
 replace H := Option.bind_eq_some_iff.mp H
 obtain ⟨t646, A20, H⟩ := H
 replace H : (some (a0_0, a0_1, a0_2, a0_3, t646)) = some (r1, r2, r3, r4, r5) := H
 have A2 := Aside0.mk A20
 clear A20
 simp only [Option.some.injEq, Prod.mk.injEq] at H
 obtain ⟨rfl, rfl, rfl, rfl, rfl⟩ := H
 go_enter Tryz.func34, Tryz.ntmps34
 try go_wp2_with (first | ((with_reducible refine gate_dst (N := 1) rfl ?_); refine box_event ?hg (N := 1) ?hd (cs := #[.int .i64 a0_0, .string a0_1, .string a0_2, .float .f64 a0_3, .int .i64 a0_4, .slice A0_5 l0_5.length c0_5]) (t := 67) ?hr ?_; (case hd => rfl); (case hg => rfl); (case hr => first | (go_simp; done) | (go_simp; rfl)); intro gb644 hg w3 hbox hb; have n0_ := Aside0.mk (below_step (by repeat (first | (with_reducible first | exact HB.out | apply below_alloc | apply pw_below_drewN | apply below_drew1) | exact HB.out)) hb); have n1_ := Aside0.mk (hbox); have n2_ := Aside0.mk ((by rw [hg]; exact (below_size (by repeat (first | (with_reducible first | exact HB.out | apply below_alloc | apply pw_below_drewN | apply below_drew1) | exact HB.out))) : w.heap.size ≤ gb644)); have n3_ := Aside0.mk ((by rw [hg]; exact (below_size (by repeat (first | (with_reducible first | exact HB.out | apply below_alloc | apply pw_below_drewN | apply below_drew1) | exact HB.out))) : w.heap.size ≤ gb644)); clear HB; have HB := n0_; have BK644 := n1_; have GW644 := n2_; have GE644 := n3_; clear n0_ n1_ n2_ n3_; clear hb hbox hg) | ((with_reducible refine gate_dst (N := 2) rfl ?_); refine box_event ?hg (N := 2) ?hd (cs := #[.int .i64 0, .string (⟨#[]⟩ : ByteArray), .string (⟨#[]⟩ : ByteArray), .float .f64 0, .bool false]) (t := 39) ?hr ?_; (case hd => rfl); (case hg => rfl); (case hr => first | (go_simp; done) | (go_simp; rfl)); intro gb645 hg w4 hbox hb; have n0_ := Aside0.mk (blk_below (g := gb644) (o := .cells #[.int .i64 a0_0, .string a0_1, .string a0_2, .float .f64 a0_3, .int .i64 a0_4, .slice A0_5 l0_5.length c0_5] 67 (0, 0)) (by (with_reducible repeat (first | refine blk_drewN ?_ _ | refine blk_drew ?_ | refine blk_alloc ?_ _)); exact BK644.out) hb); have n1_ := Aside0.mk (below_step (by repeat (first | (with_reducible first | exact HB.out | apply below_alloc | apply pw_below_drewN | apply below_drew1 | refine below_set ?_ GE644.out) | exact HB.out)) hb); have n2_ := Aside0.mk (hbox); have n3_ := Aside0.mk ((by rw [hg]; exact (below_size (by repeat (first | (with_reducible first | exact HB.out | apply below_alloc | apply pw_below_drewN | apply below_drew1 | refine below_set ?_ GE644.out) | exact HB.out))) : w.heap.size ≤ gb645)); have n4_ := Aside0.mk ((by rw [hg]; exact (below_size (by repeat (first | (with_reducible first | exact HB.out | apply below_alloc | apply pw_below_drewN | apply below_drew1 | refine below_set ?_ GE644.out) | exact HB.out))) : w.heap.size ≤ gb645)); have n5_ := Aside0.mk ((by rw [hg]; exact Nat.ne_of_lt (blk_lt (g := gb644) (o := .cells #[.int .i64 a0_0, .string a0_1, .string a0_2, .float .f64 a0_3, .int .i64 a0_4, .slice A0_5 l0_5.length c0_5] 67 (0, 0)) (by (with_reducible repeat (first | refine blk_drewN ?_ _ | refine blk_drew ?_ | refine blk_alloc ?_ _)); exact BK644.out)) : gb644 ≠ gb645)); have n6_ := Aside0.mk ((by rw [hg]; exact Nat.ne_of_gt (blk_lt (g := gb644) (o := .cells #[.int .i64 a0_0, .string a0_1, .string a0_2, .float .f64 a0_3, .int .i64 a0_4, .slice A0_5 l0_5.length c0_5] 67 (0, 0)) (by (with_reducible repeat (first | refine blk_drewN ?_ _ | refine blk_drew ?_ | refine blk_alloc ?_ _)); exact BK644.out)) : gb645 ≠ gb644)); clear BK644; clear HB; have BK644 := n0_; have HB := n1_; have BK645 := n2_; have GW645 := n3_; have GE645 := n4_; have NB644_645 := n5_; have NB645_644 := n6_; clear n0_ n1_ n2_ n3_ n4_ n5_ n6_; clear hb hbox hg))
 have n0_ := Aside0.mk (blk_drew BK644.out)
 have n1_ := Aside0.mk (blk_drew BK645.out)
 have n2_ := Aside0.mk (below_drew1 HB.out)
 clear BK644
 clear BK645
 clear HB
 have BK644 := n0_
 have BK645 := n1_
 have HB := n2_
 clear n0_ n1_ n2_
 refine start_ (n := 12) (S := fun w' => w'.cell? ⟨gb644, 0, none⟩ = some (.int .i64 a0_0) ∧ w'.cell? ⟨gb644, 1, none⟩ = some (.string a0_1) ∧ w'.cell? ⟨gb644, 2, none⟩ = some (.string a0_2) ∧ w'.cell? ⟨gb644, 3, none⟩ = some (.float .f64 a0_3) ∧ w'.cell? ⟨gb644, 4, none⟩ = some (.int .i64 a0_4) ∧ w'.cell? ⟨gb644, 5, none⟩ = some (.slice A0_5 l0_5.length c0_5)) (ds := []) #[false, false, false, false, false, false, false, false, false, false, false, false] (by kernel_rfl) rfl rfl ⟨(blk_cell BK644.out 0).trans rfl, (blk_cell BK644.out 1).trans rfl, (blk_cell BK644.out 2).trans rfl, (blk_cell BK644.out 3).trans rfl, (blk_cell BK644.out 4).trans rfl, (blk_cell BK644.out 5).trans rfl⟩ (fun hHeld => ?_); refine with_tabW impl_gj.tab1 impl_gj.bits1 (fun HT_ HW_ => ?_)
 generalize w4.drew = w5 at BK644 BK645 HB hHeld ⊢
 refine pure_ (i := 0) (N := some 3) (v := ?_) (a' := ?_) #[true, false, false, false, false, false, false, false, false, false, false, false] rfl rfl (any_of HT_.out (by kernel_rfl)) (fun _ _ _ h => h) (Or.inl ⟨by rfl, ?_⟩) ?_ ?_
 rotate_left
 ·intro w'
  go_simp
  with_reducible rfl
 rotate_left
 ·simp only [Act.put, List.setIfInBounds_toArray, List.set_cons_zero, List.set_cons_succ, i64_w, i32_w]
  rfl
 refine pure_ (i := 2) (N := some 5) (v := ?_) (a' := ?_) #[true, false, true, false, false, false, false, false, false, false, false, false] rfl rfl (any_of HT_.out (by kernel_rfl)) (fun _ _ _ h => h) (Or.inl ⟨by rfl, ?_⟩) ?_ ?_
 rotate_left
 ·intro w'
  go_simp
  with_reducible rfl
 rotate_left
 ·simp only [Act.put, List.setIfInBounds_toArray, List.set_cons_zero, List.set_cons_succ, i64_w, i32_w]
  rfl
 refine pure_ (i := 4) (N := some 7) (v := ?_) (a' := ?_) #[true, false, true, false, true, false, false, false, false, false, false, false] rfl rfl (any_of HT_.out (by kernel_rfl)) (fun _ _ _ h => h) (Or.inl ⟨by rfl, ?_⟩) ?_ ?_
 rotate_left
 ·intro w'
  go_simp
  with_reducible rfl
 rotate_left
 ·simp only [Act.put, List.setIfInBounds_toArray, List.set_cons_zero, List.set_cons_succ, i64_w, i32_w]
  rfl
 refine pure_ (i := 6) (N := some 9) (v := ?_) (a' := ?_) #[true, false, true, false, true, false, true, false, false, false, false, false] rfl rfl (any_of HT_.out (by kernel_rfl)) (fun _ _ _ h => h) (Or.inl ⟨by rfl, ?_⟩) ?_ ?_
 rotate_left
 ·intro w'
  go_simp
  with_reducible rfl
 rotate_left
 ·simp only [Act.put, List.setIfInBounds_toArray, List.set_cons_zero, List.set_cons_succ, i64_w, i32_w]
  rfl
 refine take_ (i := 1) (N := some 4) (v := ?_) (a' := ?_) #[true, true, true, false, true, false, true, false, false, false, false, false] rfl rfl (take_ofW HT_.out HW_.out (by kernel_rfl)) (fun _ _ _ h => h) (Or.inl ⟨by rfl, ?_⟩) hHeld ?_ ?_
 rotate_left
 ·rintro w' ⟨s0, s1, s2, s3, s4, s5⟩
  go_simp
  with_reducible rfl
 rotate_left
 ·simp only [Act.put, List.setIfInBounds_toArray, List.set_cons_zero, List.set_cons_succ, i64_w, i32_w]
  rfl
 refine take_ (i := 3) (N := some 6) (v := ?_) (a' := ?_) #[true, true, true, true, true, false, true, false, false, false, false, false] rfl rfl (take_ofW HT_.out HW_.out (by kernel_rfl)) (fun _ _ _ h => h) (Or.inl ⟨by rfl, ?_⟩) hHeld ?_ ?_
 rotate_left
 ·rintro w' ⟨s0, s1, s2, s3, s4, s5⟩
  go_simp
  with_reducible rfl
 rotate_left
 ·simp only [Act.put, List.setIfInBounds_toArray, List.set_cons_zero, List.set_cons_succ, i64_w, i32_w]
  rfl
 refine take_ (i := 5) (N := some 8) (v := ?_) (a' := ?_) #[true, true, true, true, true, true, true, false, false, false, false, false] rfl rfl (take_ofW HT_.out HW_.out (by kernel_rfl)) (fun _ _ _ h => h) (Or.inl ⟨by rfl, ?_⟩) hHeld ?_ ?_
 rotate_left
 ·rintro w' ⟨s0, s1, s2, s3, s4, s5⟩
  go_simp
  with_reducible rfl
 rotate_left
 ·simp only [Act.put, List.setIfInBounds_toArray, List.set_cons_zero, List.set_cons_succ, i64_w, i32_w]
  rfl
 refine take_ (i := 7) (N := some 10) (v := ?_) (a' := ?_) #[true, true, true, true, true, true, true, true, false, false, false, false] rfl rfl (take_ofW HT_.out HW_.out (by kernel_rfl)) (fun _ _ _ h => h) (Or.inl ⟨by rfl, ?_⟩) hHeld ?_ ?_
 rotate_left
 ·rintro w' ⟨s0, s1, s2, s3, s4, s5⟩
  go_simp
  with_reducible rfl
 rotate_left
 ·simp only [Act.put, List.setIfInBounds_toArray, List.set_cons_zero, List.set_cons_succ, i64_w, i32_w]
  rfl
 refine take_ (i := 8) (N := some 11) (v := ?_) (a' := ?_) #[true, true, true, true, true, true, true, true, true, false, false, false] rfl rfl (take_ofW HT_.out HW_.out (by kernel_rfl)) (fun _ _ _ h => h) (Or.inl ⟨by rfl, ?_⟩) hHeld ?_ ?_
 rotate_left
 ·rintro w' ⟨s0, s1, s2, s3, s4, s5⟩
  go_simp
  with_reducible rfl
 rotate_left
 ·simp only [Act.put, List.setIfInBounds_toArray, List.set_cons_zero, List.set_cons_succ, i64_w, i32_w]
  rfl
 refine one_ (i := 9) (N := some 12) #[true, true, true, true, true, true, true, true, true, true, false, false] rfl rfl (one_of HT_.out (by kernel_rfl)) (by decide) (fun K hK => ?_)
 refine goes_ Tryz.func59 (by kernel_rfl) rfl #[.agg #[.int .i64 a0_0, .string a0_1, .string a0_2, .float .f64 a0_3, .int .i64 a0_4, .slice A0_5 l0_5.length c0_5]] (by rfl) rfl rfl (by (try simp only [List.map_toArray, List.map_cons, List.map_nil]); first | done | rfl | (simp only [List.length_drop, List.length_take]; rfl)) ?_
 with_reducible refine (gjson_Result_Exists.calls a0_0 a0_1 a0_2 a0_3 a0_4 _ _ l0_5 t646 _ ?side1 ?side2 A2.out).mono ?_
 (case side1 => repeat (first | exact (Kd.C_below HR0_5.out HB.out) | (with_reducible refine Kd.C_alloc ?_ _) | (with_reducible refine Kd.C_drewN ?_ _) | (with_reducible refine Kd.C_drew ?_)))
 (case side2 => exact HC0_5.out)
 rintro e w6 ⟨rfl, hb⟩
 refine ⟨_, rfl, ?_⟩
 have n0_ := Aside0.mk (blk_below (g := gb644) (o := .cells #[.int .i64 a0_0, .string a0_1, .string a0_2, .float .f64 a0_3, .int .i64 a0_4, .slice A0_5 l0_5.length c0_5] 67 (0, 0)) (by (with_reducible repeat (first | refine blk_drewN ?_ _ | refine blk_drew ?_ | refine blk_alloc ?_ _)); exact BK644.out) hb)
 have n1_ := Aside0.mk (blk_below (g := gb645) (o := .cells #[.int .i64 0, .string (⟨#[]⟩ : ByteArray), .string (⟨#[]⟩ : ByteArray), .float .f64 0, .bool false] 39 (0, 0)) (by (with_reducible repeat (first | refine blk_drewN ?_ _ | refine blk_drew ?_ | refine blk_alloc ?_ _)); exact BK645.out) hb)
 have n2_ := Aside0.mk (below_step (by repeat (first | (with_reducible first | exact HB.out | apply below_alloc | apply pw_below_drewN | apply below_drew1 | refine below_set ?_ GE644.out | refine below_set ?_ GE645.out) | exact HB.out)) hb)
 clear BK644
 clear BK645
 clear HB
 have BK644 := n0_
 have BK645 := n1_
 have HB := n2_
 clear n0_ n1_ n2_
 (try clear hb)
 (try clear hb2)
 (try clear hk)
 (try clear hi)
 refine hK.out _ _ ⟨(blk_cell BK644.out 0).trans rfl, (blk_cell BK644.out 1).trans rfl, (blk_cell BK644.out 2).trans rfl, (blk_cell BK644.out 3).trans rfl, (blk_cell BK644.out 4).trans rfl, (blk_cell BK644.out 5).trans rfl⟩ (fun hHeld => ?_)
 clear hK K
 refine norm_ (a' := ?_) ?_ ?_
 rotate_left
 ·show Act.put _ (some 12) _ = _
  simp only [Act.put, List.setIfInBounds_toArray, List.set_cons_zero, List.set_cons_succ, i64_w, i32_w]
  rfl
 refine pure_ (i := 10) (N := some 13) (v := ?_) (a' := ?_) #[true, true, true, true, true, true, true, true, true, true, true, false] rfl rfl (any_of HT_.out (by kernel_rfl)) (fun _ _ _ h => h) (Or.inl ⟨by rfl, ?_⟩) ?_ ?_
 rotate_left
 ·intro w'
  go_simp
  with_reducible rfl
 rotate_left
 ·simp only [Act.put, List.setIfInBounds_toArray, List.set_cons_zero, List.set_cons_succ, i64_w, i32_w]
  rfl
 refine one_ (i := 11) (N := none) #[true, true, true, true, true, true, true, true, true, true, true, true] rfl rfl (one_of HT_.out (by kernel_rfl)) (by decide) (fun K hK => ?_)
 have hs7 : w6.cell? ⟨gb645, 0, none⟩ = some (.int .i64 0) := (blk_cell BK645.out 0).trans rfl
 have hfs7 := blk_frozen BK645.out 0
 have hns7_0 := NB644_645.out
 have hms7_0 := NB645_644.out
 have hs8 : w6.cell? ⟨gb645, 1, none⟩ = some (.string (⟨#[]⟩ : ByteArray)) := (blk_cell BK645.out 1).trans rfl
 have hfs8 := blk_frozen BK645.out 1
 have hns8_0 := NB644_645.out
 have hms8_0 := NB645_644.out
 have hs9 : w6.cell? ⟨gb645, 2, none⟩ = some (.string (⟨#[]⟩ : ByteArray)) := (blk_cell BK645.out 2).trans rfl
 have hfs9 := blk_frozen BK645.out 2
 have hns9_0 := NB644_645.out
 have hms9_0 := NB645_644.out
 have hs10 : w6.cell? ⟨gb645, 3, none⟩ = some (.float .f64 0) := (blk_cell BK645.out 3).trans rfl
 have hfs10 := blk_frozen BK645.out 3
 have hns10_0 := NB644_645.out
 have hms10_0 := NB645_644.out
 have hs11 : w6.cell? ⟨gb645, 4, none⟩ = some (.bool false) := (blk_cell BK645.out 4).trans rfl
 have hfs11 := blk_frozen BK645.out 4
 have hns11_0 := NB644_645.out
 have hms11_0 := NB645_644.out
 refine skip_ (w1 := ?_) (by rfl) rfl ?_ ?_
 rotate_left
 ·go_simp
  rfl
 refine hK.out _ _ ⟨((cell_far (p := ⟨gb645, _, none⟩) NB644_645.out _).trans (((cell_far (p := ⟨gb645, _, none⟩) NB644_645.out _).trans (((cell_far (p := ⟨gb645, _, none⟩) NB644_645.out _).trans (((cell_far (p := ⟨gb645, _, none⟩) NB644_645.out _).trans (((cell_far (p := ⟨gb645, _, none⟩) NB644_645.out _).trans (hHeld.1)))))))))), ((cell_far (p := ⟨gb645, _, none⟩) NB644_645.out _).trans (((cell_far (p := ⟨gb645, _, none⟩) NB644_645.out _).trans (((cell_far (p := ⟨gb645, _, none⟩) NB644_645.out _).trans (((cell_far (p := ⟨gb645, _, none⟩) NB644_645.out _).trans (((cell_far (p := ⟨gb645, _, none⟩) NB644_645.out _).trans (hHeld.2.1)))))))))), ((cell_far (p := ⟨gb645, _, none⟩) NB644_645.out _).trans (((cell_far (p := ⟨gb645, _, none⟩) NB644_645.out _).trans (((cell_far (p := ⟨gb645, _, none⟩) NB644_645.out _).trans (((cell_far (p := ⟨gb645, _, none⟩) NB644_645.out _).trans (((cell_far (p := ⟨gb645, _, none⟩) NB644_645.out _).trans (hHeld.2.2.1)))))))))), ((cell_far (p := ⟨gb645, _, none⟩) NB644_645.out _).trans (((cell_far (p := ⟨gb645, _, none⟩) NB644_645.out _).trans (((cell_far (p := ⟨gb645, _, none⟩) NB644_645.out _).trans (((cell_far (p := ⟨gb645, _, none⟩) NB644_645.out _).trans (((cell_far (p := ⟨gb645, _, none⟩) NB644_645.out _).trans (hHeld.2.2.2.1)))))))))), ((cell_far (p := ⟨gb645, _, none⟩) NB644_645.out _).trans (((cell_far (p := ⟨gb645, _, none⟩) NB644_645.out _).trans (((cell_far (p := ⟨gb645, _, none⟩) NB644_645.out _).trans (((cell_far (p := ⟨gb645, _, none⟩) NB644_645.out _).trans (((cell_far (p := ⟨gb645, _, none⟩) NB644_645.out _).trans (hHeld.2.2.2.2.1)))))))))), ((cell_far (p := ⟨gb645, _, none⟩) NB644_645.out _).trans (((cell_far (p := ⟨gb645, _, none⟩) NB644_645.out _).trans (((cell_far (p := ⟨gb645, _, none⟩) NB644_645.out _).trans (((cell_far (p := ⟨gb645, _, none⟩) NB644_645.out _).trans (((cell_far (p := ⟨gb645, _, none⟩) NB644_645.out _).trans (hHeld.2.2.2.2.2))))))))))⟩ (fun hHeld => ?_)
 clear hK K
 refine done_ (done_of HT_.out (by kernel_rfl)) ?_
 try go_wp2
 refine bodyPost_ret (results_cell_row rfl _ _ gb645 39 #[.int .i64 a0_0, .string a0_1, .string a0_2, .float .f64 a0_3, .bool t646] (0, 0) _ rfl (by (with_reducible repeat (first | refine blk_drewN ?_ _ | refine blk_drew ?_ | refine blk_alloc ?_ _)); refine blk_put (cs := #[.int .i64 a0_0, .string a0_1, .string a0_2, .float .f64 a0_3, .bool false]) ?_ 4 _ rfl; (with_reducible repeat (first | refine blk_drewN ?_ _ | refine blk_drew ?_ | refine blk_alloc ?_ _)); refine blk_put (cs := #[.int .i64 a0_0, .string a0_1, .string a0_2, .float .f64 0, .bool false]) ?_ 3 _ rfl; (with_reducible repeat (first | refine blk_drewN ?_ _ | refine blk_drew ?_ | refine blk_alloc ?_ _)); refine blk_put (cs := #[.int .i64 a0_0, .string a0_1, .string (⟨#[]⟩ : ByteArray), .float .f64 0, .bool false]) ?_ 2 _ rfl; (with_reducible repeat (first | refine blk_drewN ?_ _ | refine blk_drew ?_ | refine blk_alloc ?_ _)); refine blk_put (cs := #[.int .i64 a0_0, .string (⟨#[]⟩ : ByteArray), .string (⟨#[]⟩ : ByteArray), .float .f64 0, .bool false]) ?_ 1 _ rfl; (with_reducible repeat (first | refine blk_drewN ?_ _ | refine blk_drew ?_ | refine blk_alloc ?_ _)); refine blk_put (cs := #[.int .i64 0, .string (⟨#[]⟩ : ByteArray), .string (⟨#[]⟩ : ByteArray), .float .f64 0, .bool false]) ?_ 0 _ rfl; (with_reducible repeat (first | refine blk_drewN ?_ _ | refine blk_drew ?_ | refine blk_alloc ?_ _)); exact BK645.out) Tryz.underlying39 rfl (by kernel_rfl)) rfl ?_
 exact ⟨by first | rfl | (simp [errW_none, errW_some] <;> rfl) | (simp [*, errW_none, errW_some] <;> rfl), by repeat (first | (with_reducible first | exact HB.out | apply below_alloc | apply pw_below_drewN | apply below_drew1 | refine below_set ?_ GE644.out | refine below_set ?_ GE645.out) | exact HB.out)⟩
end Go.Proofs.YtpgfjbimodnkeaaGreatDoor.Q
set_option linter.unusedVariables false
set_option linter.unusedSimpArgs false
namespace Go.Proofs.YtpgfjbimodnkeaaGreatDoor.Dec
open Go Go.RowKit Go.Proofs.YtpgfjbimodnkeaaGreatDoorW.PrintWords Go.Proofs.YtpgfjbimodnkeaaGreatDoorW.PrintLast Go.Proofs.YtpgfjbimodnkeaaGreatDoorW.PrintMore Go.Proofs.YtpgfjbimodnkeaaGreatDoor.Scan
structure Rs where
 k : Int
 raw : ByteArray
 str : ByteArray
 num : Nat
 idx : Int
def Rs.ex (r : Rs) : Bool := if r.k = 0 then ((r.raw.size : Int) != 0) else true
def Rs.cells (r : Rs) : List Value := [.int .i64 r.k, .string r.raw, .string r.str, .float .f64 r.num, .bool r.ex]
abbrev Rs.val (r : Rs) : Value := resV r.k r.raw r.str r.num r.idx
theorem gj_calls (w : World) (r : Rs) : Calls Tryz.prog 34 #[resV r.k r.raw r.str r.num r.idx] w fun e w' => e = .returned (.agg #[.int .i64 r.k, .string r.raw, .string r.str, .float .f64 r.num, .bool r.ex]) ∧ Below w.heap.size w w' := by
 refine Q.impl_gj.calls r.k r.raw r.str r.num r.idx none 0 [] r.k r.raw r.str r.num r.ex w ?_ (Nat.le_refl _) ?_
 ·exact Kd.C_nil _ _
 ·unfold Q.impl_gj.f Q.gjson_Result_Exists.f Rs.ex
  by_cases h : r.k = 0
  ·rw [if_pos h, if_pos h]; rfl
  ·rw [if_neg h, if_neg h]; rfl
theorem ones_ok (vr : Rs) : ∀ u ∈ vr.cells, u.oneCell' = true := by
 intro u hu
 simp only [Rs.cells, List.mem_cons, List.not_mem_nil, or_false] at hu
 rcases hu with rfl | rfl | rfl | rfl | rfl <;> rfl
theorem app_blk {w W w1 : World} {base n g : Nat} {e t : TypeId} {size : Nat} {v : Value} {xs : List Value} {cs : Array Value} (ho : w.ownsRow base e size v n xs) (hg : w.heap[g]? = some (.cells cs t (0, 0))) (hb : Below w.heap.size w W) (hgr : W.grownBy w1 v.ownBlock) (hne : e ≠ t) : w1.heap[g]? = some (.cells cs t (0, 0)) :=
 blk_grown (blk_below hg hb) hgr (own_ne ho hg hne)
theorem app_67 {w W w1 : World} {base n : Nat} {size : Nat} {v : Value} {xs : List Value} (ho : w.ownsRow base 39 size v n xs) (hb : Below w.heap.size w W) (hgr : W.grownBy w1 v.ownBlock) : ∀ (b : Nat) (cs : Array Value), w.heap[b]? = some (.cells cs 67 (0, 0)) → w1.heap[b]? = some (.cells cs 67 (0, 0)) :=
 fun b cs hg => app_blk ho hg hb hgr (by decide)
structure Outs (B0 : Nat) (Bo Bs : Nat) (stop : Int) (w0 : World) (ps : List (Rs × Rs)) (W : World) : Prop where
 bel : Below B0 w0 W
 out : ∃ v, W.heap[Bo]? = some (.cells #[v] 54 (0, 0)) ∧ W.ownsRow B0 39 5 v ps.length (ps.flatMap fun p => p.2.cells)
 stp : ∃ Bt, W.heap[Bt]? = some (.cells #[.int .i64 stop] 3 (0, 0)) ∧ W.heap[Bs]? = some (.cells #[.func (.func 46) #[] #[.pointer (some ⟨Bo, 0, none⟩), .pointer (some ⟨Bt, 0, none⟩)]] 81 (0, 0))
 loB : B0 ≤ W.heap.size
 loO : B0 ≤ Bo
theorem info39 : (Tryz.prog.info? 39).map (fun i => (i.zero, i.size, i.bytes)) = some (some (.agg #[.int .i64 0, .string ⟨#[]⟩, .string ⟨#[]⟩, .float .f64 0, .bool false]), 5, 56) := by kernel_rfl
theorem Outs.below {B0 Bo Bs : Nat} {stop : Int} {w0 W W' : World} {ps : List (Rs × Rs)} (h : Outs B0 Bo Bs stop w0 ps W) (hb : Below W.heap.size W W') : Outs B0 Bo Bs stop w0 ps W' := by
 obtain ⟨v, h1, h2⟩ := h.out
 obtain ⟨t, h3, h4⟩ := h.stp
 exact ⟨h.bel.trans (below_mono hb h.loB), ⟨v, blk_below h1 hb, pw_own_below h2 hb⟩, ⟨t, blk_below h3 hb, blk_below h4 hb⟩, Nat.le_trans h.loB hb.size, h.loO⟩
theorem Outs.set {B0 Bo Bs : Nat} {stop : Int} {w0 W : World} {ps : List (Rs × Rs)} (h : Outs B0 Bo Bs stop w0 ps W) {g : Nat} {cs : Array Value} (hg : W.heap[g]? = some (.cells cs 67 (0, 0))) (hlo : B0 ≤ g) (j : Nat) (u : Value) : Outs B0 Bo Bs stop w0 ps (W.setCell ⟨g, j, none⟩ u) := by
 obtain ⟨v, h1, h2⟩ := h.out
 obtain ⟨t, h3, h4⟩ := h.stp
 have hb : Below B0 W (W.setCell ⟨g, j, none⟩ u) := (Below.refl _ _).setCell hlo u
 exact ⟨h.bel.trans hb, ⟨v, blk_far h1 (blk_ne h1 hg (by decide)) u, own_setCell h2 (p := ⟨g, j, none⟩) (own_ne h2 hg (by decide)) u⟩, ⟨t, blk_far h3 (blk_ne h3 hg (by decide)) u, blk_far h4 (blk_ne h4 hg (by decide)) u⟩, Nat.le_trans h.loB hb.size, h.loO⟩
theorem outs_done {B0 Bo Bs Bt : Nat} {stop : Int} {w0 w w6 : World} {ps : List (Rs × Rs)} {kr vr : Rs} {v v1 : Value} (hbel : Below B0 w0 w) (hb6 : Below B0 w w6)
 (ho : w6.ownsRow B0 39 5 v1 (ps.length + 1) ((ps.flatMap fun p => p.2.cells) ++ [.int .i64 vr.k, .string vr.raw, .string vr.str, .float .f64 vr.num, .bool vr.ex])) (kO6 : w6.heap[Bo]? = some (.cells #[v] 54 (0, 0))) (kT6 : w6.heap[Bt]? = some (.cells #[.int .i64 stop] 3 (0, 0))) (kS6 : w6.heap[Bs]? = some (.cells #[.func (.func 46) #[] #[.pointer (some ⟨Bo, 0, none⟩), .pointer (some ⟨Bt, 0, none⟩)]] 81 (0, 0))) (hTO : Bt ≠ Bo) (hSO : Bs ≠ Bo)
 (k67 : ∀ (b : Nat) (cs : Array Value), w.heap[b]? = some (.cells cs 67 (0, 0)) → w6.heap[b]? = some (.cells cs 67 (0, 0))) (hloO : B0 ≤ Bo) (hlo : B0 ≤ w.heap.size) :
 Outs B0 Bo Bs stop w0 (ps ++ [(kr, vr)]) (w6.setCell ⟨Bo, 0, none⟩ v1) ∧ Below B0 w (w6.setCell ⟨Bo, 0, none⟩ v1) ∧ ∀ (b : Nat) (cs : Array Value), w.heap[b]? = some (.cells cs 67 (0, 0)) → (w6.setCell ⟨Bo, 0, none⟩ v1).heap[b]? = some (.cells cs 67 (0, 0)) := by
 have hb7 : Below B0 w (w6.setCell ⟨Bo, 0, none⟩ v1) := hb6.setCell hloO v1
 refine ⟨⟨hbel.trans hb7, ⟨v1, blk_put kO6 0 v1 rfl, ?_⟩, ⟨Bt, blk_far kT6 hTO v1, blk_far kS6 hSO v1⟩, Nat.le_trans hlo hb7.size, hloO⟩, hb7, fun b cs h => blk_far (k67 b cs h) (blk_ne (k67 b cs h) kO6 (by decide)) v1⟩
 have h1 := own_setCell ho (p := ⟨Bo, 0, none⟩) (own_ne ho kO6 (by decide)) v1
 rw [List.length_append, List.flatMap_append]
 simpa [Rs.cells] using h1
set_option maxHeartbeats 8000000 in
set_option maxRecDepth 100000 in
theorem yield_calls (B0 Bo Bs Bt : Nat) (stop : Int) (w0 w : World) (ps : List (Rs × Rs)) (kr vr : Rs) (hO : Outs B0 Bo Bs stop w0 ps w) (ht : w.heap[Bt]? = some (.cells #[.int .i64 stop] 3 (0, 0))) (hs : w.heap[Bs]? = some (.cells #[.func (.func 46) #[] #[.pointer (some ⟨Bo, 0, none⟩), .pointer (some ⟨Bt, 0, none⟩)]] 81 (0, 0))) (hps : ps.length ≤ 100000) :
 Calls Tryz.prog 46 #[resV vr.k vr.raw vr.str vr.num vr.idx, .pointer (some ⟨Bo, 0, none⟩), .pointer (some ⟨Bt, 0, none⟩)] w fun e w' =>
  e = .returned (.bool (((ps.length + 1 : Nat) : Int) != stop)) ∧ Outs B0 Bo Bs stop w0 (ps ++ [(kr, vr)]) w' ∧ Below B0 w w' ∧ ∀ (b : Nat) (cs : Array Value), w.heap[b]? = some (.cells cs 67 (0, 0)) → w'.heap[b]? = some (.cells cs 67 (0, 0)) := by
 obtain ⟨hbel, ⟨v, kBo, hown⟩, -, hlo, hloO⟩ := hO
 have hcb := fun W => gj_calls W vr
 have vy := blk_new w (.cells #[.int .i64 vr.k, .string vr.raw, .string vr.str, .float .f64 vr.num, .int .i64 vr.idx, .slice none 0 0] 67 (0, 0))
 obtain ⟨W, hW⟩ : ∃ W, w.alloc (.cells #[.int .i64 vr.k, .string vr.raw, .string vr.str, .float .f64 vr.num, .int .i64 vr.idx, .slice none 0 0] 67 (0, 0)) = W := ⟨_, rfl⟩
 have hBW : Below w.heap.size w W := by rw [← hW]; exact below_alloc (Below.refl _ _) _
 rw [hW] at vy
 have kO := blk_below kBo hBW
 have kT := blk_below ht hBW
 have cv0 := (blk_cell vy 0).trans rfl
 have cv1 := (blk_cell vy 1).trans rfl
 have cv2 := (blk_cell vy 2).trans rfl
 have cv3 := (blk_cell vy 3).trans rfl
 have cv4 := (blk_cell vy 4).trans rfl
 have cv5 := (blk_cell vy 5).trans rfl
 have co := (blk_cell kO 0).trans rfl
 have fo := blk_frozen kO 0
 have hBy := Aside0.mk (Below.refl W.heap.size W)
 have hTO : Bt ≠ Bo := blk_ne ht kBo (by decide)
 have hSO : Bs ≠ Bo := blk_ne hs kBo (by decide)
 replace vy := Aside0.mk vy
 replace kO := Aside0.mk kO
 replace kT := Aside0.mk kT
 replace kBo := Aside0.mk kBo
 replace ht := Aside0.mk ht
 replace hs := Aside0.mk hs
 replace hown := Aside0.mk hown
 replace hBW := Aside0.mk hBW
 go_enter Tryz.func46, Tryz.ntmps46
 go_wp2_with (fail)
 go_region_law (first | (refine step_append_cells (w0 := w) B0 rfl (.tmp 5) (.tmp 8) 54 39 _ 5 56 rfl Tryz.underlying54 info39 rfl (by decide) (by decide) v ps.length (ps.flatMap fun p => p.2.cells) [.int .i64 vr.k, .string vr.raw, .string vr.str, .float .f64 vr.num, .bool vr.ex] (by simp [Act.eval, Act.put]) (by simp [Act.eval, Act.put]) rfl ?a1 ?aO ?aB ?aS ?aL ?_; (case a1 => exact ones_ok vr); (case aO => exact pw_own_below hown.out (below_then hBW.out hBW.out.size (by repeat (with_reducible first | exact hBy.out | apply below_alloc | apply below_drew | apply pw_below_drewN)))); (case aB => exact below_mono (below_then hBW.out hBW.out.size (by repeat (with_reducible first | exact hBy.out | apply below_alloc | apply below_drew | apply pw_below_drewN))) hlo); (case aS => exact Nat.le_trans hlo (below_then hBW.out hBW.out.size (by repeat (with_reducible first | exact hBy.out | apply below_alloc | apply below_drew | apply pw_below_drewN))).size); (case aL => omega); intro v1 w6 ho hb6 hg6 hat6; have kO6 := app_blk hown.out kBo.out (below_then hBW.out hBW.out.size (by repeat (with_reducible first | exact hBy.out | apply below_alloc | apply below_drew | apply pw_below_drewN))) hg6 (by decide); have kT6 := app_blk hown.out ht.out (below_then hBW.out hBW.out.size (by repeat (with_reducible first | exact hBy.out | apply below_alloc | apply below_drew | apply pw_below_drewN))) hg6 (by decide); have kS6 := app_blk hown.out hs.out (below_then hBW.out hBW.out.size (by repeat (with_reducible first | exact hBy.out | apply below_alloc | apply below_drew | apply pw_below_drewN))) hg6 (by decide); have k67 := app_67 hown.out (below_then hBW.out hBW.out.size (by repeat (with_reducible first | exact hBy.out | apply below_alloc | apply below_drew | apply pw_below_drewN))) hg6; obtain ⟨g, cap, rfl, hbg, hncap⟩ := own_shape ho (by omega); have co6 := (blk_cell kO6 0).trans rfl; have fo6 := blk_frozen kO6 0; have cs6 := (blk_cell kT6 0).trans rfl; replace kO6 := Aside0.mk kO6; replace kS6 := Aside0.mk kS6; replace kT6 := Aside0.mk kT6; replace k67 := Aside0.mk k67; replace ho := Aside0.mk ho; replace hb6 := Aside0.mk hb6; clear hg6 hat6) | (go_simp; go_at_call 34; (with_reducible refine (hcb _).mono ?_); rintro e w5 ⟨rfl, hb5⟩; replace hBy := Aside0.mk (below_step (by repeat (with_reducible first | exact hBy.out | apply below_alloc | apply below_drew | apply pw_below_drewN)) hb5); clear hb5; have kO5 := blk_below kO.out hBy.out; have co := (blk_cell kO5 0).trans rfl; have fo := blk_frozen kO5 0; have lo := blk_lt kO5; replace kO5 := Aside0.mk kO5))
 all_goals (try go_wp2)
 all_goals go_ret
 all_goals exact ⟨by first | rfl | simp, outs_done hbel hb6.out ho.out kO6.out kT6.out kS6.out hTO hSO k67.out hloO (by omega)⟩
set_option maxHeartbeats 8000000 in
set_option maxRecDepth 100000 in
theorem each_calls (B0 Bo Bs : Nat) (stop : Int) (w0 w : World) (ps : List (Rs × Rs)) (kr vr : Rs) (hO : Outs B0 Bo Bs stop w0 ps w) (hps : ps.length ≤ 100000) :
 Calls Tryz.prog 73 #[resV kr.k kr.raw kr.str kr.num kr.idx, resV vr.k vr.raw vr.str vr.num vr.idx, .pointer (some ⟨Bs, 0, none⟩)] w fun e w' =>
  e = .returned (.bool (((ps.length + 1 : Nat) : Int) != stop)) ∧ Outs B0 Bo Bs stop w0 (ps ++ [(kr, vr)]) w' ∧ Below B0 w w' ∧ ∀ (b : Nat) (cs : Array Value), w.heap[b]? = some (.cells cs 67 (0, 0)) → w'.heap[b]? = some (.cells cs 67 (0, 0)) := by
 have hb2 : Below w.heap.size w ((w.alloc (.cells #[.int .i64 kr.k, .string kr.raw, .string kr.str, .float .f64 kr.num, .int .i64 kr.idx, .slice none 0 0] 67)).alloc (.cells #[.int .i64 vr.k, .string vr.raw, .string vr.str, .float .f64 vr.num, .int .i64 vr.idx, .slice none 0 0] 67)) := below_alloc (below_alloc (Below.refl _ _) _) _
 have hO2 := hO.below hb2
 obtain ⟨Bt, h3, h4⟩ := hO2.stp
 have cy := (blk_cell h4 0).trans rfl
 have hy := yield_calls B0 Bo Bs Bt stop w0 _ ps kr vr hO2 h3 h4 hps
 have hlo := hO.loB
 replace hO := Aside0.mk hO
 replace hO2 := Aside0.mk hO2
 replace h3 := Aside0.mk h3
 replace h4 := Aside0.mk h4
 replace hb2 := Aside0.mk hb2
 go_enter Tryz.func73, Tryz.ntmps73
 go_wp2_with (first | (go_at_call 46; (with_reducible refine hy.mono ?_); rintro e w7 ⟨rfl, h5, h6, h7⟩; replace h5 := Aside0.mk h5; replace h6 := Aside0.mk h6; replace h7 := Aside0.mk h7))
 go_ret
 exact ⟨rfl, h5.out, (below_mono hb2.out hlo).trans h6.out, fun b cs hb => h7.out b cs (blk_below hb hb2.out)⟩
end Go.Proofs.YtpgfjbimodnkeaaGreatDoor.Dec
namespace Go.Proofs.YtpgfjbimodnkeaaGreatDoor.Q
open Go.RowKit Go.Proofs.YtpgfjbimodnkeaaGreatDoorW.PrintWords Go.Proofs.YtpgfjbimodnkeaaGreatDoorW.PrintLast Go.Proofs.YtpgfjbimodnkeaaGreatDoorW.PrintMore
attribute [local go_sem] max2_int min2_int max_two min_two max_three min_three max_four min_four
set_option linter.unusedVariables false
set_option linter.unusedSimpArgs false
def laws_gjKind.f (a0 : Int) : Option (Int) := if a0 = 1 then (some 1) else (if a0 = 3 then (some 2) else (if a0 = 4 then (some 3) else (if a0 = 2 then (some 4) else (if a0 = 5 then (some 5) else (if a0 = 6 then (some 5) else (some 0))))))
set_option maxHeartbeats 8000000 in
set_option maxRecDepth 100000 in
theorem laws_gjKind.calls (a0 : Int) (r : Int) (w : World) (h : laws_gjKind.f a0 = some r) :
 Calls Tryz.prog 35 #[.int .i64 a0] w fun e w' => e = .returned (.int .i64 r) ∧ Drawn0 w w' := by
 have H : (if a0 = 1 then (some 1) else (if a0 = 3 then (some 2) else (if a0 = 4 then (some 3) else (if a0 = 2 then (some 4) else (if a0 = 5 then (some 5) else (if a0 = 6 then (some 5) else (some 0))))))) = some r := h
 clear h
 by_cases c2 : a0 = 1
 ·rw [if_pos c2] at H
  have c2b0 : (a0 == 1) = true := beq_iff_eq.mpr c2
  have c2b1 : (a0 != 1) = false := bne_eq_false_iff_eq.mpr c2
  clear c2
  obtain rfl := Option.some.inj H
  go_enter Tryz.func35, Tryz.ntmps35
  go_wp2
  go_ret
  exact ⟨by first | rfl | (simp; done) | (simp [*]; done), by repeat (first | exact Drawn0.refl _ | apply Drawn0.step)⟩
 ·rw [if_neg c2] at H
  have c2b0 : (a0 == 1) = false := beq_eq_false_iff_ne.mpr c2
  have c2b1 : (a0 != 1) = true := bne_iff_ne.mpr c2
  by_cases c3 : a0 = 3
  ·rw [if_pos c3] at H
   have c3b0 : (a0 == 3) = true := beq_iff_eq.mpr c3
   have c3b1 : (a0 != 3) = false := bne_eq_false_iff_eq.mpr c3
   clear c3
   obtain rfl := Option.some.inj H
   go_enter Tryz.func35, Tryz.ntmps35
   go_wp2
   go_ret
   exact ⟨by first | rfl | (simp; done) | (simp [*]; done), by repeat (first | exact Drawn0.refl _ | apply Drawn0.step)⟩
  ·rw [if_neg c3] at H
   have c3b0 : (a0 == 3) = false := beq_eq_false_iff_ne.mpr c3
   have c3b1 : (a0 != 3) = true := bne_iff_ne.mpr c3
   by_cases c4 : a0 = 4
   ·rw [if_pos c4] at H
    have c4b0 : (a0 == 4) = true := beq_iff_eq.mpr c4
    have c4b1 : (a0 != 4) = false := bne_eq_false_iff_eq.mpr c4
    clear c4
    obtain rfl := Option.some.inj H
    go_enter Tryz.func35, Tryz.ntmps35
    go_wp2
    go_ret
    exact ⟨by first | rfl | (simp; done) | (simp [*]; done), by repeat (first | exact Drawn0.refl _ | apply Drawn0.step)⟩
   ·rw [if_neg c4] at H
    have c4b0 : (a0 == 4) = false := beq_eq_false_iff_ne.mpr c4
    have c4b1 : (a0 != 4) = true := bne_iff_ne.mpr c4
    by_cases c5 : a0 = 2
    ·rw [if_pos c5] at H
     have c5b0 : (a0 == 2) = true := beq_iff_eq.mpr c5
     have c5b1 : (a0 != 2) = false := bne_eq_false_iff_eq.mpr c5
     clear c5
     obtain rfl := Option.some.inj H
     go_enter Tryz.func35, Tryz.ntmps35
     go_wp2
     go_ret
     exact ⟨by first | rfl | (simp; done) | (simp [*]; done), by repeat (first | exact Drawn0.refl _ | apply Drawn0.step)⟩
    ·rw [if_neg c5] at H
     have c5b0 : (a0 == 2) = false := beq_eq_false_iff_ne.mpr c5
     have c5b1 : (a0 != 2) = true := bne_iff_ne.mpr c5
     by_cases c6 : a0 = 5
     ·rw [if_pos c6] at H
      have c6b0 : (a0 == 5) = true := beq_iff_eq.mpr c6
      have c6b1 : (a0 != 5) = false := bne_eq_false_iff_eq.mpr c6
      clear c6
      obtain rfl := Option.some.inj H
      go_enter Tryz.func35, Tryz.ntmps35
      go_wp2
      go_ret
      exact ⟨by first | rfl | (simp; done) | (simp [*]; done), by repeat (first | exact Drawn0.refl _ | apply Drawn0.step)⟩
     ·rw [if_neg c6] at H
      have c6b0 : (a0 == 5) = false := beq_eq_false_iff_ne.mpr c6
      have c6b1 : (a0 != 5) = true := bne_iff_ne.mpr c6
      by_cases c7 : a0 = 6
      ·rw [if_pos c7] at H
       have c7b0 : (a0 == 6) = true := beq_iff_eq.mpr c7
       have c7b1 : (a0 != 6) = false := bne_eq_false_iff_eq.mpr c7
       clear c7
       obtain rfl := Option.some.inj H
       go_enter Tryz.func35, Tryz.ntmps35
       go_wp2
       go_ret
       exact ⟨by first | rfl | (simp; done) | (simp [*]; done), by repeat (first | exact Drawn0.refl _ | apply Drawn0.step)⟩
      ·rw [if_neg c7] at H
       have c7b0 : (a0 == 6) = false := beq_eq_false_iff_ne.mpr c7
       have c7b1 : (a0 != 6) = true := bne_iff_ne.mpr c7
       obtain rfl := Option.some.inj H
       go_enter Tryz.func35, Tryz.ntmps35
       go_wp2
       go_ret
       exact ⟨by first | rfl | (simp; done) | (simp [*]; done), by repeat (first | exact Drawn0.refl _ | apply Drawn0.step)⟩
end Go.Proofs.YtpgfjbimodnkeaaGreatDoor.Q
set_option linter.unusedVariables false
set_option linter.unusedSimpArgs false
namespace Go.Proofs.YtpgfjbimodnkeaaGreatDoor.Dec
open Go Go.RowKit Go.Proofs.YtpgfjbimodnkeaaGreatDoorW.PrintWords Go.Proofs.YtpgfjbimodnkeaaGreatDoorW.PrintLast Go.Proofs.YtpgfjbimodnkeaaGreatDoorW.PrintMore Go.Proofs.YtpgfjbimodnkeaaGreatDoor.Scan Go.Proofs.YtpgfjbimodnkeaaGreatDoor.Q
def gjk (kd : Int) : Int := if kd = 1 then 1 else if kd = 3 then 2 else if kd = 4 then 3 else if kd = 2 then 4 else if kd = 5 then 5 else if kd = 6 then 5 else 0
theorem gjkind_f (kd : Int) : laws_gjKind.f kd = some (gjk kd) := by
 unfold laws_gjKind.f gjk
 repeat' split
 all_goals rfl
structure KidOk (s : ByteArray) (p : S32) (r : Rs) : Prop where
 at_ : ∃ b e : Nat, p.f1 = b ∧ p.f2 = e ∧ b < e ∧ e ≤ s.size ∧ r.raw = s.extract b e ∧ (p.f0 = 4 → ∃ q, e = q + 1 ∧ b < q ∧ Says s (b + 1) q r.str)
 kind : r.k = gjk p.f0
 ex : r.ex = true
structure NameOk (s : ByteArray) (n : S44) (r : Rs) : Prop where
 at_ : ∃ b q : Nat, n.f0 = b ∧ n.f1 = (q + 1 : Nat) ∧ b < q ∧ q < s.size ∧ r.raw = s.extract b (q + 1) ∧ Says s (b + 1) q r.str
 kind : r.k = 3
theorem ex_raw {s : ByteArray} {b e : Nat} (h : b < e) (he : e ≤ s.size) (r : Rs) (hr : r.raw = s.extract b e) : r.ex = true := by
 unfold Rs.ex
 split
 ·rw [hr, ByteArray.size_extract]
  exact bne_iff_ne.mpr (by omega)
 ·rfl
theorem any_value (w : World) (B : Nat) (s : ByteArray) (hs : s.size ≤ 65536) (hT : Tabs B w) {b m : Nat} {kd : Int} {ns : List S44} {ks : List S32} (hJ : J s .val b m kd ns ks) (hA : After s m) (hP : Prd s b) :
 Calls Tryz.prog 62 #[.string s, .int .i64 b, .bool true] w fun r w' => ∃ rs : Rs, r = .returned (.tuple #[.int .i64 m, resV rs.k rs.raw rs.str rs.num rs.idx, .bool true]) ∧ KidOk s ⟨kd, b, m, ns, ks⟩ rs ∧ Below w.heap.size w w' := by
 have hb := hJ.bound
 have key : ∀ (rs : Rs), rs.raw = s.extract b m → rs.k = gjk kd → (kd = 4 → ∃ q, m = q + 1 ∧ b < q ∧ Says s (b + 1) q rs.str) → KidOk s ⟨kd, b, m, ns, ks⟩ rs := fun rs h1 h2 h3 =>
  ⟨⟨b, m, rfl, rfl, hb.1, hb.2, h1, h3⟩, h2, ex_raw hb.1 hb.2 rs h1⟩
 have hsc := hJ.scan
 cases hJ with
 | null _ h =>
   refine (any_null w s hs b h hA).mono ?_
   rintro r w' ⟨rfl, hB⟩
   exact ⟨⟨0, s.extract b (b + 4), ⟨#[]⟩, 0, 0⟩, rfl, key _ rfl rfl (fun h => absurd h (by decide)), hB⟩
 | fals _ h =>
   refine (any_false w s hs b h hA).mono ?_
   rintro r w' ⟨rfl, hB⟩
   exact ⟨⟨1, s.extract b (b + 5), ⟨#[]⟩, 0, 0⟩, rfl, key _ rfl rfl (fun h => absurd h (by decide)), hB⟩
 | tru _ h =>
   refine (any_true w s hs b h hA).mono ?_
   rintro r w' ⟨rfl, hB⟩
   exact ⟨⟨4, s.extract b (b + 4), ⟨#[]⟩, 0, 0⟩, rfl, key _ rfl rfl (fun h => absurd h (by decide)), hB⟩
 | num _ _ h0 h1 h2 h3 =>
   refine (any_number w B s hs b m h1 h2 h3 h0 hA hT).mono ?_
   rintro r w' ⟨⟨x, rfl⟩, hB⟩
   exact ⟨⟨2, s.extract b m, ⟨#[]⟩, x, 0⟩, rfl, key _ rfl rfl (fun h => absurd h (by decide)), hB⟩
 | str _ q h0 h1 h2 =>
   obtain ⟨hP1, v, hv⟩ := qstr_says hs h2 (QStr.prd hs h0 h1 h2 hP).1
   have hqb := h2.bound
   refine (any_string w s hs b q h0 h1 h2 v hv).mono ?_
   rintro r w' ⟨rfl, hB⟩
   exact ⟨⟨3, s.extract b (q + 1), v, 0, 0⟩, rfl, key _ rfl rfl (fun _ => ⟨q, rfl, by omega, hv⟩), hB⟩
 | arr0 _ j h0 h1 h2 h3 h4 =>
   refine (any_bracket w B s hs b _ h0 (.inr h1) (hsc.2 (by decide)) hT).mono ?_
   rintro r w' ⟨rfl, hB⟩
   exact ⟨⟨5, s.extract b (j + 1), ⟨#[]⟩, 0, b⟩, rfl, key _ rfl rfl (fun h => absurd h (by decide)), hB⟩
 | arr _ j _ _ h0 h1 h2 h3 =>
   refine (any_bracket w B s hs b _ h0 (.inr h1) (hsc.2 (by decide)) hT).mono ?_
   rintro r w' ⟨rfl, hB⟩
   exact ⟨⟨5, s.extract b m, ⟨#[]⟩, 0, b⟩, rfl, key _ rfl rfl (fun h => absurd h (by decide)), hB⟩
 | obj0 _ j h0 h1 h2 h3 h4 =>
   refine (any_bracket w B s hs b _ h0 (.inl h1) (hsc.2 (by decide)) hT).mono ?_
   rintro r w' ⟨rfl, hB⟩
   exact ⟨⟨5, s.extract b (j + 1), ⟨#[]⟩, 0, b⟩, rfl, key _ rfl rfl (fun h => absurd h (by decide)), hB⟩
 | obj _ j _ _ _ h0 h1 h2 h3 =>
   refine (any_bracket w B s hs b _ h0 (.inl h1) (hsc.2 (by decide)) hT).mono ?_
   rintro r w' ⟨rfl, hB⟩
   exact ⟨⟨5, s.extract b m, ⟨#[]⟩, 0, b⟩, rfl, key _ rfl rfl (fun h => absurd h (by decide)), hB⟩
def KidsOk (s : ByteArray) : List S32 → List (Rs × Rs) → Prop
 | [], [] => True
 | p :: ps, r :: rs => KidOk s p r.2 ∧ KidsOk s ps rs
 | _, _ => False
def NamesOk (s : ByteArray) : List S44 → List (Rs × Rs) → Prop
 | [], [] => True
 | p :: ps, r :: rs => NameOk s p r.1 ∧ NamesOk s ps rs
 | _, _ => False
theorem KidsOk.length {s : ByteArray} : ∀ {ks : List S32} {ps : List (Rs × Rs)}, KidsOk s ks ps → ks.length = ps.length
 | [], [], _ => rfl
 | _ :: _, _ :: _, h => by simp [KidsOk.length h.2]
 | [], _ :: _, h => h.elim
 | _ :: _, [], h => h.elim
theorem KidsOk.snoc {s : ByteArray} {p : S32} {r : Rs × Rs} (hp : KidOk s p r.2) : ∀ {ks : List S32} {ps : List (Rs × Rs)}, KidsOk s ks ps → KidsOk s (ks ++ [p]) (ps ++ [r])
 | [], [], _ => ⟨hp, trivial⟩
 | _ :: _, _ :: _, h => ⟨h.1, KidsOk.snoc hp h.2⟩
 | [], _ :: _, h => h.elim
 | _ :: _, [], h => h.elim
theorem NamesOk.snoc {s : ByteArray} {p : S44} {r : Rs × Rs} (hp : NameOk s p r.1) : ∀ {ks : List S44} {ps : List (Rs × Rs)}, NamesOk s ks ps → NamesOk s (ks ++ [p]) (ps ++ [r])
 | [], [], _ => ⟨hp, trivial⟩
 | _ :: _, _ :: _, h => ⟨h.1, NamesOk.snoc hp h.2⟩
 | [], _ :: _, h => h.elim
 | _ :: _, [], h => h.elim
theorem NamesOk.length {s : ByteArray} : ∀ {ks : List S44} {ps : List (Rs × Rs)}, NamesOk s ks ps → ks.length = ps.length
 | [], [], _ => rfl
 | _ :: _, _ :: _, h => by simp [NamesOk.length h.2]
 | [], _ :: _, h => h.elim
 | _ :: _, [], h => h.elim
theorem KidsOk.at {s : ByteArray} : ∀ {ks : List S32} {ps : List (Rs × Rs)}, KidsOk s ks ps → ∀ (j : Nat) (p : S32) (r : Rs × Rs), ks[j]? = some p → ps[j]? = some r → KidOk s p r.2
 | [], [], _, j, p, r, h1, _ => by simp at h1
 | a :: ks, b :: ps, h, 0, p, r, h1, h2 => by
   simp only [List.getElem?_cons_zero, Option.some.injEq] at h1 h2
   subst h1; subst h2
   exact h.1
 | a :: ks, b :: ps, h, j + 1, p, r, h1, h2 => KidsOk.at h.2 j p r (by simpa using h1) (by simpa using h2)
 | [], _ :: _, h, _, _, _, _, _ => h.elim
 | _ :: _, [], h, _, _, _, _, _ => h.elim
theorem NamesOk.at {s : ByteArray} : ∀ {ks : List S44} {ps : List (Rs × Rs)}, NamesOk s ks ps → ∀ (j : Nat) (p : S44) (r : Rs × Rs), ks[j]? = some p → ps[j]? = some r → NameOk s p r.1
 | [], [], _, j, p, r, h1, _ => by simp at h1
 | a :: ks, b :: ps, h, 0, p, r, h1, h2 => by
   simp only [List.getElem?_cons_zero, Option.some.injEq] at h1 h2
   subst h1; subst h2
   exact h.1
 | a :: ks, b :: ps, h, j + 1, p, r, h1, h2 => NamesOk.at h.2 j p r (by simpa using h1) (by simpa using h2)
 | [], _ :: _, h, _, _, _, _, _ => h.elim
 | _ :: _, [], h, _, _, _, _, _ => h.elim
end Go.Proofs.YtpgfjbimodnkeaaGreatDoor.Dec
set_option linter.unusedVariables false
set_option linter.unusedSimpArgs false
namespace Go.Proofs.YtpgfjbimodnkeaaGreatDoor.Dec
open Go Go.RowKit Go.Proofs.YtpgfjbimodnkeaaGreatDoorW.PrintWords Go.Proofs.YtpgfjbimodnkeaaGreatDoorW.PrintLast Go.Proofs.YtpgfjbimodnkeaaGreatDoorW.PrintMore Go.Proofs.YtpgfjbimodnkeaaGreatDoor.Scan Go.Proofs.YtpgfjbimodnkeaaGreatDoor.Q
set_option maxHeartbeats 8000000 in
set_option maxRecDepth 100000 in
theorem any_rest (w : World) (s : ByteArray) (hs : s.size ≤ 65536) (i : Nat) (hi : i ≤ s.size) (h : ∀ p : Nat, i ≤ p → p < s.size → bt s p = 93 ∨ Scan.blank (bt s p)) :
 Calls Tryz.prog 62 #[.string s, .int .i64 i, .bool true] w fun r w' => r = .returned (.tuple #[.int .i64 s.size, resV 0 ⟨#[]⟩ ⟨#[]⟩ 0 0, .bool false]) ∧ Below w.heap.size w w' := by
 replace h := Aside0.mk h
 go_enter Tryz.func62, Tryz.ntmps62
 go_wp2
 go_loopg [1] (s.size - i) (fun kq v1 w' => ∃ p : Nat, v1 = .int .i64 p ∧ Aside0 (p + kq = s.size ∧ i ≤ p) ∧ w' = (w.alloc (.cells #[.int .i64 0, .string ⟨#[]⟩, .string ⟨#[]⟩, .float .f64 0, .int .i64 0, .slice none 0 0] 67)).alloc (.cells #[.int .i64 0, .string ⟨#[]⟩, .string ⟨#[]⟩, .float .f64 0, .int .i64 0, .slice none 0 0] 67))
 case atStart => exact ⟨i, rfl, ⟨⟨by omega, Nat.le_refl _⟩⟩, rfl⟩
 case round =>
  obtain ⟨p, rfl, hp, rfl⟩ := hrel
  have hp1 := hp.out
  by_cases hlt : p < s.size
  ·have hx := bt_nat s p
   have p0 : (0 ≤ (p : Int)) = True := eq_true (by omega)
   have p1 : ((p : Int) < (s.size : Int)) = True := eq_true (by omega)
   have hh := h.out p hp1.2 hlt
   clear hp1
   unfold Scan.blank at hh
   cases gk with
   | zero => exact absurd hp.out (by omega)
   | succ gk =>
   rcases hh with hh | hh
   ·rw [hh] at hx
    clear hh
    go_wp2
    go_roundg gk
    case measure => omega
    case rel => exact ⟨p + 1, by first | rfl | (congr 1; omega), ⟨⟨by have := hp.out; omega, by have := hp.out; omega⟩⟩, rfl⟩
   ·generalize bt s p = c at *
    have b1 : (c == 123) = false := beq_eq_false_iff_ne.mpr (by omega)
    have b2 : (c == 91) = false := beq_eq_false_iff_ne.mpr (by omega)
    have b3 : decide (c ≤ 32) = true := decide_eq_true (by omega)
    clear hh
    go_wp2
    go_roundg gk
    case measure => omega
    case rel => exact ⟨p + 1, by first | rfl | (congr 1; omega), ⟨⟨by have := hp.out; omega, by have := hp.out; omega⟩⟩, rfl⟩
  ·have hpe : p = s.size := by omega
   subst hpe
   have p1 : ((s.size : Int) < (s.size : Int)) = False := eq_false (by omega)
   clear hp1 hlt
   go_wp2
   go_region
   all_goals (try go_wp2)
   all_goals (try simp only [Exit.inBlock, Exit.then])
   refine bodyPost_ret (v := .tuple #[.int .i64 s.size, resV 0 ⟨#[]⟩ ⟨#[]⟩ 0 0, .bool false]) ?_ rfl ?_
   ·simp [results, go_sem]
    try omega
   ·exact ⟨rfl, (by repeat (with_reducible first | exact Below.refl _ _ | apply below_alloc | apply below_drew | apply pw_below_drewN | (refine Below.setCell ?_ (by first | exact Nat.le_refl _ | exact Nat.le_succ _) _)))⟩
end Go.Proofs.YtpgfjbimodnkeaaGreatDoor.Dec
set_option linter.unusedVariables false
set_option linter.unusedSimpArgs false
namespace Go.Proofs.YtpgfjbimodnkeaaGreatDoor.Dec
open Go Go.RowKit Go.Proofs.YtpgfjbimodnkeaaGreatDoorW.PrintWords Go.Proofs.YtpgfjbimodnkeaaGreatDoorW.PrintLast Go.Proofs.YtpgfjbimodnkeaaGreatDoorW.PrintMore Go.Proofs.YtpgfjbimodnkeaaGreatDoor.Scan Go.Proofs.YtpgfjbimodnkeaaGreatDoor.Q
def GapC (c : Int) : Prop := Go.Proofs.YtpgfjbimodnkeaaGreatDoor.Scan.blank c ∨ c = 44 ∨ c = 58
structure AtEnd (s : ByteArray) (c : Int) (i : Nat) : Prop where
 way : s.size ≤ i ∨ (i < s.size ∧ ∃ j, Span s GapC i j ∧ j ≤ s.size ∧ (j = s.size ∨ (bt s j = c ∧ j < s.size ∧ Blanks s (j + 1) s.size)))
def RemA (s : ByteArray) (e : Nat) (rest : List S32) (i : Nat) : Prop := (∃ j, Span s GapC i j ∧ J s .els j e 0 [] rest) ∨ (rest = [] ∧ AtEnd s 93 i)
def RemO (s : ByteArray) (e : Nat) (nrest : List S44) (rest : List S32) (i : Nat) : Prop := (∃ j, Span s GapC i j ∧ J s .mems j e 0 nrest rest) ∨ (nrest = [] ∧ rest = [] ∧ AtEnd s 125 i)
theorem blanks_gap {s : ByteArray} {i j : Nat} (h : Blanks s i j) : Span s GapC i j := ⟨h.le, fun m h1 h2 => .inl (h.all m h1 h2)⟩
theorem span_one {s : ByteArray} {P : Int → Prop} {i : Nat} (h : P (bt s i)) : Span s P i (i + 1) := ⟨by omega, fun m h1 h2 => by
 have e : m = i := by omega
 rw [e]; exact h⟩
theorem span_tail {s : ByteArray} {P : Int → Prop} {i j : Nat} (h : Span s P i j) (hlt : i < j) : Span s P (i + 1) j := ⟨hlt, fun m h1 h2 => h.all m (by omega) h2⟩
theorem val_start {s : ByteArray} {j m : Nat} {kd : Int} {ns : List S44} {ks : List S32} (h : J s .val j m kd ns ks) : 32 < bt s j ∧ bt s j ≠ 44 ∧ bt s j ≠ 58 ∧ bt s j ≠ 92 := by
 cases h with
 | null _ h => have := h.at 0 (by decide); rw [Nat.add_zero] at this; rw [this]; decide
 | fals _ h => have := h.at 0 (by decide); rw [Nat.add_zero] at this; rw [this]; decide
 | tru _ h => have := h.at 0 (by decide); rw [Nat.add_zero] at this; rw [this]; decide
 | num _ _ h0 h1 h2 h3 => omega
 | str _ q h0 h1 h2 => omega
 | arr0 _ j h0 h1 h2 h3 h4 => omega
 | arr _ j e ks h0 h1 h2 h3 => omega
 | obj0 _ j h0 h1 h2 h3 h4 => omega
 | obj _ j e ns ks h0 h1 h2 h3 => omega
theorem gap_tests {c : Int} (h : GapC c) : c ≤ 32 ∨ (¬ c ≤ 32 ∧ c = 44) ∨ (¬ c ≤ 32 ∧ c = 58) := by unfold GapC Scan.blank at h; omega
theorem add_run (t : TypeId) (x y : Nat) (W : World) : (binOp .add t (.float .f64 x) (.float .f64 y)).run Tryz.prog W = .ok (.float .f64 (fl2 .add x y W)) (W.drewN (fln .add x y)) := by
 cases h : floatBits .add .f64 x y with
 | some r =>
   rw [run_float_arith W .add t .f64 x y r h]
   simp only [fl2, fln, h]
   rfl
 | none =>
   have h' : FloatKind.f64.format.add x y = none := h
   simp only [fl2, fln, h]
   by_cases hf : (Question.nanBits .f64 x y).forced
   ·simp [binOp, Op.floatArith, h', hf]; rfl
   ·simp [binOp, Op.floatArith, h', hf]; rfl
theorem kids_len {s : ByteArray} {md : Md} {i e : Nat} {kd : Int} {ns : List S44} {ks : List S32} (h : J s md i e kd ns ks) : ks.length + i ≤ e := by
 induction h with
 | null i h => simp
 | fals i h => simp
 | tru i h => simp
 | num i e h0 h1 h2 h3 => simp; omega
 | str i q h0 h1 h2 => have := h2.bound; simp; omega
 | arr0 i j h0 h1 h2 h3 h4 => have := h2.le; simp; omega
 | arr i j e ks h0 h1 h2 h3 ih => have := h2.le; omega
 | obj0 i j h0 h1 h2 h3 h4 => have := h2.le; simp; omega
 | obj i j e ns ks h0 h1 h2 h3 ih => have := h2.le; omega
 | el1 i m e kd ns ks h0 h1 h2 h3 ih => have := h0.bound; have := h1.le; simp; omega
 | els i m c n e kd ns ks l h0 h1 h2 h3 h4 h5 ih ih2 => have := h0.bound; have := h1.le; have := h4.le; simp; omega
 | mem1 i q c b m e kd ns ks h0 h1 h2 h3 h4 h5 h6 h7 h8 h9 h10 ih => have := h2.bound; have := h3.le; have := h6.le; have := h7.bound; have := h8.le; simp; omega
 | mems i q c b m d n e kd ns nl ks l h0 h1 h2 h3 h4 h5 h6 h7 h8 h9 h10 h11 h12 ih ih2 => have := h2.bound; have := h3.le; have := h6.le; have := h7.bound; have := h8.le; have := h11.le; simp; omega
theorem take_done {α : Type} {a l ks : List α} {x : α} (h : a ++ x :: l = ks) : ks.take (a.length + 1) = a ++ [x] ∧ a.length + 1 ≤ ks.length := by
 subst h
 refine ⟨?_, by simp⟩
 rw [show a ++ x :: l = (a ++ [x]) ++ l by simp, List.take_left' (by simp)]
theorem at_end {s : ByteArray} {m e : Nat} {c : Int} (h1 : Blanks s m e) (h2 : e < s.size) (h3 : bt s e = c) (hE : Blanks s (e + 1) s.size) : AtEnd s c (m + 1) := by
 have hle := h1.le
 refine ⟨?_⟩
 by_cases hs : s.size ≤ m + 1
 ·exact .inl hs
 ·refine .inr ⟨by omega, ?_⟩
  by_cases he : m = e
  ·subst he
   exact ⟨s.size, blanks_gap hE, Nat.le_refl _, .inl rfl⟩
  ·exact ⟨e, span_tail (blanks_gap h1) (by omega), by omega, .inr ⟨h3, h2, hE⟩⟩
theorem at_open {s : ByteArray} {i j : Nat} {c : Int} (h2 : Blanks s i j) (h3 : j < s.size) (h4 : bt s j = c) (hE : Blanks s (j + 1) s.size) : AtEnd s c i :=
 ⟨.inr ⟨by have := h2.le; omega, j, blanks_gap h2, by omega, .inr ⟨h4, h3, hE⟩⟩⟩
theorem els_next {s : ByteArray} {e j : Nat} {rest : List S32} (h : J s .els j e 0 [] rest) (hE : Blanks s e s.size) : ∃ (m : Nat) (kd : Int) (ns : List S44) (ks l : List S32), rest = ⟨kd, (j : Nat), (m : Nat), ns, ks⟩ :: l ∧ J s .val j m kd ns ks ∧ After s m ∧ RemA s e l (m + 1) ∧ m < s.size := by
 have hes := h.bound.2
 cases h with
 | el1 _ m e kd ns ks h0 h1 h2 h3 =>
   have hle := h1.le
   refine ⟨m, kd, ns, ks, [], rfl, h0, .inr ⟨by omega, ?_⟩, .inr ⟨rfl, at_end h1 h2 h3 hE⟩, by omega⟩
   by_cases he : m = e
   ·subst he; exact .inr (.inr (.inl h3))
   ·exact .inl (h1.all m (Nat.le_refl _) (by omega))
 | els _ m c n e kd ns ks l h0 h1 h2 h3 h4 h5 =>
   have hle := h1.le
   have hle2 := h4.le
   refine ⟨m, kd, ns, ks, l, rfl, h0, .inr ⟨by omega, ?_⟩, .inl ⟨n, ?_, h5⟩, by omega⟩
   ·by_cases he : m = c
    ·subst he; exact .inr (.inl h3)
    ·exact .inl (h1.all m (Nat.le_refl _) (by omega))
   ·exact span_tail (((blanks_gap h1).trans (span_one (.inr (.inl h3)))).trans (blanks_gap h4)) (by omega)
theorem mems_next {s : ByteArray} (hS : s.size ≤ 65536) {e j : Nat} {nrest : List S44} {rest : List S32} (h : J s .mems j e 0 nrest rest) (hE : Blanks s e s.size) : ∃ (q b m : Nat) (kd : Int) (ns nl : List S44) (ks l : List S32), nrest = ⟨(j : Nat), (q + 1 : Nat)⟩ :: nl ∧ rest = ⟨kd, (b : Nat), (m : Nat), ns, ks⟩ :: l ∧
 j < s.size ∧ bt s j = 34 ∧ QStr s (j + 1) q ∧ Span s GapC (q + 1) b ∧ J s .val b m kd ns ks ∧ After s m ∧ RemO s e nl l (m + 1) ∧ m < s.size ∧ (Prd s j → Prd s b) := by
 have hes := h.bound.2
 cases h with
 | mem1 _ q c b m e kd ns ks h0 h1 h2 h3 h4 h5 h6 h7 h8 h9 h10 =>
   have hle := h8.le
   have hq := h2.bound
   have hc := h3.le
   have hb := h6.le
   have hv := h7.bound
   refine ⟨q, b, m, kd, ns, [], ks, [], rfl, rfl, by omega, h1, h2, ((blanks_gap h3).trans (span_one (.inr (.inr h5)))).trans (blanks_gap h6), h7, .inr ⟨by omega, ?_⟩, .inr ⟨rfl, rfl, at_end h8 h9 h10 hE⟩, by omega, fun hp => ?_⟩
   ·by_cases he : m = e
    ·subst he; exact .inr (.inr (.inr h10))
    ·exact .inl (h8.all m (Nat.le_refl _) (by omega))
   ·exact h6.prd hS (by omega) (Prd.plain hS (h3.prd hS (by omega) (QStr.prd hS h0 h1 h2 hp).2) h4 (by omega))
 | mems _ q c b m d n e kd ns nl ks l h0 h1 h2 h3 h4 h5 h6 h7 h8 h9 h10 h11 h12 =>
   have hle := h8.le
   have hq := h2.bound
   have hc := h3.le
   have hb := h6.le
   have hv := h7.bound
   have hn := h11.le
   refine ⟨q, b, m, kd, ns, nl, ks, l, rfl, rfl, by omega, h1, h2, ((blanks_gap h3).trans (span_one (.inr (.inr h5)))).trans (blanks_gap h6), h7, .inr ⟨by omega, ?_⟩, .inl ⟨n, ?_, h12⟩, by omega, fun hp => ?_⟩
   ·by_cases he : m = d
    ·subst he; exact .inr (.inl h10)
    ·exact .inl (h8.all m (Nat.le_refl _) (by omega))
   ·exact span_tail (((blanks_gap h8).trans (span_one (.inr (.inl h10)))).trans (blanks_gap h11)) (by omega)
   ·exact h6.prd hS (by omega) (Prd.plain hS (h3.prd hS (by omega) (QStr.prd hS h0 h1 h2 hp).2) h4 (by omega))
theorem obj_start {s : ByteArray} {e : Nat} {ns : List S44} {ks : List S32} (h : J s .val 0 e 6 ns ks) (hE : Blanks s e s.size) : bt s ((0 : Nat) : Int) = 123 ∧ RemO s e ns ks 1 := by
 generalize hi : (0 : Nat) = i at h
 generalize hk : (6 : Int) = kd at h
 cases h with
 | obj0 _ j h0 h1 h2 h3 h4 =>
   subst hi
   exact ⟨h1, .inr ⟨rfl, rfl, at_open h2 h3 h4 hE⟩⟩
 | obj _ j e _ _ h0 h1 h2 h3 =>
   subst hi
   exact ⟨h1, .inl ⟨j, blanks_gap h2, h3⟩⟩
 | null => exact absurd hk (by decide)
 | fals => exact absurd hk (by decide)
 | tru => exact absurd hk (by decide)
 | num => exact absurd hk (by decide)
 | str => exact absurd hk (by decide)
 | arr0 => exact absurd hk (by decide)
 | arr => exact absurd hk (by decide)
theorem arr_start {s : ByteArray} {e : Nat} {ks : List S32} (h : J s .val 0 e 5 [] ks) (hE : Blanks s e s.size) : bt s ((0 : Nat) : Int) = 91 ∧ RemA s e ks 1 := by
 generalize hi : (0 : Nat) = i at h
 generalize hk : (5 : Int) = kd at h
 generalize hn : ([] : List S44) = ns at h
 cases h with
 | arr0 _ j h0 h1 h2 h3 h4 =>
   subst hi
   exact ⟨h1, .inr ⟨rfl, at_open h2 h3 h4 hE⟩⟩
 | arr _ j e _ h0 h1 h2 h3 =>
   subst hi
   exact ⟨h1, .inl ⟨j, blanks_gap h2, h3⟩⟩
 | null => exact absurd hk (by decide)
 | fals => exact absurd hk (by decide)
 | tru => exact absurd hk (by decide)
 | num => exact absurd hk (by decide)
 | str => exact absurd hk (by decide)
 | obj0 => exact absurd hk (by decide)
 | obj => exact absurd hk (by decide)
abbrev resC (r : Rs) : Array Value := #[.int .i64 r.k, .string r.raw, .string r.str, .float .f64 r.num, .int .i64 r.idx, .slice none 0 0]
structure FEW (s : ByteArray) (B0 Bo Bs : Nat) (stop : Int) (w0 : World) (gt gk gv : Nat) (str : ByteArray) (num : Int) (ps : List (Rs × Rs)) (kr vr : Rs) (W : World) : Prop where
 outs : Outs B0 Bo Bs stop w0 ps W
 bt : W.heap[gt]? = some (.cells #[.int .i64 5, .string s, .string str, .float .f64 0, .int .i64 num, .slice none 0 0] 67 (0, 0))
 bk : W.heap[gk]? = some (.cells (resC kr) 67 (0, 0))
 bv : W.heap[gv]? = some (.cells (resC vr) 67 (0, 0))
 ne : gt ≠ gk ∧ gt ≠ gv ∧ gk ≠ gv
 lo : B0 ≤ gt ∧ B0 ≤ gk ∧ B0 ≤ gv
section
variable {s : ByteArray} {B0 Bo Bs : Nat} {stop : Int} {w0 : World} {gt gk gv : Nat} {str : ByteArray} {num : Int} {ps : List (Rs × Rs)} {kr vr : Rs} {W W' : World}
theorem FEW.below (h : FEW s B0 Bo Bs stop w0 gt gk gv str num ps kr vr W) (hb : Below W.heap.size W W') : FEW s B0 Bo Bs stop w0 gt gk gv str num ps kr vr W' :=
 ⟨h.outs.below hb, blk_below h.bt hb, blk_below h.bk hb, blk_below h.bv hb, h.ne, h.lo⟩
theorem FEW.drewN (h : FEW s B0 Bo Bs stop w0 gt gk gv str num ps kr vr W) (n : Nat) : FEW s B0 Bo Bs stop w0 gt gk gv str num ps kr vr (W.drewN n) := h.below (pw_below_drewN (Below.refl _ _) n)
theorem FEW.drew (h : FEW s B0 Bo Bs stop w0 gt gk gv str num ps kr vr W) : FEW s B0 Bo Bs stop w0 gt gk gv str num ps kr vr W.drew := h.below (below_drew (Below.refl _ _))
theorem FEW.setNum (h : FEW s B0 Bo Bs stop w0 gt gk gv str num ps kr vr W) (x : Nat) : FEW s B0 Bo Bs stop w0 gt gk gv str num ps { kr with num := x } vr (W.setCell ⟨gk, 3, none⟩ (.float .f64 x)) :=
 ⟨h.outs.set h.bk h.lo.2.1 _ _, blk_far h.bt h.ne.1 _, blk_put h.bk 3 _ rfl, blk_far h.bv h.ne.2.2.symm _, h.ne, h.lo⟩
theorem FEW.setv (h : FEW s B0 Bo Bs stop w0 gt gk gv str num ps kr vr W) (r : Rs) (j : Nat) (u : Value) (hr : (resC vr).setIfInBounds j u = resC r) : FEW s B0 Bo Bs stop w0 gt gk gv str num ps kr r (W.setCell ⟨gv, j, none⟩ u) :=
 ⟨h.outs.set h.bv h.lo.2.2 _ _, blk_far h.bt h.ne.2.1 _, blk_far h.bk h.ne.2.2 _, blk_put h.bv j _ hr, h.ne, h.lo⟩
theorem FEW.setk (h : FEW s B0 Bo Bs stop w0 gt gk gv str num ps kr vr W) (r : Rs) (j : Nat) (u : Value) (hr : (resC kr).setIfInBounds j u = resC r) : FEW s B0 Bo Bs stop w0 gt gk gv str num ps r vr (W.setCell ⟨gk, j, none⟩ u) :=
 ⟨h.outs.set h.bk h.lo.2.1 _ _, blk_far h.bt h.ne.1 _, blk_put h.bk j _ hr, blk_far h.bv h.ne.2.2.symm _, h.ne, h.lo⟩
theorem FEW.putv (h : FEW s B0 Bo Bs stop w0 gt gk gv str num ps kr vr W) (r : Rs) (x : Int) : FEW s B0 Bo Bs stop w0 gt gk gv str num ps kr { r with idx := x }
 (((((((W.setCell ⟨gv, 0, none⟩ (.int .i64 r.k)).setCell ⟨gv, 1, none⟩ (.string r.raw)).setCell ⟨gv, 2, none⟩ (.string r.str)).setCell ⟨gv, 3, none⟩ (.float .f64 r.num)).setCell ⟨gv, 4, none⟩ (.int .i64 r.idx)).setCell ⟨gv, 5, none⟩ (.slice none 0 0)).setCell ⟨gv, 4, none⟩ (.int .i64 x)) :=
 ((((((h.setv ⟨r.k, vr.raw, vr.str, vr.num, vr.idx⟩ 0 _ rfl).setv ⟨r.k, r.raw, vr.str, vr.num, vr.idx⟩ 1 _ rfl).setv ⟨r.k, r.raw, r.str, vr.num, vr.idx⟩ 2 _ rfl).setv ⟨r.k, r.raw, r.str, r.num, vr.idx⟩ 3 _ rfl).setv ⟨r.k, r.raw, r.str, r.num, r.idx⟩ 4 _ rfl).setv ⟨r.k, r.raw, r.str, r.num, r.idx⟩ 5 _ rfl).setv ⟨r.k, r.raw, r.str, r.num, x⟩ 4 _ rfl
theorem FEW.after (h : FEW s B0 Bo Bs stop w0 gt gk gv str num ps kr vr W) {ps' : List (Rs × Rs)} (ho : Outs B0 Bo Bs stop w0 ps' W') (h67 : ∀ (b : Nat) (cs : Array Value), W.heap[b]? = some (.cells cs 67 (0, 0)) → W'.heap[b]? = some (.cells cs 67 (0, 0))) :
 FEW s B0 Bo Bs stop w0 gt gk gv str num ps' kr vr W' := ⟨ho, h67 _ _ h.bt, h67 _ _ h.bk, h67 _ _ h.bv, h.ne, h.lo⟩
end
theorem KidOk.idx {s : ByteArray} {p : S32} {r : Rs} (h : KidOk s p r) (x : Int) : KidOk s p { r with idx := x } := ⟨h.at_, h.kind, h.ex⟩
structure LA (s : ByteArray) (e : Nat) (ks : List S32) (B0 Bo Bs : Nat) (stop : Int) (w0 : World) (gt gk gv : Nat) (str : ByteArray) (num : Int) (kq i ix : Nat) (ps : List (Rs × Rs)) (kdone rest : List S32) (kr vr : Rs) (W : World) : Prop where
 kq : kq = s.size - i
 all : kdone ++ rest = ks
 ok : KidsOk s kdone ps
 cnt : ix = ps.length
 bnd : ix ≤ i
 rem : RemA s e rest i
 prd : i ≤ s.size → Prd s i
 few : FEW s B0 Bo Bs stop w0 gt gk gv str num ps kr vr W
 go : ∀ j : Nat, 0 < j → j ≤ ps.length → (j : Int) ≠ stop
structure InA (s : ByteArray) (B0 Bo Bs : Nat) (stop : Int) (w0 : World) (gt gk gv : Nat) (str : ByteArray) (num : Int) (ps : List (Rs × Rs)) (vr : Rs) (i j kq p : Nat) (W : World) : Prop where
 kq : kq = s.size - p
 lo : i ≤ p
 hi : p ≤ j
 few : ∃ kr, FEW s B0 Bo Bs stop w0 gt gk gv str num ps kr vr W
end Go.Proofs.YtpgfjbimodnkeaaGreatDoor.Dec
set_option linter.unusedVariables false
set_option linter.unusedSimpArgs false
namespace Go.Proofs.YtpgfjbimodnkeaaGreatDoor.Dec
open Go Go.RowKit Go.Proofs.YtpgfjbimodnkeaaGreatDoorW.PrintWords Go.Proofs.YtpgfjbimodnkeaaGreatDoorW.PrintLast Go.Proofs.YtpgfjbimodnkeaaGreatDoorW.PrintMore Go.Proofs.YtpgfjbimodnkeaaGreatDoor.Scan Go.Proofs.YtpgfjbimodnkeaaGreatDoor.Q
set_option maxHeartbeats 8000000 in
set_option maxRecDepth 100000 in
theorem foreach_arr (w0 w : World) (B B0 Bo Bs : Nat) (stop : Int) (s : ByteArray) (hs : s.size ≤ 65536) (ks : List S32) (eJ : Nat) (hJ : J s .val 0 eJ 5 [] ks) (hE : Blanks s eJ s.size) (hP : Prd s 0) (str : ByteArray) (num : Int) (hT : Tabs B w0) (hBB : B ≤ B0) (hO : Outs B0 Bo Bs stop w0 [] w) :
 Calls Tryz.prog 32 #[resV 5 s str 0 num, .func (.func 73) #[] #[.pointer (some ⟨Bs, 0, none⟩)]] w fun e w' => e = .returned (.tuple #[]) ∧ ∃ ps : List (Rs × Rs), Outs B0 Bo Bs stop w0 ps w' ∧ KidsOk s (ks.take ps.length) ps ∧ ps.length ≤ ks.length ∧
  (ps.length = ks.length ∨ (ps.length : Int) = stop ∧ 0 < stop) ∧ ∀ j : Nat, 0 < j → j < ps.length → (j : Int) ≠ stop := by
 obtain ⟨h91, hrem⟩ := arr_start hJ hE
 have hx := bt_nat s 0
 rw [h91] at hx
 have hpos : 0 < s.size := by have := hJ.bound; omega
 have p1 : ((0 : Int) < (s.size : Int)) = True := eq_true (by omega)
 have hks : ks.length ≤ 100000 := by have := kids_len hJ; have := hJ.bound; omega
 have hO2 := hO.below (W' := w.alloc (.cells #[.int .i64 5, .string s, .string str, .float .f64 0, .int .i64 num, .slice none 0 0] 67 (0, 0))) (below_alloc (Below.refl _ _) _)
 have hP1 : Prd s 1 := Prd.plain hs hP hpos (by rw [h91]; decide)
 replace hrem := Aside0.mk hrem
 replace hJ := Aside0.mk hJ
 replace hE := Aside0.mk hE
 replace hP := Aside0.mk hP
 replace hP1 := Aside0.mk hP1
 replace hT := Aside0.mk hT
 replace h91 := Aside0.mk h91
 replace hO := Aside0.mk hO
 clear hO2
 have hadd := add_run 37
 go_enter Tryz.func32, Tryz.ntmps32
 go_wp2
 refine wp_loop_rounds 1 ?_
 rw [rounds_succ]
 go_wp2
 go_loopg [6, 9, 10, 11, 12, 13, 14] (s.size - 1) (fun kq v6 v9 v10 v11 v12 v13 v14 w' => ∃ i ix : Nat, v6 = .int .i64 i ∧ v12 = .int .i64 ix ∧ Aside0 (∃ (ps : List (Rs × Rs)) (kdone rest : List S32) (kr vr : Rs), LA s eJ ks B0 Bo Bs stop w0 w.heap.size (w.heap.size + 1 + 1) (w.heap.size + 1 + 1 + 1) str num kq i ix ps kdone rest kr vr w'))
 case atStart =>
  refine ⟨1, 0, rfl, rfl, ⟨[], [], ks, ⟨2, ⟨#[]⟩, ⟨#[]⟩, 13830554455654793216, 0⟩, ⟨0, ⟨#[]⟩, ⟨#[]⟩, 0, 0⟩, ⟨rfl, rfl, trivial, rfl, by omega, hrem.out, fun _ => hP1.out, ⟨?_, ?_, ?_, ?_, by omega, ?_⟩, fun j h1 h2 => by simp at h2; omega⟩⟩⟩
  ·exact hO.out.below (below_alloc (below_alloc (below_alloc (below_alloc (Below.refl _ _) _) _) _) _)
  ·exact blk_alloc (blk_alloc (blk_alloc (blk_new w _) _) _) _
  ·have := blk_alloc (blk_new ((w.alloc (.cells (resC ⟨5, s, str, 0, num⟩) 67 (0, 0))).alloc (.cells (resC ⟨5, s, str, 0, num⟩) 67 (0, 0))) (.cells (resC ⟨2, ⟨#[]⟩, ⟨#[]⟩, 13830554455654793216, 0⟩) 67 (0, 0))) (.cells (resC ⟨0, ⟨#[]⟩, ⟨#[]⟩, 0, 0⟩) 67 (0, 0))
   simpa using this
  ·have := blk_new (((w.alloc (.cells (resC ⟨5, s, str, 0, num⟩) 67 (0, 0))).alloc (.cells (resC ⟨5, s, str, 0, num⟩) 67 (0, 0))).alloc (.cells (resC ⟨2, ⟨#[]⟩, ⟨#[]⟩, 13830554455654793216, 0⟩) 67 (0, 0))) (.cells (resC ⟨0, ⟨#[]⟩, ⟨#[]⟩, 0, 0⟩) 67 (0, 0))
   simpa using this
  ·exact ⟨by have := hO.out.loB; omega, by have := hO.out.loB; omega, by have := hO.out.loB; omega⟩
 case round =>
  obtain ⟨i, ix, rfl, rfl, hL⟩ := hrel
  obtain ⟨ps, kdone, rest, kr, vr, hkq, hall, hok, hix, hbnd, hrem1, hprd, hF, hgo⟩ := hL.out
  clear hL
  have hT1 := hT.out.below (below_mono hF.outs.bel hBB)
  have hbnd2 : ix ≤ 65536 ∨ ¬ i < s.size := by omega
  by_cases hi : i < s.size
  ·have hprd1 := hprd (by omega)
   have ck3 := (blk_cell hF.bk 3).trans rfl
   have fk3 := blk_frozen hF.bk 3
   replace hok := Aside0.mk hok
   replace hall := Aside0.mk hall
   replace hgo := Aside0.mk hgo
   replace hkq := Aside0.mk hkq
   replace hix := Aside0.mk hix
   replace hF := Aside0.mk hF
   replace hT1 := Aside0.mk hT1
   clear hprd
   rcases hrem1 with ⟨j, hsp, hj⟩ | ⟨rfl, hend⟩
   ·have hjb := hj.bound
    obtain ⟨m, kd, ns1, ks1, l, rfl, hv, hA, hrem2, hms⟩ := els_next hj hE.out
    have hst := val_start hv
    go_wp2
    go_loopg [6] (s.size - i) (fun kq v6 w' => ∃ p : Nat, v6 = .int .i64 p ∧ Aside0 (InA s B0 Bo Bs stop w0 w.heap.size (w.heap.size + 1 + 1) (w.heap.size + 1 + 1 + 1) str num ps vr i j kq p w'))
    case atStart => exact ⟨i, rfl, ⟨⟨rfl, Nat.le_refl _, hsp.le, ⟨_, (hF.out.drewN _).setNum _⟩⟩⟩⟩
    case round =>
     obtain ⟨p, rfl, hL⟩ := hrel
     obtain ⟨hkq2, hip, hpj, kr2, hF2⟩ := hL.out
     clear hL ck3 fk3
     have hps : p < s.size := by omega
     have hb := bt_nat s p
     have q0 : (0 ≤ (p : Int)) = True := eq_true (by omega)
     have q1 : ((p : Int) < (s.size : Int)) = True := eq_true (by omega)
     replace hkq2 := Aside0.mk hkq2
     replace hF2 := Aside0.mk hF2
     by_cases hpe : p = j
     ·subst hpe
      have hcj := hst
      have hPj : Prd s p := Span.prd hs hsp (by omega) (fun c hc => by unfold GapC Scan.blank at hc; omega) hprd1
      have hPm := J.prd hs hv hPj
      have hvb := hv.bound
      have hmj : m < s.size := hms
      have hPm1 : Prd s (m + 1) := Prd.plain hs hPm hmj (by have := hA.resolve_left (by omega); unfold Scan.blank at this; omega)
      have hany : ∀ W, FEW s B0 Bo Bs stop w0 w.heap.size (w.heap.size + 1 + 1) (w.heap.size + 1 + 1 + 1) str num ps kr2 vr W → Calls Tryz.prog 62 #[.string s, .int .i64 p, .bool true] W fun r w' => ∃ rs : Rs, r = .returned (.tuple #[.int .i64 m, resV rs.k rs.raw rs.str rs.num rs.idx, .bool true]) ∧ KidOk s ⟨kd, p, m, ns1, ks1⟩ rs ∧ FEW s B0 Bo Bs stop w0 w.heap.size (w.heap.size + 1 + 1) (w.heap.size + 1 + 1 + 1) str num ps kr2 vr w' := fun W hW =>
       (any_value W B s hs (hT.out.below (below_mono hW.outs.bel hBB)) hv hA hPj).mono (fun r w' ⟨rs, h1, h2, h3⟩ => ⟨rs, h1, h2, hW.below h3⟩)
      obtain ⟨bgo, hbgo⟩ : ∃ b, (((ps.length + 1 : Nat) : Int) != stop) = b := ⟨_, rfl⟩
      have hcl0 : ∀ (vr2 : Rs) (W : World), FEW s B0 Bo Bs stop w0 w.heap.size (w.heap.size + 1 + 1) (w.heap.size + 1 + 1 + 1) str num ps kr2 vr2 W → Calls Tryz.prog 73 #[resV kr2.k kr2.raw kr2.str kr2.num kr2.idx, resV vr2.k vr2.raw vr2.str vr2.num vr2.idx, .pointer (some ⟨Bs, 0, none⟩)] W fun e w' => e = .returned (.bool bgo) ∧ FEW s B0 Bo Bs stop w0 w.heap.size (w.heap.size + 1 + 1) (w.heap.size + 1 + 1 + 1) str num (ps ++ [(kr2, vr2)]) kr2 vr2 w' := fun vr2 W hW =>
       (each_calls B0 Bo Bs stop w0 W ps kr2 vr2 hW.outs (by have := hix.out; omega)).mono (fun e w' ⟨h1, h2, h3, h4⟩ => ⟨by rw [h1, hbgo], hW.after h2 h4⟩)
      have hqn : ∀ (wx : World) (a : Option Addr) (n c n' c' : Nat), (binOp .neq 65 (.slice a n c) (.slice none n' c')).run Tryz.prog wx = .ok (.bool (!a.isNone)) wx := fun wx a n c n' c' => run_neq_slice_nil_any wx _ _ a n c n' c' Tryz.underlying65
      have hixb : (ix : Int) ≤ 65536 := by omega
      generalize bt s p = c at *
      have e1 : decide (c ≤ 32) = false := decide_eq_false (by omega)
      have e2 : (c == 44) = false := beq_eq_false_iff_ne.mpr hcj.2.1
      have e3 : (c == 58) = false := beq_eq_false_iff_ne.mpr hcj.2.2.1
      replace hst := Aside0.mk hst
      replace hcj := Aside0.mk hcj
      replace hbgo := Aside0.mk hbgo
      replace hsp := Aside0.mk hsp
      replace hv := Aside0.mk hv
      replace hA := Aside0.mk hA
      replace hPm1 := Aside0.mk hPm1
      go_upto_region 46 with (first | (go_at_call 62; (with_reducible refine (hany _ ?hF).mono ?_); (case hF => repeat (with_reducible first | exact hF2.out | apply FEW.drewN | apply FEW.drew)); rintro r w5 ⟨rs, rfl, hkid, hF5⟩; have cv0 := (blk_cell hF5.bv 0).trans rfl; have fv0 := blk_frozen hF5.bv 0; have ck0 := (blk_cell hF5.bk 0).trans rfl; have cv1 := (blk_cell hF5.bv 1).trans rfl; have fv1 := blk_frozen hF5.bv 1; have ck1 := (blk_cell hF5.bk 1).trans rfl; have cv2 := (blk_cell hF5.bv 2).trans rfl; have fv2 := blk_frozen hF5.bv 2; have ck2 := (blk_cell hF5.bk 2).trans rfl; have cv3 := (blk_cell hF5.bv 3).trans rfl; have fv3 := blk_frozen hF5.bv 3; have ck3 := (blk_cell hF5.bk 3).trans rfl; have cv4 := (blk_cell hF5.bv 4).trans rfl; have fv4 := blk_frozen hF5.bv 4; have ck4 := (blk_cell hF5.bk 4).trans rfl; have cv5 := (blk_cell hF5.bv 5).trans rfl; have fv5 := blk_frozen hF5.bv 5; have ck5 := (blk_cell hF5.bk 5).trans rfl; have ct4 := (blk_cell hF5.bt 4).trans rfl; have ct5 := (blk_cell hF5.bt 5).trans rfl; replace hF5 := Aside0.mk hF5; replace hkid := Aside0.mk hkid))
      have hF6 := hF5.out.putv rs (wrap64 ((p : Int) + num))
      generalize (((((((w5.setCell ⟨w.heap.size + 1 + 1 + 1, 0, none⟩ (.int .i64 rs.k)).setCell ⟨w.heap.size + 1 + 1 + 1, 1, none⟩ (.string rs.raw)).setCell ⟨w.heap.size + 1 + 1 + 1, 2, none⟩ (.string rs.str)).setCell ⟨w.heap.size + 1 + 1 + 1, 3, none⟩ (.float .f64 rs.num)).setCell ⟨w.heap.size + 1 + 1 + 1, 4, none⟩ (.int .i64 rs.idx)).setCell ⟨w.heap.size + 1 + 1 + 1, 5, none⟩ (.slice none 0 0)).setCell ⟨w.heap.size + 1 + 1 + 1, 4, none⟩ (.int .i64 (wrap64 ((p : Int) + num)))) = W6 at hF6 ⊢
      clear cv0 cv1 cv2 cv3 cv4 cv5 ck0 ck1 ck2 ck3 ck4 ck5 fv0 fv1 fv2 fv3 fv4 fv5 ct4 ct5
      have cv0 := (blk_cell hF6.bv 0).trans rfl
      have ck0 := (blk_cell hF6.bk 0).trans rfl
      have cv1 := (blk_cell hF6.bv 1).trans rfl
      have ck1 := (blk_cell hF6.bk 1).trans rfl
      have cv2 := (blk_cell hF6.bv 2).trans rfl
      have ck2 := (blk_cell hF6.bk 2).trans rfl
      have cv3 := (blk_cell hF6.bv 3).trans rfl
      have ck3 := (blk_cell hF6.bk 3).trans rfl
      have cv4 := (blk_cell hF6.bv 4).trans rfl
      have ck4 := (blk_cell hF6.bk 4).trans rfl
      have cv5 := (blk_cell hF6.bv 5).trans rfl
      have ck5 := (blk_cell hF6.bk 5).trans rfl
      have hcl : Calls Tryz.prog 73 #[.agg #[.int .i64 kr2.k, .string kr2.raw, .string kr2.str, .float .f64 kr2.num, .int .i64 kr2.idx, .slice none 0 0], .agg #[.int .i64 rs.k, .string rs.raw, .string rs.str, .float .f64 rs.num, .int .i64 (wrap64 ((p : Int) + num)), .slice none 0 0], .pointer (some ⟨Bs, 0, none⟩)] W6 fun e w' => e = .returned (.bool bgo) ∧ FEW s B0 Bo Bs stop w0 w.heap.size (w.heap.size + 1 + 1) (w.heap.size + 1 + 1 + 1) str num (ps ++ [(kr2, { rs with idx := wrap64 ((p : Int) + num) })]) kr2 { rs with idx := wrap64 ((p : Int) + num) } w' := hcl0 { rs with idx := wrap64 ((p : Int) + num) } W6 hF6
      replace hF6 := Aside0.mk hF6
      have hkid2 := Aside0.mk (hkid.out.idx (wrap64 ((p : Int) + num)))
      clear hany hcl0
      cases bgo with
      | false =>
        go_wp2_with (first | (go_at_call 73; (with_reducible refine hcl.mono ?_); rintro r w7 ⟨rfl, hF7⟩; replace hF7 := Aside0.mk hF7))
        refine bodyPost_ret (results_none rfl _ _ _) rfl ?_
        have hst2 : ((ps.length + 1 : Nat) : Int) = stop := by have h := hbgo.out; simpa using h
        have hlen := hok.out.length
        obtain ⟨htk, hle⟩ := take_done hall.out
        refine ⟨rfl, ps ++ [(kr2, { rs with idx := wrap64 ((p : Int) + num) })], hF7.out.outs, ?_, ?_, .inr ?_, fun j h1 h2 => ?_⟩
        ·rw [List.length_append, List.length_singleton, ← hlen, htk]; exact KidsOk.snoc hkid2.out hok.out
        ·rw [List.length_append, List.length_singleton, ← hlen]; exact hle
        ·rw [List.length_append, List.length_singleton]; exact ⟨hst2, by omega⟩
        ·rw [List.length_append, List.length_singleton] at h2; exact hgo.out j h1 (by omega)
      | true =>
        go_wp2_with (first | (go_at_call 73; (with_reducible refine hcl.mono ?_); rintro r w7 ⟨rfl, hF7⟩; replace hF7 := Aside0.mk hF7))
        have hst2 : ((ps.length + 1 : Nat) : Int) ≠ stop := by have h := hbgo.out; simpa using h
        go_roundg (s.size - (m + 1))
        case measure => have := hkq.out; omega
        case rel => exact ⟨m + 1, ix + 1, by first | rfl | (congr 1; omega), by first | rfl | (congr 1; omega), ⟨ps ++ [(kr2, { rs with idx := wrap64 ((p : Int) + num) })], kdone ++ [⟨kd, (p : Nat), (m : Nat), ns1, ks1⟩], l, kr2, { rs with idx := wrap64 ((p : Int) + num) },
         ⟨rfl, by rw [List.append_assoc]; exact hall.out, KidsOk.snoc hkid2.out hok.out, by rw [List.length_append, List.length_singleton, hix.out], by omega, hrem2, fun _ => hPm1.out, hF7.out, fun j h1 h2 => by
          rw [List.length_append, List.length_singleton] at h2
          by_cases hje : j = ps.length + 1
          ·rw [hje]; exact hst2
          ·exact hgo.out j h1 (by omega)⟩⟩⟩
     ·have hg := hsp.all p hip (by omega)
      have hg2 := gap_tests hg
      generalize bt s p = c at *
      replace hg := Aside0.mk hg
      rcases hg2 with hle | ⟨hle, he⟩ | ⟨hle, he⟩
      ·have e1 : decide (c ≤ 32) = true := decide_eq_true hle
       go_wp2
       go_roundg (s.size - (p + 1))
       case measure => have := hkq2.out; omega
       case rel => exact ⟨p + 1, by first | rfl | (congr 1; omega), ⟨⟨rfl, by omega, by omega, ⟨kr2, by repeat (with_reducible first | exact hF2.out | apply FEW.drewN | apply FEW.drew)⟩⟩⟩⟩
      ·subst he
       go_wp2
       go_roundg (s.size - (p + 1))
       case measure => have := hkq2.out; omega
       case rel => exact ⟨p + 1, by first | rfl | (congr 1; omega), ⟨⟨rfl, by omega, by omega, ⟨kr2, by repeat (with_reducible first | exact hF2.out | apply FEW.drewN | apply FEW.drew)⟩⟩⟩⟩
      ·subst he
       go_wp2
       go_roundg (s.size - (p + 1))
       case measure => have := hkq2.out; omega
       case rel => exact ⟨p + 1, by first | rfl | (congr 1; omega), ⟨⟨rfl, by omega, by omega, ⟨kr2, by repeat (with_reducible first | exact hF2.out | apply FEW.drewN | apply FEW.drew)⟩⟩⟩⟩
   ·obtain ⟨hi2, j, hsp, hjs, hor⟩ := hend.way.resolve_left (by omega)
    replace hor := Aside0.mk hor
    clear hi2 hend
    go_wp2
    go_loopg [6] (s.size - i) (fun kq v6 w' => ∃ p : Nat, v6 = .int .i64 p ∧ Aside0 (InA s B0 Bo Bs stop w0 w.heap.size (w.heap.size + 1 + 1) (w.heap.size + 1 + 1 + 1) str num ps vr i j kq p w'))
    case atStart => exact ⟨i, rfl, ⟨⟨rfl, Nat.le_refl _, hsp.le, ⟨_, (hF.out.drewN _).setNum _⟩⟩⟩⟩
    case round =>
     obtain ⟨p, rfl, hL⟩ := hrel
     obtain ⟨hkq2, hip, hpj, kr2, hF2⟩ := hL.out
     clear hL ck3 fk3
     replace hkq2 := Aside0.mk hkq2
     replace hF2 := Aside0.mk hF2
     by_cases hpe : p = j
     ·subst hpe
      have hrest : ∀ q : Nat, p ≤ q → q < s.size → bt s q = 93 ∨ Scan.blank (bt s q) := fun q h1 h2 => by
       rcases hor.out with h3 | ⟨h3, h4, h5⟩
       ·omega
       ·rcases Nat.eq_or_lt_of_le h1 with h6 | h6
        ·subst h6; exact .inl h3
        ·exact .inr (h5.all q h6 h2)
      have hany : ∀ W, FEW s B0 Bo Bs stop w0 w.heap.size (w.heap.size + 1 + 1) (w.heap.size + 1 + 1 + 1) str num ps kr2 vr W → Calls Tryz.prog 62 #[.string s, .int .i64 p, .bool true] W fun r w' => r = .returned (.tuple #[.int .i64 s.size, resV 0 ⟨#[]⟩ ⟨#[]⟩ 0 0, .bool false]) ∧ FEW s B0 Bo Bs stop w0 w.heap.size (w.heap.size + 1 + 1) (w.heap.size + 1 + 1 + 1) str num ps kr2 vr w' := fun W hW =>
       (any_rest W s hs p hjs hrest).mono (fun r w' ⟨h1, h2⟩ => ⟨h1, hW.below h2⟩)
      have q0 : (0 ≤ (p : Int)) = True := eq_true (by omega)
      replace hsp := Aside0.mk hsp
      clear hrest
      rcases hor.out with h3 | ⟨h3, h4, -⟩
      ·have hq : ((p : Int) < (s.size : Int)) = False := eq_false (by omega)
       replace h3 := Aside0.mk h3
       go_wp2_with (first | (go_at_call 62; (with_reducible refine (hany _ ?hF).mono ?_); (case hF => repeat (with_reducible first | exact hF2.out | apply FEW.drewN | apply FEW.drew)); rintro r w5 ⟨rfl, hF5⟩; have cv0 := (blk_cell hF5.bv 0).trans rfl; have fv0 := blk_frozen hF5.bv 0; have cv1 := (blk_cell hF5.bv 1).trans rfl; have fv1 := blk_frozen hF5.bv 1; have cv2 := (blk_cell hF5.bv 2).trans rfl; have fv2 := blk_frozen hF5.bv 2; have cv3 := (blk_cell hF5.bv 3).trans rfl; have fv3 := blk_frozen hF5.bv 3; have cv4 := (blk_cell hF5.bv 4).trans rfl; have fv4 := blk_frozen hF5.bv 4; have cv5 := (blk_cell hF5.bv 5).trans rfl; have fv5 := blk_frozen hF5.bv 5; replace hF5 := Aside0.mk hF5))
       refine bodyPost_ret (results_none rfl _ _ _) rfl ?_
       have hall2 : kdone = ks := by have h := hall.out; rwa [List.append_nil] at h
       subst hall2
       have hlen := hok.out.length
       exact ⟨rfl, ps, (((((((hF5.out.setv ⟨0, vr.raw, vr.str, vr.num, vr.idx⟩ 0 _ rfl).setv ⟨0, ⟨#[]⟩, vr.str, vr.num, vr.idx⟩ 1 _ rfl).setv ⟨0, ⟨#[]⟩, ⟨#[]⟩, vr.num, vr.idx⟩ 2 _ rfl).setv ⟨0, ⟨#[]⟩, ⟨#[]⟩, 0, vr.idx⟩ 3 _ rfl).setv ⟨0, ⟨#[]⟩, ⟨#[]⟩, 0, 0⟩ 4 _ rfl).setv ⟨0, ⟨#[]⟩, ⟨#[]⟩, 0, 0⟩ 5 _ rfl)).outs, by rw [← hlen, List.take_length]; exact hok.out, by omega, .inl hlen.symm, fun j h1 h2 => hgo.out j h1 (by omega)⟩
      ·have hb := bt_nat s p
       have q1 : ((p : Int) < (s.size : Int)) = True := eq_true (by omega)
       rw [h3] at hb
       replace h3 := Aside0.mk h3
       go_wp2_with (first | (go_at_call 62; (with_reducible refine (hany _ ?hF).mono ?_); (case hF => repeat (with_reducible first | exact hF2.out | apply FEW.drewN | apply FEW.drew)); rintro r w5 ⟨rfl, hF5⟩; have cv0 := (blk_cell hF5.bv 0).trans rfl; have fv0 := blk_frozen hF5.bv 0; have cv1 := (blk_cell hF5.bv 1).trans rfl; have fv1 := blk_frozen hF5.bv 1; have cv2 := (blk_cell hF5.bv 2).trans rfl; have fv2 := blk_frozen hF5.bv 2; have cv3 := (blk_cell hF5.bv 3).trans rfl; have fv3 := blk_frozen hF5.bv 3; have cv4 := (blk_cell hF5.bv 4).trans rfl; have fv4 := blk_frozen hF5.bv 4; have cv5 := (blk_cell hF5.bv 5).trans rfl; have fv5 := blk_frozen hF5.bv 5; replace hF5 := Aside0.mk hF5))
       refine bodyPost_ret (results_none rfl _ _ _) rfl ?_
       have hall2 : kdone = ks := by have h := hall.out; rwa [List.append_nil] at h
       subst hall2
       have hlen := hok.out.length
       exact ⟨rfl, ps, (((((((hF5.out.setv ⟨0, vr.raw, vr.str, vr.num, vr.idx⟩ 0 _ rfl).setv ⟨0, ⟨#[]⟩, vr.str, vr.num, vr.idx⟩ 1 _ rfl).setv ⟨0, ⟨#[]⟩, ⟨#[]⟩, vr.num, vr.idx⟩ 2 _ rfl).setv ⟨0, ⟨#[]⟩, ⟨#[]⟩, 0, vr.idx⟩ 3 _ rfl).setv ⟨0, ⟨#[]⟩, ⟨#[]⟩, 0, 0⟩ 4 _ rfl).setv ⟨0, ⟨#[]⟩, ⟨#[]⟩, 0, 0⟩ 5 _ rfl)).outs, by rw [← hlen, List.take_length]; exact hok.out, by omega, .inl hlen.symm, fun j h1 h2 => hgo.out j h1 (by omega)⟩
     ·have hps : p < s.size := by omega
      have hb := bt_nat s p
      have q0 : (0 ≤ (p : Int)) = True := eq_true (by omega)
      have q1 : ((p : Int) < (s.size : Int)) = True := eq_true (by omega)
      have hg := hsp.all p hip (by omega)
      have hg2 := gap_tests hg
      generalize bt s p = c at *
      replace hg := Aside0.mk hg
      rcases hg2 with hle | ⟨hle, he⟩ | ⟨hle, he⟩
      ·have e1 : decide (c ≤ 32) = true := decide_eq_true hle
       go_wp2
       go_roundg (s.size - (p + 1))
       case measure => have := hkq2.out; omega
       case rel => exact ⟨p + 1, by first | rfl | (congr 1; omega), ⟨⟨rfl, by omega, by omega, ⟨kr2, by repeat (with_reducible first | exact hF2.out | apply FEW.drewN | apply FEW.drew)⟩⟩⟩⟩
      ·subst he
       go_wp2
       go_roundg (s.size - (p + 1))
       case measure => have := hkq2.out; omega
       case rel => exact ⟨p + 1, by first | rfl | (congr 1; omega), ⟨⟨rfl, by omega, by omega, ⟨kr2, by repeat (with_reducible first | exact hF2.out | apply FEW.drewN | apply FEW.drew)⟩⟩⟩⟩
      ·subst he
       go_wp2
       go_roundg (s.size - (p + 1))
       case measure => have := hkq2.out; omega
       case rel => exact ⟨p + 1, by first | rfl | (congr 1; omega), ⟨⟨rfl, by omega, by omega, ⟨kr2, by repeat (with_reducible first | exact hF2.out | apply FEW.drewN | apply FEW.drew)⟩⟩⟩⟩
  ·have hr : rest = [] := by
    rcases hrem1 with ⟨j, hsp, hj⟩ | ⟨h, _⟩
    ·have := hj.bound; have := hsp.le; omega
    ·exact h
   subst hr
   rw [List.append_nil] at hall
   subst hall
   have hlen := hok.length
   go_wp2
   go_end0
   exact ⟨rfl, ps, hF.outs, by rw [← hlen, List.take_length]; exact hok, by omega, .inl hlen.symm, fun j h1 h2 => hgo j h1 (by omega)⟩
end Go.Proofs.YtpgfjbimodnkeaaGreatDoor.Dec
