/- FnGjResultEachOf: whatever text and stop come in, the law returns true and both read afterwards as before; with the package-level variables that its row lists as the program's own text lays them (part 23 of 33: lemmas for its last part) -/
import Derived.Test.YtpgfjbimodnkeaaGreatDoorEach3
namespace Go.Proofs.YtpgfjbimodnkeaaGreatDoor.Q
open Go.RowKit Go.Proofs.YtpgfjbimodnkeaaGreatDoorW.PrintWords Go.Proofs.YtpgfjbimodnkeaaGreatDoorW.PrintLast Go.Proofs.YtpgfjbimodnkeaaGreatDoorW.PrintMore
attribute [local go_sem] max2_int min2_int max_two min_two max_three min_three max_four min_four
set_option linter.unusedVariables false
set_option linter.unusedSimpArgs false
def gjson_Result_Exists.f (a0_0 : Int) (a0_1 : ByteArray) (a0_2 : ByteArray) (a0_3 : Nat) (a0_4 : Int) (l0_5 : List Int) : Option (Bool) := if a0_0 = 0 then (some ((a0_1.size : Int) != 0)) else (some true)
set_option maxHeartbeats 8000000 in
set_option maxRecDepth 100000 in
theorem gjson_Result_Exists.calls (a0_0 : Int) (a0_1 : ByteArray) (a0_2 : ByteArray) (a0_3 : Nat) (a0_4 : Int) (A0_5 : Option Addr) (c0_5 : Nat) (l0_5 : List Int) (r : Bool) (w : World) (hr0_5 : Kd.C (Kd.int .i64) w A0_5 l0_5.length l0_5) (hc0_5 : l0_5.length ≤ c0_5) (h : gjson_Result_Exists.f a0_0 a0_1 a0_2 a0_3 a0_4 l0_5 = some r) :
  Calls Tryz.prog 59 #[.agg #[.int .i64 a0_0, .string a0_1, .string a0_2, .float .f64 a0_3, .int .i64 a0_4, .slice A0_5 l0_5.length c0_5]] w fun e w' => e = .returned (.bool r) ∧ Below w.heap.size w w' := by
 have hu67 := Tryz.underlying67
 have HR0_5 := Aside0.mk hr0_5
 have HC0_5 := Aside0.mk hc0_5
 clear hr0_5 hc0_5
 have HB := Aside0.mk (Below.refl w.heap.size w)
 have H : (if a0_0 = 0 then (some ((a0_1.size : Int) != 0)) else (some true)) = some r := h
 clear h
 by_cases c2 : a0_0 = 0
 ·rw [if_pos c2] at H
  have c2b0 : (a0_0 == 0) = true := beq_iff_eq.mpr c2
  have c2b1 : (a0_0 != 0) = false := bne_eq_false_iff_eq.mpr c2
  clear c2
  obtain rfl := Option.some.inj H
  go_enter Tryz.func59, Tryz.ntmps59
  go_wp2_with (first | ((with_reducible refine gate_dst (N := 1) rfl ?_); (try (refine gate_guard (by rfl) ?_; dsimp only)); refine box_event ?hg (N := 1) ?hd (cs := #[.int .i64 a0_0, .string a0_1, .string a0_2, .float .f64 a0_3, .int .i64 a0_4, .slice A0_5 l0_5.length c0_5]) (t := 67) ?hr ?_; (case hd => rfl); (case hg => rfl); (case hr => first | (go_simp; done) | (go_simp; rfl)); intro gb408 hg w3 hbox hb; have n0_ := Aside0.mk (below_step (by repeat (first | (with_reducible first | exact HB.out | apply below_alloc | apply pw_below_drewN | apply below_drew1) | exact HB.out)) hb); have n1_ := Aside0.mk (hbox); have n2_ := Aside0.mk ((by rw [hg]; exact (below_size (by repeat (first | (with_reducible first | exact HB.out | apply below_alloc | apply pw_below_drewN | apply below_drew1) | exact HB.out))) : w.heap.size ≤ gb408)); have n3_ := Aside0.mk ((by rw [hg]; exact (below_size (by repeat (first | (with_reducible first | exact HB.out | apply below_alloc | apply pw_below_drewN | apply below_drew1) | exact HB.out))) : w.heap.size ≤ gb408)); clear HB; have HB := n0_; have BK408 := n1_; have GW408 := n2_; have GE408 := n3_; clear n0_ n1_ n2_ n3_; clear hb hbox hg; have hcz4_0 : w3.cell? ⟨gb408, 0, none⟩ = some (.int .i64 a0_0) := (blk_cell BK408.out 0).trans rfl; have hcz4_1 : w3.cell? ⟨gb408, 1, none⟩ = some (.string a0_1) := (blk_cell BK408.out 1).trans rfl; have hcz4_2 : w3.cell? ⟨gb408, 2, none⟩ = some (.string a0_2) := (blk_cell BK408.out 2).trans rfl; have hcz4_3 : w3.cell? ⟨gb408, 3, none⟩ = some (.float .f64 a0_3) := (blk_cell BK408.out 3).trans rfl; have hcz4_4 : w3.cell? ⟨gb408, 4, none⟩ = some (.int .i64 a0_4) := (blk_cell BK408.out 4).trans rfl; have hcz4_5 : w3.cell? ⟨gb408, 5, none⟩ = some (.slice A0_5 l0_5.length c0_5) := (blk_cell BK408.out 5).trans rfl; have hfz4_0 := blk_frozen BK408.out 0; have hfz4_1 := blk_frozen BK408.out 1; have hfz4_2 := blk_frozen BK408.out 2; have hfz4_3 := blk_frozen BK408.out 3; have hfz4_4 := blk_frozen BK408.out 4; have hfz4_5 := blk_frozen BK408.out 5))
  go_ret
  exact ⟨by first | rfl | (simp [errW_none, errW_some] <;> rfl) | (simp [*, errW_none, errW_some] <;> rfl), by repeat (first | (with_reducible first | exact HB.out | apply below_alloc | apply pw_below_drewN | apply below_drew1 | refine below_set ?_ GE408.out) | exact HB.out)⟩
 ·rw [if_neg c2] at H
  have c2b0 : (a0_0 == 0) = false := beq_eq_false_iff_ne.mpr c2
  have c2b1 : (a0_0 != 0) = true := bne_iff_ne.mpr c2
  obtain rfl := Option.some.inj H
  go_enter Tryz.func59, Tryz.ntmps59
  go_wp2_with (first | ((with_reducible refine gate_dst (N := 1) rfl ?_); (try (refine gate_guard (by rfl) ?_; dsimp only)); refine box_event ?hg (N := 1) ?hd (cs := #[.int .i64 a0_0, .string a0_1, .string a0_2, .float .f64 a0_3, .int .i64 a0_4, .slice A0_5 l0_5.length c0_5]) (t := 67) ?hr ?_; (case hd => rfl); (case hg => rfl); (case hr => first | (go_simp; done) | (go_simp; rfl)); intro gb408 hg w5 hbox hb; have n0_ := Aside0.mk (below_step (by repeat (first | (with_reducible first | exact HB.out | apply below_alloc | apply pw_below_drewN | apply below_drew1) | exact HB.out)) hb); have n1_ := Aside0.mk (hbox); have n2_ := Aside0.mk ((by rw [hg]; exact (below_size (by repeat (first | (with_reducible first | exact HB.out | apply below_alloc | apply pw_below_drewN | apply below_drew1) | exact HB.out))) : w.heap.size ≤ gb408)); have n3_ := Aside0.mk ((by rw [hg]; exact (below_size (by repeat (first | (with_reducible first | exact HB.out | apply below_alloc | apply pw_below_drewN | apply below_drew1) | exact HB.out))) : w.heap.size ≤ gb408)); clear HB; have HB := n0_; have BK408 := n1_; have GW408 := n2_; have GE408 := n3_; clear n0_ n1_ n2_ n3_; clear hb hbox hg; have hcz6_0 : w5.cell? ⟨gb408, 0, none⟩ = some (.int .i64 a0_0) := (blk_cell BK408.out 0).trans rfl; have hcz6_1 : w5.cell? ⟨gb408, 1, none⟩ = some (.string a0_1) := (blk_cell BK408.out 1).trans rfl; have hcz6_2 : w5.cell? ⟨gb408, 2, none⟩ = some (.string a0_2) := (blk_cell BK408.out 2).trans rfl; have hcz6_3 : w5.cell? ⟨gb408, 3, none⟩ = some (.float .f64 a0_3) := (blk_cell BK408.out 3).trans rfl; have hcz6_4 : w5.cell? ⟨gb408, 4, none⟩ = some (.int .i64 a0_4) := (blk_cell BK408.out 4).trans rfl; have hcz6_5 : w5.cell? ⟨gb408, 5, none⟩ = some (.slice A0_5 l0_5.length c0_5) := (blk_cell BK408.out 5).trans rfl; have hfz6_0 := blk_frozen BK408.out 0; have hfz6_1 := blk_frozen BK408.out 1; have hfz6_2 := blk_frozen BK408.out 2; have hfz6_3 := blk_frozen BK408.out 3; have hfz6_4 := blk_frozen BK408.out 4; have hfz6_5 := blk_frozen BK408.out 5))
  go_ret
  exact ⟨by first | rfl | (simp [errW_none, errW_some] <;> rfl) | (simp [*, errW_none, errW_some] <;> rfl), by repeat (first | (with_reducible first | exact HB.out | apply below_alloc | apply pw_below_drewN | apply below_drew1 | refine below_set ?_ GE408.out) | exact HB.out)⟩
end Go.Proofs.YtpgfjbimodnkeaaGreatDoor.Q
namespace Go.Proofs.YtpgfjbimodnkeaaGreatDoor.Q
open Go.RowKit Go.Proofs.YtpgfjbimodnkeaaGreatDoorW.PrintWords Go.Proofs.YtpgfjbimodnkeaaGreatDoorW.PrintLast Go.Proofs.YtpgfjbimodnkeaaGreatDoorW.PrintMore
attribute [local go_sem] max2_int min2_int max_two min_two max_three min_three max_four min_four
set_option linter.unusedVariables false
set_option linter.unusedSimpArgs false
def impl_gj.f (a0_0 : Int) (a0_1 : ByteArray) (a0_2 : ByteArray) (a0_3 : Nat) (a0_4 : Int) (l0_5 : List Int) : Option (Int × ByteArray × ByteArray × Nat × Bool) := (gjson_Result_Exists.f a0_0 a0_1 a0_2 a0_3 a0_4 l0_5).bind fun t646 => (some (a0_0, a0_1, a0_2, a0_3, t646))
def impl_gj.T1 : Bool × List (List Nat × List Nat) := (true, [([], []), ([0], [0]), ([], []), ([2], [2]), ([], []), ([4], [4]), ([], []), ([6], [6]), ([], []), ([8], [8]), ([1, 3, 5, 7, 9], [1, 3, 5, 7, 9]), ([10, 9, 0, 1, 2, 3, 4, 5, 6, 7, 8, 9, 10], [10])])
def impl_gj.B1 : List Nat := [0, 1, 0, 4, 0, 16, 0, 64, 0, 256, 1023, 2047]
theorem impl_gj.tab1 : rtab .any (opsOf Tryz.f34 1) = impl_gj.T1 := by kernel_rfl
theorem impl_gj.bits1 : waitsOk impl_gj.T1.2 impl_gj.B1 = true := by kernel_rfl
set_option maxHeartbeats 8000000 in
set_option maxRecDepth 100000 in
theorem impl_gj.calls (a0_0 : Int) (a0_1 : ByteArray) (a0_2 : ByteArray) (a0_3 : Nat) (a0_4 : Int) (A0_5 : Option Addr) (c0_5 : Nat) (l0_5 : List Int) (r1 : Int) (r2 : ByteArray) (r3 : ByteArray) (r4 : Nat) (r5 : Bool) (w : World) (hr0_5 : Kd.C (Kd.int .i64) w A0_5 l0_5.length l0_5) (hc0_5 : l0_5.length ≤ c0_5) (h : impl_gj.f a0_0 a0_1 a0_2 a0_3 a0_4 l0_5 = some (r1, r2, r3, r4, r5)) :
  Calls Tryz.prog 34 #[.agg #[.int .i64 a0_0, .string a0_1, .string a0_2, .float .f64 a0_3, .int .i64 a0_4, .slice A0_5 l0_5.length c0_5]] w fun e w' => e = .returned (.agg #[.int .i64 r1, .string r2, .string r3, .float .f64 r4, .bool r5]) ∧ Below w.heap.size w w' := by
 have hu67 := Tryz.underlying67
 have hu39 := Tryz.underlying39
 have HR0_5 := Aside0.mk hr0_5
 have HC0_5 := Aside0.mk hc0_5
 clear hr0_5 hc0_5
 have HB := Aside0.mk (Below.refl w.heap.size w)
 have H : ((gjson_Result_Exists.f a0_0 a0_1 a0_2 a0_3 a0_4 l0_5).bind fun t646 => (some (a0_0, a0_1, a0_2, a0_3, t646))) = some (r1, r2, r3, r4, r5) := h
 clear h
 replace H := Option.bind_eq_some_iff.mp H
 obtain ⟨t646, A20, H⟩ := H
 replace H : (some (a0_0, a0_1, a0_2, a0_3, t646)) = some (r1, r2, r3, r4, r5) := H
 have A2 := Aside0.mk A20
 clear A20
 simp only [Option.some.injEq, Prod.mk.injEq] at H
 obtain ⟨rfl, rfl, rfl, rfl, rfl⟩ := H
 go_enter Tryz.func34, Tryz.ntmps34
 try go_wp2_with (first | ((with_reducible refine gate_dst (N := 1) rfl ?_); refine box_event ?hg (N := 1) ?hd (cs := #[.int .i64 a0_0, .string a0_1, .string a0_2, .float .f64 a0_3, .int .i64 a0_4, .slice A0_5 l0_5.length c0_5]) (t := 67) ?hr ?_; (case hd => rfl); (case hg => rfl); (case hr => first | (go_simp; done) | (go_simp; rfl)); intro gb644 hg w3 hbox hb; have n0_ := Aside0.mk (below_step (by repeat (first | (with_reducible first | exact HB.out | apply below_alloc | apply pw_below_drewN | apply below_drew1) | exact HB.out)) hb); have n1_ := Aside0.mk (hbox); have n2_ := Aside0.mk ((by rw [hg]; exact (below_size (by repeat (first | (with_reducible first | exact HB.out | apply below_alloc | apply pw_below_drewN | apply below_drew1) | exact HB.out))) : w.heap.size ≤ gb644)); have n3_ := Aside0.mk ((by rw [hg]; exact (below_size (by repeat (first | (with_reducible first | exact HB.out | apply below_alloc | apply pw_below_drewN | apply below_drew1) | exact HB.out))) : w.heap.size ≤ gb644)); clear HB; have HB := n0_; have BK644 := n1_; have GW644 := n2_; have GE644 := n3_; clear n0_ n1_ n2_ n3_; clear hb hbox hg) | ((with_reducible refine gate_dst (N := 2) rfl ?_); refine box_event ?hg (N := 2) ?hd (cs := #[.int .i64 0, .string (⟨#[]⟩ : ByteArray), .string (⟨#[]⟩ : ByteArray), .float .f64 0, .bool false]) (t := 39) ?hr ?_; (case hd => rfl); (case hg => rfl); (case hr => first | (go_simp; done) | (go_simp; rfl)); intro gb645 hg w4 hbox hb; have n0_ := Aside0.mk (blk_below (g := gb644) (o := .cells #[.int .i64 a0_0, .string a0_1, .string a0_2, .float .f64 a0_3, .int .i64 a0_4, .slice A0_5 l0_5.length c0_5] 67 (0, 0)) (by (with_reducible repeat (first | refine blk_drewN ?_ _ | refine blk_drew ?_ | refine blk_alloc ?_ _)); exact BK644.out) hb); have n1_ := Aside0.mk (below_step (by repeat (first | (with_reducible first | exact HB.out | apply below_alloc | apply pw_below_drewN | apply below_drew1 | refine below_set ?_ GE644.out) | exact HB.out)) hb); have n2_ := Aside0.mk (hbox); have n3_ := Aside0.mk ((by rw [hg]; exact (below_size (by repeat (first | (with_reducible first | exact HB.out | apply below_alloc | apply pw_below_drewN | apply below_drew1 | refine below_set ?_ GE644.out) | exact HB.out))) : w.heap.size ≤ gb645)); have n4_ := Aside0.mk ((by rw [hg]; exact (below_size (by repeat (first | (with_reducible first | exact HB.out | apply below_alloc | apply pw_below_drewN | apply below_drew1 | refine below_set ?_ GE644.out) | exact HB.out))) : w.heap.size ≤ gb645)); have n5_ := Aside0.mk ((by rw [hg]; exact Nat.ne_of_lt (blk_lt (g := gb644) (o := .cells #[.int .i64 a0_0, .string a0_1, .string a0_2, .float .f64 a0_3, .int .i64 a0_4, .slice A0_5 l0_5.length c0_5] 67 (0, 0)) (by (with_reducible repeat (first | refine blk_drewN ?_ _ | refine blk_drew ?_ | refine blk_alloc ?_ _)); exact BK644.out)) : gb644 ≠ gb645)); have n6_ := Aside0.mk ((by rw [hg]; exact Nat.ne_of_gt (blk_lt (g := gb644) (o := .cells #[.int .i64 a0_0, .string a0_1, .string a0_2, .float .f64 a0_3, .int .i64 a0_4, .slice A0_5 l0_5.length c0_5] 67 (0, 0)) (by (with_reducible repeat (first | refine blk_drewN ?_ _ | refine blk_drew ?_ | refine blk_alloc ?_ _)); exact BK644.out)) : gb645 ≠ gb644)); clear BK644; clear HB; have BK644 := n0_; have HB := n1_; have BK645 := n2_; have GW645 := n3_; have GE645 := n4_; have NB644_645 := n5_; have NB645_644 := n6_; clear n0_ n1_ n2_ n3_ n4_ n5_ n6_; clear hb hbox hg))
 have n0_ := Aside0.mk (blk_drew BK644.out)
 have n1_ := Aside0.mk (blk_drew BK645.out)
 have n2_ := Aside0.mk (below_drew1 HB.out)
 clear BK644
 clear BK645
 clear HB
 have BK644 := n0_
 have BK645 := n1_
 have HB := n2_
 clear n0_ n1_ n2_
 refine start_ (n := 12) (S := fun w' => w'.cell? ⟨gb644, 0, none⟩ = some (.int .i64 a0_0) ∧ w'.cell? ⟨gb644, 1, none⟩ = some (.string a0_1) ∧ w'.cell? ⟨gb644, 2, none⟩ = some (.string a0_2) ∧ w'.cell? ⟨gb644, 3, none⟩ = some (.float .f64 a0_3) ∧ w'.cell? ⟨gb644, 4, none⟩ = some (.int .i64 a0_4) ∧ w'.cell? ⟨gb644, 5, none⟩ = some (.slice A0_5 l0_5.length c0_5)) (ds := []) #[false, false, false, false, false, false, false, false, false, false, false, false] (by kernel_rfl) rfl rfl ⟨(blk_cell BK644.out 0).trans rfl, (blk_cell BK644.out 1).trans rfl, (blk_cell BK644.out 2).trans rfl, (blk_cell BK644.out 3).trans rfl, (blk_cell BK644.out 4).trans rfl, (blk_cell BK644.out 5).trans rfl⟩ (fun hHeld => ?_); refine with_tabW impl_gj.tab1 impl_gj.bits1 (fun HT_ HW_ => ?_)
 generalize w4.drew = w5 at BK644 BK645 HB hHeld ⊢
 refine pure_ (i := 0) (N := some 3) (v := ?_) (a' := ?_) #[true, false, false, false, false, false, false, false, false, false, false, false] rfl rfl (any_of HT_.out (by kernel_rfl)) (fun _ _ _ h => h) (Or.inl ⟨by rfl, ?_⟩) ?_ ?_
 rotate_left
 ·intro w'
  go_simp
  with_reducible rfl
 rotate_left
 ·simp only [Act.put, List.setIfInBounds_toArray, List.set_cons_zero, List.set_cons_succ, i64_w, i32_w]
  rfl
 refine pure_ (i := 2) (N := some 5) (v := ?_) (a' := ?_) #[true, false, true, false, false, false, false, false, false, false, false, false] rfl rfl (any_of HT_.out (by kernel_rfl)) (fun _ _ _ h => h) (Or.inl ⟨by rfl, ?_⟩) ?_ ?_
 rotate_left
 ·intro w'
  go_simp
  with_reducible rfl
 rotate_left
 ·simp only [Act.put, List.setIfInBounds_toArray, List.set_cons_zero, List.set_cons_succ, i64_w, i32_w]
  rfl
 refine pure_ (i := 4) (N := some 7) (v := ?_) (a' := ?_) #[true, false, true, false, true, false, false, false, false, false, false, false] rfl rfl (any_of HT_.out (by kernel_rfl)) (fun _ _ _ h => h) (Or.inl ⟨by rfl, ?_⟩) ?_ ?_
 rotate_left
 ·intro w'
  go_simp
  with_reducible rfl
 rotate_left
 ·simp only [Act.put, List.setIfInBounds_toArray, List.set_cons_zero, List.set_cons_succ, i64_w, i32_w]
  rfl
 refine pure_ (i := 6) (N := some 9) (v := ?_) (a' := ?_) #[true, false, true, false, true, false, true, false, false, false, false, false] rfl rfl (any_of HT_.out (by kernel_rfl)) (fun _ _ _ h => h) (Or.inl ⟨by rfl, ?_⟩) ?_ ?_
 rotate_left
 ·intro w'
  go_simp
  with_reducible rfl
 rotate_left
 ·simp only [Act.put, List.setIfInBounds_toArray, List.set_cons_zero, List.set_cons_succ, i64_w, i32_w]
  rfl
 refine take_ (i := 1) (N := some 4) (v := ?_) (a' := ?_) #[true, true, true, false, true, false, true, false, false, false, false, false] rfl rfl (take_ofW HT_.out HW_.out (by kernel_rfl)) (fun _ _ _ h => h) (Or.inl ⟨by rfl, ?_⟩) hHeld ?_ ?_
 rotate_left
 ·rintro w' ⟨s0, s1, s2, s3, s4, s5⟩
  go_simp
  with_reducible rfl
 rotate_left
 ·simp only [Act.put, List.setIfInBounds_toArray, List.set_cons_zero, List.set_cons_succ, i64_w, i32_w]
  rfl
 refine take_ (i := 3) (N := some 6) (v := ?_) (a' := ?_) #[true, true, true, true, true, false, true, false, false, false, false, false] rfl rfl (take_ofW HT_.out HW_.out (by kernel_rfl)) (fun _ _ _ h => h) (Or.inl ⟨by rfl, ?_⟩) hHeld ?_ ?_
 rotate_left
 ·rintro w' ⟨s0, s1, s2, s3, s4, s5⟩
  go_simp
  with_reducible rfl
 rotate_left
 ·simp only [Act.put, List.setIfInBounds_toArray, List.set_cons_zero, List.set_cons_succ, i64_w, i32_w]
  rfl
 refine take_ (i := 5) (N := some 8) (v := ?_) (a' := ?_) #[true, true, true, true, true, true, true, false, false, false, false, false] rfl rfl (take_ofW HT_.out HW_.out (by kernel_rfl)) (fun _ _ _ h => h) (Or.inl ⟨by rfl, ?_⟩) hHeld ?_ ?_
 rotate_left
 ·rintro w' ⟨s0, s1, s2, s3, s4, s5⟩
  go_simp
  with_reducible rfl
 rotate_left
 ·simp only [Act.put, List.setIfInBounds_toArray, List.set_cons_zero, List.set_cons_succ, i64_w, i32_w]
  rfl
 refine take_ (i := 7) (N := some 10) (v := ?_) (a' := ?_) #[true, true, true, true, true, true, true, true, false, false, false, false] rfl rfl (take_ofW HT_.out HW_.out (by kernel_rfl)) (fun _ _ _ h => h) (Or.inl ⟨by rfl, ?_⟩) hHeld ?_ ?_
 rotate_left
 ·rintro w' ⟨s0, s1, s2, s3, s4, s5⟩
  go_simp
  with_reducible rfl
 rotate_left
 ·simp only [Act.put, List.setIfInBounds_toArray, List.set_cons_zero, List.set_cons_succ, i64_w, i32_w]
  rfl
 refine take_ (i := 8) (N := some 11) (v := ?_) (a' := ?_) #[true, true, true, true, true, true, true, true, true, false, false, false] rfl rfl (take_ofW HT_.out HW_.out (by kernel_rfl)) (fun _ _ _ h => h) (Or.inl ⟨by rfl, ?_⟩) hHeld ?_ ?_
 rotate_left
 ·rintro w' ⟨s0, s1, s2, s3, s4, s5⟩
  go_simp
  with_reducible rfl
 rotate_left
 ·simp only [Act.put, List.setIfInBounds_toArray, List.set_cons_zero, List.set_cons_succ, i64_w, i32_w]
  rfl
 refine one_ (i := 9) (N := some 12) #[true, true, true, true, true, true, true, true, true, true, false, false] rfl rfl (one_of HT_.out (by kernel_rfl)) (by decide) (fun K hK => ?_)
 refine goes_ Tryz.func59 (by kernel_rfl) rfl #[.agg #[.int .i64 a0_0, .string a0_1, .string a0_2, .float .f64 a0_3, .int .i64 a0_4, .slice A0_5 l0_5.length c0_5]] (by rfl) rfl rfl (by (try simp only [List.map_toArray, List.map_cons, List.map_nil]); first | done | rfl | (simp only [List.length_drop, List.length_take]; rfl)) ?_
 with_reducible refine (gjson_Result_Exists.calls a0_0 a0_1 a0_2 a0_3 a0_4 _ _ l0_5 t646 _ ?side1 ?side2 A2.out).mono ?_
 (case side1 => repeat (first | exact (Kd.C_below HR0_5.out HB.out) | (with_reducible refine Kd.C_alloc ?_ _) | (with_reducible refine Kd.C_drewN ?_ _) | (with_reducible refine Kd.C_drew ?_)))
 (case side2 => exact HC0_5.out)
 rintro e w6 ⟨rfl, hb⟩
 refine ⟨_, rfl, ?_⟩
 have n0_ := Aside0.mk (blk_below (g := gb644) (o := .cells #[.int .i64 a0_0, .string a0_1, .string a0_2, .float .f64 a0_3, .int .i64 a0_4, .slice A0_5 l0_5.length c0_5] 67 (0, 0)) (by (with_reducible repeat (first | refine blk_drewN ?_ _ | refine blk_drew ?_ | refine blk_alloc ?_ _)); exact BK644.out) hb)
 have n1_ := Aside0.mk (blk_below (g := gb645) (o := .cells #[.int .i64 0, .string (⟨#[]⟩ : ByteArray), .string (⟨#[]⟩ : ByteArray), .float .f64 0, .bool false] 39 (0, 0)) (by (with_reducible repeat (first | refine blk_drewN ?_ _ | refine blk_drew ?_ | refine blk_alloc ?_ _)); exact BK645.out) hb)
 have n2_ := Aside0.mk (below_step (by repeat (first | (with_reducible first | exact HB.out | apply below_alloc | apply pw_below_drewN | apply below_drew1 | refine below_set ?_ GE644.out | refine below_set ?_ GE645.out) | exact HB.out)) hb)
 clear BK644
 clear BK645
 clear HB
 have BK644 := n0_
 have BK645 := n1_
 have HB := n2_
 clear n0_ n1_ n2_
 (try clear hb)
 (try clear hb2)
 (try clear hk)
 (try clear hi)
 refine hK.out _ _ ⟨(blk_cell BK644.out 0).trans rfl, (blk_cell BK644.out 1).trans rfl, (blk_cell BK644.out 2).trans rfl, (blk_cell BK644.out 3).trans rfl, (blk_cell BK644.out 4).trans rfl, (blk_cell BK644.out 5).trans rfl⟩ (fun hHeld => ?_)
 clear hK K
 refine norm_ (a' := ?_) ?_ ?_
 rotate_left
 ·show Act.put _ (some 12) _ = _
  simp only [Act.put, List.setIfInBounds_toArray, List.set_cons_zero, List.set_cons_succ, i64_w, i32_w]
  rfl
 refine pure_ (i := 10) (N := some 13) (v := ?_) (a' := ?_) #[true, true, true, true, true, true, true, true, true, true, true, false] rfl rfl (any_of HT_.out (by kernel_rfl)) (fun _ _ _ h => h) (Or.inl ⟨by rfl, ?_⟩) ?_ ?_
 rotate_left
 ·intro w'
  go_simp
  with_reducible rfl
 rotate_left
 ·simp only [Act.put, List.setIfInBounds_toArray, List.set_cons_zero, List.set_cons_succ, i64_w, i32_w]
  rfl
 refine one_ (i := 11) (N := none) #[true, true, true, true, true, true, true, true, true, true, true, true] rfl rfl (one_of HT_.out (by kernel_rfl)) (by decide) (fun K hK => ?_)
 have hs7 : w6.cell? ⟨gb645, 0, none⟩ = some (.int .i64 0) := (blk_cell BK645.out 0).trans rfl
 have hfs7 := blk_frozen BK645.out 0
 have hns7_0 := NB644_645.out
 have hms7_0 := NB645_644.out
 have hs8 : w6.cell? ⟨gb645, 1, none⟩ = some (.string (⟨#[]⟩ : ByteArray)) := (blk_cell BK645.out 1).trans rfl
 have hfs8 := blk_frozen BK645.out 1
 have hns8_0 := NB644_645.out
 have hms8_0 := NB645_644.out
 have hs9 : w6.cell? ⟨gb645, 2, none⟩ = some (.string (⟨#[]⟩ : ByteArray)) := (blk_cell BK645.out 2).trans rfl
 have hfs9 := blk_frozen BK645.out 2
 have hns9_0 := NB644_645.out
 have hms9_0 := NB645_644.out
 have hs10 : w6.cell? ⟨gb645, 3, none⟩ = some (.float .f64 0) := (blk_cell BK645.out 3).trans rfl
 have hfs10 := blk_frozen BK645.out 3
 have hns10_0 := NB644_645.out
 have hms10_0 := NB645_644.out
 have hs11 : w6.cell? ⟨gb645, 4, none⟩ = some (.bool false) := (blk_cell BK645.out 4).trans rfl
 have hfs11 := blk_frozen BK645.out 4
 have hns11_0 := NB644_645.out
 have hms11_0 := NB645_644.out
 refine skip_ (w1 := ?_) (by rfl) rfl ?_ ?_
 rotate_left
 ·go_simp
  rfl
 refine hK.out _ _ ⟨((cell_far (p := ⟨gb645, _, none⟩) NB644_645.out _).trans (((cell_far (p := ⟨gb645, _, none⟩) NB644_645.out _).trans (((cell_far (p := ⟨gb645, _, none⟩) NB644_645.out _).trans (((cell_far (p := ⟨gb645, _, none⟩) NB644_645.out _).trans (((cell_far (p := ⟨gb645, _, none⟩) NB644_645.out _).trans (hHeld.1)))))))))), ((cell_far (p := ⟨gb645, _, none⟩) NB644_645.out _).trans (((cell_far (p := ⟨gb645, _, none⟩) NB644_645.out _).trans (((cell_far (p := ⟨gb645, _, none⟩) NB644_645.out _).trans (((cell_far (p := ⟨gb645, _, none⟩) NB644_645.out _).trans (((cell_far (p := ⟨gb645, _, none⟩) NB644_645.out _).trans (hHeld.2.1)))))))))), ((cell_far (p := ⟨gb645, _, none⟩) NB644_645.out _).trans (((cell_far (p := ⟨gb645, _, none⟩) NB644_645.out _).trans (((cell_far (p := ⟨gb645, _, none⟩) NB644_645.out _).trans (((cell_far (p := ⟨gb645, _, none⟩) NB644_645.out _).trans (((cell_far (p := ⟨gb645, _, none⟩) NB644_645.out _).trans (hHeld.2.2.1)))))))))), ((cell_far (p := ⟨gb645, _, none⟩) NB644_645.out _).trans (((cell_far (p := ⟨gb645, _, none⟩) NB644_645.out _).trans (((cell_far (p := ⟨gb645, _, none⟩) NB644_645.out _).trans (((cell_far (p := ⟨gb645, _, none⟩) NB644_645.out _).trans (((cell_far (p := ⟨gb645, _, none⟩) NB644_645.out _).trans (hHeld.2.2.2.1)))))))))), ((cell_far (p := ⟨gb645, _, none⟩) NB644_645.out _).trans (((cell_far (p := ⟨gb645, _, none⟩) NB644_645.out _).trans (((cell_far (p := ⟨gb645, _, none⟩) NB644_645.out _).trans (((cell_far (p := ⟨gb645, _, none⟩) NB644_645.out _).trans (((cell_far (p := ⟨gb645, _, none⟩) NB644_645.out _).trans (hHeld.2.2.2.2.1)))))))))), ((cell_far (p := ⟨gb645, _, none⟩) NB644_645.out _).trans (((cell_far (p := ⟨gb645, _, none⟩) NB644_645.out _).trans (((cell_far (p := ⟨gb645, _, none⟩) NB644_645.out _).trans (((cell_far (p := ⟨gb645, _, none⟩) NB644_645.out _).trans (((cell_far (p := ⟨gb645, _, none⟩) NB644_645.out _).trans (hHeld.2.2.2.2.2))))))))))⟩ (fun hHeld => ?_)
 clear hK K
 refine done_ (done_of HT_.out (by kernel_rfl)) ?_
 try go_wp2
 refine bodyPost_ret (results_cell_row rfl _ _ gb645 39 #[.int .i64 a0_0, .string a0_1, .string a0_2, .float .f64 a0_3, .bool t646] (0, 0) _ rfl (by (with_reducible repeat (first | refine blk_drewN ?_ _ | refine blk_drew ?_ | refine blk_alloc ?_ _)); refine blk_put (cs := #[.int .i64 a0_0, .string a0_1, .string a0_2, .float .f64 a0_3, .bool false]) ?_ 4 _ rfl; (with_reducible repeat (first | refine blk_drewN ?_ _ | refine blk_drew ?_ | refine blk_alloc ?_ _)); refine blk_put (cs := #[.int .i64 a0_0, .string a0_1, .string a0_2, .float .f64 0, .bool false]) ?_ 3 _ rfl; (with_reducible repeat (first | refine blk_drewN ?_ _ | refine blk_drew ?_ | refine blk_alloc ?_ _)); refine blk_put (cs := #[.int .i64 a0_0, .string a0_1, .string (⟨#[]⟩ : ByteArray), .float .f64 0, .bool false]) ?_ 2 _ rfl; (with_reducible repeat (first | refine blk_drewN ?_ _ | refine blk_drew ?_ | refine blk_alloc ?_ _)); refine blk_put (cs := #[.int .i64 a0_0, .string (⟨#[]⟩ : ByteArray), .string (⟨#[]⟩ : ByteArray), .float .f64 0, .bool false]) ?_ 1 _ rfl; (with_reducible repeat (first | refine blk_drewN ?_ _ | refine blk_drew ?_ | refine blk_alloc ?_ _)); refine blk_put (cs := #[.int .i64 0, .string (⟨#[]⟩ : ByteArray), .string (⟨#[]⟩ : ByteArray), .float .f64 0, .bool false]) ?_ 0 _ rfl; (with_reducible repeat (first | refine blk_drewN ?_ _ | refine blk_drew ?_ | refine blk_alloc ?_ _)); exact BK645.out) Tryz.underlying39 rfl (by kernel_rfl)) rfl ?_
 exact ⟨by first | rfl | (simp [errW_none, errW_some] <;> rfl) | (simp [*, errW_none, errW_some] <;> rfl), by repeat (first | (with_reducible first | exact HB.out | apply below_alloc | apply pw_below_drewN | apply below_drew1 | refine below_set ?_ GE644.out | refine below_set ?_ GE645.out) | exact HB.out)⟩
end Go.Proofs.YtpgfjbimodnkeaaGreatDoor.Q
