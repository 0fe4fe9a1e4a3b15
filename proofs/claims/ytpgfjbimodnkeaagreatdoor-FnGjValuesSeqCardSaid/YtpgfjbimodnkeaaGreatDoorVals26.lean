/- FnGjValuesSeq: whatever text and stop come in, the law returns true and both read afterwards as before; with the package-level variables that its row lists as the program's own text lays them (part 26 of 27: lemmas for its last part) -/
import Derived.Deep.QuietTactic
import Derived.BigQuiet
import Derived.Deep.RegionWith
import Derived.Test.YtpgfjbimodnkeaaGreatDoorVals3
import Derived.Test.YtpgfjbimodnkeaaGreatDoorVals18
import Derived.Test.YtpgfjbimodnkeaaGreatDoorVals19
import Derived.Test.YtpgfjbimodnkeaaGreatDoorVals21
import Derived.Test.YtpgfjbimodnkeaaGreatDoorVals23
import Derived.Test.YtpgfjbimodnkeaaGreatDoorVals24
import Derived.Test.YtpgfjbimodnkeaaGreatDoorVals25
namespace Go.Proofs.YtpgfjbimodnkeaaGreatDoor.Q
open Go.RowKit Go.Proofs.YtpgfjbimodnkeaaGreatDoorW.PrintWords Go.Proofs.YtpgfjbimodnkeaaGreatDoorW.PrintLast Go.Proofs.YtpgfjbimodnkeaaGreatDoorW.PrintMore
attribute [local go_sem] max2_int min2_int max_two min_two max_three min_three max_four min_four
set_option linter.unusedVariables false
set_option linter.unusedSimpArgs false
def spec_Read.f (k : Nat) (a0 : ByteArray) : Option (Int × ByteArray × List ByteArray × (List (S25)) × Bool) := (spec_Places.f k a0).bind fun bt375 => (if bt375.2.2.2.2.2 = true then ((spec_Tree.f k a0 bt375.1 bt375.2.1 bt375.2.2.1 bt375.2.2.2.1 bt375.2.2.2.2.1).bind fun bt386 => (some (bt386.1, bt386.2.1, bt386.2.2.1, bt386.2.2.2, true))) else (some (0, (⟨#[]⟩ : ByteArray), ([] : List ByteArray), ([] : List (S25)), false)))
theorem spec_Read.mono : ∀ a0 k, LeO (spec_Read.f k a0) (spec_Read.f (k + 1) a0) := by
 intro a0 k
 unfold spec_Read.f
 repeat' first
  | (with_reducible exact spec_Places.mono _ _)
  | (with_reducible exact spec_Tree.mono _ _ _ _ _ _ _)
  | (with_reducible exact LeO.refl _)
  | (with_reducible exact LeO.none _)
  | (with_reducible refine LeO.ite ?_ ?_)
  | (with_reducible refine LeO.bind ?_ (fun _ => ?_))
  | exact spec_Places.mono _ _
  | exact spec_Tree.mono _ _ _ _ _ _ _
  | exact LeO.none _
  | refine LeO.ite ?_ ?_
  | refine LeO.bind ?_ (fun _ => ?_)
set_option maxHeartbeats 8000000 in
set_option maxRecDepth 100000 in
theorem spec_Read.calls (k : Nat) (a0 : ByteArray) (r1 : Int) (r2 : ByteArray) (r3 : List ByteArray) (r4 : List (S25)) (r5 : Bool) (w : World) (h : spec_Read.f k a0 = some (r1, r2, r3, r4, r5)) :
 Calls Tryz.prog 28 #[.string a0] w fun e w' => ∃ v2_ v3_ : Value, e = .returned (.tuple #[.agg #[.int .i64 r1, .string r2, v2_, v3_], .bool r5]) ∧ Kd.R Kd.string 9 w' w.heap.size (fun _ => True) v2_ r3 ∧ Kd.R k25 25 w' w.heap.size (fun k_ => some k_ ≠ (v2_ : Value).ownBlock) v3_ r4 ∧ Below w.heap.size w w' := by
 have hu25 := Tryz.underlying25
 have hu32 := Tryz.underlying32
 have HB := Aside0.mk (Below.refl w.heap.size w)
 have H : ((spec_Places.f k a0).bind fun bt375 => (if bt375.2.2.2.2.2 = true then ((spec_Tree.f k a0 bt375.1 bt375.2.1 bt375.2.2.1 bt375.2.2.2.1 bt375.2.2.2.2.1).bind fun bt386 => (some (bt386.1, bt386.2.1, bt386.2.2.1, bt386.2.2.2, true))) else (some (0, (⟨#[]⟩ : ByteArray), ([] : List ByteArray), ([] : List (S25)), false)))) = some (r1, r2, r3, r4, r5) := h
 clear h
 replace H := Option.bind_eq_some_iff.mp H
 obtain ⟨⟨t375, t376, t377, t378, t381, t384⟩, A20, H⟩ := H
 replace H : (if t384 = true then ((spec_Tree.f k a0 t375 t376 t377 t378 t381).bind fun bt386 => (some (bt386.1, bt386.2.1, bt386.2.2.1, bt386.2.2.2, true))) else (some (0, (⟨#[]⟩ : ByteArray), ([] : List ByteArray), ([] : List (S25)), false))) = some (r1, r2, r3, r4, r5) := H
 have A2 := Aside0.mk A20
 clear A20
 by_cases c3 : t384 = true
 ·subst c3
  have H1 : ((spec_Tree.f k a0 t375 t376 t377 t378 t381).bind fun bt386 => (some (bt386.1, bt386.2.1, bt386.2.2.1, bt386.2.2.2, true))) = some (r1, r2, r3, r4, r5) := by rw [if_pos rfl] at H; exact H
  clear H
  have H := H1
  clear H1
  replace H := Option.bind_eq_some_iff.mp H
  obtain ⟨⟨t386, t387, t388, t391⟩, A40, H⟩ := H
  replace H : (some (t386, t387, t388, t391, true)) = some (r1, r2, r3, r4, r5) := H
  have A4 := Aside0.mk A40
  clear A40
  simp only [Option.some.injEq, Prod.mk.injEq] at H
  obtain ⟨rfl, rfl, rfl, rfl, rfl⟩ := H
  go_enter Tryz.func28, Tryz.ntmps28
  go_wp2_with (first | ((with_reducible refine gate_dst (N := 2) rfl ?_); refine box_event ?hg (N := 2) ?hd (cs := #[.int .i64 0, .string (⟨#[]⟩ : ByteArray), .slice none 0 0, .slice none 0 0]) (t := 25) ?hr ?_; (case hd => rfl); (case hg => rfl); (case hr => first | (go_simp; done) | (go_simp; rfl)); intro gb374 hg w5 hbox hb; have n0_ := Aside0.mk (below_step (by repeat (first | (with_reducible first | exact HB.out | apply below_alloc | apply pw_below_drewN | apply below_drew1) | exact HB.out)) hb); have n1_ := Aside0.mk (hbox); have n2_ := Aside0.mk ((by rw [hg]; exact (below_size (by repeat (first | (with_reducible first | exact HB.out | apply below_alloc | apply pw_below_drewN | apply below_drew1) | exact HB.out))) : w.heap.size ≤ gb374)); have n3_ := Aside0.mk ((by rw [hg]; exact (below_size (by repeat (first | (with_reducible first | exact HB.out | apply below_alloc | apply pw_below_drewN | apply below_drew1) | exact HB.out))) : w.heap.size ≤ gb374)); clear HB; have HB := n0_; have BK374 := n1_; have GW374 := n2_; have GE374 := n3_; clear n0_ n1_ n2_ n3_; clear hb hbox hg) | ((with_reducible refine gate_callee (f := 10) rfl ?_); refine goesL_ (some 8) rfl rfl Tryz.func10 (by kernel_rfl) rfl #[.string a0] rfl (by (try simp only [List.map_toArray, List.map_cons, List.map_nil]); first | done | rfl | (simp only [List.length_drop, List.length_take]; rfl)) ?_; (with_reducible refine (spec_Places.calls k a0 t375 t376 t377 t378 t381 true _ A2.out).mono ?_); rintro e w6 ⟨v379, v382, rfl, ho0, ho1, hb⟩; refine ⟨_, rfl, ?_⟩; have n0_ := Aside0.mk (Kd.R_lower ho0 (below_size (by repeat (first | (with_reducible first | exact HB.out | apply below_alloc | apply pw_below_drewN | apply below_drew1 | refine below_set ?_ GE374.out) | exact HB.out)))); have n1_ := Aside0.mk (Kd.R_lower ho1 (below_size (by repeat (first | (with_reducible first | exact HB.out | apply below_alloc | apply pw_below_drewN | apply below_drew1 | refine below_set ?_ GE374.out) | exact HB.out)))); have n2_ := Aside0.mk (blk_below (g := gb374) (o := .cells #[.int .i64 0, .string (⟨#[]⟩ : ByteArray), .slice none 0 0, .slice none 0 0] 25 (0, 0)) (by (with_reducible repeat (first | refine blk_drewN ?_ _ | refine blk_drew ?_ | refine blk_alloc ?_ _)); exact BK374.out) hb); have n3_ := Aside0.mk (below_step (by repeat (first | (with_reducible first | exact HB.out | apply below_alloc | apply pw_below_drewN | apply below_drew1 | refine below_set ?_ GE374.out) | exact HB.out)) hb); clear BK374; clear HB; have HO380 := n0_; have HO383 := n1_; have BK374 := n2_; have HB := n3_; clear n0_ n1_ n2_ n3_; (try clear hb); (try clear hb2); (try clear hk); (try clear hi); (try clear ho0); (try clear ho1)) | ((with_reducible refine gate_dst (N := 4) rfl ?_); refine box_event ?hg (N := 4) ?hd (cs := #[.int .i64 0, .int .i64 0, .int .i64 0, .slice none 0 0, .slice none 0 0]) (t := 32) ?hr ?_; (case hd => rfl); (case hg => rfl); (case hr => first | (go_simp; done) | (go_simp; rfl)); intro gb385 hg w7 hbox hb; have n0_ := Aside0.mk (Kd.R_below (by (with_reducible repeat (first | apply Kd.R_alloc | apply Kd.R_drewN | apply Kd.R_drew)); exact HO380.out) hb); have n1_ := Aside0.mk (Kd.R_below (Kd.R_elderB (by (with_reducible repeat (first | apply Kd.R_alloc | apply Kd.R_drewN | apply Kd.R_drew)); exact HO383.out) gb385 (Nat.le_of_eq hg.symm)) hb); have n2_ := Aside0.mk (blk_below (g := gb374) (o := .cells #[.int .i64 0, .string (⟨#[]⟩ : ByteArray), .slice none 0 0, .slice none 0 0] 25 (0, 0)) (by (with_reducible repeat (first | refine blk_drewN ?_ _ | refine blk_drew ?_ | refine blk_alloc ?_ _)); exact BK374.out) hb); have n3_ := Aside0.mk (below_step (by repeat (first | (with_reducible first | exact HB.out | apply below_alloc | apply pw_below_drewN | apply below_drew1 | refine below_set ?_ GE374.out) | exact HB.out)) hb); have n4_ := Aside0.mk (hbox); have n5_ := Aside0.mk ((by rw [hg]; exact (below_size (by repeat (first | (with_reducible first | exact HB.out | apply below_alloc | apply pw_below_drewN | apply below_drew1 | refine below_set ?_ GE374.out) | exact HB.out))) : w.heap.size ≤ gb385)); have n6_ := Aside0.mk ((by rw [hg]; exact (below_size (by repeat (first | (with_reducible first | exact HB.out | apply below_alloc | apply pw_below_drewN | apply below_drew1 | refine below_set ?_ GE374.out) | exact HB.out))) : w.heap.size ≤ gb385)); have n7_ := Aside0.mk ((by rw [hg]; exact Nat.ne_of_lt (blk_lt (g := gb374) (o := .cells #[.int .i64 0, .string (⟨#[]⟩ : ByteArray), .slice none 0 0, .slice none 0 0] 25 (0, 0)) (by (with_reducible repeat (first | refine blk_drewN ?_ _ | refine blk_drew ?_ | refine blk_alloc ?_ _)); exact BK374.out)) : gb374 ≠ gb385)); have n8_ := Aside0.mk ((by rw [hg]; exact Nat.ne_of_gt (blk_lt (g := gb374) (o := .cells #[.int .i64 0, .string (⟨#[]⟩ : ByteArray), .slice none 0 0, .slice none 0 0] 25 (0, 0)) (by (with_reducible repeat (first | refine blk_drewN ?_ _ | refine blk_drew ?_ | refine blk_alloc ?_ _)); exact BK374.out)) : gb385 ≠ gb374)); clear HO380; clear HO383; clear BK374; clear HB; have HO380 := n0_; have HO383 := n1_; have BK374 := n2_; have HB := n3_; have BK385 := n4_; have GW385 := n5_; have GE385 := n6_; have NB374_385 := n7_; have NB385_374 := n8_; clear n0_ n1_ n2_ n3_ n4_ n5_ n6_ n7_ n8_; clear hb hbox hg; have hnb8 := NB385_374.out; have hnc8 := NB374_385.out; have hcz9_0 : w7.cell? ⟨gb385, 0, none⟩ = some (.int .i64 0) := (blk_cell BK385.out 0).trans rfl; have hcz9_1 : w7.cell? ⟨gb385, 1, none⟩ = some (.int .i64 0) := (blk_cell BK385.out 1).trans rfl; have hcz9_2 : w7.cell? ⟨gb385, 2, none⟩ = some (.int .i64 0) := (blk_cell BK385.out 2).trans rfl; have hcz9_3 : w7.cell? ⟨gb385, 3, none⟩ = some (.slice none 0 0) := (blk_cell BK385.out 3).trans rfl; have hcz9_4 : w7.cell? ⟨gb385, 4, none⟩ = some (.slice none 0 0) := (blk_cell BK385.out 4).trans rfl; have hfz9_0 := blk_frozen BK385.out 0; have hfz9_1 := blk_frozen BK385.out 1; have hfz9_2 := blk_frozen BK385.out 2; have hfz9_3 := blk_frozen BK385.out 3; have hfz9_4 := blk_frozen BK385.out 4; obtain ⟨Ao10, co10, eo10⟩ := Kd.R_slice HO380.out; subst eo10; obtain ⟨Ao11, co11, eo11⟩ := Kd.R_slice HO383.out; subst eo11) | ((with_reducible refine gate_callee (f := 52) rfl ?_); refine goesL_ (some 16) rfl rfl Tryz.func52 (by kernel_rfl) rfl #[.string a0, .agg #[.int .i64 t375, .int .i64 t376, .int .i64 t377, .slice Ao10 t378.length co10, .slice Ao11 t381.length co11]] rfl (by (try simp only [List.map_toArray, List.map_cons, List.map_nil]); first | done | rfl | (simp only [List.length_drop, List.length_take]; rfl)) ?_; (with_reducible refine (spec_Tree.calls k a0 t375 t376 t377 _ _ t378 _ _ t381 t386 t387 t388 t391 _ ?side1 ?side2 ?side3 ?side4 A4.out).mono ?_); (case side1 => refine (Kd.R_reads' (e := 44) (base := w.heap.size) (ok := fun k_ => True) (n := t378.length) (c := co10) ?_).2.2; exact (by (with_reducible repeat (first | apply Kd.R_alloc | apply Kd.R_drewN | apply Kd.R_drew)); exact (Kd.R_mono (Kd.R_far (p := ⟨gb385, 4, none⟩) (Kd.R_far (p := ⟨gb385, 3, none⟩) (Kd.R_far (p := ⟨gb385, 2, none⟩) (Kd.R_far (p := ⟨gb385, 1, none⟩) (Kd.R_far (p := ⟨gb385, 0, none⟩) (Kd.R_types HO380.out BK385.out (by decide)) (fun _ hk => hk.2) (.int .i64 t375)) (fun _ hk => hk.2) (.int .i64 t376)) (fun _ hk => hk.2) (.int .i64 t377)) (fun _ hk => hk.2) (.slice Ao10 t378.length co10)) (fun _ hk => hk.2) (.slice Ao11 t381.length co11)) (fun _ h_ => h_.1)))); (case side2 => exact (Kd.R_reads' HO380.out).2.1); (case side3 => refine (Kd.R_reads' (e := 32) (base := w.heap.size) (ok := fun k_ => (some k_ ≠ (.slice Ao10 t378.length co10 : Value).ownBlock ∧ k_ ≠ gb385)) (n := t381.length) (c := co11) ?_).2.2; exact (by (with_reducible repeat (first | apply Kd.R_alloc | apply Kd.R_drewN | apply Kd.R_drew)); exact (Kd.R_mono (Kd.R_far (p := ⟨gb385, 4, none⟩) (Kd.R_far (p := ⟨gb385, 3, none⟩) (Kd.R_far (p := ⟨gb385, 2, none⟩) (Kd.R_far (p := ⟨gb385, 1, none⟩) (Kd.R_far (p := ⟨gb385, 0, none⟩) (Kd.R_mono HO383.out (fun k_ hk => (⟨hk, hk.2⟩ : _ ∧ k_ ≠ gb385))) (fun _ hk => hk.2) (.int .i64 t375)) (fun _ hk => hk.2) (.int .i64 t376)) (fun _ hk => hk.2) (.int .i64 t377)) (fun _ hk => hk.2) (.slice Ao10 t378.length co10)) (fun _ hk => hk.2) (.slice Ao11 t381.length co11)) (fun _ h_ => h_.1)))); (case side4 => exact (Kd.R_reads' HO383.out).2.1); rintro e w12 ⟨v389, v392, rfl, ho0, ho1, hb⟩; refine ⟨_, rfl, ?_⟩; have n0_ := Aside0.mk (Kd.R_below (by (with_reducible repeat (first | apply Kd.R_alloc | apply Kd.R_drewN | apply Kd.R_drew)); exact (Kd.R_mono (Kd.R_far (p := ⟨gb385, 4, none⟩) (Kd.R_far (p := ⟨gb385, 3, none⟩) (Kd.R_far (p := ⟨gb385, 2, none⟩) (Kd.R_far (p := ⟨gb385, 1, none⟩) (Kd.R_far (p := ⟨gb385, 0, none⟩) (Kd.R_types HO380.out BK385.out (by decide)) (fun _ hk => hk.2) (.int .i64 t375)) (fun _ hk => hk.2) (.int .i64 t376)) (fun _ hk => hk.2) (.int .i64 t377)) (fun _ hk => hk.2) (.slice Ao10 t378.length co10)) (fun _ hk => hk.2) (.slice Ao11 t381.length co11)) (fun _ h_ => h_.1))) hb); have n1_ := Aside0.mk (Kd.R_below (by (with_reducible repeat (first | apply Kd.R_alloc | apply Kd.R_drewN | apply Kd.R_drew)); exact (Kd.R_mono (Kd.R_far (p := ⟨gb385, 4, none⟩) (Kd.R_far (p := ⟨gb385, 3, none⟩) (Kd.R_far (p := ⟨gb385, 2, none⟩) (Kd.R_far (p := ⟨gb385, 1, none⟩) (Kd.R_far (p := ⟨gb385, 0, none⟩) (Kd.R_mono HO383.out (fun k_ hk => (⟨hk, hk.2⟩ : _ ∧ k_ ≠ gb385))) (fun _ hk => hk.2) (.int .i64 t375)) (fun _ hk => hk.2) (.int .i64 t376)) (fun _ hk => hk.2) (.int .i64 t377)) (fun _ hk => hk.2) (.slice Ao10 t378.length co10)) (fun _ hk => hk.2) (.slice Ao11 t381.length co11)) (fun _ h_ => h_.1))) hb); have n2_ := Aside0.mk (Kd.R_lower ho0 (below_size (by repeat (first | (with_reducible first | exact HB.out | apply below_alloc | apply pw_below_drewN | apply below_drew1 | refine below_set ?_ GE374.out | refine below_set ?_ GE385.out) | exact HB.out)))); have n3_ := Aside0.mk (Kd.R_lower (Kd.R_newB ho1 (g := gb374) (o := .cells #[.int .i64 0, .string (⟨#[]⟩ : ByteArray), .slice none 0 0, .slice none 0 0] 25 (0, 0)) (by (with_reducible repeat (first | refine blk_drewN ?_ _ | refine blk_drew ?_ | refine blk_alloc ?_ _)); refine blk_far ?_ NB374_385.out _; (with_reducible repeat (first | refine blk_drewN ?_ _ | refine blk_drew ?_ | refine blk_alloc ?_ _)); refine blk_far ?_ NB374_385.out _; (with_reducible repeat (first | refine blk_drewN ?_ _ | refine blk_drew ?_ | refine blk_alloc ?_ _)); refine blk_far ?_ NB374_385.out _; (with_reducible repeat (first | refine blk_drewN ?_ _ | refine blk_drew ?_ | refine blk_alloc ?_ _)); refine blk_far ?_ NB374_385.out _; (with_reducible repeat (first | refine blk_drewN ?_ _ | refine blk_drew ?_ | refine blk_alloc ?_ _)); refine blk_far ?_ NB374_385.out _; (with_reducible repeat (first | refine blk_drewN ?_ _ | refine blk_drew ?_ | refine blk_alloc ?_ _)); exact BK374.out)) (below_size (by repeat (first | (with_reducible first | exact HB.out | apply below_alloc | apply pw_below_drewN | apply below_drew1 | refine below_set ?_ GE374.out | refine below_set ?_ GE385.out) | exact HB.out)))); have n4_ := Aside0.mk (blk_below (g := gb374) (o := .cells #[.int .i64 0, .string (⟨#[]⟩ : ByteArray), .slice none 0 0, .slice none 0 0] 25 (0, 0)) (by (with_reducible repeat (first | refine blk_drewN ?_ _ | refine blk_drew ?_ | refine blk_alloc ?_ _)); refine blk_far ?_ NB374_385.out _; (with_reducible repeat (first | refine blk_drewN ?_ _ | refine blk_drew ?_ | refine blk_alloc ?_ _)); refine blk_far ?_ NB374_385.out _; (with_reducible repeat (first | refine blk_drewN ?_ _ | refine blk_drew ?_ | refine blk_alloc ?_ _)); refine blk_far ?_ NB374_385.out _; (with_reducible repeat (first | refine blk_drewN ?_ _ | refine blk_drew ?_ | refine blk_alloc ?_ _)); refine blk_far ?_ NB374_385.out _; (with_reducible repeat (first | refine blk_drewN ?_ _ | refine blk_drew ?_ | refine blk_alloc ?_ _)); refine blk_far ?_ NB374_385.out _; (with_reducible repeat (first | refine blk_drewN ?_ _ | refine blk_drew ?_ | refine blk_alloc ?_ _)); exact BK374.out) hb); have n5_ := Aside0.mk (blk_below (g := gb385) (o := .cells #[.int .i64 t375, .int .i64 t376, .int .i64 t377, .slice Ao10 t378.length co10, .slice Ao11 t381.length co11] 32 (0, 0)) (by (with_reducible repeat (first | refine blk_drewN ?_ _ | refine blk_drew ?_ | refine blk_alloc ?_ _)); refine blk_put (cs := #[.int .i64 t375, .int .i64 t376, .int .i64 t377, .slice Ao10 t378.length co10, .slice none 0 0]) ?_ 4 _ rfl; (with_reducible repeat (first | refine blk_drewN ?_ _ | refine blk_drew ?_ | refine blk_alloc ?_ _)); refine blk_put (cs := #[.int .i64 t375, .int .i64 t376, .int .i64 t377, .slice none 0 0, .slice none 0 0]) ?_ 3 _ rfl; (with_reducible repeat (first | refine blk_drewN ?_ _ | refine blk_drew ?_ | refine blk_alloc ?_ _)); refine blk_put (cs := #[.int .i64 t375, .int .i64 t376, .int .i64 0, .slice none 0 0, .slice none 0 0]) ?_ 2 _ rfl; (with_reducible repeat (first | refine blk_drewN ?_ _ | refine blk_drew ?_ | refine blk_alloc ?_ _)); refine blk_put (cs := #[.int .i64 t375, .int .i64 0, .int .i64 0, .slice none 0 0, .slice none 0 0]) ?_ 1 _ rfl; (with_reducible repeat (first | refine blk_drewN ?_ _ | refine blk_drew ?_ | refine blk_alloc ?_ _)); refine blk_put (cs := #[.int .i64 0, .int .i64 0, .int .i64 0, .slice none 0 0, .slice none 0 0]) ?_ 0 _ rfl; (with_reducible repeat (first | refine blk_drewN ?_ _ | refine blk_drew ?_ | refine blk_alloc ?_ _)); exact BK385.out) hb); have n6_ := Aside0.mk (below_step (by repeat (first | (with_reducible first | exact HB.out | apply below_alloc | apply pw_below_drewN | apply below_drew1 | refine below_set ?_ GE374.out | refine below_set ?_ GE385.out) | exact HB.out)) hb); clear HO380; clear HO383; clear BK374; clear BK385; clear HB; have HO380 := n0_; have HO383 := n1_; have HO390 := n2_; have HO393 := n3_; have BK374 := n4_; have BK385 := n5_; have HB := n6_; clear n0_ n1_ n2_ n3_ n4_ n5_ n6_; (try clear hb); (try clear hb2); (try clear hk); (try clear hi); (try clear ho0); (try clear ho1); have hcz13_0 : w12.cell? ⟨gb374, 0, none⟩ = some (.int .i64 0) := (blk_cell BK374.out 0).trans rfl; have hcz13_1 : w12.cell? ⟨gb374, 1, none⟩ = some (.string (⟨#[]⟩ : ByteArray)) := (blk_cell BK374.out 1).trans rfl; have hcz13_2 : w12.cell? ⟨gb374, 2, none⟩ = some (.slice none 0 0) := (blk_cell BK374.out 2).trans rfl; have hcz13_3 : w12.cell? ⟨gb374, 3, none⟩ = some (.slice none 0 0) := (blk_cell BK374.out 3).trans rfl; have hfz13_0 := blk_frozen BK374.out 0; have hfz13_1 := blk_frozen BK374.out 1; have hfz13_2 := blk_frozen BK374.out 2; have hfz13_3 := blk_frozen BK374.out 3; obtain ⟨Ao14, co14, eo14⟩ := Kd.R_slice HO390.out; subst eo14; obtain ⟨Ao15, co15, eo15⟩ := Kd.R_slice HO393.out; subst eo15))
  refine bodyPost_ret (results_ct rfl _ _ gb374 25 #[.int .i64 t386, .string t387, .slice Ao14 t388.length co14, .slice Ao15 t391.length co15] (0, 0) _ rfl (by (with_reducible repeat (first | refine blk_drewN ?_ _ | refine blk_drew ?_ | refine blk_alloc ?_ _)); refine blk_put (cs := #[.int .i64 t386, .string t387, .slice Ao14 t388.length co14, .slice none 0 0]) ?_ 3 _ rfl; (with_reducible repeat (first | refine blk_drewN ?_ _ | refine blk_drew ?_ | refine blk_alloc ?_ _)); refine blk_put (cs := #[.int .i64 t386, .string t387, .slice none 0 0, .slice none 0 0]) ?_ 2 _ rfl; (with_reducible repeat (first | refine blk_drewN ?_ _ | refine blk_drew ?_ | refine blk_alloc ?_ _)); refine blk_put (cs := #[.int .i64 t386, .string (⟨#[]⟩ : ByteArray), .slice none 0 0, .slice none 0 0]) ?_ 1 _ rfl; (with_reducible repeat (first | refine blk_drewN ?_ _ | refine blk_drew ?_ | refine blk_alloc ?_ _)); refine blk_put (cs := #[.int .i64 0, .string (⟨#[]⟩ : ByteArray), .slice none 0 0, .slice none 0 0]) ?_ 0 _ rfl; (with_reducible repeat (first | refine blk_drewN ?_ _ | refine blk_drew ?_ | refine blk_alloc ?_ _)); exact BK374.out) Tryz.underlying25 rfl (by kernel_rfl)) rfl ?_
  exact ⟨_, _, by first | rfl | (simp [errW_none, errW_some] <;> rfl) | (simp [*, errW_none, errW_some] <;> rfl), by (with_reducible repeat (first | apply Kd.R_alloc | apply Kd.R_drewN | apply Kd.R_drew)); exact Kd.R_mono (Kd.R_far (p := ⟨gb374, 3, none⟩) (Kd.R_far (p := ⟨gb374, 2, none⟩) (Kd.R_far (p := ⟨gb374, 1, none⟩) (Kd.R_far (p := ⟨gb374, 0, none⟩) (Kd.R_types HO390.out BK374.out (by decide)) (fun _ hk => hk.2) (.int .i64 t386)) (fun _ hk => hk.2) (.string t387)) (fun _ hk => hk.2) (.slice Ao14 t388.length co14)) (fun _ hk => hk.2) (.slice Ao15 t391.length co15)) (fun _ hk => trivial), by (with_reducible repeat (first | apply Kd.R_alloc | apply Kd.R_drewN | apply Kd.R_drew)); exact Kd.R_mono (Kd.R_far (p := ⟨gb374, 3, none⟩) (Kd.R_far (p := ⟨gb374, 2, none⟩) (Kd.R_far (p := ⟨gb374, 1, none⟩) (Kd.R_far (p := ⟨gb374, 0, none⟩) (Kd.R_mono HO393.out (fun k_ hk => (⟨hk, hk.2⟩ : _ ∧ k_ ≠ gb374))) (fun _ hk => hk.2) (.int .i64 t386)) (fun _ hk => hk.2) (.string t387)) (fun _ hk => hk.2) (.slice Ao14 t388.length co14)) (fun _ hk => hk.2) (.slice Ao15 t391.length co15)) (fun _ hk => hk.1.1), by repeat (first | (with_reducible first | exact HB.out | apply below_alloc | apply pw_below_drewN | apply below_drew1 | refine below_set ?_ GE374.out | refine below_set ?_ GE385.out) | exact HB.out)⟩
 ·replace c3 := Bool.eq_false_iff.mpr c3
  subst c3
  have H1 : (some (0, (⟨#[]⟩ : ByteArray), ([] : List ByteArray), ([] : List (S25)), false)) = some (r1, r2, r3, r4, r5) := by rw [if_neg (show ¬ (false = true) by decide)] at H; exact H
  clear H
  have H := H1
  clear H1
  simp only [Option.some.injEq, Prod.mk.injEq] at H
  obtain ⟨rfl, rfl, rfl, rfl, rfl⟩ := H
  go_enter Tryz.func28, Tryz.ntmps28
  go_wp2_with (first | ((with_reducible refine gate_dst (N := 2) rfl ?_); refine box_event ?hg (N := 2) ?hd (cs := #[.int .i64 0, .string (⟨#[]⟩ : ByteArray), .slice none 0 0, .slice none 0 0]) (t := 25) ?hr ?_; (case hd => rfl); (case hg => rfl); (case hr => first | (go_simp; done) | (go_simp; rfl)); intro gb374 hg w16 hbox hb; have n0_ := Aside0.mk (below_step (by repeat (first | (with_reducible first | exact HB.out | apply below_alloc | apply pw_below_drewN | apply below_drew1) | exact HB.out)) hb); have n1_ := Aside0.mk (hbox); have n2_ := Aside0.mk ((by rw [hg]; exact (below_size (by repeat (first | (with_reducible first | exact HB.out | apply below_alloc | apply pw_below_drewN | apply below_drew1) | exact HB.out))) : w.heap.size ≤ gb374)); have n3_ := Aside0.mk ((by rw [hg]; exact (below_size (by repeat (first | (with_reducible first | exact HB.out | apply below_alloc | apply pw_below_drewN | apply below_drew1) | exact HB.out))) : w.heap.size ≤ gb374)); clear HB; have HB := n0_; have BK374 := n1_; have GW374 := n2_; have GE374 := n3_; clear n0_ n1_ n2_ n3_; clear hb hbox hg) | ((with_reducible refine gate_callee (f := 10) rfl ?_); refine goesL_ (some 8) rfl rfl Tryz.func10 (by kernel_rfl) rfl #[.string a0] rfl (by (try simp only [List.map_toArray, List.map_cons, List.map_nil]); first | done | rfl | (simp only [List.length_drop, List.length_take]; rfl)) ?_; (with_reducible refine (spec_Places.calls k a0 t375 t376 t377 t378 t381 false _ A2.out).mono ?_); rintro e w17 ⟨v379, v382, rfl, ho0, ho1, hb⟩; refine ⟨_, rfl, ?_⟩; have n0_ := Aside0.mk (Kd.R_lower ho0 (below_size (by repeat (first | (with_reducible first | exact HB.out | apply below_alloc | apply pw_below_drewN | apply below_drew1 | refine below_set ?_ GE374.out) | exact HB.out)))); have n1_ := Aside0.mk (Kd.R_lower ho1 (below_size (by repeat (first | (with_reducible first | exact HB.out | apply below_alloc | apply pw_below_drewN | apply below_drew1 | refine below_set ?_ GE374.out) | exact HB.out)))); have n2_ := Aside0.mk (blk_below (g := gb374) (o := .cells #[.int .i64 0, .string (⟨#[]⟩ : ByteArray), .slice none 0 0, .slice none 0 0] 25 (0, 0)) (by (with_reducible repeat (first | refine blk_drewN ?_ _ | refine blk_drew ?_ | refine blk_alloc ?_ _)); exact BK374.out) hb); have n3_ := Aside0.mk (below_step (by repeat (first | (with_reducible first | exact HB.out | apply below_alloc | apply pw_below_drewN | apply below_drew1 | refine below_set ?_ GE374.out) | exact HB.out)) hb); clear BK374; clear HB; have HO380 := n0_; have HO383 := n1_; have BK374 := n2_; have HB := n3_; clear n0_ n1_ n2_ n3_; (try clear hb); (try clear hb2); (try clear hk); (try clear hi); (try clear ho0); (try clear ho1)) | ((with_reducible refine gate_dst (N := 4) rfl ?_); refine box_event ?hg (N := 4) ?hd (cs := #[.int .i64 0, .int .i64 0, .int .i64 0, .slice none 0 0, .slice none 0 0]) (t := 32) ?hr ?_; (case hd => rfl); (case hg => rfl); (case hr => first | (go_simp; done) | (go_simp; rfl)); intro gb385 hg w18 hbox hb; have n0_ := Aside0.mk (Kd.R_below (by (with_reducible repeat (first | apply Kd.R_alloc | apply Kd.R_drewN | apply Kd.R_drew)); exact HO380.out) hb); have n1_ := Aside0.mk (Kd.R_below (Kd.R_elderB (by (with_reducible repeat (first | apply Kd.R_alloc | apply Kd.R_drewN | apply Kd.R_drew)); exact HO383.out) gb385 (Nat.le_of_eq hg.symm)) hb); have n2_ := Aside0.mk (blk_below (g := gb374) (o := .cells #[.int .i64 0, .string (⟨#[]⟩ : ByteArray), .slice none 0 0, .slice none 0 0] 25 (0, 0)) (by (with_reducible repeat (first | refine blk_drewN ?_ _ | refine blk_drew ?_ | refine blk_alloc ?_ _)); exact BK374.out) hb); have n3_ := Aside0.mk (below_step (by repeat (first | (with_reducible first | exact HB.out | apply below_alloc | apply pw_below_drewN | apply below_drew1 | refine below_set ?_ GE374.out) | exact HB.out)) hb); have n4_ := Aside0.mk (hbox); have n5_ := Aside0.mk ((by rw [hg]; exact (below_size (by repeat (first | (with_reducible first | exact HB.out | apply below_alloc | apply pw_below_drewN | apply below_drew1 | refine below_set ?_ GE374.out) | exact HB.out))) : w.heap.size ≤ gb385)); have n6_ := Aside0.mk ((by rw [hg]; exact (below_size (by repeat (first | (with_reducible first | exact HB.out | apply below_alloc | apply pw_below_drewN | apply below_drew1 | refine below_set ?_ GE374.out) | exact HB.out))) : w.heap.size ≤ gb385)); have n7_ := Aside0.mk ((by rw [hg]; exact Nat.ne_of_lt (blk_lt (g := gb374) (o := .cells #[.int .i64 0, .string (⟨#[]⟩ : ByteArray), .slice none 0 0, .slice none 0 0] 25 (0, 0)) (by (with_reducible repeat (first | refine blk_drewN ?_ _ | refine blk_drew ?_ | refine blk_alloc ?_ _)); exact BK374.out)) : gb374 ≠ gb385)); have n8_ := Aside0.mk ((by rw [hg]; exact Nat.ne_of_gt (blk_lt (g := gb374) (o := .cells #[.int .i64 0, .string (⟨#[]⟩ : ByteArray), .slice none 0 0, .slice none 0 0] 25 (0, 0)) (by (with_reducible repeat (first | refine blk_drewN ?_ _ | refine blk_drew ?_ | refine blk_alloc ?_ _)); exact BK374.out)) : gb385 ≠ gb374)); clear HO380; clear HO383; clear BK374; clear HB; have HO380 := n0_; have HO383 := n1_; have BK374 := n2_; have HB := n3_; have BK385 := n4_; have GW385 := n5_; have GE385 := n6_; have NB374_385 := n7_; have NB385_374 := n8_; clear n0_ n1_ n2_ n3_ n4_ n5_ n6_ n7_ n8_; clear hb hbox hg; have hnb19 := NB385_374.out; have hnc19 := NB374_385.out; have hcz20_0 : w18.cell? ⟨gb385, 0, none⟩ = some (.int .i64 0) := (blk_cell BK385.out 0).trans rfl; have hcz20_1 : w18.cell? ⟨gb385, 1, none⟩ = some (.int .i64 0) := (blk_cell BK385.out 1).trans rfl; have hcz20_2 : w18.cell? ⟨gb385, 2, none⟩ = some (.int .i64 0) := (blk_cell BK385.out 2).trans rfl; have hcz20_3 : w18.cell? ⟨gb385, 3, none⟩ = some (.slice none 0 0) := (blk_cell BK385.out 3).trans rfl; have hcz20_4 : w18.cell? ⟨gb385, 4, none⟩ = some (.slice none 0 0) := (blk_cell BK385.out 4).trans rfl; have hfz20_0 := blk_frozen BK385.out 0; have hfz20_1 := blk_frozen BK385.out 1; have hfz20_2 := blk_frozen BK385.out 2; have hfz20_3 := blk_frozen BK385.out 3; have hfz20_4 := blk_frozen BK385.out 4; obtain ⟨Ao21, co21, eo21⟩ := Kd.R_slice HO380.out; subst eo21; obtain ⟨Ao22, co22, eo22⟩ := Kd.R_slice HO383.out; subst eo22; have hcz23_0 : w18.cell? ⟨gb374, 0, none⟩ = some (.int .i64 0) := (blk_cell BK374.out 0).trans rfl; have hcz23_1 : w18.cell? ⟨gb374, 1, none⟩ = some (.string (⟨#[]⟩ : ByteArray)) := (blk_cell BK374.out 1).trans rfl; have hcz23_2 : w18.cell? ⟨gb374, 2, none⟩ = some (.slice none 0 0) := (blk_cell BK374.out 2).trans rfl; have hcz23_3 : w18.cell? ⟨gb374, 3, none⟩ = some (.slice none 0 0) := (blk_cell BK374.out 3).trans rfl; have hfz23_0 := blk_frozen BK374.out 0; have hfz23_1 := blk_frozen BK374.out 1; have hfz23_2 := blk_frozen BK374.out 2; have hfz23_3 := blk_frozen BK374.out 3))
  refine bodyPost_ret (results_ct rfl _ _ gb374 25 #[.int .i64 0, .string (⟨#[]⟩ : ByteArray), .slice none 0 0, .slice none 0 0] (0, 0) _ rfl (by (with_reducible repeat (first | refine blk_drewN ?_ _ | refine blk_drew ?_ | refine blk_alloc ?_ _)); refine blk_put (cs := #[.int .i64 0, .string (⟨#[]⟩ : ByteArray), .slice none 0 0, .slice none 0 0]) ?_ 3 _ rfl; (with_reducible repeat (first | refine blk_drewN ?_ _ | refine blk_drew ?_ | refine blk_alloc ?_ _)); refine blk_put (cs := #[.int .i64 0, .string (⟨#[]⟩ : ByteArray), .slice none 0 0, .slice none 0 0]) ?_ 2 _ rfl; (with_reducible repeat (first | refine blk_drewN ?_ _ | refine blk_drew ?_ | refine blk_alloc ?_ _)); refine blk_put (cs := #[.int .i64 0, .string (⟨#[]⟩ : ByteArray), .slice none 0 0, .slice none 0 0]) ?_ 1 _ rfl; (with_reducible repeat (first | refine blk_drewN ?_ _ | refine blk_drew ?_ | refine blk_alloc ?_ _)); refine blk_put (cs := #[.int .i64 0, .string (⟨#[]⟩ : ByteArray), .slice none 0 0, .slice none 0 0]) ?_ 0 _ rfl; (with_reducible repeat (first | refine blk_drewN ?_ _ | refine blk_drew ?_ | refine blk_alloc ?_ _)); refine blk_far ?_ NB374_385.out _; (with_reducible repeat (first | refine blk_drewN ?_ _ | refine blk_drew ?_ | refine blk_alloc ?_ _)); refine blk_far ?_ NB374_385.out _; (with_reducible repeat (first | refine blk_drewN ?_ _ | refine blk_drew ?_ | refine blk_alloc ?_ _)); refine blk_far ?_ NB374_385.out _; (with_reducible repeat (first | refine blk_drewN ?_ _ | refine blk_drew ?_ | refine blk_alloc ?_ _)); refine blk_far ?_ NB374_385.out _; (with_reducible repeat (first | refine blk_drewN ?_ _ | refine blk_drew ?_ | refine blk_alloc ?_ _)); refine blk_far ?_ NB374_385.out _; (with_reducible repeat (first | refine blk_drewN ?_ _ | refine blk_drew ?_ | refine blk_alloc ?_ _)); exact BK374.out) Tryz.underlying25 rfl (by kernel_rfl)) rfl ?_
  exact ⟨_, _, by first | rfl | (simp [errW_none, errW_some] <;> rfl) | (simp [*, errW_none, errW_some] <;> rfl), by first | exact Kd.R_nil _ _ _ _ _ | exact Kd.N_nil _ _ _ _ _ | exact Kd.V_nil _ _ _ _ _ | exact Kd.Q_nil _ _ _ _ _ | exact Kd.S_nil _ _ _ _ _, by first | exact Kd.R_nil _ _ _ _ _ | exact Kd.N_nil _ _ _ _ _ | exact Kd.V_nil _ _ _ _ _ | exact Kd.Q_nil _ _ _ _ _ | exact Kd.S_nil _ _ _ _ _, by repeat (first | (with_reducible first | exact HB.out | apply below_alloc | apply pw_below_drewN | apply below_drew1 | refine below_set ?_ GE374.out | refine below_set ?_ GE385.out) | exact HB.out)⟩
end Go.Proofs.YtpgfjbimodnkeaaGreatDoor.Q
namespace Go.Proofs.YtpgfjbimodnkeaaGreatDoor.Q
open Go.RowKit Go.Proofs.YtpgfjbimodnkeaaGreatDoorW.PrintWords Go.Proofs.YtpgfjbimodnkeaaGreatDoorW.PrintLast Go.Proofs.YtpgfjbimodnkeaaGreatDoorW.PrintMore
attribute [local go_sem] max2_int min2_int max_two min_two max_three min_three max_four min_four
set_option linter.unusedVariables false
set_option linter.unusedSimpArgs false
def laws_gjText.f (k : Nat) (a0 : ByteArray) : Option (Int × ByteArray × List ByteArray × (List (S25)) × Bool) := if (a0.size : Int) > 65536 then (some (0, (⟨#[]⟩ : ByteArray), ([] : List ByteArray), ([] : List (S25)), false)) else ((spec_UTF8.f k a0).bind fun t395 => (if t395 = true then ((spec_Paired.f k a0).bind fun t396 => (if t396 = true then ((spec_Read.f k a0).bind fun bt397 => (some (bt397.1, bt397.2.1, bt397.2.2.1, bt397.2.2.2.1, bt397.2.2.2.2))) else (some (0, (⟨#[]⟩ : ByteArray), ([] : List ByteArray), ([] : List (S25)), false)))) else (some (0, (⟨#[]⟩ : ByteArray), ([] : List ByteArray), ([] : List (S25)), false))))
theorem laws_gjText.mono : ∀ a0 k, LeO (laws_gjText.f k a0) (laws_gjText.f (k + 1) a0) := by
 intro a0 k
 unfold laws_gjText.f
 repeat' first
  | (with_reducible exact spec_Paired.mono _ _)
  | (with_reducible exact spec_Read.mono _ _)
  | (with_reducible exact spec_UTF8.mono _ _)
  | (with_reducible exact LeO.refl _)
  | (with_reducible exact LeO.none _)
  | (with_reducible refine LeO.ite ?_ ?_)
  | (with_reducible refine LeO.bind ?_ (fun _ => ?_))
  | exact spec_Paired.mono _ _
  | exact spec_Read.mono _ _
  | exact spec_UTF8.mono _ _
  | exact LeO.none _
  | refine LeO.ite ?_ ?_
  | refine LeO.bind ?_ (fun _ => ?_)
set_option maxHeartbeats 8000000 in
set_option maxRecDepth 100000 in
theorem laws_gjText.calls (k : Nat) (a0 : ByteArray) (r1 : Int) (r2 : ByteArray) (r3 : List ByteArray) (r4 : List (S25)) (r5 : Bool) (w : World) (h : laws_gjText.f k a0 = some (r1, r2, r3, r4, r5)) :
 Calls Tryz.prog 8 #[.string a0] w fun e w' => ∃ v2_ v3_ : Value, e = .returned (.tuple #[.agg #[.int .i64 r1, .string r2, v2_, v3_], .bool r5]) ∧ Kd.R Kd.string 9 w' w.heap.size (fun _ => True) v2_ r3 ∧ Kd.R k25 25 w' w.heap.size (fun k_ => some k_ ≠ (v2_ : Value).ownBlock) v3_ r4 ∧ Below w.heap.size w w' := by
 have hu25 := Tryz.underlying25
 have HB := Aside0.mk (Below.refl w.heap.size w)
 have H : (if (a0.size : Int) > 65536 then (some (0, (⟨#[]⟩ : ByteArray), ([] : List ByteArray), ([] : List (S25)), false)) else ((spec_UTF8.f k a0).bind fun t395 => (if t395 = true then ((spec_Paired.f k a0).bind fun t396 => (if t396 = true then ((spec_Read.f k a0).bind fun bt397 => (some (bt397.1, bt397.2.1, bt397.2.2.1, bt397.2.2.2.1, bt397.2.2.2.2))) else (some (0, (⟨#[]⟩ : ByteArray), ([] : List ByteArray), ([] : List (S25)), false)))) else (some (0, (⟨#[]⟩ : ByteArray), ([] : List ByteArray), ([] : List (S25)), false))))) = some (r1, r2, r3, r4, r5) := h
 clear h
 by_cases c2 : (a0.size : Int) > 65536
 ·rw [if_pos c2] at H
  have c2b0 : decide (65536 < (a0.size : Int)) = true := decide_eq_true c2
  have c2b1 : decide (65536 < a0.size) = true := decide_eq_true (by omega)
  clear c2
  simp only [Option.some.injEq, Prod.mk.injEq] at H
  obtain ⟨rfl, rfl, rfl, rfl, rfl⟩ := H
  go_enter Tryz.func8, Tryz.ntmps8
  go_wp2_with (first | ((with_reducible refine gate_dst (N := 2) rfl ?_); refine box_event ?hg (N := 2) ?hd (cs := #[.int .i64 0, .string (⟨#[]⟩ : ByteArray), .slice none 0 0, .slice none 0 0]) (t := 25) ?hr ?_; (case hd => rfl); (case hg => rfl); (case hr => first | (go_simp; done) | (go_simp; rfl)); intro gb394 hg w3 hbox hb; have n0_ := Aside0.mk (below_step (by repeat (first | (with_reducible first | exact HB.out | apply below_alloc | apply pw_below_drewN | apply below_drew1) | exact HB.out)) hb); have n1_ := Aside0.mk (hbox); have n2_ := Aside0.mk ((by rw [hg]; exact (below_size (by repeat (first | (with_reducible first | exact HB.out | apply below_alloc | apply pw_below_drewN | apply below_drew1) | exact HB.out))) : w.heap.size ≤ gb394)); have n3_ := Aside0.mk ((by rw [hg]; exact (below_size (by repeat (first | (with_reducible first | exact HB.out | apply below_alloc | apply pw_below_drewN | apply below_drew1) | exact HB.out))) : w.heap.size ≤ gb394)); clear HB; have HB := n0_; have BK394 := n1_; have GW394 := n2_; have GE394 := n3_; clear n0_ n1_ n2_ n3_; clear hb hbox hg; have hcz4_0 : w3.cell? ⟨gb394, 0, none⟩ = some (.int .i64 0) := (blk_cell BK394.out 0).trans rfl; have hcz4_1 : w3.cell? ⟨gb394, 1, none⟩ = some (.string (⟨#[]⟩ : ByteArray)) := (blk_cell BK394.out 1).trans rfl; have hcz4_2 : w3.cell? ⟨gb394, 2, none⟩ = some (.slice none 0 0) := (blk_cell BK394.out 2).trans rfl; have hcz4_3 : w3.cell? ⟨gb394, 3, none⟩ = some (.slice none 0 0) := (blk_cell BK394.out 3).trans rfl; have hfz4_0 := blk_frozen BK394.out 0; have hfz4_1 := blk_frozen BK394.out 1; have hfz4_2 := blk_frozen BK394.out 2; have hfz4_3 := blk_frozen BK394.out 3))
  refine bodyPost_ret (results_ct rfl _ _ gb394 25 #[.int .i64 0, .string (⟨#[]⟩ : ByteArray), .slice none 0 0, .slice none 0 0] (0, 0) _ rfl (by (with_reducible repeat (first | refine blk_drewN ?_ _ | refine blk_drew ?_ | refine blk_alloc ?_ _)); refine blk_put (cs := #[.int .i64 0, .string (⟨#[]⟩ : ByteArray), .slice none 0 0, .slice none 0 0]) ?_ 3 _ rfl; (with_reducible repeat (first | refine blk_drewN ?_ _ | refine blk_drew ?_ | refine blk_alloc ?_ _)); refine blk_put (cs := #[.int .i64 0, .string (⟨#[]⟩ : ByteArray), .slice none 0 0, .slice none 0 0]) ?_ 2 _ rfl; (with_reducible repeat (first | refine blk_drewN ?_ _ | refine blk_drew ?_ | refine blk_alloc ?_ _)); refine blk_put (cs := #[.int .i64 0, .string (⟨#[]⟩ : ByteArray), .slice none 0 0, .slice none 0 0]) ?_ 1 _ rfl; (with_reducible repeat (first | refine blk_drewN ?_ _ | refine blk_drew ?_ | refine blk_alloc ?_ _)); refine blk_put (cs := #[.int .i64 0, .string (⟨#[]⟩ : ByteArray), .slice none 0 0, .slice none 0 0]) ?_ 0 _ rfl; (with_reducible repeat (first | refine blk_drewN ?_ _ | refine blk_drew ?_ | refine blk_alloc ?_ _)); exact BK394.out) Tryz.underlying25 rfl (by kernel_rfl)) rfl ?_
  exact ⟨_, _, by first | rfl | (simp [errW_none, errW_some] <;> rfl) | (simp [*, errW_none, errW_some] <;> rfl), by first | exact Kd.R_nil _ _ _ _ _ | exact Kd.N_nil _ _ _ _ _ | exact Kd.V_nil _ _ _ _ _ | exact Kd.Q_nil _ _ _ _ _ | exact Kd.S_nil _ _ _ _ _, by first | exact Kd.R_nil _ _ _ _ _ | exact Kd.N_nil _ _ _ _ _ | exact Kd.V_nil _ _ _ _ _ | exact Kd.Q_nil _ _ _ _ _ | exact Kd.S_nil _ _ _ _ _, by repeat (first | (with_reducible first | exact HB.out | apply below_alloc | apply pw_below_drewN | apply below_drew1 | refine below_set ?_ GE394.out) | exact HB.out)⟩
 ·rw [if_neg c2] at H
  have c2b0 : decide (65536 < (a0.size : Int)) = false := decide_eq_false c2
  have c2b1 : decide (65536 < a0.size) = false := decide_eq_false (by omega)
  clear c2
  replace H := Option.bind_eq_some_iff.mp H
  obtain ⟨t395, A50, H⟩ := H
  replace H : (if t395 = true then ((spec_Paired.f k a0).bind fun t396 => (if t396 = true then ((spec_Read.f k a0).bind fun bt397 => (some (bt397.1, bt397.2.1, bt397.2.2.1, bt397.2.2.2.1, bt397.2.2.2.2))) else (some (0, (⟨#[]⟩ : ByteArray), ([] : List ByteArray), ([] : List (S25)), false)))) else (some (0, (⟨#[]⟩ : ByteArray), ([] : List ByteArray), ([] : List (S25)), false))) = some (r1, r2, r3, r4, r5) := H
  have A5 := Aside0.mk A50
  clear A50
  by_cases c6 : t395 = true
  ·subst c6
   have H1 : ((spec_Paired.f k a0).bind fun t396 => (if t396 = true then ((spec_Read.f k a0).bind fun bt397 => (some (bt397.1, bt397.2.1, bt397.2.2.1, bt397.2.2.2.1, bt397.2.2.2.2))) else (some (0, (⟨#[]⟩ : ByteArray), ([] : List ByteArray), ([] : List (S25)), false)))) = some (r1, r2, r3, r4, r5) := by rw [if_pos rfl] at H; exact H
   clear H
   have H := H1
   clear H1
   replace H := Option.bind_eq_some_iff.mp H
   obtain ⟨t396, A70, H⟩ := H
   replace H : (if t396 = true then ((spec_Read.f k a0).bind fun bt397 => (some (bt397.1, bt397.2.1, bt397.2.2.1, bt397.2.2.2.1, bt397.2.2.2.2))) else (some (0, (⟨#[]⟩ : ByteArray), ([] : List ByteArray), ([] : List (S25)), false))) = some (r1, r2, r3, r4, r5) := H
   have A7 := Aside0.mk A70
   clear A70
   by_cases c8 : t396 = true
   ·subst c8
    have H1 : ((spec_Read.f k a0).bind fun bt397 => (some (bt397.1, bt397.2.1, bt397.2.2.1, bt397.2.2.2.1, bt397.2.2.2.2))) = some (r1, r2, r3, r4, r5) := by rw [if_pos rfl] at H; exact H
    clear H
    have H := H1
    clear H1
    replace H := Option.bind_eq_some_iff.mp H
    obtain ⟨⟨t397, t398, t399, t402, t405⟩, A90, H⟩ := H
    replace H : (some (t397, t398, t399, t402, t405)) = some (r1, r2, r3, r4, r5) := H
    have A9 := Aside0.mk A90
    clear A90
    simp only [Option.some.injEq, Prod.mk.injEq] at H
    obtain ⟨rfl, rfl, rfl, rfl, rfl⟩ := H
    go_enter Tryz.func8, Tryz.ntmps8
    go_wp2_with (first | ((with_reducible refine gate_dst (N := 2) rfl ?_); refine box_event ?hg (N := 2) ?hd (cs := #[.int .i64 0, .string (⟨#[]⟩ : ByteArray), .slice none 0 0, .slice none 0 0]) (t := 25) ?hr ?_; (case hd => rfl); (case hg => rfl); (case hr => first | (go_simp; done) | (go_simp; rfl)); intro gb394 hg w10 hbox hb; have n0_ := Aside0.mk (below_step (by repeat (first | (with_reducible first | exact HB.out | apply below_alloc | apply pw_below_drewN | apply below_drew1) | exact HB.out)) hb); have n1_ := Aside0.mk (hbox); have n2_ := Aside0.mk ((by rw [hg]; exact (below_size (by repeat (first | (with_reducible first | exact HB.out | apply below_alloc | apply pw_below_drewN | apply below_drew1) | exact HB.out))) : w.heap.size ≤ gb394)); have n3_ := Aside0.mk ((by rw [hg]; exact (below_size (by repeat (first | (with_reducible first | exact HB.out | apply below_alloc | apply pw_below_drewN | apply below_drew1) | exact HB.out))) : w.heap.size ≤ gb394)); clear HB; have HB := n0_; have BK394 := n1_; have GW394 := n2_; have GE394 := n3_; clear n0_ n1_ n2_ n3_; clear hb hbox hg) | (go_at_call 26; (with_reducible refine (spec_UTF8.calls k a0 true _ A5.out).mono ?_); rintro e w' ⟨rfl, ⟨nd, rfl⟩⟩; (try (rw [drewN_self w10]; generalize hq_ : World.drewN w10 _ = w10; have n0_ : Aside0 (w10.heap[gb394]? = some (.cells #[.int .i64 0, .string (⟨#[]⟩ : ByteArray), .slice none 0 0, .slice none 0 0] 25 (0, 0))) := ⟨by rw [← hq_]; exact (by (with_reducible repeat (first | refine blk_drewN ?_ _ | refine blk_drew ?_ | refine blk_alloc ?_ _)); exact BK394.out)⟩; have n1_ : Aside0 (Below w.heap.size w w10) := ⟨by rw [← hq_]; exact (by repeat (first | (with_reducible first | exact HB.out | apply below_alloc | apply pw_below_drewN | apply below_drew1 | refine below_set ?_ GE394.out) | exact HB.out))⟩; clear BK394 HB hq_; have BK394 := n0_; have HB := n1_; clear n0_ n1_))) | (go_at_call 27; (with_reducible refine (spec_Paired.calls k a0 true _ A7.out).mono ?_); rintro e w' ⟨rfl, ⟨nd, rfl⟩⟩; (try (rw [drewN_self w10]; generalize hq_ : World.drewN w10 _ = w10; have n0_ : Aside0 (w10.heap[gb394]? = some (.cells #[.int .i64 0, .string (⟨#[]⟩ : ByteArray), .slice none 0 0, .slice none 0 0] 25 (0, 0))) := ⟨by rw [← hq_]; exact (by (with_reducible repeat (first | refine blk_drewN ?_ _ | refine blk_drew ?_ | refine blk_alloc ?_ _)); exact BK394.out)⟩; have n1_ : Aside0 (Below w.heap.size w w10) := ⟨by rw [← hq_]; exact (by repeat (first | (with_reducible first | exact HB.out | apply below_alloc | apply pw_below_drewN | apply below_drew1 | refine below_set ?_ GE394.out) | exact HB.out))⟩; clear BK394 HB hq_; have BK394 := n0_; have HB := n1_; clear n0_ n1_))) | ((with_reducible refine gate_callee (f := 28) rfl ?_); refine goesL_ (some 19) rfl rfl Tryz.func28 (by kernel_rfl) rfl #[.string a0] rfl (by (try simp only [List.map_toArray, List.map_cons, List.map_nil]); first | done | rfl | (simp only [List.length_drop, List.length_take]; rfl)) ?_; (with_reducible refine (spec_Read.calls k a0 t397 t398 t399 t402 t405 _ A9.out).mono ?_); rintro e w11 ⟨v400, v403, rfl, ho0, ho1, hb⟩; refine ⟨_, rfl, ?_⟩; have n0_ := Aside0.mk (Kd.R_lower ho0 (below_size (by repeat (first | (with_reducible first | exact HB.out | apply below_alloc | apply pw_below_drewN | apply below_drew1 | refine below_set ?_ GE394.out) | exact HB.out)))); have n1_ := Aside0.mk (Kd.R_lower (Kd.R_newB ho1 (g := gb394) (o := .cells #[.int .i64 0, .string (⟨#[]⟩ : ByteArray), .slice none 0 0, .slice none 0 0] 25 (0, 0)) (by (with_reducible repeat (first | refine blk_drewN ?_ _ | refine blk_drew ?_ | refine blk_alloc ?_ _)); exact BK394.out)) (below_size (by repeat (first | (with_reducible first | exact HB.out | apply below_alloc | apply pw_below_drewN | apply below_drew1 | refine below_set ?_ GE394.out) | exact HB.out)))); have n2_ := Aside0.mk (blk_below (g := gb394) (o := .cells #[.int .i64 0, .string (⟨#[]⟩ : ByteArray), .slice none 0 0, .slice none 0 0] 25 (0, 0)) (by (with_reducible repeat (first | refine blk_drewN ?_ _ | refine blk_drew ?_ | refine blk_alloc ?_ _)); exact BK394.out) hb); have n3_ := Aside0.mk (below_step (by repeat (first | (with_reducible first | exact HB.out | apply below_alloc | apply pw_below_drewN | apply below_drew1 | refine below_set ?_ GE394.out) | exact HB.out)) hb); clear BK394; clear HB; have HO401 := n0_; have HO404 := n1_; have BK394 := n2_; have HB := n3_; clear n0_ n1_ n2_ n3_; (try clear hb); (try clear hb2); (try clear hk); (try clear hi); (try clear ho0); (try clear ho1); have hcz12_0 : w11.cell? ⟨gb394, 0, none⟩ = some (.int .i64 0) := (blk_cell BK394.out 0).trans rfl; have hcz12_1 : w11.cell? ⟨gb394, 1, none⟩ = some (.string (⟨#[]⟩ : ByteArray)) := (blk_cell BK394.out 1).trans rfl; have hcz12_2 : w11.cell? ⟨gb394, 2, none⟩ = some (.slice none 0 0) := (blk_cell BK394.out 2).trans rfl; have hcz12_3 : w11.cell? ⟨gb394, 3, none⟩ = some (.slice none 0 0) := (blk_cell BK394.out 3).trans rfl; have hfz12_0 := blk_frozen BK394.out 0; have hfz12_1 := blk_frozen BK394.out 1; have hfz12_2 := blk_frozen BK394.out 2; have hfz12_3 := blk_frozen BK394.out 3; obtain ⟨Ao13, co13, eo13⟩ := Kd.R_slice HO401.out; subst eo13; obtain ⟨Ao14, co14, eo14⟩ := Kd.R_slice HO404.out; subst eo14))
    refine bodyPost_ret (results_ct rfl _ _ gb394 25 #[.int .i64 t397, .string t398, .slice Ao13 t399.length co13, .slice Ao14 t402.length co14] (0, 0) _ rfl (by (with_reducible repeat (first | refine blk_drewN ?_ _ | refine blk_drew ?_ | refine blk_alloc ?_ _)); refine blk_put (cs := #[.int .i64 t397, .string t398, .slice Ao13 t399.length co13, .slice none 0 0]) ?_ 3 _ rfl; (with_reducible repeat (first | refine blk_drewN ?_ _ | refine blk_drew ?_ | refine blk_alloc ?_ _)); refine blk_put (cs := #[.int .i64 t397, .string t398, .slice none 0 0, .slice none 0 0]) ?_ 2 _ rfl; (with_reducible repeat (first | refine blk_drewN ?_ _ | refine blk_drew ?_ | refine blk_alloc ?_ _)); refine blk_put (cs := #[.int .i64 t397, .string (⟨#[]⟩ : ByteArray), .slice none 0 0, .slice none 0 0]) ?_ 1 _ rfl; (with_reducible repeat (first | refine blk_drewN ?_ _ | refine blk_drew ?_ | refine blk_alloc ?_ _)); refine blk_put (cs := #[.int .i64 0, .string (⟨#[]⟩ : ByteArray), .slice none 0 0, .slice none 0 0]) ?_ 0 _ rfl; (with_reducible repeat (first | refine blk_drewN ?_ _ | refine blk_drew ?_ | refine blk_alloc ?_ _)); exact BK394.out) Tryz.underlying25 rfl (by kernel_rfl)) rfl ?_
    exact ⟨_, _, by first | rfl | (simp [errW_none, errW_some] <;> rfl) | (simp [*, errW_none, errW_some] <;> rfl), by (with_reducible repeat (first | apply Kd.R_alloc | apply Kd.R_drewN | apply Kd.R_drew)); exact Kd.R_mono (Kd.R_far (p := ⟨gb394, 3, none⟩) (Kd.R_far (p := ⟨gb394, 2, none⟩) (Kd.R_far (p := ⟨gb394, 1, none⟩) (Kd.R_far (p := ⟨gb394, 0, none⟩) (Kd.R_types HO401.out BK394.out (by decide)) (fun _ hk => hk.2) (.int .i64 t397)) (fun _ hk => hk.2) (.string t398)) (fun _ hk => hk.2) (.slice Ao13 t399.length co13)) (fun _ hk => hk.2) (.slice Ao14 t402.length co14)) (fun _ hk => trivial), by (with_reducible repeat (first | apply Kd.R_alloc | apply Kd.R_drewN | apply Kd.R_drew)); exact Kd.R_mono (Kd.R_far (p := ⟨gb394, 3, none⟩) (Kd.R_far (p := ⟨gb394, 2, none⟩) (Kd.R_far (p := ⟨gb394, 1, none⟩) (Kd.R_far (p := ⟨gb394, 0, none⟩) (Kd.R_mono HO404.out (fun k_ hk => (⟨hk, hk.2⟩ : _ ∧ k_ ≠ gb394))) (fun _ hk => hk.2) (.int .i64 t397)) (fun _ hk => hk.2) (.string t398)) (fun _ hk => hk.2) (.slice Ao13 t399.length co13)) (fun _ hk => hk.2) (.slice Ao14 t402.length co14)) (fun _ hk => hk.1.1), by repeat (first | (with_reducible first | exact HB.out | apply below_alloc | apply pw_below_drewN | apply below_drew1 | refine below_set ?_ GE394.out) | exact HB.out)⟩
   ·replace c8 := Bool.eq_false_iff.mpr c8
    subst c8
    have H1 : (some (0, (⟨#[]⟩ : ByteArray), ([] : List ByteArray), ([] : List (S25)), false)) = some (r1, r2, r3, r4, r5) := by rw [if_neg (show ¬ (false = true) by decide)] at H; exact H
    clear H
    have H := H1
    clear H1
    simp only [Option.some.injEq, Prod.mk.injEq] at H
    obtain ⟨rfl, rfl, rfl, rfl, rfl⟩ := H
    go_enter Tryz.func8, Tryz.ntmps8
    go_wp2_with (first | ((with_reducible refine gate_dst (N := 2) rfl ?_); refine box_event ?hg (N := 2) ?hd (cs := #[.int .i64 0, .string (⟨#[]⟩ : ByteArray), .slice none 0 0, .slice none 0 0]) (t := 25) ?hr ?_; (case hd => rfl); (case hg => rfl); (case hr => first | (go_simp; done) | (go_simp; rfl)); intro gb394 hg w15 hbox hb; have n0_ := Aside0.mk (below_step (by repeat (first | (with_reducible first | exact HB.out | apply below_alloc | apply pw_below_drewN | apply below_drew1) | exact HB.out)) hb); have n1_ := Aside0.mk (hbox); have n2_ := Aside0.mk ((by rw [hg]; exact (below_size (by repeat (first | (with_reducible first | exact HB.out | apply below_alloc | apply pw_below_drewN | apply below_drew1) | exact HB.out))) : w.heap.size ≤ gb394)); have n3_ := Aside0.mk ((by rw [hg]; exact (below_size (by repeat (first | (with_reducible first | exact HB.out | apply below_alloc | apply pw_below_drewN | apply below_drew1) | exact HB.out))) : w.heap.size ≤ gb394)); clear HB; have HB := n0_; have BK394 := n1_; have GW394 := n2_; have GE394 := n3_; clear n0_ n1_ n2_ n3_; clear hb hbox hg) | (go_at_call 26; (with_reducible refine (spec_UTF8.calls k a0 true _ A5.out).mono ?_); rintro e w' ⟨rfl, ⟨nd, rfl⟩⟩; (try (rw [drewN_self w15]; generalize hq_ : World.drewN w15 _ = w15; have n0_ : Aside0 (w15.heap[gb394]? = some (.cells #[.int .i64 0, .string (⟨#[]⟩ : ByteArray), .slice none 0 0, .slice none 0 0] 25 (0, 0))) := ⟨by rw [← hq_]; exact (by (with_reducible repeat (first | refine blk_drewN ?_ _ | refine blk_drew ?_ | refine blk_alloc ?_ _)); exact BK394.out)⟩; have n1_ : Aside0 (Below w.heap.size w w15) := ⟨by rw [← hq_]; exact (by repeat (first | (with_reducible first | exact HB.out | apply below_alloc | apply pw_below_drewN | apply below_drew1 | refine below_set ?_ GE394.out) | exact HB.out))⟩; clear BK394 HB hq_; have BK394 := n0_; have HB := n1_; clear n0_ n1_))) | (go_at_call 27; (with_reducible refine (spec_Paired.calls k a0 false _ A7.out).mono ?_); rintro e w' ⟨rfl, ⟨nd, rfl⟩⟩; (try (rw [drewN_self w15]; generalize hq_ : World.drewN w15 _ = w15; have n0_ : Aside0 (w15.heap[gb394]? = some (.cells #[.int .i64 0, .string (⟨#[]⟩ : ByteArray), .slice none 0 0, .slice none 0 0] 25 (0, 0))) := ⟨by rw [← hq_]; exact (by (with_reducible repeat (first | refine blk_drewN ?_ _ | refine blk_drew ?_ | refine blk_alloc ?_ _)); exact BK394.out)⟩; have n1_ : Aside0 (Below w.heap.size w w15) := ⟨by rw [← hq_]; exact (by repeat (first | (with_reducible first | exact HB.out | apply below_alloc | apply pw_below_drewN | apply below_drew1 | refine below_set ?_ GE394.out) | exact HB.out))⟩; clear BK394 HB hq_; have BK394 := n0_; have HB := n1_; clear n0_ n1_)); have hcz16_0 : w15.cell? ⟨gb394, 0, none⟩ = some (.int .i64 0) := (blk_cell BK394.out 0).trans rfl; have hcz16_1 : w15.cell? ⟨gb394, 1, none⟩ = some (.string (⟨#[]⟩ : ByteArray)) := (blk_cell BK394.out 1).trans rfl; have hcz16_2 : w15.cell? ⟨gb394, 2, none⟩ = some (.slice none 0 0) := (blk_cell BK394.out 2).trans rfl; have hcz16_3 : w15.cell? ⟨gb394, 3, none⟩ = some (.slice none 0 0) := (blk_cell BK394.out 3).trans rfl; have hfz16_0 := blk_frozen BK394.out 0; have hfz16_1 := blk_frozen BK394.out 1; have hfz16_2 := blk_frozen BK394.out 2; have hfz16_3 := blk_frozen BK394.out 3))
    refine bodyPost_ret (results_ct rfl _ _ gb394 25 #[.int .i64 0, .string (⟨#[]⟩ : ByteArray), .slice none 0 0, .slice none 0 0] (0, 0) _ rfl (by (with_reducible repeat (first | refine blk_drewN ?_ _ | refine blk_drew ?_ | refine blk_alloc ?_ _)); refine blk_put (cs := #[.int .i64 0, .string (⟨#[]⟩ : ByteArray), .slice none 0 0, .slice none 0 0]) ?_ 3 _ rfl; (with_reducible repeat (first | refine blk_drewN ?_ _ | refine blk_drew ?_ | refine blk_alloc ?_ _)); refine blk_put (cs := #[.int .i64 0, .string (⟨#[]⟩ : ByteArray), .slice none 0 0, .slice none 0 0]) ?_ 2 _ rfl; (with_reducible repeat (first | refine blk_drewN ?_ _ | refine blk_drew ?_ | refine blk_alloc ?_ _)); refine blk_put (cs := #[.int .i64 0, .string (⟨#[]⟩ : ByteArray), .slice none 0 0, .slice none 0 0]) ?_ 1 _ rfl; (with_reducible repeat (first | refine blk_drewN ?_ _ | refine blk_drew ?_ | refine blk_alloc ?_ _)); refine blk_put (cs := #[.int .i64 0, .string (⟨#[]⟩ : ByteArray), .slice none 0 0, .slice none 0 0]) ?_ 0 _ rfl; (with_reducible repeat (first | refine blk_drewN ?_ _ | refine blk_drew ?_ | refine blk_alloc ?_ _)); exact BK394.out) Tryz.underlying25 rfl (by kernel_rfl)) rfl ?_
    exact ⟨_, _, by first | rfl | (simp [errW_none, errW_some] <;> rfl) | (simp [*, errW_none, errW_some] <;> rfl), by first | exact Kd.R_nil _ _ _ _ _ | exact Kd.N_nil _ _ _ _ _ | exact Kd.V_nil _ _ _ _ _ | exact Kd.Q_nil _ _ _ _ _ | exact Kd.S_nil _ _ _ _ _, by first | exact Kd.R_nil _ _ _ _ _ | exact Kd.N_nil _ _ _ _ _ | exact Kd.V_nil _ _ _ _ _ | exact Kd.Q_nil _ _ _ _ _ | exact Kd.S_nil _ _ _ _ _, by repeat (first | (with_reducible first | exact HB.out | apply below_alloc | apply pw_below_drewN | apply below_drew1 | refine below_set ?_ GE394.out) | exact HB.out)⟩
  ·replace c6 := Bool.eq_false_iff.mpr c6
   subst c6
   have H1 : (some (0, (⟨#[]⟩ : ByteArray), ([] : List ByteArray), ([] : List (S25)), false)) = some (r1, r2, r3, r4, r5) := by rw [if_neg (show ¬ (false = true) by decide)] at H; exact H
   clear H
   have H := H1
   clear H1
   simp only [Option.some.injEq, Prod.mk.injEq] at H
   obtain ⟨rfl, rfl, rfl, rfl, rfl⟩ := H
   go_enter Tryz.func8, Tryz.ntmps8
   go_wp2_with (first | ((with_reducible refine gate_dst (N := 2) rfl ?_); refine box_event ?hg (N := 2) ?hd (cs := #[.int .i64 0, .string (⟨#[]⟩ : ByteArray), .slice none 0 0, .slice none 0 0]) (t := 25) ?hr ?_; (case hd => rfl); (case hg => rfl); (case hr => first | (go_simp; done) | (go_simp; rfl)); intro gb394 hg w17 hbox hb; have n0_ := Aside0.mk (below_step (by repeat (first | (with_reducible first | exact HB.out | apply below_alloc | apply pw_below_drewN | apply below_drew1) | exact HB.out)) hb); have n1_ := Aside0.mk (hbox); have n2_ := Aside0.mk ((by rw [hg]; exact (below_size (by repeat (first | (with_reducible first | exact HB.out | apply below_alloc | apply pw_below_drewN | apply below_drew1) | exact HB.out))) : w.heap.size ≤ gb394)); have n3_ := Aside0.mk ((by rw [hg]; exact (below_size (by repeat (first | (with_reducible first | exact HB.out | apply below_alloc | apply pw_below_drewN | apply below_drew1) | exact HB.out))) : w.heap.size ≤ gb394)); clear HB; have HB := n0_; have BK394 := n1_; have GW394 := n2_; have GE394 := n3_; clear n0_ n1_ n2_ n3_; clear hb hbox hg) | (go_at_call 26; (with_reducible refine (spec_UTF8.calls k a0 false _ A5.out).mono ?_); rintro e w' ⟨rfl, ⟨nd, rfl⟩⟩; (try (rw [drewN_self w17]; generalize hq_ : World.drewN w17 _ = w17; have n0_ : Aside0 (w17.heap[gb394]? = some (.cells #[.int .i64 0, .string (⟨#[]⟩ : ByteArray), .slice none 0 0, .slice none 0 0] 25 (0, 0))) := ⟨by rw [← hq_]; exact (by (with_reducible repeat (first | refine blk_drewN ?_ _ | refine blk_drew ?_ | refine blk_alloc ?_ _)); exact BK394.out)⟩; have n1_ : Aside0 (Below w.heap.size w w17) := ⟨by rw [← hq_]; exact (by repeat (first | (with_reducible first | exact HB.out | apply below_alloc | apply pw_below_drewN | apply below_drew1 | refine below_set ?_ GE394.out) | exact HB.out))⟩; clear BK394 HB hq_; have BK394 := n0_; have HB := n1_; clear n0_ n1_)); have hcz18_0 : w17.cell? ⟨gb394, 0, none⟩ = some (.int .i64 0) := (blk_cell BK394.out 0).trans rfl; have hcz18_1 : w17.cell? ⟨gb394, 1, none⟩ = some (.string (⟨#[]⟩ : ByteArray)) := (blk_cell BK394.out 1).trans rfl; have hcz18_2 : w17.cell? ⟨gb394, 2, none⟩ = some (.slice none 0 0) := (blk_cell BK394.out 2).trans rfl; have hcz18_3 : w17.cell? ⟨gb394, 3, none⟩ = some (.slice none 0 0) := (blk_cell BK394.out 3).trans rfl; have hfz18_0 := blk_frozen BK394.out 0; have hfz18_1 := blk_frozen BK394.out 1; have hfz18_2 := blk_frozen BK394.out 2; have hfz18_3 := blk_frozen BK394.out 3))
   refine bodyPost_ret (results_ct rfl _ _ gb394 25 #[.int .i64 0, .string (⟨#[]⟩ : ByteArray), .slice none 0 0, .slice none 0 0] (0, 0) _ rfl (by (with_reducible repeat (first | refine blk_drewN ?_ _ | refine blk_drew ?_ | refine blk_alloc ?_ _)); refine blk_put (cs := #[.int .i64 0, .string (⟨#[]⟩ : ByteArray), .slice none 0 0, .slice none 0 0]) ?_ 3 _ rfl; (with_reducible repeat (first | refine blk_drewN ?_ _ | refine blk_drew ?_ | refine blk_alloc ?_ _)); refine blk_put (cs := #[.int .i64 0, .string (⟨#[]⟩ : ByteArray), .slice none 0 0, .slice none 0 0]) ?_ 2 _ rfl; (with_reducible repeat (first | refine blk_drewN ?_ _ | refine blk_drew ?_ | refine blk_alloc ?_ _)); refine blk_put (cs := #[.int .i64 0, .string (⟨#[]⟩ : ByteArray), .slice none 0 0, .slice none 0 0]) ?_ 1 _ rfl; (with_reducible repeat (first | refine blk_drewN ?_ _ | refine blk_drew ?_ | refine blk_alloc ?_ _)); refine blk_put (cs := #[.int .i64 0, .string (⟨#[]⟩ : ByteArray), .slice none 0 0, .slice none 0 0]) ?_ 0 _ rfl; (with_reducible repeat (first | refine blk_drewN ?_ _ | refine blk_drew ?_ | refine blk_alloc ?_ _)); exact BK394.out) Tryz.underlying25 rfl (by kernel_rfl)) rfl ?_
   exact ⟨_, _, by first | rfl | (simp [errW_none, errW_some] <;> rfl) | (simp [*, errW_none, errW_some] <;> rfl), by first | exact Kd.R_nil _ _ _ _ _ | exact Kd.N_nil _ _ _ _ _ | exact Kd.V_nil _ _ _ _ _ | exact Kd.Q_nil _ _ _ _ _ | exact Kd.S_nil _ _ _ _ _, by first | exact Kd.R_nil _ _ _ _ _ | exact Kd.N_nil _ _ _ _ _ | exact Kd.V_nil _ _ _ _ _ | exact Kd.Q_nil _ _ _ _ _ | exact Kd.S_nil _ _ _ _ _, by repeat (first | (with_reducible first | exact HB.out | apply below_alloc | apply pw_below_drewN | apply below_drew1 | refine below_set ?_ GE394.out) | exact HB.out)⟩
end Go.Proofs.YtpgfjbimodnkeaaGreatDoor.Q
set_option linter.unusedVariables false
set_option linter.unusedSimpArgs false
namespace Go.Proofs.YtpgfjbimodnkeaaGreatDoor.Scan
open Go Go.RowKit Go.Proofs.YtpgfjbimodnkeaaGreatDoorW.PrintWords Go.Proofs.YtpgfjbimodnkeaaGreatDoor.Q Go.Proofs.YtpgfjbimodnkeaaGreatDoor.Dec
theorem char_l0 (s : ByteArray) (hS : s.size ≤ 65536) (a more : Nat) (hm : more ≤ 3) (ha : a + more < s.size) (least : Int) (n : Nat) : ∀ (j : Nat) (c : Int), j + n = more + 1 → 1 ≤ j → 0 ≤ c → c < 64 ^ j →
 ∃ (r : Int) (z : Nat) (ok : Bool), Evt (fun k => spec_Character.l0 k s a c more least j) (r, (z : Int), ok) ∧ 1 ≤ z ∧ z ≤ 4 := by
 induction n with
 | zero =>
   intro j c hj h1 hc0 hc1
   have hp : (64 : Int) ^ j ≤ 16777216 := by
    have : j = 1 ∨ j = 2 ∨ j = 3 ∨ j = 4 := by omega
    rcases this with rfl | rfl | rfl | rfl <;> decide
   by_cases c0 : c < least
   ·refine ⟨65533, 1, false, Evt.succ ?_, by omega, by omega⟩
    simp only [spec_Character.l0]
    exact Evt.neg (by omega) (Evt.pos c0 (Evt.pure _))
   by_cases c1 : c > 1114111
   ·refine ⟨65533, 1, false, Evt.succ ?_, by omega, by omega⟩
    simp only [spec_Character.l0]
    exact Evt.neg (by omega) (Evt.neg c0 (Evt.pos c1 (Evt.pure _)))
   by_cases c2 : 55296 ≤ c ∧ c ≤ 56319
   ·refine ⟨65533, 1, false, Evt.succ ?_, by omega, by omega⟩
    simp only [spec_Character.l0]
    exact Evt.neg (by omega) (Evt.neg c0 (Evt.neg c1 (Evt.bind_of (high_f c) (Evt.pos (decide_eq_true c2) (Evt.pure _)))))
   by_cases c3 : 56320 ≤ c ∧ c ≤ 57343
   ·refine ⟨65533, 1, false, Evt.succ ?_, by omega, by omega⟩
    simp only [spec_Character.l0]
    exact Evt.neg (by omega) (Evt.neg c0 (Evt.neg c1 (Evt.bind_of (high_f c) (Evt.neg (by simp only [decide_eq_true_eq]; exact c2) (Evt.bind_of (low_f c) (Evt.pos (decide_eq_true c3) (Evt.pure _)))))))
   ·refine ⟨c, more + 1, true, Evt.succ ?_, by omega, by omega⟩
    simp only [spec_Character.l0]
    rw [wrap_nat (i := (more : Int) + 1) (more + 1) (by omega) (by omega)]
    exact Evt.neg (by omega) (Evt.neg c0 (Evt.neg c1 (Evt.bind_of (high_f c) (Evt.neg (by simp only [decide_eq_true_eq]; exact c2) (Evt.bind_of (low_f c) (Evt.neg (by simp only [decide_eq_true_eq]; exact c3) (Evt.pure _)))))))
 | succ n ih =>
   intro j c hj h1 hc0 hc1
   have hr := bt_range s ((a + j : Nat) : Int)
   have hp : (64 : Int) ^ j ≤ 262144 := by
    have : j = 1 ∨ j = 2 ∨ j = 3 := by omega
    rcases this with rfl | rfl | rfl <;> decide
   have w1 : wrap64 ((a : Int) + j) = ((a + j : Nat) : Int) := wrap_nat _ (by omega) (by omega)
   have w2 : wrap64 (bt s ((a + j : Nat) : Int)) = bt s ((a + j : Nat) : Int) := wrap_id (by omega) (by omega)
   by_cases c0 : bt s ((a + j : Nat) : Int) < 128
   ·refine ⟨65533, 1, false, Evt.succ ?_, by omega, by omega⟩
    simp only [spec_Character.l0]
    rw [w1, w2]
    exact Evt.pos (by omega) (Evt.pos (by omega) (Evt.pos (by omega) (Evt.pos c0 (Evt.pure _))))
   by_cases c1 : bt s ((a + j : Nat) : Int) > 191
   ·refine ⟨65533, 1, false, Evt.succ ?_, by omega, by omega⟩
    simp only [spec_Character.l0]
    rw [w1, w2]
    exact Evt.pos (by omega) (Evt.pos (by omega) (Evt.pos (by omega) (Evt.neg c0 (Evt.pos c1 (Evt.pure _)))))
   ·obtain ⟨r, z, ok, g1, g2, g3⟩ := ih (j + 1) (c * 64 + bt s ((a + j : Nat) : Int) - 128) (by omega) (by omega) (by omega) (by rw [Int.pow_succ]; omega)
    refine ⟨r, z, ok, Evt.succ ?_, g2, g3⟩
    simp only [spec_Character.l0]
    rw [w1, w2, wrap_id (i := c * 64) (by omega) (by omega), wrap_id (i := c * 64 + bt s ((a + j : Nat) : Int)) (by omega) (by omega), wrap_id (i := c * 64 + bt s ((a + j : Nat) : Int) - 128) (by omega) (by omega), wrap_nat (i := (j : Int) + 1) (j + 1) (by omega) (by omega)]
    exact Evt.pos (by omega) (Evt.pos (by omega) (Evt.pos (by omega) (Evt.neg c0 (Evt.neg c1 g1))))
theorem char_j2 (s : ByteArray) (hS : s.size ≤ 65536) (a more : Nat) (ha : a < s.size) (h1 : 1 ≤ more) (hm : more ≤ 3) (least c : Int) (hc0 : 0 ≤ c) (hc1 : c < 64) :
 ∃ (r : Int) (z : Nat) (ok : Bool), Evt (fun k => spec_Character.j2 k s a c more least) (r, (z : Int), ok) ∧ 1 ≤ z ∧ z ≤ 4 := by
 by_cases h : s.size - a ≤ more
 ·refine ⟨65533, 1, false, Evt.succ ?_, by omega, by omega⟩
  simp only [spec_Character.j2]
  rw [wrap_nat (i := (s.size : Int) - a) (s.size - a) (by omega) (by omega)]
  exact Evt.pos (by omega) (Evt.pure _)
 ·obtain ⟨r, z, ok, g1, g2, g3⟩ := char_l0 s hS a more hm (by omega) least more 1 c (by omega) (by omega) hc0 (by simpa using hc1)
  refine ⟨r, z, ok, Evt.succ ?_, g2, g3⟩
  simp only [spec_Character.j2]
  rw [wrap_nat (i := (s.size : Int) - a) (s.size - a) (by omega) (by omega)]
  exact Evt.neg (by omega) g1
theorem char_f (s : ByteArray) (hS : s.size ≤ 65536) (a : Nat) (ha : a < s.size) : ∃ (r : Int) (z : Nat) (ok : Bool), Evt (fun k => spec_Character.f k s a) (r, (z : Int), ok) ∧ 1 ≤ z ∧ z ≤ 4 := by
 have hr := bt_range s a
 have w : wrap64 (bt s a) = bt s a := wrap_id (by omega) (by omega)
 unfold spec_Character.f
 rw [w]
 by_cases c0 : bt s a < 128
 ·exact ⟨bt s a, 1, true, Evt.pos (by omega) (Evt.pos (by omega) (Evt.pos c0 (Evt.pure _))), by omega, by omega⟩
 have hj1 : ∀ b : Bool, b = decide (224 ≤ bt s a ∧ bt s a ≤ 239) → ∃ (r : Int) (z : Nat) (ok : Bool), Evt (fun k => spec_Character.j1 k s a (bt s a) b) (r, (z : Int), ok) ∧ 1 ≤ z ∧ z ≤ 4 := by
  intro b hb
  by_cases c2 : 224 ≤ bt s a ∧ bt s a ≤ 239
  ·obtain ⟨r, z, ok, g1, g2, g3⟩ := char_j2 s hS a 2 ha (by omega) (by omega) 2048 (bt s a - 224) (by omega) (by omega)
   refine ⟨r, z, ok, Evt.succ ?_, g2, g3⟩
   simp only [spec_Character.j1]
   rw [wrap_id (i := bt s a - 224) (by omega) (by omega)]
   exact Evt.pos (by rw [hb]; exact decide_eq_true c2) g1
  ·have hbf : ¬ (b = true) := by rw [hb, decide_eq_false c2]; decide
   by_cases c3 : 240 ≤ bt s a
   ·by_cases c4 : bt s a ≤ 244
    ·obtain ⟨r, z, ok, g1, g2, g3⟩ := char_j2 s hS a 3 ha (by omega) (by omega) 65536 (bt s a - 240) (by omega) (by omega)
     refine ⟨r, z, ok, Evt.succ ?_, g2, g3⟩
     simp only [spec_Character.j1]
     rw [wrap_id (i := bt s a - 240) (by omega) (by omega)]
     exact Evt.neg hbf (Evt.pos c3 (Evt.pos c4 g1))
    ·refine ⟨65533, 1, false, Evt.succ ?_, by omega, by omega⟩
     simp only [spec_Character.j1]
     exact Evt.neg hbf (Evt.pos c3 (Evt.neg c4 (Evt.pure _)))
   ·refine ⟨65533, 1, false, Evt.succ ?_, by omega, by omega⟩
    simp only [spec_Character.j1]
    exact Evt.neg hbf (Evt.neg c3 (Evt.pure _))
 have hj0 : ∀ b : Bool, b = decide (194 ≤ bt s a ∧ bt s a ≤ 223) → ∃ (r : Int) (z : Nat) (ok : Bool), Evt (fun k => spec_Character.j0 k s a (bt s a) b) (r, (z : Int), ok) ∧ 1 ≤ z ∧ z ≤ 4 := by
  intro b hb
  by_cases c2 : 194 ≤ bt s a ∧ bt s a ≤ 223
  ·obtain ⟨r, z, ok, g1, g2, g3⟩ := char_j2 s hS a 1 ha (by omega) (by omega) 128 (bt s a - 192) (by omega) (by omega)
   refine ⟨r, z, ok, Evt.succ ?_, g2, g3⟩
   simp only [spec_Character.j0]
   rw [wrap_id (i := bt s a - 192) (by omega) (by omega)]
   exact Evt.pos (by rw [hb]; exact decide_eq_true c2) g1
  ·have hbf : ¬ (b = true) := by rw [hb, decide_eq_false c2]; decide
   by_cases c3 : 224 ≤ bt s a
   ·obtain ⟨r, z, ok, g1, g2, g3⟩ := hj1 (decide (bt s a ≤ 239)) (by simp [c3])
    refine ⟨r, z, ok, Evt.succ ?_, g2, g3⟩
    simp only [spec_Character.j0]
    exact Evt.neg hbf (Evt.pos c3 g1)
   ·obtain ⟨r, z, ok, g1, g2, g3⟩ := hj1 false (by simp [c3])
    refine ⟨r, z, ok, Evt.succ ?_, g2, g3⟩
    simp only [spec_Character.j0]
    exact Evt.neg hbf (Evt.neg c3 g1)
 by_cases c1 : 194 ≤ bt s a
 ·obtain ⟨r, z, ok, g1, g2, g3⟩ := hj0 (decide (bt s a ≤ 223)) (by simp [c1])
  exact ⟨r, z, ok, Evt.pos (by omega) (Evt.pos (by omega) (Evt.neg c0 (Evt.pos c1 g1))), g2, g3⟩
 ·obtain ⟨r, z, ok, g1, g2, g3⟩ := hj0 false (by simp [c1])
  exact ⟨r, z, ok, Evt.pos (by omega) (Evt.pos (by omega) (Evt.neg c0 (Evt.neg c1 g1))), g2, g3⟩
theorem utf8_l0 (s : ByteArray) (hS : s.size ≤ 65536) (n : Nat) : ∀ a : Nat, s.size + 10 - a = n → a ≤ s.size + 4 → ∃ b, Evt (fun k => spec_UTF8.l0 k s a) b := by
 induction n using Nat.strongRecOn with
 | _ n ih =>
   intro a hn ha
   by_cases hlt : a < s.size
   ·obtain ⟨r, z, ok, g1, g2, g3⟩ := char_f s hS a hlt
    cases ok with
    | false =>
      refine ⟨false, Evt.succ ?_⟩
      simp only [spec_UTF8.l0]
      exact Evt.pos (by omega) (Evt.bind g1 (Evt.neg (by simp) (Evt.pure _)))
    | true =>
      obtain ⟨b, hb⟩ := ih (s.size + 10 - (a + z)) (by omega) (a + z) rfl (by omega)
      refine ⟨b, Evt.succ ?_⟩
      simp only [spec_UTF8.l0]
      refine Evt.pos (by omega) (Evt.bind g1 (Evt.pos (by simp) ?_))
      simp only [wrap_nat (i := (a : Int) + (z : Int)) (a + z) (by omega) (by omega)]
      exact hb
   ·refine ⟨true, Evt.succ ?_⟩
    simp only [spec_UTF8.l0]
    exact Evt.neg (by omega) (Evt.pure _)
theorem utf8_f (s : ByteArray) (hS : s.size ≤ 65536) : ∃ b, Evt (fun k => spec_UTF8.f k s) b := utf8_l0 s hS _ 0 rfl (by omega)
theorem J.lens {s : ByteArray} {md : Md} {i e : Nat} {kd : Int} {ns : List S44} {ks : List S32} (h : J s md i e kd ns ks) : ks.length + i ≤ e ∧ ns.length ≤ ks.length := by
 induction h with
 | null i h => simp
 | fals i h => simp
 | tru i h => simp
 | num i e h0 h1 h2 h3 => simp; omega
 | str i q h0 h1 h2 => have := h2.bound; simp; omega
 | arr0 i j h0 h1 h2 h3 h4 => have := h2.le; simp; omega
 | arr i j e ks h0 h1 h2 h3 ih => have := h2.le; exact ⟨by omega, by simp⟩
 | obj0 i j h0 h1 h2 h3 h4 => have := h2.le; simp; omega
 | obj i j e ns ks h0 h1 h2 h3 ih => have := h2.le; exact ⟨by omega, ih.2⟩
 | el1 i m e kd ns ks h0 h1 h2 h3 ih => have := h0.bound; have := h1.le; simp; omega
 | els i m c n e kd ns ks l h0 h1 h2 h3 h4 h5 ih ih2 => have := h0.bound; have := h1.le; have := h4.le; simp; omega
 | mem1 i q c b m e kd ns ks h0 h1 h2 h3 h4 h5 h6 h7 h8 h9 h10 ih => have := h2.bound; have := h3.le; have := h6.le; have := h7.bound; have := h8.le; simp; omega
 | mems i q c b m d n e kd ns nl ks l h0 h1 h2 h3 h4 h5 h6 h7 h8 h9 h10 h11 h12 ih ih2 => have := h2.bound; have := h3.le; have := h6.le; have := h7.bound; have := h8.le; have := h11.le; simp; omega
structure NameIs (s : ByteArray) (n : S44) (v : ByteArray) : Prop where
 at_ : ∃ b q : Nat, n.f0 = b ∧ n.f1 = (q + 1 : Nat) ∧ b < q ∧ q < s.size ∧ Says s (b + 1) q v
def NamesAre (s : ByteArray) : List S44 → List ByteArray → Prop
 | [], [] => True
 | n :: ns, v :: vs => NameIs s n v ∧ NamesAre s ns vs
 | _, _ => False
def TreesAre (s : ByteArray) : List S32 → List S25 → Prop
 | [], [] => True
 | p :: ps, t :: ts => Evt (fun k => spec_Tree.f k s p.f0 p.f1 p.f2 p.f3 p.f4) (t.f0, t.f1, t.f2, t.f3) ∧ TreesAre s ps ts
 | _, _ => False
theorem NamesAre.length {s : ByteArray} : ∀ {ns : List S44} {vs : List ByteArray}, NamesAre s ns vs → ns.length = vs.length
 | [], [], _ => rfl
 | _ :: _, _ :: _, h => by simp [NamesAre.length h.2]
 | [], _ :: _, h => h.elim
 | _ :: _, [], h => h.elim
theorem NamesAre.at {s : ByteArray} : ∀ {ns : List S44} {vs : List ByteArray}, NamesAre s ns vs → ∀ (j : Nat) (p : S44) (r : ByteArray), ns[j]? = some p → vs[j]? = some r → NameIs s p r
 | [], [], _, j, p, r, h1, _ => by simp at h1
 | a :: ns, b :: vs, h, 0, p, r, h1, h2 => by
   simp only [List.getElem?_cons_zero, Option.some.injEq] at h1 h2
   subst h1; subst h2
   exact h.1
 | a :: ns, b :: vs, h, j + 1, p, r, h1, h2 => NamesAre.at h.2 j p r (by simpa using h1) (by simpa using h2)
 | [], _ :: _, h, _, _, _, _, _ => h.elim
 | _ :: _, [], h, _, _, _, _, _ => h.elim
theorem rd44_at (pre suf : List S44) (n : S44) : rd_T44 (pre ++ n :: suf) (pre.length : Nat) = n := by simp [rd_T44, List.getD_eq_getElem?_getD]
theorem rd32_at (pre suf : List S32) (n : S32) : rd_T32 (pre ++ n :: suf) (pre.length : Nat) = n := by simp [rd_T32, List.getD_eq_getElem?_getD]
theorem tree_l1 (s : ByteArray) (kd b e : Int) (ns : List S44) (ks : List S32) (hk : ks.length ≤ 65536) (kd' : Int) (txt : ByteArray) (keys : List ByteArray) : ∀ (suf : List S32) (tsuf : List S25) (pre : List S32) (tpre : List S25), ks = pre ++ suf → pre.length = tpre.length → TreesAre s suf tsuf →
 Evt (fun k => spec_Tree.l1 k s (pre.length : Nat) kd b e ns ks kd' txt keys tpre) (kd', txt, keys, tpre ++ tsuf)
 | [], [], pre, tpre, he, hl, _ => by
   refine Evt.succ ?_
   simp only [spec_Tree.l1]
   rw [he, List.append_nil, List.append_nil]
   exact Evt.neg (by omega) (Evt.pure _)
 | p :: suf, t :: tsuf, pre, tpre, he, hl, ht => by
   have ih := tree_l1 s kd b e ns ks hk kd' txt keys suf tsuf (pre ++ [p]) (tpre ++ [t]) (by rw [he]; simp) (by simp [hl]) ht.2
   have hlen : pre.length < ks.length := by rw [he]; simp
   refine Evt.succ ?_
   simp only [spec_Tree.l1]
   have hrd : rd_T32 ks (pre.length : Nat) = p := by rw [he]; exact rd32_at pre suf p
   rw [hrd]
   refine Evt.pos (by omega) (Evt.pos (by omega) (Evt.bind ht.1 (Evt.pos (by omega) ?_)))
   rw [wrap_nat (i := ((pre.length : Nat) : Int) + 1) (pre.length + 1) (by omega) (by omega)]
   have e1 : (pre ++ [p]).length = pre.length + 1 := by simp
   have e2 : (tpre ++ [t]) ++ tsuf = tpre ++ t :: tsuf := by simp
   rw [e1, e2] at ih
   cases t
   exact ih
 | [], _ :: _, _, _, _, _, h => h.elim
 | _ :: _, [], _, _, _, _, h => h.elim
theorem tree_l0 (s : ByteArray) (hS : s.size ≤ 65536) (kd b e : Int) (ns : List S44) (hn : ns.length ≤ 65536) (ks : List S32) (kd' : Int) (txt : ByteArray) (r : Int × ByteArray × List ByteArray × (List (S25))) (keys : List ByteArray)
 (hl1 : Evt (fun k => spec_Tree.l1 k s 0 kd b e ns ks kd' txt keys []) r) : ∀ (suf : List S44) (ksuf : List ByteArray) (pre : List S44) (kpre : List ByteArray), ns = pre ++ suf → keys = kpre ++ ksuf → pre.length = kpre.length → NamesAre s suf ksuf →
 Evt (fun k => spec_Tree.l0 k s (pre.length : Nat) kd b e ns ks kd' txt kpre) r
 | [], [], pre, kpre, he, hk, hl, _ => by
   refine Evt.succ ?_
   simp only [spec_Tree.l0]
   rw [List.append_nil] at he hk
   subst hk
   have hlen : pre.length = ns.length := by rw [he]
   exact Evt.neg (by omega) hl1
 | n :: suf, v :: ksuf, pre, kpre, he, hk, hl, h => by
   have ih := tree_l0 s hS kd b e ns hn ks kd' txt r keys hl1 suf ksuf (pre ++ [n]) (kpre ++ [v]) (by rw [he]; simp) (by rw [hk]; simp) (by simp [hl]) h.2
   have hlen : pre.length < ns.length := by rw [he]; simp
   obtain ⟨x, q, h0, h1, h2, h3, h4⟩ := h.1.at_
   have hu := h4.unquote hS (show 1 ≤ x + 1 by omega) (by omega) h3
   rw [Nat.add_sub_cancel] at hu
   refine Evt.succ ?_
   simp only [spec_Tree.l0]
   have hrd : rd_T44 ns (pre.length : Nat) = n := by rw [he]; exact rd44_at pre suf n
   rw [hrd, h0, h1, Int.toNat_natCast, Int.toNat_natCast]
   refine Evt.pos (by omega) (Evt.pos (by omega) (Evt.pos (by omega) (Evt.pos (by omega) (Evt.pos (by omega) (Evt.bind hu (Evt.pos (by omega) ?_))))))
   rw [wrap_nat (i := ((pre.length : Nat) : Int) + 1) (pre.length + 1) (by omega) (by omega)]
   have e1 : (pre ++ [n]).length = pre.length + 1 := by simp
   rw [e1] at ih
   exact ih
 | [], _ :: _, _, _, _, _, _, h => h.elim
 | _ :: _, [], _, _, _, _, _, h => h.elim
theorem tree_j0 (s : ByteArray) (hS : s.size ≤ 65536) (kd b e : Int) {ns : List S44} {ks : List S32} (hn : ns.length ≤ 65536) (hk : ks.length ≤ 65536) (txt : ByteArray) {keys : List ByteArray} {ts : List S25} (h1 : NamesAre s ns keys) (h2 : TreesAre s ks ts) :
 Evt (fun k => spec_Tree.j0 k s kd b e ns ks kd txt) (kd, txt, keys, ts) := by
 refine Evt.succ ?_
 simp only [spec_Tree.j0]
 have g1 := tree_l1 s kd b e ns ks hk kd txt keys ks ts [] [] rfl rfl h2
 exact tree_l0 s hS kd b e ns hn ks kd txt _ keys g1 ns keys [] [] rfl rfl rfl h1
def TreeOk (s : ByteArray) (md : Md) (i e : Nat) (kd : Int) (ns : List S44) (ks : List S32) : Prop :=
 (∃ keys, NamesAre s ns keys) ∧ (∃ ts, TreesAre s ks ts) ∧ (md = .val → ∃ (txt : ByteArray) (keys : List ByteArray) (ts : List S25), Evt (fun k => spec_Tree.f k s kd i e ns ks) (kd, txt, keys, ts) ∧ NamesAre s ns keys)
theorem tree_plain {s : ByteArray} (hS : s.size ≤ 65536) (i e kd : Int) (h3 : kd ≠ 3) (h4 : kd ≠ 4) {ns : List S44} {ks : List S32} (hn : ns.length ≤ 65536) (hk : ks.length ≤ 65536) {keys : List ByteArray} {ts : List S25} (h1 : NamesAre s ns keys) (h2 : TreesAre s ks ts) :
 ∃ (txt : ByteArray) (keys : List ByteArray) (ts : List S25), Evt (fun k => spec_Tree.f k s kd i e ns ks) (kd, txt, keys, ts) ∧ NamesAre s ns keys := by
 refine ⟨⟨#[]⟩, keys, ts, Evt.succ ?_, h1⟩
 simp only [spec_Tree.f]
 exact Evt.neg h3 (Evt.neg h4 (tree_j0 s hS kd i e hn hk _ h1 h2))
theorem tree_ok {s : ByteArray} (hS : s.size ≤ 65536) {md : Md} {i e : Nat} {kd : Int} {ns : List S44} {ks : List S32} (h : J s md i e kd ns ks) : Prd s i → TreeOk s md i e kd ns ks := by
 have flat : ∀ (i e kd : Int), kd ≠ 3 → kd ≠ 4 → (∃ keys, NamesAre s [] keys) ∧ (∃ ts, TreesAre s [] ts) ∧ (Md.val = .val → ∃ (txt : ByteArray) (keys : List ByteArray) (ts : List S25), Evt (fun k => spec_Tree.f k s kd i e [] []) (kd, txt, keys, ts) ∧ NamesAre s [] keys) := fun i e kd h3 h4 =>
  ⟨⟨[], trivial⟩, ⟨[], trivial⟩, fun _ => tree_plain hS i e kd h3 h4 (ns := []) (ks := []) (by simp) (by simp) (keys := []) (ts := []) trivial trivial⟩
 induction h with
 | null i h => exact fun _ => flat _ _ _ (by decide) (by decide)
 | fals i h => exact fun _ => flat _ _ _ (by decide) (by decide)
 | tru i h => exact fun _ => flat _ _ _ (by decide) (by decide)
 | num i e h0 h1 h2 h3 =>
   intro _
   refine ⟨⟨[], trivial⟩, ⟨[], trivial⟩, fun _ => ⟨s.extract i e, [], [], Evt.succ ?_, trivial⟩⟩
   simp only [spec_Tree.f]
   rw [Int.toNat_natCast, Int.toNat_natCast]
   exact Evt.pos (by simp) (Evt.pos (by omega) (Evt.pos (by omega) (Evt.pos (by omega) (tree_j0 s hS 3 i e (ns := []) (ks := []) (by simp) (by simp) _ (keys := []) (ts := []) trivial trivial))))
 | str i q h0 h1 h2 =>
   intro hp
   obtain ⟨_, v, hv⟩ := qstr_says hS h2 (QStr.prd hS h0 h1 h2 hp).1
   have hb := h2.bound
   have hu := hv.unquote hS (show 1 ≤ i + 1 by omega) (by omega) (by omega)
   rw [Nat.add_sub_cancel] at hu
   refine ⟨⟨[], trivial⟩, ⟨[], trivial⟩, fun _ => ⟨v, [], [], Evt.succ ?_, trivial⟩⟩
   simp only [spec_Tree.f]
   rw [Int.toNat_natCast, Int.toNat_natCast]
   exact Evt.neg (by simp) (Evt.pos (by simp) (Evt.pos (by omega) (Evt.pos (by omega) (Evt.pos (by omega) (Evt.bind hu (tree_j0 s hS 4 i _ (ns := []) (ks := []) (by simp) (by simp) _ (keys := []) (ts := []) trivial trivial))))))
 | arr0 i j h0 h1 h2 h3 h4 => exact fun _ => flat _ _ _ (by decide) (by decide)
 | arr i j e ks h0 h1 h2 h3 ih =>
   intro hp
   have hb := h3.bound
   have hl := h3.lens
   obtain ⟨⟨keys, hk⟩, ⟨ts, ht⟩, _⟩ := ih (h2.prd hS (by omega) (Prd.plain hS hp h0 (by omega)))
   exact ⟨⟨keys, hk⟩, ⟨ts, ht⟩, fun _ => tree_plain hS i e 5 (by decide) (by decide) (by simp) (by omega) hk ht⟩
 | obj0 i j h0 h1 h2 h3 h4 => exact fun _ => flat _ _ _ (by decide) (by decide)
 | obj i j e ns ks h0 h1 h2 h3 ih =>
   intro hp
   have hb := h3.bound
   have hl := h3.lens
   obtain ⟨⟨keys, hk⟩, ⟨ts, ht⟩, _⟩ := ih (h2.prd hS (by omega) (Prd.plain hS hp h0 (by omega)))
   exact ⟨⟨keys, hk⟩, ⟨ts, ht⟩, fun _ => tree_plain hS i e 6 (by decide) (by decide) (by omega) (by omega) hk ht⟩
 | el1 i m e kd ns ks h0 h1 h2 h3 ih =>
   intro hp
   obtain ⟨_, _, h⟩ := ih hp
   obtain ⟨txt, keys, ts, g1, g2⟩ := h rfl
   exact ⟨⟨[], trivial⟩, ⟨[⟨kd, txt, keys, ts⟩], g1, trivial⟩, fun h => by cases h⟩
 | els i m c n e kd ns ks l h0 h1 h2 h3 h4 h5 ih ih2 =>
   intro hp
   obtain ⟨_, _, h⟩ := ih hp
   obtain ⟨txt, keys, ts, g1, g2⟩ := h rfl
   have hb := h5.bound
   obtain ⟨_, ⟨ts2, ht⟩, _⟩ := ih2 (h4.prd hS (by omega) (Prd.plain hS (h1.prd hS (by omega) (h0.prd hS hp)) h2 (by omega)))
   exact ⟨⟨[], trivial⟩, ⟨⟨kd, txt, keys, ts⟩ :: ts2, g1, ht⟩, fun h => by cases h⟩
 | mem1 i q c b m e kd ns ks h0 h1 h2 h3 h4 h5 h6 h7 h8 h9 h10 ih =>
   intro hp
   have hb := h7.bound
   have hq := h2.bound
   have hpb := h6.prd hS (by omega) (Prd.plain hS (h3.prd hS (by omega) (QStr.prd hS h0 h1 h2 hp).2) h4 (by omega))
   obtain ⟨_, v, hv⟩ := qstr_says hS h2 (QStr.prd hS h0 h1 h2 hp).1
   obtain ⟨_, _, h⟩ := ih hpb
   obtain ⟨txt, keys, ts, g1, g2⟩ := h rfl
   exact ⟨⟨[v], ⟨⟨i, q, rfl, rfl, by omega, by omega, hv⟩⟩, trivial⟩, ⟨[⟨kd, txt, keys, ts⟩], g1, trivial⟩, fun h => by cases h⟩
 | mems i q c b m d n e kd ns nl ks l h0 h1 h2 h3 h4 h5 h6 h7 h8 h9 h10 h11 h12 ih ih2 =>
   intro hp
   have hb := h7.bound
   have hq := h2.bound
   have hn := h12.bound
   have hpb := h6.prd hS (by omega) (Prd.plain hS (h3.prd hS (by omega) (QStr.prd hS h0 h1 h2 hp).2) h4 (by omega))
   obtain ⟨_, v, hv⟩ := qstr_says hS h2 (QStr.prd hS h0 h1 h2 hp).1
   obtain ⟨_, _, h⟩ := ih hpb
   obtain ⟨txt, keys, ts, g1, g2⟩ := h rfl
   obtain ⟨⟨keys2, hk2⟩, ⟨ts2, ht2⟩, _⟩ := ih2 (h11.prd hS (by omega) (Prd.plain hS (h8.prd hS (by omega) (h7.prd hS hpb)) h9 (by omega)))
   exact ⟨⟨v :: keys2, ⟨⟨i, q, rfl, rfl, by omega, by omega, hv⟩⟩, hk2⟩, ⟨⟨kd, txt, keys, ts⟩ :: ts2, g1, ht2⟩, fun h => by cases h⟩
structure TextIs (s : ByteArray) (kd : Int) (i m : Nat) (ns : List S44) (ks : List S32) (keys : List ByteArray) : Prop where
 size : s.size ≤ 65536
 pre : Blanks s 0 i
 val : J s .val i m kd ns ks
 post : Blanks s m s.size
 prd : Prd s i
 names : NamesAre s ns keys
 places : Evt (fun k => spec_Places.f k s) (kd, (i : Int), (m : Int), ns, ks, true)
theorem gjtext_f (s : ByteArray) : ∃ (kd : Int) (txt : ByteArray) (keys : List ByteArray) (ts : List S25) (ok : Bool), Evt (fun k => laws_gjText.f k s) (kd, txt, keys, ts, ok) ∧ (ok = true → ∃ (i m : Nat) (ns : List S44) (ks : List S32), TextIs s kd i m ns ks keys) := by
 unfold laws_gjText.f
 by_cases hS : s.size ≤ 65536
 ·obtain ⟨b1, h1⟩ := utf8_f s hS
  cases b1 with
  | false => exact ⟨0, ⟨#[]⟩, [], [], false, Evt.neg (by omega) (Evt.bind h1 (Evt.neg (by simp) (Evt.pure _))), fun h => by cases h⟩
  | true =>
    obtain ⟨b2, h2, hp⟩ := paired_f s hS
    cases b2 with
    | false => exact ⟨0, ⟨#[]⟩, [], [], false, Evt.neg (by omega) (Evt.bind h1 (Evt.pos (by simp) (Evt.bind h2 (Evt.neg (by simp) (Evt.pure _))))), fun h => by cases h⟩
    | true =>
      obtain ⟨kd, b, e, ns, ks, ok, g1, g2⟩ := places_f s hS
      cases ok with
      | false =>
        refine ⟨0, ⟨#[]⟩, [], [], false, Evt.neg (by omega) (Evt.bind h1 (Evt.pos (by simp) (Evt.bind h2 (Evt.pos (by simp) (Evt.bind (x := (0, ⟨#[]⟩, [], [], false)) ?_ (Evt.pure _)))))), fun h => by cases h⟩
        unfold spec_Read.f
        exact Evt.bind g1 (Evt.neg (by simp) (Evt.pure _))
      | true =>
        obtain ⟨i, m, rfl, rfl, hb1, hJ, hb2⟩ := g2 rfl
        have hb := hJ.bound
        have hpi := hb1.prd hS (by omega) (hp rfl)
        obtain ⟨_, _, ht⟩ := tree_ok hS hJ hpi
        obtain ⟨txt, keys, ts, t1, t2⟩ := ht rfl
        refine ⟨kd, txt, keys, ts, true, Evt.neg (by omega) (Evt.bind h1 (Evt.pos (by simp) (Evt.bind h2 (Evt.pos (by simp) (Evt.bind (x := (kd, txt, keys, ts, true)) ?_ (Evt.pure _)))))), fun _ => ⟨i, m, ns, ks, hS, hb1, hJ, hb2, hpi, t2, g1⟩⟩
        unfold spec_Read.f
        exact Evt.bind g1 (Evt.pos (by simp) (Evt.bind t1 (Evt.pure _)))
 ·exact ⟨0, ⟨#[]⟩, [], [], false, Evt.pos (by omega) (Evt.pure _), fun h => by cases h⟩
end Go.Proofs.YtpgfjbimodnkeaaGreatDoor.Scan
set_option linter.unusedVariables false
set_option linter.unusedSimpArgs false
namespace Go.Proofs.YtpgfjbimodnkeaaGreatDoor.Scan
open Go Go.RowKit Go.Proofs.YtpgfjbimodnkeaaGreatDoorW.PrintWords Go.Proofs.YtpgfjbimodnkeaaGreatDoor.Q Go.Proofs.YtpgfjbimodnkeaaGreatDoor.Dec
structure Tail (s r : ByteArray) (i : Nat) : Prop where
 size : r.size + i = s.size
 at_ : ∀ p : Nat, bt r p = bt s ((i + p : Nat) : Int)
 cut : ∀ a b : Nat, a ≤ b → b ≤ r.size → r.extract a b = s.extract (i + a) (i + b)
theorem tail_of (s : ByteArray) (i : Nat) (hi : i ≤ s.size) : Tail s (s.extract i s.size) i := by
 have hsz : (s.extract i s.size).size + i = s.size := by rw [ByteArray.size_extract]; omega
 refine ⟨hsz, fun p => ?_, fun a b h1 h2 => ?_⟩
 ·rcases Nat.lt_or_ge (i + p) s.size with h | h
  ·exact bt_extract s i s.size p h (Nat.le_refl _)
  ·rw [bt_out _ _ (by omega), bt_out _ _ h]
 ·rw [ByteArray.extract_extract]
  congr 1
  omega
section
variable {s r : ByteArray} {i : Nat}
theorem Tail.int (T : Tail s r i) (z : Int) (h : 0 ≤ z) : bt r z = bt s (z + i) := by
 obtain ⟨p, rfl⟩ : ∃ p : Nat, z = p := ⟨z.toNat, by omega⟩
 rw [T.at_ p, show ((i + p : Nat) : Int) = (p : Int) + i by omega]
theorem Tail.back (T : Tail s r i) (p : Nat) (h : i ≤ p) : bt r ((p - i : Nat) : Int) = bt s p := by rw [T.at_, show i + (p - i) = p by omega]
theorem Tail.hexAt (T : Tail s r i) (z : Int) (h : 0 ≤ z) : hexAt r z = hexAt s (z + i) := by
 unfold Dec.hexAt
 rw [T.int z h, T.int (z + 1) (by omega), T.int (z + 2) (by omega), T.int (z + 3) (by omega), show z + 1 + (i : Int) = z + i + 1 by omega, show z + 2 + (i : Int) = z + i + 2 by omega, show z + 3 + (i : Int) = z + i + 3 by omega]
theorem Tail.hex4 (T : Tail s r i) (z : Int) (h : 0 ≤ z) : Hex4 r z ↔ Hex4 s (z + i) := by
 unfold Dec.Hex4
 rw [T.int z h, T.int (z + 1) (by omega), T.int (z + 2) (by omega), T.int (z + 3) (by omega), show z + 1 + (i : Int) = z + i + 1 by omega, show z + 2 + (i : Int) = z + i + 2 by omega, show z + 3 + (i : Int) = z + i + 3 by omega]
theorem Tail.unit (T : Tail s r i) (p : Nat) : Unit6 r p ↔ Unit6 s (i + p) := by
 have hz := T.size
 constructor
 ·rintro ⟨h1, h2, h3, h4⟩
  refine ⟨by omega, by rw [← T.at_]; exact h2, ?_, ?_⟩
  ·rw [T.int _ (by omega)] at h3; rwa [show ((i + p : Nat) : Int) + 1 = (p : Int) + 1 + i by omega]
  ·rw [T.hex4 _ (by omega)] at h4; rwa [show ((i + p : Nat) : Int) + 2 = (p : Int) + 2 + i by omega]
 ·rintro ⟨h1, h2, h3, h4⟩
  refine ⟨by omega, by rw [T.at_]; exact h2, ?_, ?_⟩
  ·rw [T.int _ (by omega)]; rwa [show (p : Int) + 1 + i = ((i + p : Nat) : Int) + 1 by omega]
  ·rw [T.hex4 _ (by omega)]; rwa [show (p : Int) + 2 + i = ((i + p : Nat) : Int) + 2 by omega]
theorem Tail.prd (T : Tail s r i) (hS : s.size ≤ 65536) (n : Nat) : ∀ p : Nat, r.size + 20 - p = n → p ≤ r.size + 12 → Prd s (i + p) → Prd r p := by
 have hz := T.size
 induction n using Nat.strongRecOn with
 | _ n ih =>
   intro p hn hp hP
   have hR : r.size ≤ 65536 := by omega
   refine Evt.succ ?_
   simp only [spec_Paired.l0]
   by_cases hlt : p < r.size
   ·by_cases hb : bt r p = 92
    ·obtain ⟨v, b, g1, g2, g3⟩ := unit_f r hR p (by omega)
     cases b with
     | false =>
       have hU : ¬ Unit6 s (i + p) := fun h => absurd (g2.2 ((T.unit p).2 h)) (by decide)
       have hP2 := Prd.short hS hP (by omega) (by rw [← T.at_]; exact hb) hU
       rw [wrap_nat (i := (p : Int) + 2) (p + 2) (by omega) (by omega)]
       exact Evt.pos (by omega) (Evt.pos (by omega) (Evt.pos hb (Evt.bind g1 (Evt.neg (by simp) (ih _ (by omega) (p + 2) rfl (by omega) hP2)))))
     | true =>
       have hU := g2.1 rfl
       have hle := hU.le
       have hv := g3 rfl
       have hx2 := T.hexAt ((p : Int) + 2) (by omega)
       rw [show (p : Int) + 2 + (i : Int) = ((i + p : Nat) : Int) + 2 by omega] at hx2
       rcases Prd.uni hS hP ((T.unit p).1 hU) with ⟨h1, h2⟩ | ⟨h1, h2, h3, h4⟩
       ·rw [← hx2] at h1
        have hh : ¬ (55296 ≤ v ∧ v ≤ 56319) := by rw [hv]; omega
        have hl : ¬ (56320 ≤ v ∧ v ≤ 57343) := by rw [hv]; omega
        rw [wrap_nat (i := (p : Int) + 6) (p + 6) (by omega) (by omega)]
        exact Evt.pos (by omega) (Evt.pos (by omega) (Evt.pos hb (Evt.bind g1 (Evt.pos (by simp) (Evt.bind_of (high_f _) (Evt.neg (by simp only [decide_eq_true_eq]; exact hh) (Evt.bind_of (low_f _) (Evt.neg (by simp only [decide_eq_true_eq]; exact hl) (ih _ (by omega) (p + 6) rfl (by omega) h2)))))))))
       ·rw [← hx2] at h1
        have hU2 : Unit6 r (p + 6) := (T.unit (p + 6)).2 h2
        have hle2 := hU2.le
        obtain ⟨v2, b2, f1, f2, f3⟩ := unit_f r hR (p + 6) (by omega)
        have hb2 := f2.2 hU2
        subst hb2
        have hv2 := f3 rfl
        have hx8 := T.hexAt ((p : Int) + 8) (by omega)
        rw [show (p : Int) + 8 + (i : Int) = ((i + p : Nat) : Int) + 8 by omega] at hx8
        rw [← hx8] at h3
        rw [show ((p + 6 : Nat) : Int) + 2 = (p : Int) + 8 by omega] at hv2
        have hh : 55296 ≤ v ∧ v ≤ 56319 := by rw [hv]; exact h1
        have hl : 56320 ≤ v2 ∧ v2 ≤ 57343 := by rw [hv2]; exact h3
        rw [wrap_nat (i := (p : Int) + 6) (p + 6) (by omega) (by omega), wrap_nat (i := (p : Int) + 12) (p + 12) (by omega) (by omega)]
        exact Evt.pos (by omega) (Evt.pos (by omega) (Evt.pos hb (Evt.bind g1 (Evt.pos (by simp) (Evt.bind_of (high_f _) (Evt.pos (decide_eq_true hh) (Evt.bind f1 (Evt.pos (by simp) (Evt.bind_of (low_f _) (Evt.pos (decide_eq_true hl) (ih _ (by omega) (p + 12) rfl (by omega) h4)))))))))))
    ·have hP2 := Prd.plain hS hP (by omega) (by rw [← T.at_]; exact hb)
     rw [wrap_nat (i := (p : Int) + 1) (p + 1) (by omega) (by omega)]
     exact Evt.pos (by omega) (Evt.pos (by omega) (Evt.neg hb (ih _ (by omega) (p + 1) rfl (by omega) hP2)))
   ·exact Evt.neg (by omega) (Evt.pure _)
theorem Tail.blanks (T : Tail s r i) {a b : Nat} (h : Blanks s a b) (ha : i ≤ a) : Blanks r (a - i) (b - i) := by
 have hle := h.le
 refine ⟨by omega, fun m h1 h2 => ?_⟩
 rw [T.at_]
 exact h.all _ (by omega) (by omega)
theorem Tail.span (T : Tail s r i) {P : Int → Prop} {a b : Nat} (h : Span s P a b) (ha : i ≤ a) : Span r P (a - i) (b - i) := by
 have hle := h.le
 refine ⟨by omega, fun m h1 h2 => ?_⟩
 rw [T.at_]
 exact h.all _ (by omega) (by omega)
theorem Tail.word (T : Tail s r i) {a : Nat} {w : ByteArray} (h : Word s a w) (ha : i ≤ a) : Word r (a - i) w := by
 have hle := h.le
 have hz := T.size
 refine ⟨by omega, ?_⟩
 rw [T.cut _ _ (by omega) (by omega), show i + (a - i) = a by omega, show i + (a - i + w.size) = a + w.size by omega]
 exact h.eq
theorem Tail.qstr (T : Tail s r i) {p q : Nat} (h : QStr s p q) : i ≤ p → QStr r (p - i) (q - i) := by
 have hz := T.size
 induction h with
 | close p h0 h1 => exact fun hp => .close _ (by omega) (by rw [T.back p hp]; exact h1)
 | plain p q h0 h1 h2 h3 h4 ih =>
   intro hp
   have := ih (by omega)
   rw [show p + 1 - i = p - i + 1 by omega] at this
   exact .plain _ _ (by omega) (by rw [T.back p hp]; exact h1) (by rw [T.back p hp]; exact h2) (by rw [T.back p hp]; exact h3) this
 | short p q h0 h1 h2 h3 ih =>
   intro hp
   have := ih (by omega)
   rw [show p + 2 - i = p - i + 2 by omega] at this
   refine .short _ _ (by omega) (by rw [T.back p hp]; exact h1) ?_ this
   rw [T.int _ (by omega), show ((p - i : Nat) : Int) + 1 + i = (p : Int) + 1 by omega]
   exact h2
 | uni p q h0 h1 h2 h3 h4 ih =>
   intro hp
   have := ih (by omega)
   rw [show p + 6 - i = p - i + 6 by omega] at this
   refine .uni _ _ (by omega) (by rw [T.back p hp]; exact h1) ?_ ?_ this
   ·rw [T.int _ (by omega), show ((p - i : Nat) : Int) + 1 + i = (p : Int) + 1 by omega]; exact h2
   ·rw [T.hex4 _ (by omega), show ((p - i : Nat) : Int) + 2 + i = (p : Int) + 2 by omega]; exact h3
end
def Moved (i : Nat) (ks ks' : List S32) : Prop := ks.map (fun k => (k.f0, k.f1, k.f2)) = ks'.map (fun k => (k.f0, k.f1 + (i : Int), k.f2 + (i : Int)))
theorem Tail.j {s r : ByteArray} {i : Nat} (T : Tail s r i) {md : Md} {a e : Nat} {kd : Int} {ns : List S44} {ks : List S32} (h : J s md a e kd ns ks) : i ≤ a → ∃ (ns' : List S44) (ks' : List S32), J r md (a - i) (e - i) kd ns' ks' ∧ Moved i ks ks' ∧ (ns = [] → ns' = []) := by
 have hz := T.size
 induction h with
 | null a h => exact fun ha => ⟨[], [], by rw [show a + 4 - i = a - i + 4 by omega]; exact .null _ (T.word h ha), rfl, fun _ => rfl⟩
 | fals a h => exact fun ha => ⟨[], [], by rw [show a + 5 - i = a - i + 5 by omega]; exact .fals _ (T.word h ha), rfl, fun _ => rfl⟩
 | tru a h => exact fun ha => ⟨[], [], by rw [show a + 4 - i = a - i + 4 by omega]; exact .tru _ (T.word h ha), rfl, fun _ => rfl⟩
 | num a e h0 h1 h2 h3 => exact fun ha => ⟨[], [], .num _ _ (by rw [T.back a ha]; exact h0) (by omega) (by omega) (T.span h3 ha), rfl, fun _ => rfl⟩
 | str a q h0 h1 h2 =>
   intro ha
   have hb := h2.bound
   have h3 := T.qstr h2 (by omega)
   rw [show a + 1 - i = a - i + 1 by omega] at h3
   exact ⟨[], [], by rw [show q + 1 - i = q - i + 1 by omega]; exact .str _ _ (by omega) (by rw [T.back a ha]; exact h1) h3, rfl, fun _ => rfl⟩
 | arr0 a j h0 h1 h2 h3 h4 =>
   intro ha
   have hb := h2.le
   have h5 := T.blanks h2 (by omega)
   rw [show a + 1 - i = a - i + 1 by omega] at h5
   exact ⟨[], [], by rw [show j + 1 - i = j - i + 1 by omega]; exact .arr0 _ _ (by omega) (by rw [T.back a ha]; exact h1) h5 (by omega) (by rw [T.back j (by omega)]; exact h4), rfl, fun _ => rfl⟩
 | arr a j e ks h0 h1 h2 h3 ih =>
   intro ha
   have hb := h2.le
   have h5 := T.blanks h2 (by omega)
   rw [show a + 1 - i = a - i + 1 by omega] at h5
   obtain ⟨ns', ks', k1, k2, k3⟩ := ih (by omega)
   have k4 := k3 rfl
   subst k4
   exact ⟨[], ks', .arr _ _ _ _ (by omega) (by rw [T.back a ha]; exact h1) h5 k1, k2, fun _ => rfl⟩
 | obj0 a j h0 h1 h2 h3 h4 =>
   intro ha
   have hb := h2.le
   have h5 := T.blanks h2 (by omega)
   rw [show a + 1 - i = a - i + 1 by omega] at h5
   exact ⟨[], [], by rw [show j + 1 - i = j - i + 1 by omega]; exact .obj0 _ _ (by omega) (by rw [T.back a ha]; exact h1) h5 (by omega) (by rw [T.back j (by omega)]; exact h4), rfl, fun _ => rfl⟩
 | obj a j e ns ks h0 h1 h2 h3 ih =>
   intro ha
   have hb := h2.le
   have h5 := T.blanks h2 (by omega)
   rw [show a + 1 - i = a - i + 1 by omega] at h5
   obtain ⟨ns', ks', k1, k2, k3⟩ := ih (by omega)
   exact ⟨ns', ks', .obj _ _ _ _ _ (by omega) (by rw [T.back a ha]; exact h1) h5 k1, k2, k3⟩
 | el1 a m e kd ns ks h0 h1 h2 h3 ih =>
   intro ha
   have hb := h0.bound
   have hc := h1.le
   obtain ⟨ns', ks', k1, k2, k3⟩ := ih ha
   refine ⟨[], [⟨kd, ((a - i : Nat) : Int), ((m - i : Nat) : Int), ns', ks'⟩], by rw [show e + 1 - i = e - i + 1 by omega]; exact .el1 _ _ _ _ _ _ k1 (T.blanks h1 (by omega)) (by omega) (by rw [T.back e (by omega)]; exact h3), ?_, fun _ => rfl⟩
   simp only [Moved, List.map_cons, List.map_nil, List.cons.injEq, Prod.mk.injEq, and_true, true_and]
   omega
 | els a m c n e kd ns ks l h0 h1 h2 h3 h4 h5 ih ih2 =>
   intro ha
   have hb := h0.bound
   have hc := h1.le
   have hd := h4.le
   obtain ⟨ns', ks', k1, k2, k3⟩ := ih ha
   obtain ⟨ns2, l', g1, g2, g3⟩ := ih2 (by omega)
   have g4 := g3 rfl
   subst g4
   have h6 := T.blanks h4 (by omega)
   rw [show c + 1 - i = c - i + 1 by omega] at h6
   refine ⟨[], ⟨kd, ((a - i : Nat) : Int), ((m - i : Nat) : Int), ns', ks'⟩ :: l', .els _ _ _ _ _ _ _ _ _ k1 (T.blanks h1 (by omega)) (by omega) (by rw [T.back c (by omega)]; exact h3) h6 g1, ?_, fun _ => rfl⟩
   simp only [Moved, List.map_cons, List.cons.injEq, Prod.mk.injEq, true_and]
   exact ⟨by omega, g2⟩
 | mem1 a q c b m e kd ns ks h0 h1 h2 h3 h4 h5 h6 h7 h8 h9 h10 ih =>
   intro ha
   have hq := h2.bound
   have hc := h3.le
   have hb := h6.le
   have hv := h7.bound
   have hd := h8.le
   obtain ⟨ns', ks', k1, k2, k3⟩ := ih (by omega)
   have h11 := T.qstr h2 (by omega)
   have h12 := T.blanks h3 (by omega)
   have h13 := T.blanks h6 (by omega)
   rw [show a + 1 - i = a - i + 1 by omega] at h11
   rw [show q + 1 - i = q - i + 1 by omega] at h12
   rw [show c + 1 - i = c - i + 1 by omega] at h13
   refine ⟨_, [⟨kd, ((b - i : Nat) : Int), ((m - i : Nat) : Int), ns', ks'⟩], by rw [show e + 1 - i = e - i + 1 by omega]; exact .mem1 _ _ _ _ _ _ _ _ _ (by omega) (by rw [T.back a ha]; exact h1) h11 h12 (by omega) (by rw [T.back c (by omega)]; exact h5) h13 k1 (T.blanks h8 (by omega)) (by omega) (by rw [T.back e (by omega)]; exact h10), ?_, fun h => by cases h⟩
   simp only [Moved, List.map_cons, List.map_nil, List.cons.injEq, Prod.mk.injEq, and_true, true_and]
   omega
 | mems a q c b m d n e kd ns nl ks l h0 h1 h2 h3 h4 h5 h6 h7 h8 h9 h10 h11 h12 ih ih2 =>
   intro ha
   have hq := h2.bound
   have hc := h3.le
   have hb := h6.le
   have hv := h7.bound
   have hd := h8.le
   have hn := h11.le
   obtain ⟨ns', ks', k1, k2, k3⟩ := ih (by omega)
   obtain ⟨nl', l', g1, g2, g3⟩ := ih2 (by omega)
   have h13 := T.qstr h2 (by omega)
   have h14 := T.blanks h3 (by omega)
   have h15 := T.blanks h6 (by omega)
   have h16 := T.blanks h11 (by omega)
   rw [show a + 1 - i = a - i + 1 by omega] at h13
   rw [show q + 1 - i = q - i + 1 by omega] at h14
   rw [show c + 1 - i = c - i + 1 by omega] at h15
   rw [show d + 1 - i = d - i + 1 by omega] at h16
   refine ⟨_, ⟨kd, ((b - i : Nat) : Int), ((m - i : Nat) : Int), ns', ks'⟩ :: l', .mems _ _ _ _ _ _ _ _ _ _ _ _ _ (by omega) (by rw [T.back a ha]; exact h1) h13 h14 (by omega) (by rw [T.back c (by omega)]; exact h5) h15 k1 (T.blanks h8 (by omega)) (by omega) (by rw [T.back d (by omega)]; exact h10) h16 g1, ?_, fun h => by cases h⟩
   simp only [Moved, List.map_cons, List.cons.injEq, Prod.mk.injEq, true_and]
   exact ⟨by omega, g2⟩
end Go.Proofs.YtpgfjbimodnkeaaGreatDoor.Scan
set_option linter.unusedVariables false
set_option linter.unusedSimpArgs false
namespace Go.Proofs.YtpgfjbimodnkeaaGreatDoor.Q
open Go.RowKit Go.Proofs.YtpgfjbimodnkeaaGreatDoorW.PrintWords Go.Proofs.YtpgfjbimodnkeaaGreatDoorW.PrintLast Go.Proofs.YtpgfjbimodnkeaaGreatDoorW.PrintMore
def laws_gjAt.f (k : Nat) (a0_0 : Int) (a0_1 : ByteArray) (a0_2 : ByteArray) (a0_3 : Nat) (a0_4 : Bool) (a1 : ByteArray) (a2_0 : Int) (a2_1 : Int) (a2_2 : Int) (l2_3 : List (S44)) (l2_4 : List (S32)) : Option (Bool) := if a0_4 = true then ((laws_gjKind.f a2_0).bind fun t521 => (if a0_0 = t521 then (if 0 ≤ a2_1 then (if a2_1 ≤ a2_2 then (if a2_2 ≤ (a1.size : Int) then (if a0_1.toList = (a1.extract (a2_1 : Int).toNat (a2_2 : Int).toNat).toList then (if a2_0 = 4 then ((spec_Unquote.f k a0_1).bind fun t522 => (some (a0_2.toList == t522.toList))) else (some true)) else (some false)) else (none)) else (none)) else (none)) else (some false))) else (some false)
set_option maxHeartbeats 8000000 in
set_option maxRecDepth 100000 in
theorem laws_gjAt.yes (k : Nat) (kd : Int) (raw str : ByteArray) (num : Nat) (ex : Bool) (s : ByteArray) (pk b e : Int) (A3 : Option Addr) (c3 : Nat) (l3 : List (S44)) (A4 : Option Addr) (c4 : Nat) (l4 : List (S32)) (w : World) (_ : Kd.C k44 w A3 l3.length l3) (_ : l3.length ≤ c3) (_ : Kd.C k32 w A4 l4.length l4) (_ : l4.length ≤ c4) (h : laws_gjAt.f k kd raw str num ex s pk b e l3 l4 = some true) :
 Calls Tryz.prog 12 #[.agg #[.int .i64 kd, .string raw, .string str, .float .f64 num, .bool ex], .string s, .agg #[.int .i64 pk, .int .i64 b, .int .i64 e, .slice A3 l3.length c3, .slice A4 l4.length c4]] w fun x w' => x = .returned (.bool true) ∧ Below w.heap.size w w' := by
 unfold laws_gjAt.f at h
 cases ex with
 | false => rw [if_neg (by decide)] at h; cases h
 | true =>
 rw [if_pos rfl] at h
 obtain ⟨t, A1, h1⟩ := Option.bind_eq_some_iff.mp h
 clear h
 split at h1
 case isFalse => cases h1
 rename_i ek
 subst ek
 split at h1
 case isFalse => cases h1
 rename_i e0
 split at h1
 case isFalse => cases h1
 rename_i e1
 split at h1
 case isFalse => cases h1
 rename_i e2
 split at h1
 case isFalse => cases h1
 rename_i e3
 have x3 : (raw.toList == (s.extract b.toNat e.toNat).toList) = true := beq_iff_eq.mpr e3
 have x0 : (0 ≤ b) = True := eq_true e0
 have x1 : (b ≤ e) = True := eq_true e1
 have x2 : (e ≤ (s.size : Int)) = True := eq_true e2
 have xk : (kd != kd) = false := bne_self_eq_false _
 have hK : ∀ W, Calls Tryz.prog 35 #[.int .i64 pk] W fun x w' => x = .returned (.int .i64 kd) ∧ ∃ m, w' = W.drewN m := fun W => (laws_gjKind.calls pk kd W A1).mono (fun x w' h => ⟨h.1, h.2.1⟩)
 replace h1 := Aside0.mk h1
 clear e0 e1 e2 e3 A1
 go_enter Tryz.func12, Tryz.ntmps12
 go_upto_region 1 with (fail)
 go_quiet (first | (go_at_call 35; exact Calls.quiet_of (hK _)))
 go_wp2_with (fail)
 go_upto_region 3 with (fail)
 by_cases h4 : pk = 4
 ·have h2 := h1.out
  rw [if_pos h4] at h2
  obtain ⟨t, A1, h3⟩ := Option.bind_eq_some_iff.mp h2
  have x5 : (str.toList == t.toList) = true := Option.some.inj h3
  clear h1 h2 h3
  have x4 : (pk != 4) = false := bne_eq_false_iff_eq.mpr h4
  clear h4
  have hU := fun W => spec_Unquote.calls k raw t W A1
  replace A1 := Aside0.mk A1
  have kb : (((w.alloc (.cells #[.int .i64 kd, .string raw, .string str, .float .f64 num, .bool true] 39)).alloc (.cells #[.int .i64 pk, .int .i64 b, .int .i64 e, .slice A3 l3.length c3, .slice A4 l4.length c4] 32)).drewN nq).heap[w.heap.size]? = some (.cells #[.int .i64 kd, .string raw, .string str, .float .f64 num, .bool true] 39 (0, 0)) := blk_drewN (blk_alloc (blk_new w _) _) _
  have kc : (((w.alloc (.cells #[.int .i64 kd, .string raw, .string str, .float .f64 num, .bool true] 39)).alloc (.cells #[.int .i64 pk, .int .i64 b, .int .i64 e, .slice A3 l3.length c3, .slice A4 l4.length c4] 32)).drewN nq).cell? ⟨w.heap.size + 1, 0, none⟩ = some (.int .i64 pk) := by
   have := blk_new (w.alloc (.cells #[.int .i64 kd, .string raw, .string str, .float .f64 num, .bool true] 39)) (.cells #[.int .i64 pk, .int .i64 b, .int .i64 e, .slice A3 l3.length c3, .slice A4 l4.length c4] 32)
   exact (blk_cell (blk_drewN (by simpa using this) nq) 0).trans rfl
  have kB : Below w.heap.size w (((w.alloc (.cells #[.int .i64 kd, .string raw, .string str, .float .f64 num, .bool true] 39)).alloc (.cells #[.int .i64 pk, .int .i64 b, .int .i64 e, .slice A3 l3.length c3, .slice A4 l4.length c4] 32)).drewN nq) := pw_below_drewN (below_alloc (below_alloc (Below.refl _ _) _) _) _
  generalize (((w.alloc (.cells #[.int .i64 kd, .string raw, .string str, .float .f64 num, .bool true] 39)).alloc (.cells #[.int .i64 pk, .int .i64 b, .int .i64 e, .slice A3 l3.length c3, .slice A4 l4.length c4] 32)).drewN nq) = W0 at kb kc kB ⊢
  have c1 := (blk_cell kb 1).trans rfl
  have c2 := (blk_cell kb 2).trans rfl
  replace kb := Aside0.mk kb
  replace kB := Aside0.mk kB
  go_region_with (first | (go_at_call 36; refine (hU _).mono ?_; rintro x w5 ⟨rfl, hb⟩; have c3 := (blk_cell (blk_below (show (World.drew W0).heap[w.heap.size]? = _ from kb.out) hb) 2).trans rfl; replace hb := Aside0.mk hb))
  all_goals go_wp2
  all_goals go_ret
  all_goals exact ⟨rfl, below_then (w1 := World.drew W0) (below_drew kB.out) kB.out.size hb.out⟩
 ·have x4 : (pk != 4) = true := bne_iff_ne.mpr h4
  clear h1 h4
  go_quiet (fail)
  go_wp2
  go_ret
  exact ⟨rfl, pw_below_drewN (pw_below_drewN (below_alloc (below_alloc (Below.refl _ _) _) _) _) _⟩
end Go.Proofs.YtpgfjbimodnkeaaGreatDoor.Q
set_option linter.unusedVariables false
set_option linter.unusedSimpArgs false
namespace Go.Proofs.YtpgfjbimodnkeaaGreatDoor.Dec
open Go Go.RowKit Go.Proofs.YtpgfjbimodnkeaaGreatDoorW.PrintWords Go.Proofs.YtpgfjbimodnkeaaGreatDoorW.PrintLast Go.Proofs.YtpgfjbimodnkeaaGreatDoorW.PrintMore Go.Proofs.YtpgfjbimodnkeaaGreatDoor.Scan Go.Proofs.YtpgfjbimodnkeaaGreatDoor.Q
theorem atk_f {s : ByteArray} (hS : s.size ≤ 65536) {p : S32} {r : Rs} (h : KidOk s p r) : ∃ k, laws_gjAt.f k r.k r.raw r.str r.num r.ex s p.f0 p.f1 p.f2 p.f3 p.f4 = some true := by
 obtain ⟨b, e, h1, h2, hb, he, hr, hs⟩ := h.at_
 have hx := h.ex
 by_cases h4 : p.f0 = 4
 ·obtain ⟨q, rfl, hbq, hsay⟩ := hs h4
  have hu := hsay.unquote hS (show 1 ≤ b + 1 by omega) (by omega) (by omega)
  rw [Nat.add_sub_cancel] at hu
  obtain ⟨k, hk⟩ := hu.at
  refine ⟨k, ?_⟩
  unfold laws_gjAt.f
  rw [if_pos hx, gjkind_f, Option.bind_some, if_pos h.kind, h1, h2, if_pos (by omega), if_pos (by omega), if_pos (by omega), Int.toNat_natCast, Int.toNat_natCast, if_pos (by rw [hr]), if_pos h4, hr, hk]
  simp
 ·refine ⟨0, ?_⟩
  unfold laws_gjAt.f
  rw [if_pos hx, gjkind_f, Option.bind_some, if_pos h.kind, h1, h2, if_pos (by omega), if_pos (by omega), if_pos (by omega), Int.toNat_natCast, Int.toNat_natCast, if_pos (by rw [hr]), if_neg h4]
def RsIs (p : Rs) (cs : List Value) : Prop := cs = p.cells
theorem vals_reps (ps : List Rs) : Reps RsIs 5 ps (ps.flatMap fun p => p.cells) := by
 have key : ∀ (l acc : List Rs), Reps RsIs 5 acc (acc.flatMap fun p => p.cells) → Reps RsIs 5 (acc ++ l) ((acc ++ l).flatMap fun p => p.cells) := by
  intro l
  induction l with
  | nil => intro acc h; simpa using h
  | cons p l ih =>
    intro acc h
    have h3 := h.snoc (p := p) (c := p.cells) rfl rfl
    have h4 : Reps RsIs 5 (acc ++ [p]) ((acc ++ [p]).flatMap fun p => p.cells) := by
     rw [List.flatMap_append]
     simpa using h3
    have h2 := ih (acc ++ [p]) h4
    rwa [List.append_assoc] at h2
 exact key ps [] (Reps.none _ _)
structure ValAt (w : World) (ad : Addr) (i : Nat) (vr : Rs) : Prop where
 c : ∀ (j : Nat) (u : Value), vr.cells[j]? = some u → w.cell? (ad.add (i * 5 + j)) = some u
theorem val_at {w : World} {A : Option Addr} {ps : List Rs} (h : ReadsRow RsIs 5 w A ps.length ps) (i : Nat) (hi : i < ps.length) : ∃ ad, A = some ad ∧ ValAt w ad i ps[i] := by
 obtain ⟨ad, e, hc⟩ := h.2.2 (by omega)
 obtain ⟨c, hs, hr, hcell⟩ := hc i _ (List.getElem?_eq_getElem hi)
 unfold RsIs at hr
 subst hr
 exact ⟨ad, e, ⟨hcell⟩⟩
theorem KidOk.move {s r : ByteArray} {i : Nat} (T : Tail s r i) {p p' : S32} {x : Rs} (h : KidOk r p' x) (h0 : p.f0 = p'.f0) (h1 : p.f1 = p'.f1 + (i : Int)) (h2 : p.f2 = p'.f2 + (i : Int)) : KidOk s p x := by
 obtain ⟨b, e, g1, g2, g3, g4, g5, g6⟩ := h.at_
 have hz := T.size
 refine ⟨⟨i + b, i + e, by omega, by omega, by omega, by omega, by rw [g5, T.cut b e (by omega) g4], fun h4 => ?_⟩, by rw [h0]; exact h.kind, h.ex⟩
 obtain ⟨q, rfl, hbq, ⟨l, hl, hv⟩⟩ := g6 (by omega)
 refine ⟨i + q, by omega, by omega, ⟨l, ?_, hv⟩⟩
 rw [T.cut (b + 1) q (by omega) (by omega)] at hl
 exact hl
structure ValsOk (s : ByteArray) (ks : List S32) (stop : Int) (ps : List Rs) : Prop where
 len0 : stop ≤ 0 → ps.length = ks.length
 len1 : 0 < stop → (ps.length : Int) = min (ks.length : Int) stop
 at_ : ∀ (j : Nat) (p : S32) (r : Rs), ks[j]? = some p → ps[j]? = some r → KidOk s p r
theorem ValsOk.le {s : ByteArray} {ks : List S32} {stop : Int} {ps : List Rs} (h : ValsOk s ks stop ps) : ps.length ≤ ks.length := by
 rcases Int.lt_or_le 0 stop with h0 | h0
 ·have := h.len1 h0; omega
 ·have := h.len0 h0; omega
theorem each_vals {s r : ByteArray} {i : Nat} (T : Tail s r i) {kd : Int} {nms : List S44} {ks ks' : List S32} (hm : Moved i ks ks') {stop : Int} {ps : List (Rs × Rs)} (h : EachOk r kd nms ks' stop ps) : ValsOk s ks stop (ps.map Prod.snd) := by
 have hl : ks.length = ks'.length := by simpa using congrArg List.length hm
 have h1 := h.le
 have h3 := h.go
 refine ⟨fun h0 => ?_, fun h0 => ?_, fun j p x hp hx => ?_⟩
 ·rw [List.length_map]
  rcases h.len with h2 | ⟨h2, h4⟩ <;> omega
 ·rw [List.length_map]
  rcases h.len with h2 | ⟨h2, h4⟩
  ·rcases Nat.lt_or_ge stop.toNat ps.length with hlt | hlt
   ·exact absurd (by omega) (h3 stop.toNat (by omega) hlt)
   ·omega
  ·omega
 ·rw [List.getElem?_map] at hx
  obtain ⟨y, hy, rfl⟩ := Option.map_eq_some_iff.1 hx
  have hj : j < ps.length := (List.getElem?_eq_some_iff.1 hy).1
  have hj2 : j < ks'.length := by omega
  have hk := h.kids.at j (ks'[j]'hj2) y (by rw [List.getElem?_take, if_pos hj, List.getElem?_eq_getElem hj2]) hy
  have hmj := congrArg (·[j]?) hm
  simp only [List.getElem?_map, hp, List.getElem?_eq_getElem hj2, Option.map_some, Option.some.injEq, Prod.mk.injEq] at hmj
  exact hk.move T hmj.1 hmj.2.1 hmj.2.2
theorem J.kids_ne {s : ByteArray} {md : Md} {a e : Nat} {kd : Int} {ns : List S44} {ks : List S32} (h : J s md a e kd ns ks) : md ≠ .val → ks ≠ [] := by
 intro hm
 cases h <;> first | exact absurd rfl hm | simp
theorem empty_of {s : ByteArray} {i m : Nat} {kd : Int} (hkd : kd = 5 ∨ kd = 6) {ns : List S44} (h : J s .val i m kd ns []) : Empty0 s i m := by
 generalize hk : ([] : List S32) = ks at h
 cases h with
 | null => exact absurd hkd (by decide)
 | fals => exact absurd hkd (by decide)
 | tru => exact absurd hkd (by decide)
 | num => exact absurd hkd (by decide)
 | str => exact absurd hkd (by decide)
 | arr0 _ j h0 h1 h2 h3 h4 => exact ⟨j, rfl, h3, h2, .inr ⟨h1, h4⟩⟩
 | arr _ j _ _ h0 h1 h2 h3 => exact absurd hk.symm (J.kids_ne h3 (fun h => by cases h))
 | obj0 _ j h0 h1 h2 h3 h4 => exact ⟨j, rfl, h3, h2, .inl ⟨h1, h4⟩⟩
 | obj _ j _ _ _ h0 h1 h2 h3 => exact absurd hk.symm (J.kids_ne h3 (fun h => by cases h))
theorem open_at {s : ByteArray} {i m : Nat} {kd : Int} (hkd : kd = 5 ∨ kd = 6) {ns : List S44} {ks : List S32} (h : J s .val i m kd ns ks) : i < s.size ∧ (bt s i = 123 ∨ bt s i = 91) := by
 have hb := h.bound
 refine ⟨by omega, ?_⟩
 cases h with
 | null => exact absurd hkd (by decide)
 | fals => exact absurd hkd (by decide)
 | tru => exact absurd hkd (by decide)
 | num => exact absurd hkd (by decide)
 | str => exact absurd hkd (by decide)
 | arr0 _ j h0 h1 h2 h3 h4 => exact .inr h1
 | arr _ j _ _ h0 h1 h2 h3 => exact .inr h1
 | obj0 _ j h0 h1 h2 h3 h4 => exact .inl h1
 | obj _ j _ _ _ h0 h1 h2 h3 => exact .inl h1
theorem vals_row (w : World) (B : Nat) (s : ByteArray) (stop : Int) (kd : Int) (hkd : kd = 5 ∨ kd = 6) (i m : Nat) (ns : List S44) (ks : List S32) (keys : List ByteArray) (hx : TextIs s kd i m ns ks keys) (hT : Tabs B w) :
 Calls Tryz.prog 24 #[.string s, .int .i64 stop] w fun e w' => ∃ (A : Option Addr) (c : Nat) (ps : List Rs), e = .returned (.slice A ps.length c) ∧ ReadsRow RsIs 5 w' A ps.length ps ∧ Below w.heap.size w w' ∧ ValsOk s ks stop ps := by
 obtain ⟨hi, hc⟩ := open_at hkd hx.val
 have T := tail_of s i (by omega)
 have hz := T.size
 obtain ⟨ns', ks', h1, h2, h3⟩ := T.j hx.val (Nat.le_refl i)
 rw [Nat.sub_self] at h1
 have hbd := hx.val.bound
 have hE := T.blanks hx.post (by omega)
 rw [show s.size - i = (s.extract i s.size).size by omega] at hE
 have hP := T.prd hx.size _ 0 rfl (by omega) hx.prd
 refine (vals_all w B s hx.size i hi hx.pre hc kd hkd ns' ks' (m - i) h1 hE hP stop hT).mono ?_
 rintro e w' ⟨v, ps, rfl, hown, hB, hE2⟩
 have hown2 : w'.ownsRow w.heap.size 39 5 v (ps.map Prod.snd).length ((ps.map Prod.snd).flatMap fun p => p.cells) := by
  rw [List.length_map, List.flatMap_map]
  exact hown
 obtain ⟨A, c, rfl, hR⟩ := own_reads_row hown2 (vals_reps _) rfl
 exact ⟨A, c, _, rfl, hR, hB, each_vals T h2 hE2⟩
end Go.Proofs.YtpgfjbimodnkeaaGreatDoor.Dec
