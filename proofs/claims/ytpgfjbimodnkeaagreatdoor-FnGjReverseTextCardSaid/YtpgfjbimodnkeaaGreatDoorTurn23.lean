/- FnGjReverseText: whatever text comes in, the law returns true and the text reads afterwards as before; with the fourteen package-level variables that its row lists as the text of the program lays them (the tied card) (part 23 of 25: lemmas for its last part) -/
import Derived.Test.YtpgfjbimodnkeaaGreatDoorTurn2
import Derived.Test.YtpgfjbimodnkeaaGreatDoorTurn13
import Derived.Test.YtpgfjbimodnkeaaGreatDoorTurn15
import Derived.Test.YtpgfjbimodnkeaaGreatDoorTurn16
import Derived.Test.YtpgfjbimodnkeaaGreatDoorTurn21
import Derived.Test.YtpgfjbimodnkeaaGreatDoorTurn22
set_option maxHeartbeats 16000000
set_option maxRecDepth 100000
set_option linter.unusedVariables false
set_option linter.unusedSimpArgs false
namespace Go.Proofs.YtpgfjbimodnkeaaGreatDoor.Q
open Go.RowKit Go.Proofs.YtpgfjbimodnkeaaGreatDoorW.PrintWords Go.Proofs.YtpgfjbimodnkeaaGreatDoorW.PrintLast Go.Proofs.YtpgfjbimodnkeaaGreatDoorW.PrintMore
attribute [local go_sem] dH dI dW dY dm dw dK dL
def fO.f (k : Nat) (a0 : ByteArray) : Option (Int × ByteArray × List ByteArray × (List (S25)) × Bool) := (gz.f k a0).bind fun bt375 => (if bt375.2.2.2.2.2 = true then ((bG.f k a0 bt375.1 bt375.2.1 bt375.2.2.1 bt375.2.2.2.1 bt375.2.2.2.2.1).bind fun bt386 => (some (bt386.1, bt386.2.1, bt386.2.2.1, bt386.2.2.2, true))) else (some (0, (⟨#[]⟩ : ByteArray), ([] : List ByteArray), ([] : List (S25)), false)))
theorem fO.calls (k : Nat) (a0 : ByteArray) (r1 : Int) (r2 : ByteArray) (r3 : List ByteArray) (r4 : List (S25)) (r5 : Bool) (w : World) (h : fO.f k a0 = some (r1, r2, r3, r4, r5)) :
 Calls Tryz.prog 28 #[.string a0] w fun e w' => ∃ v2_ v3_ : Value, e = .returned (.tuple #[.agg #[.int .i64 r1, .string r2, v2_, v3_], .bool r5]) ∧ Kd.R Kd.string 9 w' w.heap.size (fun _ => True) v2_ r3 ∧ Kd.R k25 25 w' w.heap.size (fun k_ => some k_ ≠ (v2_ : Value).ownBlock) v3_ r4 ∧ Below w.heap.size w w' := by
 have hu25 := Tryz.underlying25
 have hu32 := Tryz.underlying32
 have HB := ae.mk (Below.refl w.heap.size w)
 have H : ((gz.f k a0).bind fun bt375 => (if bt375.2.2.2.2.2 = true then ((bG.f k a0 bt375.1 bt375.2.1 bt375.2.2.1 bt375.2.2.2.1 bt375.2.2.2.2.1).bind fun bt386 => (some (bt386.1, bt386.2.1, bt386.2.2.1, bt386.2.2.2, true))) else (some (0, (⟨#[]⟩ : ByteArray), ([] : List ByteArray), ([] : List (S25)), false)))) = some (r1, r2, r3, r4, r5) := h
 clear h
 replace H := Option.bind_eq_some_iff.mp H
 obtain ⟨⟨t375, t376, t377, t378, t381, t384⟩, A20, H⟩ := H
 replace H : (if t384 = true then ((bG.f k a0 t375 t376 t377 t378 t381).bind fun bt386 => (some (bt386.1, bt386.2.1, bt386.2.2.1, bt386.2.2.2, true))) else (some (0, (⟨#[]⟩ : ByteArray), ([] : List ByteArray), ([] : List (S25)), false))) = some (r1, r2, r3, r4, r5) := H
 have A2 := ae.mk A20
 clear A20
 by_cases c3 : t384 = true
 ·subst c3
  have H1 : ((bG.f k a0 t375 t376 t377 t378 t381).bind fun bt386 => (some (bt386.1, bt386.2.1, bt386.2.2.1, bt386.2.2.2, true))) = some (r1, r2, r3, r4, r5) := by rw [if_pos rfl] at H; exact H
  clear H
  have H := H1
  clear H1
  replace H := Option.bind_eq_some_iff.mp H
  obtain ⟨⟨t386, t387, t388, t391⟩, A40, H⟩ := H
  replace H : (some (t386, t387, t388, t391, true)) = some (r1, r2, r3, r4, r5) := H
  have A4 := ae.mk A40
  clear A40
  simp only [Option.some.injEq, Prod.mk.injEq] at H
  obtain ⟨rfl, rfl, rfl, rfl, rfl⟩ := H
  go_enter Tryz.func28, Tryz.ntmps28
  go_wp2_with (first | ((with_reducible refine gJ (N := 2) rfl ?_); refine je ?hg (N := 2) ?hd (cs := #[.int .i64 0, .string (⟨#[]⟩ : ByteArray), .slice none 0 0, .slice none 0 0]) (t := 25) ?hr ?_; (case hd => rfl); (case hg => rfl); (case hr => first | (go_simp; done) | (go_simp; rfl)); intro gb374 hg w5 hbox hb; have n0_ := ae.mk (bZ (by repeat (first | (with_reducible first | exact HB.out | apply ai | apply ag | apply au) | exact HB.out)) hb); have n1_ := ae.mk (hbox); have n2_ := ae.mk ((by rw [hg]; exact (cO (by repeat (first | (with_reducible first | exact HB.out | apply ai | apply ag | apply au) | exact HB.out))) : w.heap.size ≤ gb374)); have n3_ := ae.mk ((by rw [hg]; exact (cO (by repeat (first | (with_reducible first | exact HB.out | apply ai | apply ag | apply au) | exact HB.out))) : w.heap.size ≤ gb374)); clear HB; have HB := n0_; have BK374 := n1_; have GW374 := n2_; have GE374 := n3_; clear n0_ n1_ n2_ n3_; clear hb hbox hg) | ((with_reducible refine bC (f := 10) rfl ?_); refine dZ (some 8) rfl rfl Tryz.func10 (by kernel_rfl) rfl #[.string a0] rfl (by (try simp only [List.map_toArray, List.map_cons, List.map_nil]); first | done | rfl | (simp only [List.length_drop, List.length_take]; rfl)) ?_; (with_reducible refine (gz.calls k a0 t375 t376 t377 t378 t381 true _ A2.out).mono ?_); rintro e w6 ⟨v379, v382, rfl, ho0, ho1, hb⟩; refine ⟨_, rfl, ?_⟩; have n0_ := ae.mk (Kd.fF ho0 (cO (by repeat (first | (with_reducible first | exact HB.out | apply ai | apply ag | apply au | refine aA ?_ GE374.out) | exact HB.out)))); have n1_ := ae.mk (Kd.fF ho1 (cO (by repeat (first | (with_reducible first | exact HB.out | apply ai | apply ag | apply au | refine aA ?_ GE374.out) | exact HB.out)))); have n2_ := ae.mk (bI (g := gb374) (o := .cells #[.int .i64 0, .string (⟨#[]⟩ : ByteArray), .slice none 0 0, .slice none 0 0] 25 (0, 0)) (by (with_reducible repeat (first | refine aZ ?_ _ | refine bF ?_ | refine aN ?_ _)); exact BK374.out) hb); have n3_ := ae.mk (bZ (by repeat (first | (with_reducible first | exact HB.out | apply ai | apply ag | apply au | refine aA ?_ GE374.out) | exact HB.out)) hb); clear BK374; clear HB; have HO380 := n0_; have HO383 := n1_; have BK374 := n2_; have HB := n3_; clear n0_ n1_ n2_ n3_; (try clear hb); (try clear hb2); (try clear hk); (try clear hi); (try clear ho0); (try clear ho1)) | ((with_reducible refine gJ (N := 4) rfl ?_); refine je ?hg (N := 4) ?hd (cs := #[.int .i64 0, .int .i64 0, .int .i64 0, .slice none 0 0, .slice none 0 0]) (t := 32) ?hr ?_; (case hd => rfl); (case hg => rfl); (case hr => first | (go_simp; done) | (go_simp; rfl)); intro gb385 hg w7 hbox hb; have n0_ := ae.mk (Kd.gX (by (with_reducible repeat (first | apply Kd.di | apply Kd.dA | apply Kd.dN)); exact HO380.out) hb); have n1_ := ae.mk (Kd.gX (Kd.wS (by (with_reducible repeat (first | apply Kd.di | apply Kd.dA | apply Kd.dN)); exact HO383.out) gb385 (Nat.le_of_eq hg.symm)) hb); have n2_ := ae.mk (bI (g := gb374) (o := .cells #[.int .i64 0, .string (⟨#[]⟩ : ByteArray), .slice none 0 0, .slice none 0 0] 25 (0, 0)) (by (with_reducible repeat (first | refine aZ ?_ _ | refine bF ?_ | refine aN ?_ _)); exact BK374.out) hb); have n3_ := ae.mk (bZ (by repeat (first | (with_reducible first | exact HB.out | apply ai | apply ag | apply au | refine aA ?_ GE374.out) | exact HB.out)) hb); have n4_ := ae.mk (hbox); have n5_ := ae.mk ((by rw [hg]; exact (cO (by repeat (first | (with_reducible first | exact HB.out | apply ai | apply ag | apply au | refine aA ?_ GE374.out) | exact HB.out))) : w.heap.size ≤ gb385)); have n6_ := ae.mk ((by rw [hg]; exact (cO (by repeat (first | (with_reducible first | exact HB.out | apply ai | apply ag | apply au | refine aA ?_ GE374.out) | exact HB.out))) : w.heap.size ≤ gb385)); have n7_ := ae.mk ((by rw [hg]; exact Nat.ne_of_lt (jA (g := gb374) (o := .cells #[.int .i64 0, .string (⟨#[]⟩ : ByteArray), .slice none 0 0, .slice none 0 0] 25 (0, 0)) (by (with_reducible repeat (first | refine aZ ?_ _ | refine bF ?_ | refine aN ?_ _)); exact BK374.out)) : gb374 ≠ gb385)); have n8_ := ae.mk ((by rw [hg]; exact Nat.ne_of_gt (jA (g := gb374) (o := .cells #[.int .i64 0, .string (⟨#[]⟩ : ByteArray), .slice none 0 0, .slice none 0 0] 25 (0, 0)) (by (with_reducible repeat (first | refine aZ ?_ _ | refine bF ?_ | refine aN ?_ _)); exact BK374.out)) : gb385 ≠ gb374)); clear HO380; clear HO383; clear BK374; clear HB; have HO380 := n0_; have HO383 := n1_; have BK374 := n2_; have HB := n3_; have BK385 := n4_; have GW385 := n5_; have GE385 := n6_; have NB374_385 := n7_; have NB385_374 := n8_; clear n0_ n1_ n2_ n3_ n4_ n5_ n6_ n7_ n8_; clear hb hbox hg; have hnb8 := NB385_374.out; have hnc8 := NB374_385.out; have hcz9_0 : w7.cell? ⟨gb385, 0, none⟩ = some (.int .i64 0) := (ah BK385.out 0).trans rfl; have hcz9_1 : w7.cell? ⟨gb385, 1, none⟩ = some (.int .i64 0) := (ah BK385.out 1).trans rfl; have hcz9_2 : w7.cell? ⟨gb385, 2, none⟩ = some (.int .i64 0) := (ah BK385.out 2).trans rfl; have hcz9_3 : w7.cell? ⟨gb385, 3, none⟩ = some (.slice none 0 0) := (ah BK385.out 3).trans rfl; have hcz9_4 : w7.cell? ⟨gb385, 4, none⟩ = some (.slice none 0 0) := (ah BK385.out 4).trans rfl; have hfz9_0 := ak BK385.out 0; have hfz9_1 := ak BK385.out 1; have hfz9_2 := ak BK385.out 2; have hfz9_3 := ak BK385.out 3; have hfz9_4 := ak BK385.out 4; obtain ⟨Ao10, co10, eo10⟩ := Kd.eH HO380.out; subst eo10; obtain ⟨Ao11, co11, eo11⟩ := Kd.eH HO383.out; subst eo11) | ((with_reducible refine bC (f := 52) rfl ?_); refine dZ (some 16) rfl rfl Tryz.func52 (by kernel_rfl) rfl #[.string a0, .agg #[.int .i64 t375, .int .i64 t376, .int .i64 t377, .slice Ao10 t378.length co10, .slice Ao11 t381.length co11]] rfl (by (try simp only [List.map_toArray, List.map_cons, List.map_nil]); first | done | rfl | (simp only [List.length_drop, List.length_take]; rfl)) ?_; (with_reducible refine (bG.calls k a0 t375 t376 t377 _ _ t378 _ _ t381 t386 t387 t388 t391 _ ?side1 ?side2 ?side3 ?side4 A4.out).mono ?_); (case side1 => refine (Kd.kE (e := 44) (base := w.heap.size) (ok := fun k_ => True) (n := t378.length) (c := co10) ?_).2.2; exact (by (with_reducible repeat (first | apply Kd.di | apply Kd.dA | apply Kd.dN)); exact (Kd.dM (Kd.gy (p := ⟨gb385, 4, none⟩) (Kd.gy (p := ⟨gb385, 3, none⟩) (Kd.gy (p := ⟨gb385, 2, none⟩) (Kd.gy (p := ⟨gb385, 1, none⟩) (Kd.gy (p := ⟨gb385, 0, none⟩) (Kd.pR HO380.out BK385.out (by decide)) (fun _ hk => hk.2) (.int .i64 t375)) (fun _ hk => hk.2) (.int .i64 t376)) (fun _ hk => hk.2) (.int .i64 t377)) (fun _ hk => hk.2) (.slice Ao10 t378.length co10)) (fun _ hk => hk.2) (.slice Ao11 t381.length co11)) (fun _ h_ => h_.1)))); (case side2 => exact (Kd.kE HO380.out).2.1); (case side3 => refine (Kd.kE (e := 32) (base := w.heap.size) (ok := fun k_ => (some k_ ≠ (.slice Ao10 t378.length co10 : Value).ownBlock ∧ k_ ≠ gb385)) (n := t381.length) (c := co11) ?_).2.2; exact (by (with_reducible repeat (first | apply Kd.di | apply Kd.dA | apply Kd.dN)); exact (Kd.dM (Kd.gy (p := ⟨gb385, 4, none⟩) (Kd.gy (p := ⟨gb385, 3, none⟩) (Kd.gy (p := ⟨gb385, 2, none⟩) (Kd.gy (p := ⟨gb385, 1, none⟩) (Kd.gy (p := ⟨gb385, 0, none⟩) (Kd.dM HO383.out (fun k_ hk => (⟨hk, hk.2⟩ : _ ∧ k_ ≠ gb385))) (fun _ hk => hk.2) (.int .i64 t375)) (fun _ hk => hk.2) (.int .i64 t376)) (fun _ hk => hk.2) (.int .i64 t377)) (fun _ hk => hk.2) (.slice Ao10 t378.length co10)) (fun _ hk => hk.2) (.slice Ao11 t381.length co11)) (fun _ h_ => h_.1)))); (case side4 => exact (Kd.kE HO383.out).2.1); rintro e w12 ⟨v389, v392, rfl, ho0, ho1, hb⟩; refine ⟨_, rfl, ?_⟩; have n0_ := ae.mk (Kd.gX (by (with_reducible repeat (first | apply Kd.di | apply Kd.dA | apply Kd.dN)); exact (Kd.dM (Kd.gy (p := ⟨gb385, 4, none⟩) (Kd.gy (p := ⟨gb385, 3, none⟩) (Kd.gy (p := ⟨gb385, 2, none⟩) (Kd.gy (p := ⟨gb385, 1, none⟩) (Kd.gy (p := ⟨gb385, 0, none⟩) (Kd.pR HO380.out BK385.out (by decide)) (fun _ hk => hk.2) (.int .i64 t375)) (fun _ hk => hk.2) (.int .i64 t376)) (fun _ hk => hk.2) (.int .i64 t377)) (fun _ hk => hk.2) (.slice Ao10 t378.length co10)) (fun _ hk => hk.2) (.slice Ao11 t381.length co11)) (fun _ h_ => h_.1))) hb); have n1_ := ae.mk (Kd.gX (by (with_reducible repeat (first | apply Kd.di | apply Kd.dA | apply Kd.dN)); exact (Kd.dM (Kd.gy (p := ⟨gb385, 4, none⟩) (Kd.gy (p := ⟨gb385, 3, none⟩) (Kd.gy (p := ⟨gb385, 2, none⟩) (Kd.gy (p := ⟨gb385, 1, none⟩) (Kd.gy (p := ⟨gb385, 0, none⟩) (Kd.dM HO383.out (fun k_ hk => (⟨hk, hk.2⟩ : _ ∧ k_ ≠ gb385))) (fun _ hk => hk.2) (.int .i64 t375)) (fun _ hk => hk.2) (.int .i64 t376)) (fun _ hk => hk.2) (.int .i64 t377)) (fun _ hk => hk.2) (.slice Ao10 t378.length co10)) (fun _ hk => hk.2) (.slice Ao11 t381.length co11)) (fun _ h_ => h_.1))) hb); have n2_ := ae.mk (Kd.fF ho0 (cO (by repeat (first | (with_reducible first | exact HB.out | apply ai | apply ag | apply au | refine aA ?_ GE374.out | refine aA ?_ GE385.out) | exact HB.out)))); have n3_ := ae.mk (Kd.fF (Kd.Df ho1 (g := gb374) (o := .cells #[.int .i64 0, .string (⟨#[]⟩ : ByteArray), .slice none 0 0, .slice none 0 0] 25 (0, 0)) (by (with_reducible repeat (first | refine aZ ?_ _ | refine bF ?_ | refine aN ?_ _)); refine df ?_ NB374_385.out _; (with_reducible repeat (first | refine aZ ?_ _ | refine bF ?_ | refine aN ?_ _)); refine df ?_ NB374_385.out _; (with_reducible repeat (first | refine aZ ?_ _ | refine bF ?_ | refine aN ?_ _)); refine df ?_ NB374_385.out _; (with_reducible repeat (first | refine aZ ?_ _ | refine bF ?_ | refine aN ?_ _)); refine df ?_ NB374_385.out _; (with_reducible repeat (first | refine aZ ?_ _ | refine bF ?_ | refine aN ?_ _)); refine df ?_ NB374_385.out _; (with_reducible repeat (first | refine aZ ?_ _ | refine bF ?_ | refine aN ?_ _)); exact BK374.out)) (cO (by repeat (first | (with_reducible first | exact HB.out | apply ai | apply ag | apply au | refine aA ?_ GE374.out | refine aA ?_ GE385.out) | exact HB.out)))); have n4_ := ae.mk (bI (g := gb374) (o := .cells #[.int .i64 0, .string (⟨#[]⟩ : ByteArray), .slice none 0 0, .slice none 0 0] 25 (0, 0)) (by (with_reducible repeat (first | refine aZ ?_ _ | refine bF ?_ | refine aN ?_ _)); refine df ?_ NB374_385.out _; (with_reducible repeat (first | refine aZ ?_ _ | refine bF ?_ | refine aN ?_ _)); refine df ?_ NB374_385.out _; (with_reducible repeat (first | refine aZ ?_ _ | refine bF ?_ | refine aN ?_ _)); refine df ?_ NB374_385.out _; (with_reducible repeat (first | refine aZ ?_ _ | refine bF ?_ | refine aN ?_ _)); refine df ?_ NB374_385.out _; (with_reducible repeat (first | refine aZ ?_ _ | refine bF ?_ | refine aN ?_ _)); refine df ?_ NB374_385.out _; (with_reducible repeat (first | refine aZ ?_ _ | refine bF ?_ | refine aN ?_ _)); exact BK374.out) hb); have n5_ := ae.mk (bI (g := gb385) (o := .cells #[.int .i64 t375, .int .i64 t376, .int .i64 t377, .slice Ao10 t378.length co10, .slice Ao11 t381.length co11] 32 (0, 0)) (by (with_reducible repeat (first | refine aZ ?_ _ | refine bF ?_ | refine aN ?_ _)); refine bV (cs := #[.int .i64 t375, .int .i64 t376, .int .i64 t377, .slice Ao10 t378.length co10, .slice none 0 0]) ?_ 4 _ rfl; (with_reducible repeat (first | refine aZ ?_ _ | refine bF ?_ | refine aN ?_ _)); refine bV (cs := #[.int .i64 t375, .int .i64 t376, .int .i64 t377, .slice none 0 0, .slice none 0 0]) ?_ 3 _ rfl; (with_reducible repeat (first | refine aZ ?_ _ | refine bF ?_ | refine aN ?_ _)); refine bV (cs := #[.int .i64 t375, .int .i64 t376, .int .i64 0, .slice none 0 0, .slice none 0 0]) ?_ 2 _ rfl; (with_reducible repeat (first | refine aZ ?_ _ | refine bF ?_ | refine aN ?_ _)); refine bV (cs := #[.int .i64 t375, .int .i64 0, .int .i64 0, .slice none 0 0, .slice none 0 0]) ?_ 1 _ rfl; (with_reducible repeat (first | refine aZ ?_ _ | refine bF ?_ | refine aN ?_ _)); refine bV (cs := #[.int .i64 0, .int .i64 0, .int .i64 0, .slice none 0 0, .slice none 0 0]) ?_ 0 _ rfl; (with_reducible repeat (first | refine aZ ?_ _ | refine bF ?_ | refine aN ?_ _)); exact BK385.out) hb); have n6_ := ae.mk (bZ (by repeat (first | (with_reducible first | exact HB.out | apply ai | apply ag | apply au | refine aA ?_ GE374.out | refine aA ?_ GE385.out) | exact HB.out)) hb); clear HO380; clear HO383; clear BK374; clear BK385; clear HB; have HO380 := n0_; have HO383 := n1_; have HO390 := n2_; have HO393 := n3_; have BK374 := n4_; have BK385 := n5_; have HB := n6_; clear n0_ n1_ n2_ n3_ n4_ n5_ n6_; (try clear hb); (try clear hb2); (try clear hk); (try clear hi); (try clear ho0); (try clear ho1); have hcz13_0 : w12.cell? ⟨gb374, 0, none⟩ = some (.int .i64 0) := (ah BK374.out 0).trans rfl; have hcz13_1 : w12.cell? ⟨gb374, 1, none⟩ = some (.string (⟨#[]⟩ : ByteArray)) := (ah BK374.out 1).trans rfl; have hcz13_2 : w12.cell? ⟨gb374, 2, none⟩ = some (.slice none 0 0) := (ah BK374.out 2).trans rfl; have hcz13_3 : w12.cell? ⟨gb374, 3, none⟩ = some (.slice none 0 0) := (ah BK374.out 3).trans rfl; have hfz13_0 := ak BK374.out 0; have hfz13_1 := ak BK374.out 1; have hfz13_2 := ak BK374.out 2; have hfz13_3 := ak BK374.out 3; obtain ⟨Ao14, co14, eo14⟩ := Kd.eH HO390.out; subst eo14; obtain ⟨Ao15, co15, eo15⟩ := Kd.eH HO393.out; subst eo15))
  refine bodyPost_ret (iZ rfl _ _ gb374 25 #[.int .i64 t386, .string t387, .slice Ao14 t388.length co14, .slice Ao15 t391.length co15] (0, 0) _ rfl (by (with_reducible repeat (first | refine aZ ?_ _ | refine bF ?_ | refine aN ?_ _)); refine bV (cs := #[.int .i64 t386, .string t387, .slice Ao14 t388.length co14, .slice none 0 0]) ?_ 3 _ rfl; (with_reducible repeat (first | refine aZ ?_ _ | refine bF ?_ | refine aN ?_ _)); refine bV (cs := #[.int .i64 t386, .string t387, .slice none 0 0, .slice none 0 0]) ?_ 2 _ rfl; (with_reducible repeat (first | refine aZ ?_ _ | refine bF ?_ | refine aN ?_ _)); refine bV (cs := #[.int .i64 t386, .string (⟨#[]⟩ : ByteArray), .slice none 0 0, .slice none 0 0]) ?_ 1 _ rfl; (with_reducible repeat (first | refine aZ ?_ _ | refine bF ?_ | refine aN ?_ _)); refine bV (cs := #[.int .i64 0, .string (⟨#[]⟩ : ByteArray), .slice none 0 0, .slice none 0 0]) ?_ 0 _ rfl; (with_reducible repeat (first | refine aZ ?_ _ | refine bF ?_ | refine aN ?_ _)); exact BK374.out) Tryz.underlying25 rfl (by kernel_rfl)) rfl ?_
  exact ⟨_, _, by first | rfl | (simp [bg, bn] <;> rfl) | (simp [*, bg, bn] <;> rfl), by (with_reducible repeat (first | apply Kd.di | apply Kd.dA | apply Kd.dN)); exact Kd.dM (Kd.gy (p := ⟨gb374, 3, none⟩) (Kd.gy (p := ⟨gb374, 2, none⟩) (Kd.gy (p := ⟨gb374, 1, none⟩) (Kd.gy (p := ⟨gb374, 0, none⟩) (Kd.pR HO390.out BK374.out (by decide)) (fun _ hk => hk.2) (.int .i64 t386)) (fun _ hk => hk.2) (.string t387)) (fun _ hk => hk.2) (.slice Ao14 t388.length co14)) (fun _ hk => hk.2) (.slice Ao15 t391.length co15)) (fun _ hk => trivial), by (with_reducible repeat (first | apply Kd.di | apply Kd.dA | apply Kd.dN)); exact Kd.dM (Kd.gy (p := ⟨gb374, 3, none⟩) (Kd.gy (p := ⟨gb374, 2, none⟩) (Kd.gy (p := ⟨gb374, 1, none⟩) (Kd.gy (p := ⟨gb374, 0, none⟩) (Kd.dM HO393.out (fun k_ hk => (⟨hk, hk.2⟩ : _ ∧ k_ ≠ gb374))) (fun _ hk => hk.2) (.int .i64 t386)) (fun _ hk => hk.2) (.string t387)) (fun _ hk => hk.2) (.slice Ao14 t388.length co14)) (fun _ hk => hk.2) (.slice Ao15 t391.length co15)) (fun _ hk => hk.1.1), by repeat (first | (with_reducible first | exact HB.out | apply ai | apply ag | apply au | refine aA ?_ GE374.out | refine aA ?_ GE385.out) | exact HB.out)⟩
 ·replace c3 := Bool.eq_false_iff.mpr c3
  subst c3
  have H1 : (some (0, (⟨#[]⟩ : ByteArray), ([] : List ByteArray), ([] : List (S25)), false)) = some (r1, r2, r3, r4, r5) := by rw [if_neg (show ¬ (false = true) by decide)] at H; exact H
  clear H
  have H := H1
  clear H1
  simp only [Option.some.injEq, Prod.mk.injEq] at H
  obtain ⟨rfl, rfl, rfl, rfl, rfl⟩ := H
  go_enter Tryz.func28, Tryz.ntmps28
  go_wp2_with (first | ((with_reducible refine gJ (N := 2) rfl ?_); refine je ?hg (N := 2) ?hd (cs := #[.int .i64 0, .string (⟨#[]⟩ : ByteArray), .slice none 0 0, .slice none 0 0]) (t := 25) ?hr ?_; (case hd => rfl); (case hg => rfl); (case hr => first | (go_simp; done) | (go_simp; rfl)); intro gb374 hg w16 hbox hb; have n0_ := ae.mk (bZ (by repeat (first | (with_reducible first | exact HB.out | apply ai | apply ag | apply au) | exact HB.out)) hb); have n1_ := ae.mk (hbox); have n2_ := ae.mk ((by rw [hg]; exact (cO (by repeat (first | (with_reducible first | exact HB.out | apply ai | apply ag | apply au) | exact HB.out))) : w.heap.size ≤ gb374)); have n3_ := ae.mk ((by rw [hg]; exact (cO (by repeat (first | (with_reducible first | exact HB.out | apply ai | apply ag | apply au) | exact HB.out))) : w.heap.size ≤ gb374)); clear HB; have HB := n0_; have BK374 := n1_; have GW374 := n2_; have GE374 := n3_; clear n0_ n1_ n2_ n3_; clear hb hbox hg) | ((with_reducible refine bC (f := 10) rfl ?_); refine dZ (some 8) rfl rfl Tryz.func10 (by kernel_rfl) rfl #[.string a0] rfl (by (try simp only [List.map_toArray, List.map_cons, List.map_nil]); first | done | rfl | (simp only [List.length_drop, List.length_take]; rfl)) ?_; (with_reducible refine (gz.calls k a0 t375 t376 t377 t378 t381 false _ A2.out).mono ?_); rintro e w17 ⟨v379, v382, rfl, ho0, ho1, hb⟩; refine ⟨_, rfl, ?_⟩; have n0_ := ae.mk (Kd.fF ho0 (cO (by repeat (first | (with_reducible first | exact HB.out | apply ai | apply ag | apply au | refine aA ?_ GE374.out) | exact HB.out)))); have n1_ := ae.mk (Kd.fF ho1 (cO (by repeat (first | (with_reducible first | exact HB.out | apply ai | apply ag | apply au | refine aA ?_ GE374.out) | exact HB.out)))); have n2_ := ae.mk (bI (g := gb374) (o := .cells #[.int .i64 0, .string (⟨#[]⟩ : ByteArray), .slice none 0 0, .slice none 0 0] 25 (0, 0)) (by (with_reducible repeat (first | refine aZ ?_ _ | refine bF ?_ | refine aN ?_ _)); exact BK374.out) hb); have n3_ := ae.mk (bZ (by repeat (first | (with_reducible first | exact HB.out | apply ai | apply ag | apply au | refine aA ?_ GE374.out) | exact HB.out)) hb); clear BK374; clear HB; have HO380 := n0_; have HO383 := n1_; have BK374 := n2_; have HB := n3_; clear n0_ n1_ n2_ n3_; (try clear hb); (try clear hb2); (try clear hk); (try clear hi); (try clear ho0); (try clear ho1)) | ((with_reducible refine gJ (N := 4) rfl ?_); refine je ?hg (N := 4) ?hd (cs := #[.int .i64 0, .int .i64 0, .int .i64 0, .slice none 0 0, .slice none 0 0]) (t := 32) ?hr ?_; (case hd => rfl); (case hg => rfl); (case hr => first | (go_simp; done) | (go_simp; rfl)); intro gb385 hg w18 hbox hb; have n0_ := ae.mk (Kd.gX (by (with_reducible repeat (first | apply Kd.di | apply Kd.dA | apply Kd.dN)); exact HO380.out) hb); have n1_ := ae.mk (Kd.gX (Kd.wS (by (with_reducible repeat (first | apply Kd.di | apply Kd.dA | apply Kd.dN)); exact HO383.out) gb385 (Nat.le_of_eq hg.symm)) hb); have n2_ := ae.mk (bI (g := gb374) (o := .cells #[.int .i64 0, .string (⟨#[]⟩ : ByteArray), .slice none 0 0, .slice none 0 0] 25 (0, 0)) (by (with_reducible repeat (first | refine aZ ?_ _ | refine bF ?_ | refine aN ?_ _)); exact BK374.out) hb); have n3_ := ae.mk (bZ (by repeat (first | (with_reducible first | exact HB.out | apply ai | apply ag | apply au | refine aA ?_ GE374.out) | exact HB.out)) hb); have n4_ := ae.mk (hbox); have n5_ := ae.mk ((by rw [hg]; exact (cO (by repeat (first | (with_reducible first | exact HB.out | apply ai | apply ag | apply au | refine aA ?_ GE374.out) | exact HB.out))) : w.heap.size ≤ gb385)); have n6_ := ae.mk ((by rw [hg]; exact (cO (by repeat (first | (with_reducible first | exact HB.out | apply ai | apply ag | apply au | refine aA ?_ GE374.out) | exact HB.out))) : w.heap.size ≤ gb385)); have n7_ := ae.mk ((by rw [hg]; exact Nat.ne_of_lt (jA (g := gb374) (o := .cells #[.int .i64 0, .string (⟨#[]⟩ : ByteArray), .slice none 0 0, .slice none 0 0] 25 (0, 0)) (by (with_reducible repeat (first | refine aZ ?_ _ | refine bF ?_ | refine aN ?_ _)); exact BK374.out)) : gb374 ≠ gb385)); have n8_ := ae.mk ((by rw [hg]; exact Nat.ne_of_gt (jA (g := gb374) (o := .cells #[.int .i64 0, .string (⟨#[]⟩ : ByteArray), .slice none 0 0, .slice none 0 0] 25 (0, 0)) (by (with_reducible repeat (first | refine aZ ?_ _ | refine bF ?_ | refine aN ?_ _)); exact BK374.out)) : gb385 ≠ gb374)); clear HO380; clear HO383; clear BK374; clear HB; have HO380 := n0_; have HO383 := n1_; have BK374 := n2_; have HB := n3_; have BK385 := n4_; have GW385 := n5_; have GE385 := n6_; have NB374_385 := n7_; have NB385_374 := n8_; clear n0_ n1_ n2_ n3_ n4_ n5_ n6_ n7_ n8_; clear hb hbox hg; have hnb19 := NB385_374.out; have hnc19 := NB374_385.out; have hcz20_0 : w18.cell? ⟨gb385, 0, none⟩ = some (.int .i64 0) := (ah BK385.out 0).trans rfl; have hcz20_1 : w18.cell? ⟨gb385, 1, none⟩ = some (.int .i64 0) := (ah BK385.out 1).trans rfl; have hcz20_2 : w18.cell? ⟨gb385, 2, none⟩ = some (.int .i64 0) := (ah BK385.out 2).trans rfl; have hcz20_3 : w18.cell? ⟨gb385, 3, none⟩ = some (.slice none 0 0) := (ah BK385.out 3).trans rfl; have hcz20_4 : w18.cell? ⟨gb385, 4, none⟩ = some (.slice none 0 0) := (ah BK385.out 4).trans rfl; have hfz20_0 := ak BK385.out 0; have hfz20_1 := ak BK385.out 1; have hfz20_2 := ak BK385.out 2; have hfz20_3 := ak BK385.out 3; have hfz20_4 := ak BK385.out 4; obtain ⟨Ao21, co21, eo21⟩ := Kd.eH HO380.out; subst eo21; obtain ⟨Ao22, co22, eo22⟩ := Kd.eH HO383.out; subst eo22; have hcz23_0 : w18.cell? ⟨gb374, 0, none⟩ = some (.int .i64 0) := (ah BK374.out 0).trans rfl; have hcz23_1 : w18.cell? ⟨gb374, 1, none⟩ = some (.string (⟨#[]⟩ : ByteArray)) := (ah BK374.out 1).trans rfl; have hcz23_2 : w18.cell? ⟨gb374, 2, none⟩ = some (.slice none 0 0) := (ah BK374.out 2).trans rfl; have hcz23_3 : w18.cell? ⟨gb374, 3, none⟩ = some (.slice none 0 0) := (ah BK374.out 3).trans rfl; have hfz23_0 := ak BK374.out 0; have hfz23_1 := ak BK374.out 1; have hfz23_2 := ak BK374.out 2; have hfz23_3 := ak BK374.out 3))
  refine bodyPost_ret (iZ rfl _ _ gb374 25 #[.int .i64 0, .string (⟨#[]⟩ : ByteArray), .slice none 0 0, .slice none 0 0] (0, 0) _ rfl (by (with_reducible repeat (first | refine aZ ?_ _ | refine bF ?_ | refine aN ?_ _)); refine bV (cs := #[.int .i64 0, .string (⟨#[]⟩ : ByteArray), .slice none 0 0, .slice none 0 0]) ?_ 3 _ rfl; (with_reducible repeat (first | refine aZ ?_ _ | refine bF ?_ | refine aN ?_ _)); refine bV (cs := #[.int .i64 0, .string (⟨#[]⟩ : ByteArray), .slice none 0 0, .slice none 0 0]) ?_ 2 _ rfl; (with_reducible repeat (first | refine aZ ?_ _ | refine bF ?_ | refine aN ?_ _)); refine bV (cs := #[.int .i64 0, .string (⟨#[]⟩ : ByteArray), .slice none 0 0, .slice none 0 0]) ?_ 1 _ rfl; (with_reducible repeat (first | refine aZ ?_ _ | refine bF ?_ | refine aN ?_ _)); refine bV (cs := #[.int .i64 0, .string (⟨#[]⟩ : ByteArray), .slice none 0 0, .slice none 0 0]) ?_ 0 _ rfl; (with_reducible repeat (first | refine aZ ?_ _ | refine bF ?_ | refine aN ?_ _)); refine df ?_ NB374_385.out _; (with_reducible repeat (first | refine aZ ?_ _ | refine bF ?_ | refine aN ?_ _)); refine df ?_ NB374_385.out _; (with_reducible repeat (first | refine aZ ?_ _ | refine bF ?_ | refine aN ?_ _)); refine df ?_ NB374_385.out _; (with_reducible repeat (first | refine aZ ?_ _ | refine bF ?_ | refine aN ?_ _)); refine df ?_ NB374_385.out _; (with_reducible repeat (first | refine aZ ?_ _ | refine bF ?_ | refine aN ?_ _)); refine df ?_ NB374_385.out _; (with_reducible repeat (first | refine aZ ?_ _ | refine bF ?_ | refine aN ?_ _)); exact BK374.out) Tryz.underlying25 rfl (by kernel_rfl)) rfl ?_
  exact ⟨_, _, by first | rfl | (simp [bg, bn] <;> rfl) | (simp [*, bg, bn] <;> rfl), by first | exact Kd.iH _ _ _ _ _ | exact Kd.o8 _ _ _ _ _ | exact Kd.oZ _ _ _ _ _ | exact Kd.pU _ _ _ _ _ | exact Kd.pK _ _ _ _ _, by first | exact Kd.iH _ _ _ _ _ | exact Kd.o8 _ _ _ _ _ | exact Kd.oZ _ _ _ _ _ | exact Kd.pU _ _ _ _ _ | exact Kd.pK _ _ _ _ _, by repeat (first | (with_reducible first | exact HB.out | apply ai | apply ag | apply au | refine aA ?_ GE374.out | refine aA ?_ GE385.out) | exact HB.out)⟩
attribute [local go_sem] dH dI dW dY dm dw dK dL
def ig.f (k : Nat) (a0 : ByteArray) : Option (Int × ByteArray × List ByteArray × (List (S25)) × Bool) := if (a0.size : Int) > 65536 then (some (0, (⟨#[]⟩ : ByteArray), ([] : List ByteArray), ([] : List (S25)), false)) else ((fA.f k a0).bind fun t395 => (if t395 = true then ((bz.f k a0).bind fun t396 => (if t396 = true then ((fO.f k a0).bind fun bt397 => (some (bt397.1, bt397.2.1, bt397.2.2.1, bt397.2.2.2.1, bt397.2.2.2.2))) else (some (0, (⟨#[]⟩ : ByteArray), ([] : List ByteArray), ([] : List (S25)), false)))) else (some (0, (⟨#[]⟩ : ByteArray), ([] : List ByteArray), ([] : List (S25)), false))))
theorem ig.calls (k : Nat) (a0 : ByteArray) (r1 : Int) (r2 : ByteArray) (r3 : List ByteArray) (r4 : List (S25)) (r5 : Bool) (w : World) (h : ig.f k a0 = some (r1, r2, r3, r4, r5)) :
 Calls Tryz.prog 8 #[.string a0] w fun e w' => ∃ v2_ v3_ : Value, e = .returned (.tuple #[.agg #[.int .i64 r1, .string r2, v2_, v3_], .bool r5]) ∧ Kd.R Kd.string 9 w' w.heap.size (fun _ => True) v2_ r3 ∧ Kd.R k25 25 w' w.heap.size (fun k_ => some k_ ≠ (v2_ : Value).ownBlock) v3_ r4 ∧ Below w.heap.size w w' := by
 have hu25 := Tryz.underlying25
 have HB := ae.mk (Below.refl w.heap.size w)
 have H : (if (a0.size : Int) > 65536 then (some (0, (⟨#[]⟩ : ByteArray), ([] : List ByteArray), ([] : List (S25)), false)) else ((fA.f k a0).bind fun t395 => (if t395 = true then ((bz.f k a0).bind fun t396 => (if t396 = true then ((fO.f k a0).bind fun bt397 => (some (bt397.1, bt397.2.1, bt397.2.2.1, bt397.2.2.2.1, bt397.2.2.2.2))) else (some (0, (⟨#[]⟩ : ByteArray), ([] : List ByteArray), ([] : List (S25)), false)))) else (some (0, (⟨#[]⟩ : ByteArray), ([] : List ByteArray), ([] : List (S25)), false))))) = some (r1, r2, r3, r4, r5) := h
 clear h
 by_cases c2 : (a0.size : Int) > 65536
 ·rw [if_pos c2] at H
  have c2b0 : decide (65536 < (a0.size : Int)) = true := decide_eq_true c2
  have c2b1 : decide (65536 < a0.size) = true := decide_eq_true (by omega)
  clear c2
  simp only [Option.some.injEq, Prod.mk.injEq] at H
  obtain ⟨rfl, rfl, rfl, rfl, rfl⟩ := H
  go_enter Tryz.func8, Tryz.ntmps8
  go_wp2_with (first | ((with_reducible refine gJ (N := 2) rfl ?_); refine je ?hg (N := 2) ?hd (cs := #[.int .i64 0, .string (⟨#[]⟩ : ByteArray), .slice none 0 0, .slice none 0 0]) (t := 25) ?hr ?_; (case hd => rfl); (case hg => rfl); (case hr => first | (go_simp; done) | (go_simp; rfl)); intro gb394 hg w3 hbox hb; have n0_ := ae.mk (bZ (by repeat (first | (with_reducible first | exact HB.out | apply ai | apply ag | apply au) | exact HB.out)) hb); have n1_ := ae.mk (hbox); have n2_ := ae.mk ((by rw [hg]; exact (cO (by repeat (first | (with_reducible first | exact HB.out | apply ai | apply ag | apply au) | exact HB.out))) : w.heap.size ≤ gb394)); have n3_ := ae.mk ((by rw [hg]; exact (cO (by repeat (first | (with_reducible first | exact HB.out | apply ai | apply ag | apply au) | exact HB.out))) : w.heap.size ≤ gb394)); clear HB; have HB := n0_; have BK394 := n1_; have GW394 := n2_; have GE394 := n3_; clear n0_ n1_ n2_ n3_; clear hb hbox hg; have hcz4_0 : w3.cell? ⟨gb394, 0, none⟩ = some (.int .i64 0) := (ah BK394.out 0).trans rfl; have hcz4_1 : w3.cell? ⟨gb394, 1, none⟩ = some (.string (⟨#[]⟩ : ByteArray)) := (ah BK394.out 1).trans rfl; have hcz4_2 : w3.cell? ⟨gb394, 2, none⟩ = some (.slice none 0 0) := (ah BK394.out 2).trans rfl; have hcz4_3 : w3.cell? ⟨gb394, 3, none⟩ = some (.slice none 0 0) := (ah BK394.out 3).trans rfl; have hfz4_0 := ak BK394.out 0; have hfz4_1 := ak BK394.out 1; have hfz4_2 := ak BK394.out 2; have hfz4_3 := ak BK394.out 3))
  refine bodyPost_ret (iZ rfl _ _ gb394 25 #[.int .i64 0, .string (⟨#[]⟩ : ByteArray), .slice none 0 0, .slice none 0 0] (0, 0) _ rfl (by (with_reducible repeat (first | refine aZ ?_ _ | refine bF ?_ | refine aN ?_ _)); refine bV (cs := #[.int .i64 0, .string (⟨#[]⟩ : ByteArray), .slice none 0 0, .slice none 0 0]) ?_ 3 _ rfl; (with_reducible repeat (first | refine aZ ?_ _ | refine bF ?_ | refine aN ?_ _)); refine bV (cs := #[.int .i64 0, .string (⟨#[]⟩ : ByteArray), .slice none 0 0, .slice none 0 0]) ?_ 2 _ rfl; (with_reducible repeat (first | refine aZ ?_ _ | refine bF ?_ | refine aN ?_ _)); refine bV (cs := #[.int .i64 0, .string (⟨#[]⟩ : ByteArray), .slice none 0 0, .slice none 0 0]) ?_ 1 _ rfl; (with_reducible repeat (first | refine aZ ?_ _ | refine bF ?_ | refine aN ?_ _)); refine bV (cs := #[.int .i64 0, .string (⟨#[]⟩ : ByteArray), .slice none 0 0, .slice none 0 0]) ?_ 0 _ rfl; (with_reducible repeat (first | refine aZ ?_ _ | refine bF ?_ | refine aN ?_ _)); exact BK394.out) Tryz.underlying25 rfl (by kernel_rfl)) rfl ?_
  exact ⟨_, _, by first | rfl | (simp [bg, bn] <;> rfl) | (simp [*, bg, bn] <;> rfl), by first | exact Kd.iH _ _ _ _ _ | exact Kd.o8 _ _ _ _ _ | exact Kd.oZ _ _ _ _ _ | exact Kd.pU _ _ _ _ _ | exact Kd.pK _ _ _ _ _, by first | exact Kd.iH _ _ _ _ _ | exact Kd.o8 _ _ _ _ _ | exact Kd.oZ _ _ _ _ _ | exact Kd.pU _ _ _ _ _ | exact Kd.pK _ _ _ _ _, by repeat (first | (with_reducible first | exact HB.out | apply ai | apply ag | apply au | refine aA ?_ GE394.out) | exact HB.out)⟩
 ·rw [if_neg c2] at H
  have c2b0 : decide (65536 < (a0.size : Int)) = false := decide_eq_false c2
  have c2b1 : decide (65536 < a0.size) = false := decide_eq_false (by omega)
  clear c2
  replace H := Option.bind_eq_some_iff.mp H
  obtain ⟨t395, A50, H⟩ := H
  replace H : (if t395 = true then ((bz.f k a0).bind fun t396 => (if t396 = true then ((fO.f k a0).bind fun bt397 => (some (bt397.1, bt397.2.1, bt397.2.2.1, bt397.2.2.2.1, bt397.2.2.2.2))) else (some (0, (⟨#[]⟩ : ByteArray), ([] : List ByteArray), ([] : List (S25)), false)))) else (some (0, (⟨#[]⟩ : ByteArray), ([] : List ByteArray), ([] : List (S25)), false))) = some (r1, r2, r3, r4, r5) := H
  have A5 := ae.mk A50
  clear A50
  by_cases c6 : t395 = true
  ·subst c6
   have H1 : ((bz.f k a0).bind fun t396 => (if t396 = true then ((fO.f k a0).bind fun bt397 => (some (bt397.1, bt397.2.1, bt397.2.2.1, bt397.2.2.2.1, bt397.2.2.2.2))) else (some (0, (⟨#[]⟩ : ByteArray), ([] : List ByteArray), ([] : List (S25)), false)))) = some (r1, r2, r3, r4, r5) := by rw [if_pos rfl] at H; exact H
   clear H
   have H := H1
   clear H1
   replace H := Option.bind_eq_some_iff.mp H
   obtain ⟨t396, A70, H⟩ := H
   replace H : (if t396 = true then ((fO.f k a0).bind fun bt397 => (some (bt397.1, bt397.2.1, bt397.2.2.1, bt397.2.2.2.1, bt397.2.2.2.2))) else (some (0, (⟨#[]⟩ : ByteArray), ([] : List ByteArray), ([] : List (S25)), false))) = some (r1, r2, r3, r4, r5) := H
   have A7 := ae.mk A70
   clear A70
   by_cases c8 : t396 = true
   ·subst c8
    have H1 : ((fO.f k a0).bind fun bt397 => (some (bt397.1, bt397.2.1, bt397.2.2.1, bt397.2.2.2.1, bt397.2.2.2.2))) = some (r1, r2, r3, r4, r5) := by rw [if_pos rfl] at H; exact H
    clear H
    have H := H1
    clear H1
    replace H := Option.bind_eq_some_iff.mp H
    obtain ⟨⟨t397, t398, t399, t402, t405⟩, A90, H⟩ := H
    replace H : (some (t397, t398, t399, t402, t405)) = some (r1, r2, r3, r4, r5) := H
    have A9 := ae.mk A90
    clear A90
    simp only [Option.some.injEq, Prod.mk.injEq] at H
    obtain ⟨rfl, rfl, rfl, rfl, rfl⟩ := H
    go_enter Tryz.func8, Tryz.ntmps8
    go_wp2_with (first | ((with_reducible refine gJ (N := 2) rfl ?_); refine je ?hg (N := 2) ?hd (cs := #[.int .i64 0, .string (⟨#[]⟩ : ByteArray), .slice none 0 0, .slice none 0 0]) (t := 25) ?hr ?_; (case hd => rfl); (case hg => rfl); (case hr => first | (go_simp; done) | (go_simp; rfl)); intro gb394 hg w10 hbox hb; have n0_ := ae.mk (bZ (by repeat (first | (with_reducible first | exact HB.out | apply ai | apply ag | apply au) | exact HB.out)) hb); have n1_ := ae.mk (hbox); have n2_ := ae.mk ((by rw [hg]; exact (cO (by repeat (first | (with_reducible first | exact HB.out | apply ai | apply ag | apply au) | exact HB.out))) : w.heap.size ≤ gb394)); have n3_ := ae.mk ((by rw [hg]; exact (cO (by repeat (first | (with_reducible first | exact HB.out | apply ai | apply ag | apply au) | exact HB.out))) : w.heap.size ≤ gb394)); clear HB; have HB := n0_; have BK394 := n1_; have GW394 := n2_; have GE394 := n3_; clear n0_ n1_ n2_ n3_; clear hb hbox hg) | (go_at_call 26; (with_reducible refine (fA.calls k a0 true _ A5.out).mono ?_); rintro e w' ⟨rfl, ⟨nd, rfl⟩⟩; (try (rw [jU w10]; generalize hq_ : World.drewN w10 _ = w10; have n0_ : ae (w10.heap[gb394]? = some (.cells #[.int .i64 0, .string (⟨#[]⟩ : ByteArray), .slice none 0 0, .slice none 0 0] 25 (0, 0))) := ⟨by rw [← hq_]; exact (by (with_reducible repeat (first | refine aZ ?_ _ | refine bF ?_ | refine aN ?_ _)); exact BK394.out)⟩; have n1_ : ae (Below w.heap.size w w10) := ⟨by rw [← hq_]; exact (by repeat (first | (with_reducible first | exact HB.out | apply ai | apply ag | apply au | refine aA ?_ GE394.out) | exact HB.out))⟩; clear BK394 HB hq_; have BK394 := n0_; have HB := n1_; clear n0_ n1_))) | (go_at_call 27; (with_reducible refine (bz.calls k a0 true _ A7.out).mono ?_); rintro e w' ⟨rfl, ⟨nd, rfl⟩⟩; (try (rw [jU w10]; generalize hq_ : World.drewN w10 _ = w10; have n0_ : ae (w10.heap[gb394]? = some (.cells #[.int .i64 0, .string (⟨#[]⟩ : ByteArray), .slice none 0 0, .slice none 0 0] 25 (0, 0))) := ⟨by rw [← hq_]; exact (by (with_reducible repeat (first | refine aZ ?_ _ | refine bF ?_ | refine aN ?_ _)); exact BK394.out)⟩; have n1_ : ae (Below w.heap.size w w10) := ⟨by rw [← hq_]; exact (by repeat (first | (with_reducible first | exact HB.out | apply ai | apply ag | apply au | refine aA ?_ GE394.out) | exact HB.out))⟩; clear BK394 HB hq_; have BK394 := n0_; have HB := n1_; clear n0_ n1_))) | ((with_reducible refine bC (f := 28) rfl ?_); refine dZ (some 19) rfl rfl Tryz.func28 (by kernel_rfl) rfl #[.string a0] rfl (by (try simp only [List.map_toArray, List.map_cons, List.map_nil]); first | done | rfl | (simp only [List.length_drop, List.length_take]; rfl)) ?_; (with_reducible refine (fO.calls k a0 t397 t398 t399 t402 t405 _ A9.out).mono ?_); rintro e w11 ⟨v400, v403, rfl, ho0, ho1, hb⟩; refine ⟨_, rfl, ?_⟩; have n0_ := ae.mk (Kd.fF ho0 (cO (by repeat (first | (with_reducible first | exact HB.out | apply ai | apply ag | apply au | refine aA ?_ GE394.out) | exact HB.out)))); have n1_ := ae.mk (Kd.fF (Kd.Df ho1 (g := gb394) (o := .cells #[.int .i64 0, .string (⟨#[]⟩ : ByteArray), .slice none 0 0, .slice none 0 0] 25 (0, 0)) (by (with_reducible repeat (first | refine aZ ?_ _ | refine bF ?_ | refine aN ?_ _)); exact BK394.out)) (cO (by repeat (first | (with_reducible first | exact HB.out | apply ai | apply ag | apply au | refine aA ?_ GE394.out) | exact HB.out)))); have n2_ := ae.mk (bI (g := gb394) (o := .cells #[.int .i64 0, .string (⟨#[]⟩ : ByteArray), .slice none 0 0, .slice none 0 0] 25 (0, 0)) (by (with_reducible repeat (first | refine aZ ?_ _ | refine bF ?_ | refine aN ?_ _)); exact BK394.out) hb); have n3_ := ae.mk (bZ (by repeat (first | (with_reducible first | exact HB.out | apply ai | apply ag | apply au | refine aA ?_ GE394.out) | exact HB.out)) hb); clear BK394; clear HB; have HO401 := n0_; have HO404 := n1_; have BK394 := n2_; have HB := n3_; clear n0_ n1_ n2_ n3_; (try clear hb); (try clear hb2); (try clear hk); (try clear hi); (try clear ho0); (try clear ho1); have hcz12_0 : w11.cell? ⟨gb394, 0, none⟩ = some (.int .i64 0) := (ah BK394.out 0).trans rfl; have hcz12_1 : w11.cell? ⟨gb394, 1, none⟩ = some (.string (⟨#[]⟩ : ByteArray)) := (ah BK394.out 1).trans rfl; have hcz12_2 : w11.cell? ⟨gb394, 2, none⟩ = some (.slice none 0 0) := (ah BK394.out 2).trans rfl; have hcz12_3 : w11.cell? ⟨gb394, 3, none⟩ = some (.slice none 0 0) := (ah BK394.out 3).trans rfl; have hfz12_0 := ak BK394.out 0; have hfz12_1 := ak BK394.out 1; have hfz12_2 := ak BK394.out 2; have hfz12_3 := ak BK394.out 3; obtain ⟨Ao13, co13, eo13⟩ := Kd.eH HO401.out; subst eo13; obtain ⟨Ao14, co14, eo14⟩ := Kd.eH HO404.out; subst eo14))
    refine bodyPost_ret (iZ rfl _ _ gb394 25 #[.int .i64 t397, .string t398, .slice Ao13 t399.length co13, .slice Ao14 t402.length co14] (0, 0) _ rfl (by (with_reducible repeat (first | refine aZ ?_ _ | refine bF ?_ | refine aN ?_ _)); refine bV (cs := #[.int .i64 t397, .string t398, .slice Ao13 t399.length co13, .slice none 0 0]) ?_ 3 _ rfl; (with_reducible repeat (first | refine aZ ?_ _ | refine bF ?_ | refine aN ?_ _)); refine bV (cs := #[.int .i64 t397, .string t398, .slice none 0 0, .slice none 0 0]) ?_ 2 _ rfl; (with_reducible repeat (first | refine aZ ?_ _ | refine bF ?_ | refine aN ?_ _)); refine bV (cs := #[.int .i64 t397, .string (⟨#[]⟩ : ByteArray), .slice none 0 0, .slice none 0 0]) ?_ 1 _ rfl; (with_reducible repeat (first | refine aZ ?_ _ | refine bF ?_ | refine aN ?_ _)); refine bV (cs := #[.int .i64 0, .string (⟨#[]⟩ : ByteArray), .slice none 0 0, .slice none 0 0]) ?_ 0 _ rfl; (with_reducible repeat (first | refine aZ ?_ _ | refine bF ?_ | refine aN ?_ _)); exact BK394.out) Tryz.underlying25 rfl (by kernel_rfl)) rfl ?_
    exact ⟨_, _, by first | rfl | (simp [bg, bn] <;> rfl) | (simp [*, bg, bn] <;> rfl), by (with_reducible repeat (first | apply Kd.di | apply Kd.dA | apply Kd.dN)); exact Kd.dM (Kd.gy (p := ⟨gb394, 3, none⟩) (Kd.gy (p := ⟨gb394, 2, none⟩) (Kd.gy (p := ⟨gb394, 1, none⟩) (Kd.gy (p := ⟨gb394, 0, none⟩) (Kd.pR HO401.out BK394.out (by decide)) (fun _ hk => hk.2) (.int .i64 t397)) (fun _ hk => hk.2) (.string t398)) (fun _ hk => hk.2) (.slice Ao13 t399.length co13)) (fun _ hk => hk.2) (.slice Ao14 t402.length co14)) (fun _ hk => trivial), by (with_reducible repeat (first | apply Kd.di | apply Kd.dA | apply Kd.dN)); exact Kd.dM (Kd.gy (p := ⟨gb394, 3, none⟩) (Kd.gy (p := ⟨gb394, 2, none⟩) (Kd.gy (p := ⟨gb394, 1, none⟩) (Kd.gy (p := ⟨gb394, 0, none⟩) (Kd.dM HO404.out (fun k_ hk => (⟨hk, hk.2⟩ : _ ∧ k_ ≠ gb394))) (fun _ hk => hk.2) (.int .i64 t397)) (fun _ hk => hk.2) (.string t398)) (fun _ hk => hk.2) (.slice Ao13 t399.length co13)) (fun _ hk => hk.2) (.slice Ao14 t402.length co14)) (fun _ hk => hk.1.1), by repeat (first | (with_reducible first | exact HB.out | apply ai | apply ag | apply au | refine aA ?_ GE394.out) | exact HB.out)⟩
   ·replace c8 := Bool.eq_false_iff.mpr c8
    subst c8
    have H1 : (some (0, (⟨#[]⟩ : ByteArray), ([] : List ByteArray), ([] : List (S25)), false)) = some (r1, r2, r3, r4, r5) := by rw [if_neg (show ¬ (false = true) by decide)] at H; exact H
    clear H
    have H := H1
    clear H1
    simp only [Option.some.injEq, Prod.mk.injEq] at H
    obtain ⟨rfl, rfl, rfl, rfl, rfl⟩ := H
    go_enter Tryz.func8, Tryz.ntmps8
    go_wp2_with (first | ((with_reducible refine gJ (N := 2) rfl ?_); refine je ?hg (N := 2) ?hd (cs := #[.int .i64 0, .string (⟨#[]⟩ : ByteArray), .slice none 0 0, .slice none 0 0]) (t := 25) ?hr ?_; (case hd => rfl); (case hg => rfl); (case hr => first | (go_simp; done) | (go_simp; rfl)); intro gb394 hg w15 hbox hb; have n0_ := ae.mk (bZ (by repeat (first | (with_reducible first | exact HB.out | apply ai | apply ag | apply au) | exact HB.out)) hb); have n1_ := ae.mk (hbox); have n2_ := ae.mk ((by rw [hg]; exact (cO (by repeat (first | (with_reducible first | exact HB.out | apply ai | apply ag | apply au) | exact HB.out))) : w.heap.size ≤ gb394)); have n3_ := ae.mk ((by rw [hg]; exact (cO (by repeat (first | (with_reducible first | exact HB.out | apply ai | apply ag | apply au) | exact HB.out))) : w.heap.size ≤ gb394)); clear HB; have HB := n0_; have BK394 := n1_; have GW394 := n2_; have GE394 := n3_; clear n0_ n1_ n2_ n3_; clear hb hbox hg) | (go_at_call 26; (with_reducible refine (fA.calls k a0 true _ A5.out).mono ?_); rintro e w' ⟨rfl, ⟨nd, rfl⟩⟩; (try (rw [jU w15]; generalize hq_ : World.drewN w15 _ = w15; have n0_ : ae (w15.heap[gb394]? = some (.cells #[.int .i64 0, .string (⟨#[]⟩ : ByteArray), .slice none 0 0, .slice none 0 0] 25 (0, 0))) := ⟨by rw [← hq_]; exact (by (with_reducible repeat (first | refine aZ ?_ _ | refine bF ?_ | refine aN ?_ _)); exact BK394.out)⟩; have n1_ : ae (Below w.heap.size w w15) := ⟨by rw [← hq_]; exact (by repeat (first | (with_reducible first | exact HB.out | apply ai | apply ag | apply au | refine aA ?_ GE394.out) | exact HB.out))⟩; clear BK394 HB hq_; have BK394 := n0_; have HB := n1_; clear n0_ n1_))) | (go_at_call 27; (with_reducible refine (bz.calls k a0 false _ A7.out).mono ?_); rintro e w' ⟨rfl, ⟨nd, rfl⟩⟩; (try (rw [jU w15]; generalize hq_ : World.drewN w15 _ = w15; have n0_ : ae (w15.heap[gb394]? = some (.cells #[.int .i64 0, .string (⟨#[]⟩ : ByteArray), .slice none 0 0, .slice none 0 0] 25 (0, 0))) := ⟨by rw [← hq_]; exact (by (with_reducible repeat (first | refine aZ ?_ _ | refine bF ?_ | refine aN ?_ _)); exact BK394.out)⟩; have n1_ : ae (Below w.heap.size w w15) := ⟨by rw [← hq_]; exact (by repeat (first | (with_reducible first | exact HB.out | apply ai | apply ag | apply au | refine aA ?_ GE394.out) | exact HB.out))⟩; clear BK394 HB hq_; have BK394 := n0_; have HB := n1_; clear n0_ n1_)); have hcz16_0 : w15.cell? ⟨gb394, 0, none⟩ = some (.int .i64 0) := (ah BK394.out 0).trans rfl; have hcz16_1 : w15.cell? ⟨gb394, 1, none⟩ = some (.string (⟨#[]⟩ : ByteArray)) := (ah BK394.out 1).trans rfl; have hcz16_2 : w15.cell? ⟨gb394, 2, none⟩ = some (.slice none 0 0) := (ah BK394.out 2).trans rfl; have hcz16_3 : w15.cell? ⟨gb394, 3, none⟩ = some (.slice none 0 0) := (ah BK394.out 3).trans rfl; have hfz16_0 := ak BK394.out 0; have hfz16_1 := ak BK394.out 1; have hfz16_2 := ak BK394.out 2; have hfz16_3 := ak BK394.out 3))
    refine bodyPost_ret (iZ rfl _ _ gb394 25 #[.int .i64 0, .string (⟨#[]⟩ : ByteArray), .slice none 0 0, .slice none 0 0] (0, 0) _ rfl (by (with_reducible repeat (first | refine aZ ?_ _ | refine bF ?_ | refine aN ?_ _)); refine bV (cs := #[.int .i64 0, .string (⟨#[]⟩ : ByteArray), .slice none 0 0, .slice none 0 0]) ?_ 3 _ rfl; (with_reducible repeat (first | refine aZ ?_ _ | refine bF ?_ | refine aN ?_ _)); refine bV (cs := #[.int .i64 0, .string (⟨#[]⟩ : ByteArray), .slice none 0 0, .slice none 0 0]) ?_ 2 _ rfl; (with_reducible repeat (first | refine aZ ?_ _ | refine bF ?_ | refine aN ?_ _)); refine bV (cs := #[.int .i64 0, .string (⟨#[]⟩ : ByteArray), .slice none 0 0, .slice none 0 0]) ?_ 1 _ rfl; (with_reducible repeat (first | refine aZ ?_ _ | refine bF ?_ | refine aN ?_ _)); refine bV (cs := #[.int .i64 0, .string (⟨#[]⟩ : ByteArray), .slice none 0 0, .slice none 0 0]) ?_ 0 _ rfl; (with_reducible repeat (first | refine aZ ?_ _ | refine bF ?_ | refine aN ?_ _)); exact BK394.out) Tryz.underlying25 rfl (by kernel_rfl)) rfl ?_
    exact ⟨_, _, by first | rfl | (simp [bg, bn] <;> rfl) | (simp [*, bg, bn] <;> rfl), by first | exact Kd.iH _ _ _ _ _ | exact Kd.o8 _ _ _ _ _ | exact Kd.oZ _ _ _ _ _ | exact Kd.pU _ _ _ _ _ | exact Kd.pK _ _ _ _ _, by first | exact Kd.iH _ _ _ _ _ | exact Kd.o8 _ _ _ _ _ | exact Kd.oZ _ _ _ _ _ | exact Kd.pU _ _ _ _ _ | exact Kd.pK _ _ _ _ _, by repeat (first | (with_reducible first | exact HB.out | apply ai | apply ag | apply au | refine aA ?_ GE394.out) | exact HB.out)⟩
  ·replace c6 := Bool.eq_false_iff.mpr c6
   subst c6
   have H1 : (some (0, (⟨#[]⟩ : ByteArray), ([] : List ByteArray), ([] : List (S25)), false)) = some (r1, r2, r3, r4, r5) := by rw [if_neg (show ¬ (false = true) by decide)] at H; exact H
   clear H
   have H := H1
   clear H1
   simp only [Option.some.injEq, Prod.mk.injEq] at H
   obtain ⟨rfl, rfl, rfl, rfl, rfl⟩ := H
   go_enter Tryz.func8, Tryz.ntmps8
   go_wp2_with (first | ((with_reducible refine gJ (N := 2) rfl ?_); refine je ?hg (N := 2) ?hd (cs := #[.int .i64 0, .string (⟨#[]⟩ : ByteArray), .slice none 0 0, .slice none 0 0]) (t := 25) ?hr ?_; (case hd => rfl); (case hg => rfl); (case hr => first | (go_simp; done) | (go_simp; rfl)); intro gb394 hg w17 hbox hb; have n0_ := ae.mk (bZ (by repeat (first | (with_reducible first | exact HB.out | apply ai | apply ag | apply au) | exact HB.out)) hb); have n1_ := ae.mk (hbox); have n2_ := ae.mk ((by rw [hg]; exact (cO (by repeat (first | (with_reducible first | exact HB.out | apply ai | apply ag | apply au) | exact HB.out))) : w.heap.size ≤ gb394)); have n3_ := ae.mk ((by rw [hg]; exact (cO (by repeat (first | (with_reducible first | exact HB.out | apply ai | apply ag | apply au) | exact HB.out))) : w.heap.size ≤ gb394)); clear HB; have HB := n0_; have BK394 := n1_; have GW394 := n2_; have GE394 := n3_; clear n0_ n1_ n2_ n3_; clear hb hbox hg) | (go_at_call 26; (with_reducible refine (fA.calls k a0 false _ A5.out).mono ?_); rintro e w' ⟨rfl, ⟨nd, rfl⟩⟩; (try (rw [jU w17]; generalize hq_ : World.drewN w17 _ = w17; have n0_ : ae (w17.heap[gb394]? = some (.cells #[.int .i64 0, .string (⟨#[]⟩ : ByteArray), .slice none 0 0, .slice none 0 0] 25 (0, 0))) := ⟨by rw [← hq_]; exact (by (with_reducible repeat (first | refine aZ ?_ _ | refine bF ?_ | refine aN ?_ _)); exact BK394.out)⟩; have n1_ : ae (Below w.heap.size w w17) := ⟨by rw [← hq_]; exact (by repeat (first | (with_reducible first | exact HB.out | apply ai | apply ag | apply au | refine aA ?_ GE394.out) | exact HB.out))⟩; clear BK394 HB hq_; have BK394 := n0_; have HB := n1_; clear n0_ n1_)); have hcz18_0 : w17.cell? ⟨gb394, 0, none⟩ = some (.int .i64 0) := (ah BK394.out 0).trans rfl; have hcz18_1 : w17.cell? ⟨gb394, 1, none⟩ = some (.string (⟨#[]⟩ : ByteArray)) := (ah BK394.out 1).trans rfl; have hcz18_2 : w17.cell? ⟨gb394, 2, none⟩ = some (.slice none 0 0) := (ah BK394.out 2).trans rfl; have hcz18_3 : w17.cell? ⟨gb394, 3, none⟩ = some (.slice none 0 0) := (ah BK394.out 3).trans rfl; have hfz18_0 := ak BK394.out 0; have hfz18_1 := ak BK394.out 1; have hfz18_2 := ak BK394.out 2; have hfz18_3 := ak BK394.out 3))
   refine bodyPost_ret (iZ rfl _ _ gb394 25 #[.int .i64 0, .string (⟨#[]⟩ : ByteArray), .slice none 0 0, .slice none 0 0] (0, 0) _ rfl (by (with_reducible repeat (first | refine aZ ?_ _ | refine bF ?_ | refine aN ?_ _)); refine bV (cs := #[.int .i64 0, .string (⟨#[]⟩ : ByteArray), .slice none 0 0, .slice none 0 0]) ?_ 3 _ rfl; (with_reducible repeat (first | refine aZ ?_ _ | refine bF ?_ | refine aN ?_ _)); refine bV (cs := #[.int .i64 0, .string (⟨#[]⟩ : ByteArray), .slice none 0 0, .slice none 0 0]) ?_ 2 _ rfl; (with_reducible repeat (first | refine aZ ?_ _ | refine bF ?_ | refine aN ?_ _)); refine bV (cs := #[.int .i64 0, .string (⟨#[]⟩ : ByteArray), .slice none 0 0, .slice none 0 0]) ?_ 1 _ rfl; (with_reducible repeat (first | refine aZ ?_ _ | refine bF ?_ | refine aN ?_ _)); refine bV (cs := #[.int .i64 0, .string (⟨#[]⟩ : ByteArray), .slice none 0 0, .slice none 0 0]) ?_ 0 _ rfl; (with_reducible repeat (first | refine aZ ?_ _ | refine bF ?_ | refine aN ?_ _)); exact BK394.out) Tryz.underlying25 rfl (by kernel_rfl)) rfl ?_
   exact ⟨_, _, by first | rfl | (simp [bg, bn] <;> rfl) | (simp [*, bg, bn] <;> rfl), by first | exact Kd.iH _ _ _ _ _ | exact Kd.o8 _ _ _ _ _ | exact Kd.oZ _ _ _ _ _ | exact Kd.pU _ _ _ _ _ | exact Kd.pK _ _ _ _ _, by first | exact Kd.iH _ _ _ _ _ | exact Kd.o8 _ _ _ _ _ | exact Kd.oZ _ _ _ _ _ | exact Kd.pU _ _ _ _ _ | exact Kd.pK _ _ _ _ _, by repeat (first | (with_reducible first | exact HB.out | apply ai | apply ag | apply au | refine aA ?_ GE394.out) | exact HB.out)⟩
end Go.Proofs.YtpgfjbimodnkeaaGreatDoor.Q
namespace Go.Proofs.YtpgfjbimodnkeaaGreatDoor.Scan
open Go Go.RowKit Go.Proofs.YtpgfjbimodnkeaaGreatDoorW.PrintWords Go.Proofs.YtpgfjbimodnkeaaGreatDoor.Q Go.Proofs.YtpgfjbimodnkeaaGreatDoor.Dec
theorem D9 (s : ByteArray) (hS : s.size ≤ 65536) (a more : Nat) (hm : more ≤ 3) (ha : a + more < s.size) (least : Int) (n : Nat) : ∀ (j : Nat) (c : Int), j + n = more + 1 → 1 ≤ j → 0 ≤ c → c < 64 ^ j →
 ∃ (r : Int) (z : Nat) (ok : Bool), Evt (fun k => aH.l0 k s a c more least j) (r, (z : Int), ok) ∧ 1 ≤ z ∧ z ≤ 4 := by
 induction n with
 | zero =>
   intro j c hj h1 hc0 hc1
   have hp : (64 : Int) ^ j ≤ 16777216 := by
    have : j = 1 ∨ j = 2 ∨ j = 3 ∨ j = 4 := by omega
    rcases this with rfl | rfl | rfl | rfl <;> decide
   by_cases c0 : c < least
   ·refine ⟨65533, 1, false, Evt.succ ?_, by omega, by omega⟩
    simp only [aH.l0]
    exact Evt.neg (by omega) (Evt.pos c0 (Evt.pure _))
   by_cases c1 : c > 1114111
   ·refine ⟨65533, 1, false, Evt.succ ?_, by omega, by omega⟩
    simp only [aH.l0]
    exact Evt.neg (by omega) (Evt.neg c0 (Evt.pos c1 (Evt.pure _)))
   by_cases c2 : 55296 ≤ c ∧ c ≤ 56319
   ·refine ⟨65533, 1, false, Evt.succ ?_, by omega, by omega⟩
    simp only [aH.l0]
    exact Evt.neg (by omega) (Evt.neg c0 (Evt.neg c1 (Evt.aI (kH c) (Evt.pos (decide_eq_true c2) (Evt.pure _)))))
   by_cases c3 : 56320 ≤ c ∧ c ≤ 57343
   ·refine ⟨65533, 1, false, Evt.succ ?_, by omega, by omega⟩
    simp only [aH.l0]
    exact Evt.neg (by omega) (Evt.neg c0 (Evt.neg c1 (Evt.aI (kH c) (Evt.neg (by simp only [decide_eq_true_eq]; exact c2) (Evt.aI (nY c) (Evt.pos (decide_eq_true c3) (Evt.pure _)))))))
   ·refine ⟨c, more + 1, true, Evt.succ ?_, by omega, by omega⟩
    simp only [aH.l0]
    rw [bu (i := (more : Int) + 1) (more + 1) (by omega) (by omega)]
    exact Evt.neg (by omega) (Evt.neg c0 (Evt.neg c1 (Evt.aI (kH c) (Evt.neg (by simp only [decide_eq_true_eq]; exact c2) (Evt.aI (nY c) (Evt.neg (by simp only [decide_eq_true_eq]; exact c3) (Evt.pure _)))))))
 | succ n ih =>
   intro j c hj h1 hc0 hc1
   have hr := eu s ((a + j : Nat) : Int)
   have hp : (64 : Int) ^ j ≤ 262144 := by
    have : j = 1 ∨ j = 2 ∨ j = 3 := by omega
    rcases this with rfl | rfl | rfl <;> decide
   have w1 : wrap64 ((a : Int) + j) = ((a + j : Nat) : Int) := bu _ (by omega) (by omega)
   have w2 : wrap64 (bt s ((a + j : Nat) : Int)) = bt s ((a + j : Nat) : Int) := gK (by omega) (by omega)
   by_cases c0 : bt s ((a + j : Nat) : Int) < 128
   ·refine ⟨65533, 1, false, Evt.succ ?_, by omega, by omega⟩
    simp only [aH.l0]
    rw [w1, w2]
    exact Evt.pos (by omega) (Evt.pos (by omega) (Evt.pos (by omega) (Evt.pos c0 (Evt.pure _))))
   by_cases c1 : bt s ((a + j : Nat) : Int) > 191
   ·refine ⟨65533, 1, false, Evt.succ ?_, by omega, by omega⟩
    simp only [aH.l0]
    rw [w1, w2]
    exact Evt.pos (by omega) (Evt.pos (by omega) (Evt.pos (by omega) (Evt.neg c0 (Evt.pos c1 (Evt.pure _)))))
   ·obtain ⟨r, z, ok, g1, g2, g3⟩ := ih (j + 1) (c * 64 + bt s ((a + j : Nat) : Int) - 128) (by omega) (by omega) (by omega) (by rw [Int.pow_succ]; omega)
    refine ⟨r, z, ok, Evt.succ ?_, g2, g3⟩
    simp only [aH.l0]
    rw [w1, w2, gK (i := c * 64) (by omega) (by omega), gK (i := c * 64 + bt s ((a + j : Nat) : Int)) (by omega) (by omega), gK (i := c * 64 + bt s ((a + j : Nat) : Int) - 128) (by omega) (by omega), bu (i := (j : Int) + 1) (j + 1) (by omega) (by omega)]
    exact Evt.pos (by omega) (Evt.pos (by omega) (Evt.pos (by omega) (Evt.neg c0 (Evt.neg c1 g1))))
theorem vM (s : ByteArray) (hS : s.size ≤ 65536) (a more : Nat) (ha : a < s.size) (h1 : 1 ≤ more) (hm : more ≤ 3) (least c : Int) (hc0 : 0 ≤ c) (hc1 : c < 64) :
 ∃ (r : Int) (z : Nat) (ok : Bool), Evt (fun k => aH.j2 k s a c more least) (r, (z : Int), ok) ∧ 1 ≤ z ∧ z ≤ 4 := by
 by_cases h : s.size - a ≤ more
 ·refine ⟨65533, 1, false, Evt.succ ?_, by omega, by omega⟩
  simp only [aH.j2]
  rw [bu (i := (s.size : Int) - a) (s.size - a) (by omega) (by omega)]
  exact Evt.pos (by omega) (Evt.pure _)
 ·obtain ⟨r, z, ok, g1, g2, g3⟩ := D9 s hS a more hm (by omega) least more 1 c (by omega) (by omega) hc0 (by simpa using hc1)
  refine ⟨r, z, ok, Evt.succ ?_, g2, g3⟩
  simp only [aH.j2]
  rw [bu (i := (s.size : Int) - a) (s.size - a) (by omega) (by omega)]
  exact Evt.neg (by omega) g1
theorem E5 (s : ByteArray) (hS : s.size ≤ 65536) (a : Nat) (ha : a < s.size) : ∃ (r : Int) (z : Nat) (ok : Bool), Evt (fun k => aH.f k s a) (r, (z : Int), ok) ∧ 1 ≤ z ∧ z ≤ 4 := by
 have hr := eu s a
 have w : wrap64 (bt s a) = bt s a := gK (by omega) (by omega)
 unfold aH.f
 rw [w]
 by_cases c0 : bt s a < 128
 ·exact ⟨bt s a, 1, true, Evt.pos (by omega) (Evt.pos (by omega) (Evt.pos c0 (Evt.pure _))), by omega, by omega⟩
 have hj1 : ∀ b : Bool, b = decide (224 ≤ bt s a ∧ bt s a ≤ 239) → ∃ (r : Int) (z : Nat) (ok : Bool), Evt (fun k => aH.j1 k s a (bt s a) b) (r, (z : Int), ok) ∧ 1 ≤ z ∧ z ≤ 4 := by
  intro b hb
  by_cases c2 : 224 ≤ bt s a ∧ bt s a ≤ 239
  ·obtain ⟨r, z, ok, g1, g2, g3⟩ := vM s hS a 2 ha (by omega) (by omega) 2048 (bt s a - 224) (by omega) (by omega)
   refine ⟨r, z, ok, Evt.succ ?_, g2, g3⟩
   simp only [aH.j1]
   rw [gK (i := bt s a - 224) (by omega) (by omega)]
   exact Evt.pos (by rw [hb]; exact decide_eq_true c2) g1
  ·have hbf : ¬ (b = true) := by rw [hb, decide_eq_false c2]; decide
   by_cases c3 : 240 ≤ bt s a
   ·by_cases c4 : bt s a ≤ 244
    ·obtain ⟨r, z, ok, g1, g2, g3⟩ := vM s hS a 3 ha (by omega) (by omega) 65536 (bt s a - 240) (by omega) (by omega)
     refine ⟨r, z, ok, Evt.succ ?_, g2, g3⟩
     simp only [aH.j1]
     rw [gK (i := bt s a - 240) (by omega) (by omega)]
     exact Evt.neg hbf (Evt.pos c3 (Evt.pos c4 g1))
    ·refine ⟨65533, 1, false, Evt.succ ?_, by omega, by omega⟩
     simp only [aH.j1]
     exact Evt.neg hbf (Evt.pos c3 (Evt.neg c4 (Evt.pure _)))
   ·refine ⟨65533, 1, false, Evt.succ ?_, by omega, by omega⟩
    simp only [aH.j1]
    exact Evt.neg hbf (Evt.neg c3 (Evt.pure _))
 have hj0 : ∀ b : Bool, b = decide (194 ≤ bt s a ∧ bt s a ≤ 223) → ∃ (r : Int) (z : Nat) (ok : Bool), Evt (fun k => aH.j0 k s a (bt s a) b) (r, (z : Int), ok) ∧ 1 ≤ z ∧ z ≤ 4 := by
  intro b hb
  by_cases c2 : 194 ≤ bt s a ∧ bt s a ≤ 223
  ·obtain ⟨r, z, ok, g1, g2, g3⟩ := vM s hS a 1 ha (by omega) (by omega) 128 (bt s a - 192) (by omega) (by omega)
   refine ⟨r, z, ok, Evt.succ ?_, g2, g3⟩
   simp only [aH.j0]
   rw [gK (i := bt s a - 192) (by omega) (by omega)]
   exact Evt.pos (by rw [hb]; exact decide_eq_true c2) g1
  ·have hbf : ¬ (b = true) := by rw [hb, decide_eq_false c2]; decide
   by_cases c3 : 224 ≤ bt s a
   ·obtain ⟨r, z, ok, g1, g2, g3⟩ := hj1 (decide (bt s a ≤ 239)) (by simp [c3])
    refine ⟨r, z, ok, Evt.succ ?_, g2, g3⟩
    simp only [aH.j0]
    exact Evt.neg hbf (Evt.pos c3 g1)
   ·obtain ⟨r, z, ok, g1, g2, g3⟩ := hj1 false (by simp [c3])
    refine ⟨r, z, ok, Evt.succ ?_, g2, g3⟩
    simp only [aH.j0]
    exact Evt.neg hbf (Evt.neg c3 g1)
 by_cases c1 : 194 ≤ bt s a
 ·obtain ⟨r, z, ok, g1, g2, g3⟩ := hj0 (decide (bt s a ≤ 223)) (by simp [c1])
  exact ⟨r, z, ok, Evt.pos (by omega) (Evt.pos (by omega) (Evt.neg c0 (Evt.pos c1 g1))), g2, g3⟩
 ·obtain ⟨r, z, ok, g1, g2, g3⟩ := hj0 false (by simp [c1])
  exact ⟨r, z, ok, Evt.pos (by omega) (Evt.pos (by omega) (Evt.neg c0 (Evt.neg c1 g1))), g2, g3⟩
theorem D5 (s : ByteArray) (hS : s.size ≤ 65536) (n : Nat) : ∀ a : Nat, s.size + 10 - a = n → a ≤ s.size + 4 → ∃ b, Evt (fun k => fA.l0 k s a) b := by
 induction n using Nat.strongRecOn with
 | _ n ih =>
   intro a hn ha
   by_cases hlt : a < s.size
   ·obtain ⟨r, z, ok, g1, g2, g3⟩ := E5 s hS a hlt
    cases ok with
    | false =>
      refine ⟨false, Evt.succ ?_⟩
      simp only [fA.l0]
      exact Evt.pos (by omega) (Evt.bind g1 (Evt.neg (by simp) (Evt.pure _)))
    | true =>
      obtain ⟨b, hb⟩ := ih (s.size + 10 - (a + z)) (by omega) (a + z) rfl (by omega)
      refine ⟨b, Evt.succ ?_⟩
      simp only [fA.l0]
      refine Evt.pos (by omega) (Evt.bind g1 (Evt.pos (by simp) ?_))
      simp only [bu (i := (a : Int) + (z : Int)) (a + z) (by omega) (by omega)]
      exact hb
   ·refine ⟨true, Evt.succ ?_⟩
    simp only [fA.l0]
    exact Evt.neg (by omega) (Evt.pure _)
theorem Fz (s : ByteArray) (hS : s.size ≤ 65536) : ∃ b, Evt (fun k => fA.f k s) b := D5 s hS _ 0 rfl (by omega)
theorem J.lens {s : ByteArray} {md : Md} {i e : Nat} {kd : Int} {ns : List S44} {ks : List S32} (h : J s md i e kd ns ks) : ks.length + i ≤ e ∧ ns.length ≤ ks.length := by
 induction h with
 | null i h => simp
 | fals i h => simp
 | tru i h => simp
 | num i e h0 h1 h2 h3 => simp; omega
 | str i q h0 h1 h2 => have := h2.bound; simp; omega
 | arr0 i j h0 h1 h2 h3 h4 => have := h2.le; simp; omega
 | arr i j e ks h0 h1 h2 h3 ih => have := h2.le; exact ⟨by omega, by simp⟩
 | obj0 i j h0 h1 h2 h3 h4 => have := h2.le; simp; omega
 | obj i j e ns ks h0 h1 h2 h3 ih => have := h2.le; exact ⟨by omega, ih.2⟩
 | el1 i m e kd ns ks h0 h1 h2 h3 ih => have := h0.bound; have := h1.le; simp; omega
 | els i m c n e kd ns ks l h0 h1 h2 h3 h4 h5 ih ih2 => have := h0.bound; have := h1.le; have := h4.le; simp; omega
 | mem1 i q c b m e kd ns ks h0 h1 h2 h3 h4 h5 h6 h7 h8 h9 h10 ih => have := h2.bound; have := h3.le; have := h6.le; have := h7.bound; have := h8.le; simp; omega
 | mems i q c b m d n e kd ns nl ks l h0 h1 h2 h3 h4 h5 h6 h7 h8 h9 h10 h11 h12 ih ih2 => have := h2.bound; have := h3.le; have := h6.le; have := h7.bound; have := h8.le; have := h11.le; simp; omega
structure sJ (s : ByteArray) (n : S44) (v : ByteArray) : Prop where
 at_ : ∃ b q : Nat, n.f0 = b ∧ n.f1 = (q + 1 : Nat) ∧ b < q ∧ q < s.size ∧ Says s (b + 1) q v
def fH (s : ByteArray) : List S44 → List ByteArray → Prop
 | [], [] => True
 | n :: ns, v :: vs => sJ s n v ∧ fH s ns vs
 | _, _ => False
def fG (s : ByteArray) : List S32 → List S25 → Prop
 | [], [] => True
 | p :: ps, t :: ts => Evt (fun k => bG.f k s p.f0 p.f1 p.f2 p.f3 p.f4) (t.f0, t.f1, t.f2, t.f3) ∧ fG s ps ts
 | _, _ => False
theorem fH.length {s : ByteArray} : ∀ {ns : List S44} {vs : List ByteArray}, fH s ns vs → ns.length = vs.length
 | [], [], _ => rfl
 | _ :: _, _ :: _, h => by simp [fH.length h.2]
 | [], _ :: _, h => h.elim
 | _ :: _, [], h => h.elim
theorem DZ (pre suf : List S44) (n : S44) : kM (pre ++ n :: suf) (pre.length : Nat) = n := by simp [kM, List.getD_eq_getElem?_getD]
theorem Dt (pre suf : List S32) (n : S32) : iM (pre ++ n :: suf) (pre.length : Nat) = n := by simp [iM, List.getD_eq_getElem?_getD]
theorem zu (s : ByteArray) (kd b e : Int) (ns : List S44) (ks : List S32) (hk : ks.length ≤ 65536) (kd' : Int) (txt : ByteArray) (keys : List ByteArray) : ∀ (suf : List S32) (tsuf : List S25) (pre : List S32) (tpre : List S25), ks = pre ++ suf → pre.length = tpre.length → fG s suf tsuf →
 Evt (fun k => bG.l1 k s (pre.length : Nat) kd b e ns ks kd' txt keys tpre) (kd', txt, keys, tpre ++ tsuf)
 | [], [], pre, tpre, he, hl, _ => by
   refine Evt.succ ?_
   simp only [bG.l1]
   rw [he, List.append_nil, List.append_nil]
   exact Evt.neg (by omega) (Evt.pure _)
 | p :: suf, t :: tsuf, pre, tpre, he, hl, ht => by
   have ih := zu s kd b e ns ks hk kd' txt keys suf tsuf (pre ++ [p]) (tpre ++ [t]) (by rw [he]; simp) (by simp [hl]) ht.2
   have hlen : pre.length < ks.length := by rw [he]; simp
   refine Evt.succ ?_
   simp only [bG.l1]
   have hrd : iM ks (pre.length : Nat) = p := by rw [he]; exact Dt pre suf p
   rw [hrd]
   refine Evt.pos (by omega) (Evt.pos (by omega) (Evt.bind ht.1 (Evt.pos (by omega) ?_)))
   rw [bu (i := ((pre.length : Nat) : Int) + 1) (pre.length + 1) (by omega) (by omega)]
   have e1 : (pre ++ [p]).length = pre.length + 1 := by simp
   have e2 : (tpre ++ [t]) ++ tsuf = tpre ++ t :: tsuf := by simp
   rw [e1, e2] at ih
   cases t
   exact ih
 | [], _ :: _, _, _, _, _, h => h.elim
 | _ :: _, [], _, _, _, _, h => h.elim
theorem zy (s : ByteArray) (hS : s.size ≤ 65536) (kd b e : Int) (ns : List S44) (hn : ns.length ≤ 65536) (ks : List S32) (kd' : Int) (txt : ByteArray) (r : Int × ByteArray × List ByteArray × (List (S25))) (keys : List ByteArray)
 (hl1 : Evt (fun k => bG.l1 k s 0 kd b e ns ks kd' txt keys []) r) : ∀ (suf : List S44) (ksuf : List ByteArray) (pre : List S44) (kpre : List ByteArray), ns = pre ++ suf → keys = kpre ++ ksuf → pre.length = kpre.length → fH s suf ksuf →
 Evt (fun k => bG.l0 k s (pre.length : Nat) kd b e ns ks kd' txt kpre) r
 | [], [], pre, kpre, he, hk, hl, _ => by
   refine Evt.succ ?_
   simp only [bG.l0]
   rw [List.append_nil] at he hk
   subst hk
   have hlen : pre.length = ns.length := by rw [he]
   exact Evt.neg (by omega) hl1
 | n :: suf, v :: ksuf, pre, kpre, he, hk, hl, h => by
   have ih := zy s hS kd b e ns hn ks kd' txt r keys hl1 suf ksuf (pre ++ [n]) (kpre ++ [v]) (by rw [he]; simp) (by rw [hk]; simp) (by simp [hl]) h.2
   have hlen : pre.length < ns.length := by rw [he]; simp
   obtain ⟨x, q, h0, h1, h2, h3, h4⟩ := h.1.at_
   have hu := h4.wo hS (show 1 ≤ x + 1 by omega) (by omega) h3
   rw [Nat.add_sub_cancel] at hu
   refine Evt.succ ?_
   simp only [bG.l0]
   have hrd : kM ns (pre.length : Nat) = n := by rw [he]; exact DZ pre suf n
   rw [hrd, h0, h1, Int.toNat_natCast, Int.toNat_natCast]
   refine Evt.pos (by omega) (Evt.pos (by omega) (Evt.pos (by omega) (Evt.pos (by omega) (Evt.pos (by omega) (Evt.bind hu (Evt.pos (by omega) ?_))))))
   rw [bu (i := ((pre.length : Nat) : Int) + 1) (pre.length + 1) (by omega) (by omega)]
   have e1 : (pre ++ [n]).length = pre.length + 1 := by simp
   rw [e1] at ih
   exact ih
 | [], _ :: _, _, _, _, _, _, h => h.elim
 | _ :: _, [], _, _, _, _, _, h => h.elim
theorem nJ (s : ByteArray) (hS : s.size ≤ 65536) (kd b e : Int) {ns : List S44} {ks : List S32} (hn : ns.length ≤ 65536) (hk : ks.length ≤ 65536) (txt : ByteArray) {keys : List ByteArray} {ts : List S25} (h1 : fH s ns keys) (h2 : fG s ks ts) :
 Evt (fun k => bG.j0 k s kd b e ns ks kd txt) (kd, txt, keys, ts) := by
 refine Evt.succ ?_
 simp only [bG.j0]
 have g1 := zu s kd b e ns ks hk kd txt keys ks ts [] [] rfl rfl h2
 exact zy s hS kd b e ns hn ks kd txt _ keys g1 ns keys [] [] rfl rfl rfl h1
def FO (s : ByteArray) (md : Md) (i e : Nat) (kd : Int) (ns : List S44) (ks : List S32) : Prop :=
 (∃ keys, fH s ns keys) ∧ (∃ ts, fG s ks ts) ∧ (md = .val → ∃ (txt : ByteArray) (keys : List ByteArray) (ts : List S25), Evt (fun k => bG.f k s kd i e ns ks) (kd, txt, keys, ts) ∧ fH s ns keys)
theorem oL {s : ByteArray} (hS : s.size ≤ 65536) (i e kd : Int) (h3 : kd ≠ 3) (h4 : kd ≠ 4) {ns : List S44} {ks : List S32} (hn : ns.length ≤ 65536) (hk : ks.length ≤ 65536) {keys : List ByteArray} {ts : List S25} (h1 : fH s ns keys) (h2 : fG s ks ts) :
 ∃ (txt : ByteArray) (keys : List ByteArray) (ts : List S25), Evt (fun k => bG.f k s kd i e ns ks) (kd, txt, keys, ts) ∧ fH s ns keys := by
 refine ⟨⟨#[]⟩, keys, ts, Evt.succ ?_, h1⟩
 simp only [bG.f]
 exact Evt.neg h3 (Evt.neg h4 (nJ s hS kd i e hn hk _ h1 h2))
theorem vS {s : ByteArray} (hS : s.size ≤ 65536) {md : Md} {i e : Nat} {kd : Int} {ns : List S44} {ks : List S32} (h : J s md i e kd ns ks) : Prd s i → FO s md i e kd ns ks := by
 have flat : ∀ (i e kd : Int), kd ≠ 3 → kd ≠ 4 → (∃ keys, fH s [] keys) ∧ (∃ ts, fG s [] ts) ∧ (Md.val = .val → ∃ (txt : ByteArray) (keys : List ByteArray) (ts : List S25), Evt (fun k => bG.f k s kd i e [] []) (kd, txt, keys, ts) ∧ fH s [] keys) := fun i e kd h3 h4 =>
  ⟨⟨[], trivial⟩, ⟨[], trivial⟩, fun _ => oL hS i e kd h3 h4 (ns := []) (ks := []) (by simp) (by simp) (keys := []) (ts := []) trivial trivial⟩
 induction h with
 | null i h => exact fun _ => flat _ _ _ (by decide) (by decide)
 | fals i h => exact fun _ => flat _ _ _ (by decide) (by decide)
 | tru i h => exact fun _ => flat _ _ _ (by decide) (by decide)
 | num i e h0 h1 h2 h3 =>
   intro _
   refine ⟨⟨[], trivial⟩, ⟨[], trivial⟩, fun _ => ⟨s.extract i e, [], [], Evt.succ ?_, trivial⟩⟩
   simp only [bG.f]
   rw [Int.toNat_natCast, Int.toNat_natCast]
   exact Evt.pos (by simp) (Evt.pos (by omega) (Evt.pos (by omega) (Evt.pos (by omega) (nJ s hS 3 i e (ns := []) (ks := []) (by simp) (by simp) _ (keys := []) (ts := []) trivial trivial))))
 | str i q h0 h1 h2 =>
   intro hp
   obtain ⟨_, v, hv⟩ := jd hS h2 (gG.prd hS h0 h1 h2 hp).1
   have hb := h2.bound
   have hu := hv.wo hS (show 1 ≤ i + 1 by omega) (by omega) (by omega)
   rw [Nat.add_sub_cancel] at hu
   refine ⟨⟨[], trivial⟩, ⟨[], trivial⟩, fun _ => ⟨v, [], [], Evt.succ ?_, trivial⟩⟩
   simp only [bG.f]
   rw [Int.toNat_natCast, Int.toNat_natCast]
   exact Evt.neg (by simp) (Evt.pos (by simp) (Evt.pos (by omega) (Evt.pos (by omega) (Evt.pos (by omega) (Evt.bind hu (nJ s hS 4 i _ (ns := []) (ks := []) (by simp) (by simp) _ (keys := []) (ts := []) trivial trivial))))))
 | arr0 i j h0 h1 h2 h3 h4 => exact fun _ => flat _ _ _ (by decide) (by decide)
 | arr i j e ks h0 h1 h2 h3 ih =>
   intro hp
   have hb := h3.bound
   have hl := h3.lens
   obtain ⟨⟨keys, hk⟩, ⟨ts, ht⟩, _⟩ := ih (h2.prd hS (by omega) (Prd.plain hS hp h0 (by omega)))
   exact ⟨⟨keys, hk⟩, ⟨ts, ht⟩, fun _ => oL hS i e 5 (by decide) (by decide) (by simp) (by omega) hk ht⟩
 | obj0 i j h0 h1 h2 h3 h4 => exact fun _ => flat _ _ _ (by decide) (by decide)
 | obj i j e ns ks h0 h1 h2 h3 ih =>
   intro hp
   have hb := h3.bound
   have hl := h3.lens
   obtain ⟨⟨keys, hk⟩, ⟨ts, ht⟩, _⟩ := ih (h2.prd hS (by omega) (Prd.plain hS hp h0 (by omega)))
   exact ⟨⟨keys, hk⟩, ⟨ts, ht⟩, fun _ => oL hS i e 6 (by decide) (by decide) (by omega) (by omega) hk ht⟩
 | el1 i m e kd ns ks h0 h1 h2 h3 ih =>
   intro hp
   obtain ⟨_, _, h⟩ := ih hp
   obtain ⟨txt, keys, ts, g1, g2⟩ := h rfl
   exact ⟨⟨[], trivial⟩, ⟨[⟨kd, txt, keys, ts⟩], g1, trivial⟩, fun h => by cases h⟩
 | els i m c n e kd ns ks l h0 h1 h2 h3 h4 h5 ih ih2 =>
   intro hp
   obtain ⟨_, _, h⟩ := ih hp
   obtain ⟨txt, keys, ts, g1, g2⟩ := h rfl
   have hb := h5.bound
   obtain ⟨_, ⟨ts2, ht⟩, _⟩ := ih2 (h4.prd hS (by omega) (Prd.plain hS (h1.prd hS (by omega) (h0.prd hS hp)) h2 (by omega)))
   exact ⟨⟨[], trivial⟩, ⟨⟨kd, txt, keys, ts⟩ :: ts2, g1, ht⟩, fun h => by cases h⟩
 | mem1 i q c b m e kd ns ks h0 h1 h2 h3 h4 h5 h6 h7 h8 h9 h10 ih =>
   intro hp
   have hb := h7.bound
   have hq := h2.bound
   have hpb := h6.prd hS (by omega) (Prd.plain hS (h3.prd hS (by omega) (gG.prd hS h0 h1 h2 hp).2) h4 (by omega))
   obtain ⟨_, v, hv⟩ := jd hS h2 (gG.prd hS h0 h1 h2 hp).1
   obtain ⟨_, _, h⟩ := ih hpb
   obtain ⟨txt, keys, ts, g1, g2⟩ := h rfl
   exact ⟨⟨[v], ⟨⟨i, q, rfl, rfl, by omega, by omega, hv⟩⟩, trivial⟩, ⟨[⟨kd, txt, keys, ts⟩], g1, trivial⟩, fun h => by cases h⟩
 | mems i q c b m d n e kd ns nl ks l h0 h1 h2 h3 h4 h5 h6 h7 h8 h9 h10 h11 h12 ih ih2 =>
   intro hp
   have hb := h7.bound
   have hq := h2.bound
   have hn := h12.bound
   have hpb := h6.prd hS (by omega) (Prd.plain hS (h3.prd hS (by omega) (gG.prd hS h0 h1 h2 hp).2) h4 (by omega))
   obtain ⟨_, v, hv⟩ := jd hS h2 (gG.prd hS h0 h1 h2 hp).1
   obtain ⟨_, _, h⟩ := ih hpb
   obtain ⟨txt, keys, ts, g1, g2⟩ := h rfl
   obtain ⟨⟨keys2, hk2⟩, ⟨ts2, ht2⟩, _⟩ := ih2 (h11.prd hS (by omega) (Prd.plain hS (h8.prd hS (by omega) (h7.prd hS hpb)) h9 (by omega)))
   exact ⟨⟨v :: keys2, ⟨⟨i, q, rfl, rfl, by omega, by omega, hv⟩⟩, hk2⟩, ⟨⟨kd, txt, keys, ts⟩ :: ts2, g1, ht2⟩, fun h => by cases h⟩
structure yQ (s : ByteArray) (kd : Int) (i m : Nat) (ns : List S44) (ks : List S32) (keys : List ByteArray) : Prop where
 size : s.size ≤ 65536
 pre : Blanks s 0 i
 val : J s .val i m kd ns ks
 post : Blanks s m s.size
 prd : Prd s i
 names : fH s ns keys
 places : Evt (fun k => gz.f k s) (kd, (i : Int), (m : Int), ns, ks, true)
 tree : ∀ t, Evt (fun k => ig.f k s) t → Evt (fun k => bG.f k s kd i m ns ks) (t.1, t.2.1, t.2.2.1, t.2.2.2.1)
theorem Bh (s : ByteArray) : ∃ (kd : Int) (txt : ByteArray) (keys : List ByteArray) (ts : List S25) (ok : Bool), Evt (fun k => ig.f k s) (kd, txt, keys, ts, ok) ∧ (ok = true → ∃ (i m : Nat) (ns : List S44) (ks : List S32), yQ s kd i m ns ks keys) := by
 unfold ig.f
 by_cases hS : s.size ≤ 65536
 ·obtain ⟨b1, h1⟩ := Fz s hS
  cases b1 with
  | false => exact ⟨0, ⟨#[]⟩, [], [], false, Evt.neg (by omega) (Evt.bind h1 (Evt.neg (by simp) (Evt.pure _))), fun h => by cases h⟩
  | true =>
    obtain ⟨b2, h2, hp⟩ := BO s hS
    cases b2 with
    | false => exact ⟨0, ⟨#[]⟩, [], [], false, Evt.neg (by omega) (Evt.bind h1 (Evt.pos (by simp) (Evt.bind h2 (Evt.neg (by simp) (Evt.pure _))))), fun h => by cases h⟩
    | true =>
      obtain ⟨kd, b, e, ns, ks, ok, g1, g2⟩ := Bq s hS
      cases ok with
      | false =>
        refine ⟨0, ⟨#[]⟩, [], [], false, Evt.neg (by omega) (Evt.bind h1 (Evt.pos (by simp) (Evt.bind h2 (Evt.pos (by simp) (Evt.bind (x := (0, ⟨#[]⟩, [], [], false)) ?_ (Evt.pure _)))))), fun h => by cases h⟩
        unfold fO.f
        exact Evt.bind g1 (Evt.neg (by simp) (Evt.pure _))
      | true =>
        obtain ⟨i, m, rfl, rfl, hb1, hJ, hb2⟩ := g2 rfl
        have hb := hJ.bound
        have hpi := hb1.prd hS (by omega) (hp rfl)
        obtain ⟨_, _, ht⟩ := vS hS hJ hpi
        obtain ⟨txt, keys, ts, t1, t2⟩ := ht rfl
        have hall : Evt (fun k => ig.f k s) (kd, txt, keys, ts, true) := by
         unfold ig.f
         refine Evt.neg (by omega) (Evt.bind h1 (Evt.pos (by simp) (Evt.bind h2 (Evt.pos (by simp) (Evt.bind (x := (kd, txt, keys, ts, true)) ?_ (Evt.pure _))))))
         unfold fO.f
         exact Evt.bind g1 (Evt.pos (by simp) (Evt.bind t1 (Evt.pure _)))
        have hall' := hall
        unfold ig.f at hall'
        exact ⟨kd, txt, keys, ts, true, hall', fun _ => ⟨i, m, ns, ks, hS, hb1, hJ, hb2, hpi, t2, g1, fun t ht => by obtain rfl := hall.uniq ht; exact t1⟩⟩
 ·exact ⟨0, ⟨#[]⟩, [], [], false, Evt.pos (by omega) (Evt.pure _), fun h => by cases h⟩
theorem gq {s : ByteArray} (hS : s.size ≤ 65536) {i j : Nat} (h : Blanks s i j) (hj : j ≤ s.size) (hn : ¬ blank (bt s j)) : Evt (fun k => bf.f k s i) (s, (j : Int)) := by
 have hle := h.le
 obtain ⟨j', h1, h2, h3, h4⟩ := jk s hS i (by omega)
 have hle' := h1.le
 have : j' = j := by
  rcases Nat.lt_trichotomy j' j with hl | hl | hl
  ·exact absurd (h.all j' hle' hl) (h3 (by omega))
  ·exact hl
  ·exact absurd (h1.all j hle hl) hn
 subst this
 exact h4
theorem qh {s : ByteArray} (hS : s.size ≤ 65536) {i j : Nat} (h : gB s Dg i j) (hj : j ≤ s.size) (hn : ¬ Dg (bt s j)) : Evt (fun k => bK.f k s i) (decide (i < j), s, (j : Int)) := by
 have hle := h.le
 obtain ⟨b, j', h1, h2, h3, h4, h5⟩ := ny s hS i (by omega)
 have hle' := h3.le
 have : j' = j := by
  rcases Nat.lt_trichotomy j' j with hl | hl | hl
  ·exact absurd (h.all j' hle' hl) h5
  ·exact hl
  ·exact absurd (h3.all j hle hl) hn
 subst this
 have : b = decide (i < j') := by
  cases b with
  | true => exact (decide_eq_true (h4.1 rfl)).symm
  | false => exact (decide_eq_false (fun h => Bool.noConfusion (h4.2 h))).symm
 rwa [this] at h1
def NumEnd (c : Int) : Prop := ¬ Dg c ∧ c ≠ 46 ∧ c ≠ 101 ∧ c ≠ 69
instance (c : Int) : Decidable (NumEnd c) := by unfold NumEnd Dg; infer_instance
theorem BX {s : ByteArray} (hS : s.size ≤ 65536) {p e : Nat} (h : CU s p e) (he : e ≤ s.size) (hn : NumEnd (bt s e)) : Evt (fun k => aC.j2 k true s p) (true, s, (e : Int)) := by
 obtain ⟨d, h1, h2, h3⟩ := h
 have hd := qh hS h3 he hn.1
 rw [decide_eq_true h2] at hd
 have hdg := h3.all d (Nat.le_refl _) h2
 unfold Dg at hdg
 refine Evt.succ ?_
 simp only [aC.j2]
 refine Evt.pos (by simp) ?_
 rcases h1 with rfl | ⟨rfl, h1 | h1⟩
 ·exact Evt.aI (fV s d 43 (fun h => by omega)) (Evt.neg (by simp) (Evt.aI (fV s d 45 (fun h => by omega)) (Evt.bind hd (Evt.pure _))))
 ·exact Evt.aI (eP s hS p 43 (by omega) h1) (Evt.pos (by simp) (Evt.bind hd (Evt.pure _)))
 ·exact Evt.aI (fV s p 43 (fun h => by omega)) (Evt.neg (by simp) (Evt.aI (eP s hS p 45 (by omega) h1) (Evt.bind hd (Evt.pure _))))
theorem CU.lt {s : ByteArray} {p e : Nat} (h : CU s p e) : p < e := by
 obtain ⟨d, h1, h2, _⟩ := h
 omega
theorem CZ {s : ByteArray} (hS : s.size ≤ 65536) {p e : Nat} (h : xh s p e) (he : e ≤ s.size) (hn : NumEnd (bt s e)) : Evt (fun k => aC.j1 k false s p) (true, s, (e : Int)) := by
 refine Evt.succ ?_
 simp only [aC.j1]
 refine Evt.neg (by simp) ?_
 rcases h with rfl | ⟨h | h, h2⟩
 ·have n1 := hn.2.2
  refine Evt.aI (fV s e 101 (fun h => n1.1 h.2)) (Evt.neg (by simp) (Evt.aI (fV s e 69 (fun h => n1.2 h.2)) (Evt.succ ?_)))
  simp only [aC.j2]
  exact Evt.neg (by simp) (Evt.pure _)
 ·have := h2.lt
  exact Evt.aI (eP s hS p 101 (by omega) h) (Evt.pos (by simp) (BX hS h2 he hn))
 ·have := h2.lt
  exact Evt.aI (fV s p 101 (fun h => by omega)) (Evt.neg (by simp) (Evt.aI (eP s hS p 69 (by omega) h) (BX hS h2 he hn)))
theorem xh.head {s : ByteArray} {p e : Nat} (h : xh s p e) (hn : NumEnd (bt s e)) : ¬ Dg (bt s p) ∧ bt s p ≠ 46 := by
 rcases h with rfl | ⟨h, _⟩
 ·exact ⟨hn.1, hn.2.1⟩
 ·unfold Dg; omega
theorem zI {s : ByteArray} (hS : s.size ≤ 65536) {p e : Nat} (h : rM s p e) (he : e ≤ s.size) (hn : NumEnd (bt s e)) : Evt (fun k => aC.j0 k false s p) (true, s, (e : Int)) := by
 obtain ⟨c, h1, h2⟩ := h
 have hd := h2.head hn
 have hle := h2.le
 refine Evt.succ ?_
 simp only [aC.j0]
 refine Evt.neg (by simp) ?_
 rcases h1 with rfl | ⟨h1, h3, h4⟩
 ·exact Evt.aI (fV s c 46 (fun h => hd.2 h.2)) (Evt.neg (by simp) (CZ hS h2 he hn))
 ·have h5 := qh hS h4 (by omega) hd.1
  rw [decide_eq_true h3] at h5
  exact Evt.aI (eP s hS p 46 (by omega) h1) (Evt.pos (by simp) (Evt.bind h5 (CZ hS h2 he hn)))
theorem rM.head {s : ByteArray} {p e : Nat} (h : rM s p e) (hn : NumEnd (bt s e)) : ¬ Dg (bt s p) := by
 obtain ⟨c, h1, h2⟩ := h
 rcases h1 with rfl | ⟨h1, _⟩
 ·exact (h2.head hn).1
 ·unfold Dg; omega
theorem rM.le {s : ByteArray} {p e : Nat} (h : rM s p e) : p ≤ e := by
 obtain ⟨c, h1, h2⟩ := h
 have := h2.le
 omega
theorem AL {s : ByteArray} (hS : s.size ≤ 65536) {i e : Nat} (h : yu s i e) (he : e ≤ s.size) (hn : NumEnd (bt s e)) : Evt (fun k => aC.f k s i) (true, s, (e : Int)) := by
 obtain ⟨a, b, h1, h2, h3⟩ := h
 have hle := h3.le
 have hd := h3.head hn
 have key : Evt (fun k => (bT.f s a 48).bind fun t => (if t.1 = true then aC.j0 k false t.2.1 t.2.2 else ((bK.f k t.2.1 t.2.2).bind fun u => aC.j0 k (!u.1) u.2.1 u.2.2))) (true, s, (e : Int)) := by
  rcases h2 with ⟨rfl, h2⟩ | ⟨h2, h4, h5⟩
  ·exact Evt.aI (eP s hS a 48 (by omega) h2) (Evt.pos (by simp) (zI hS h3 he hn))
  ·have h6 := qh hS h5 (by omega) hd
   rw [decide_eq_true h4] at h6
   exact Evt.aI (fV s a 48 (fun h => h2 h.2)) (Evt.neg (by simp) (Evt.bind h6 (by simpa using zI hS h3 he hn)))
 unfold aC.f
 rcases h1 with rfl | ⟨rfl, h1⟩
 ·refine Evt.aI (fV s a 45 (fun h => ?_)) key
  rcases h2 with ⟨_, h2⟩ | ⟨_, h4, h5⟩
  ·omega
  ·have := h5.all a (Nat.le_refl _) h4
   unfold Dg at this
   omega
 ·exact Evt.aI (eP s hS i 45 (by omega) h1) key
theorem AV {s : ByteArray} (hS : s.size ≤ 65536) {p q : Nat} (h : gG s p q) : Evt (fun k => aW.l0 k s p) (true, s, ((q + 1 : Nat) : Int)) := by
 induction h with
 | close p h0 h1 =>
   refine Evt.succ ?_
   simp only [aW.l0]
   refine Evt.pos (by omega) (Evt.pos (by omega) (Evt.pos h1 ?_))
   rw [bu (p + 1) (by omega) (by omega)]
   exact Evt.pure _
 | plain p q h0 h1 h2 h3 h4 ih =>
   refine Evt.succ ?_
   simp only [aW.l0]
   refine Evt.pos (by omega) (Evt.pos (by omega) (Evt.neg h2 (Evt.neg (by omega) (Evt.neg h3 ?_))))
   rw [bu (p + 1) (by omega) (by omega)]
   exact ih
 | short p q h0 h1 h2 h3 ih =>
   have hp1 : (p : Int) + 1 = ((p + 1 : Nat) : Int) := by omega
   rw [hp1] at h2
   obtain ⟨b, j, g1, g2, g3, g4, g5⟩ := CJ s hS (p + 1) (by omega)
   cases b with
   | false => exact absurd h2 (g5 rfl).1
   | true =>
     have hj : j = p + 2 := by
      rcases (g4 rfl).way with ⟨e1, _⟩ | ⟨_, _, e2, _⟩
      ·exact e1
      ·rw [e2] at h2; exact absurd h2 (by decide)
     subst hj
     refine Evt.succ ?_
     simp only [aW.l0]
     refine Evt.pos (by omega) (Evt.pos (by omega) (Evt.neg (by omega) (Evt.neg (by omega) (Evt.pos h1 ?_))))
     rw [bu (p + 1) (by omega) (by omega)]
     exact Evt.bind g1 (Evt.pos (by simp) ih)
 | uni p q h0 h1 h2 h3 h4 ih =>
   have hp1 : (p : Int) + 1 = ((p + 1 : Nat) : Int) := by omega
   rw [hp1] at h2
   rw [show (p : Int) + 2 = ((p + 1 : Nat) : Int) + 1 by omega] at h3
   obtain ⟨b, j, g1, g2, g3, g4, g5⟩ := CJ s hS (p + 1) (by omega)
   cases b with
   | false => exact absurd h3 ((g5 rfl).2 h2)
   | true =>
     have hj : j = p + 6 := by
      rcases (g4 rfl).way with ⟨_, _, e2⟩ | ⟨e1, _⟩
      ·rw [h2] at e2; exact absurd e2 (by decide)
      ·exact e1
     subst hj
     refine Evt.succ ?_
     simp only [aW.l0]
     refine Evt.pos (by omega) (Evt.pos (by omega) (Evt.neg (by omega) (Evt.neg (by omega) (Evt.pos h1 ?_))))
     rw [bu (p + 1) (by omega) (by omega)]
     exact Evt.bind g1 (Evt.pos (by simp) ih)
theorem oP {s : ByteArray} (hS : s.size ≤ 65536) {p q : Nat} (hp : p < s.size) (h : gG s (p + 1) q) : Evt (fun k => aW.f k s p) (true, s, ((q + 1 : Nat) : Int)) := by
 unfold aW.f
 rw [bu (p + 1) (by omega) (by omega)]
 exact AV hS h
theorem sH {s : ByteArray} {i : Nat} {w : ByteArray} (h0 : 0 < w.size) (hc : bt s i ≠ bt w (0 : Nat)) : ¬ Word s i w := fun h => hc (by have := h.at 0 h0; simpa using this)
theorem uV {s : ByteArray} (hS : s.size ≤ 65536) {i : Nat} {w : ByteArray} (hw : w.size ≤ 10) (h : Word s i w) : eF.f s i w = some (true, s, ((i + w.size : Nat) : Int)) := by
 have := h.le
 rcases rP s hS i (by omega) w hw with ⟨_, g⟩ | ⟨g, _⟩
 ·exact g
 ·exact absurd h g
theorem rV {s : ByteArray} (hS : s.size ≤ 65536) {i : Nat} (hi : i ≤ s.size) {w : ByteArray} (hw : w.size ≤ 10) (h : ¬ Word s i w) : eF.f s i w = some (false, s, (i : Int)) := by
 rcases rP s hS i hi w hw with ⟨g, _⟩ | ⟨_, g⟩
 ·exact absurd g h
 ·exact g
theorem mG {s : ByteArray} {i : Nat} {x : Bool} {r : Int × Int × Int × List S44 × List S32 × Bool × ByteArray × Int} (h1 : bt s i ≠ 123) (h2 : bt s i ≠ 91) (h3 : bt s i ≠ 34) (hx : x = decide (bt s i = 45 ∨ 48 ≤ bt s i ∧ bt s i ≤ 57))
 (h : Evt (fun k => aJ.j0 k true x s i 0 i 0) r) : Evt (fun k => aJ.f k s i) r := by
 refine Evt.succ ?_
 simp only [aJ.f]
 refine Evt.aI (fE s i) (Evt.neg h1 (Evt.neg h2 (Evt.neg h3 ?_)))
 by_cases h4 : bt s i = 45
 ·rw [decide_eq_true (.inl h4)] at hx
  subst hx
  exact Evt.pos h4 h
 by_cases h5 : 48 ≤ bt s i
 ·rw [show decide (bt s i = 45 ∨ 48 ≤ bt s i ∧ bt s i ≤ 57) = decide (bt s i ≤ 57) from decide_eq_decide.2 (by omega)] at hx
  subst hx
  exact Evt.neg h4 (Evt.pos h5 h)
 ·rw [decide_eq_false (by omega)] at hx
  subst hx
  exact Evt.neg h4 (Evt.neg h5 h)
theorem Blanks.rW {s : ByteArray} {i j : Nat} (h : Blanks s i j) (hn : NumEnd (bt s j)) : NumEnd (bt s i) := by
 rcases Nat.eq_or_lt_of_le h.le with rfl | hl
 ·exact hn
 ·have := h.all i (Nat.le_refl _) hl
  unfold blank at this
  unfold NumEnd Dg
  omega
theorem jK {c d : Int} (h : c = d) (hd : ¬ blank d) : ¬ blank c := by rwa [h]
theorem J.first {s : ByteArray} {md : Md} {i e : Nat} {kd : Int} {ns : List S44} {ks : List S32} (h : J s md i e kd ns ks) : ¬ blank (bt s i) ∧ bt s i ≠ 93 ∧ bt s i ≠ 125 := by
 induction h with
 | null i h => have := h.at 0 (by decide); rw [Nat.add_zero] at this; rw [this]; decide
 | fals i h => have := h.at 0 (by decide); rw [Nat.add_zero] at this; rw [this]; decide
 | tru i h => have := h.at 0 (by decide); rw [Nat.add_zero] at this; rw [this]; decide
 | num i e h0 h1 h2 h3 => unfold blank; omega
 | str i q h0 h1 h2 => rw [h1]; decide
 | arr0 i j h0 h1 h2 h3 h4 => rw [h1]; decide
 | arr i j e ks h0 h1 h2 h3 ih => rw [h1]; decide
 | obj0 i j h0 h1 h2 h3 h4 => rw [h1]; decide
 | obj i j e ns ks h0 h1 h2 h3 ih => rw [h1]; decide
 | el1 i m e kd ns ks h0 h1 h2 h3 ih => exact ih
 | els i m c n e kd ns ks l h0 h1 h2 h3 h4 h5 ih ih2 => exact ih
 | mem1 i q c b m e kd ns ks h0 h1 h2 h3 h4 h5 h6 h7 h8 h9 h10 ih => rw [h1]; decide
 | mems i q c b m d n e kd ns nl ks l h0 h1 h2 h3 h4 h5 h6 h7 h8 h9 h10 h11 h12 ih ih2 => rw [h1]; decide
def Reads (s : ByteArray) : Md → Nat → Nat → Int → List S44 → List S32 → Prop
 | .val, i, e, kd, ns, ks => NumEnd (bt s e) → Evt (fun k => aJ.f k s i) (kd, (i : Int), (e : Int), ns, ks, true, s, (e : Int))
 | .els, i, e, _, _, ks => ∀ acc : List S32, acc.length ≤ i → Evt (fun k => bD.l0 k acc s i) (acc ++ ks, true, s, (e : Int))
 | .mems, i, e, _, ns, ks => ∀ (nacc : List S44) (acc : List S32), nacc.length ≤ i → acc.length ≤ i → Evt (fun k => aG.l0 k nacc acc s i) (nacc ++ ns, acc ++ ks, true, s, (e : Int))
theorem J.reads {s : ByteArray} (hS : s.size ≤ 65536) {md : Md} {i e : Nat} {kd : Int} {ns : List S44} {ks : List S32} (h : J s md i e kd ns ks) : Reads s md i e kd ns ks := by
 induction h with
 | null i h =>
   intro _
   have hc := h.at 0 (by decide)
   rw [Nat.add_zero] at hc
   have hc : bt s i = 110 := hc
   refine mG (x := false) (by omega) (by omega) (by omega) (decide_eq_false (by omega)).symm (Evt.succ ?_)
   simp only [aJ.j0]
   exact Evt.neg (by simp) (Evt.aI (uV hS (by decide) h) (Evt.pos (by simp) (Evt.pure _)))
 | fals i h =>
   intro _
   have hc := h.at 0 (by decide)
   rw [Nat.add_zero] at hc
   have hc : bt s i = 102 := hc
   have hle := h.le
   refine mG (x := false) (by omega) (by omega) (by omega) (decide_eq_false (by omega)).symm (Evt.succ ?_)
   simp only [aJ.j0]
   exact Evt.neg (by simp) (Evt.aI (rV hS (by omega) (by decide) (sH (w := lJ) (by decide) (by rw [hc]; decide))) (Evt.neg (by simp) (Evt.aI (uV hS (by decide) h) (Evt.pos (by simp) (Evt.pure _)))))
 | tru i h =>
   intro _
   have hc := h.at 0 (by decide)
   rw [Nat.add_zero] at hc
   have hc : bt s i = 116 := hc
   have hle := h.le
   refine mG (x := false) (by omega) (by omega) (by omega) (decide_eq_false (by omega)).symm (Evt.succ ?_)
   simp only [aJ.j0]
   exact Evt.neg (by simp) (Evt.aI (rV hS (by omega) (by decide) (sH (w := lJ) (by decide) (by rw [hc]; decide))) (Evt.neg (by simp) (Evt.aI (rV hS (by omega) (by decide) (sH (w := kJ) (by decide) (by rw [hc]; decide))) (Evt.neg (by simp) (Evt.aI (uV hS (by decide) h) (Evt.pos (by simp) (Evt.pure _)))))))
 | num i e h0 h1 h2 h3 h4 =>
   intro hn
   refine mG (x := true) (by omega) (by omega) (by omega) (decide_eq_true (by omega)).symm (Evt.succ ?_)
   simp only [aJ.j0]
   exact Evt.pos (by simp) (Evt.bind (AL hS h4 h2 hn) (Evt.pure _))
 | str i q h0 h1 h2 =>
   intro _
   refine Evt.succ ?_
   simp only [aJ.f]
   exact Evt.aI (fE s i) (Evt.neg (by omega) (Evt.neg (by omega) (Evt.pos h1 (Evt.bind (oP hS h0 h2) (Evt.pure _)))))
 | arr0 i j h0 h1 h2 h3 h4 =>
   intro _
   refine Evt.succ ?_
   simp only [aJ.f]
   refine Evt.aI (fE s i) (Evt.neg (by omega) (Evt.pos h1 (Evt.bind (x := ([], true, s, ((j + 1 : Nat) : Int))) (Evt.succ ?_) (Evt.pure _))))
   simp only [bD.f]
   rw [bu (i + 1) (by omega) (by omega)]
   exact Evt.bind (gq hS h2 (by omega) (jK h4 (by decide))) (Evt.aI (eP s hS j 93 h3 h4) (Evt.pos (by simp) (Evt.pure _)))
 | arr i j e ks h0 h1 h2 h3 ih =>
   intro _
   have hf := h3.first
   have hb := h3.bound
   have hle := h2.le
   refine Evt.succ ?_
   simp only [aJ.f]
   refine Evt.aI (fE s i) (Evt.neg (by omega) (Evt.pos h1 (Evt.bind (x := (ks, true, s, (e : Int))) (Evt.succ ?_) (Evt.pure _))))
   simp only [bD.f]
   rw [bu (i + 1) (by omega) (by omega)]
   exact Evt.bind (gq hS h2 (by omega) hf.1) (Evt.aI (fV s j 93 (fun h => hf.2.1 h.2)) (Evt.neg (by simp) (ih [] (by simp))))
 | obj0 i j h0 h1 h2 h3 h4 =>
   intro _
   refine Evt.succ ?_
   simp only [aJ.f]
   refine Evt.aI (fE s i) (Evt.pos h1 (Evt.bind (x := ([], [], true, s, ((j + 1 : Nat) : Int))) (Evt.succ ?_) (Evt.pure _)))
   simp only [aG.f]
   rw [bu (i + 1) (by omega) (by omega)]
   exact Evt.bind (gq hS h2 (by omega) (jK h4 (by decide))) (Evt.aI (eP s hS j 125 h3 h4) (Evt.pos (by simp) (Evt.pure _)))
 | obj i j e ns ks h0 h1 h2 h3 ih =>
   intro _
   have hf := h3.first
   have hb := h3.bound
   have hle := h2.le
   refine Evt.succ ?_
   simp only [aJ.f]
   refine Evt.aI (fE s i) (Evt.pos h1 (Evt.bind (x := (ns, ks, true, s, (e : Int))) (Evt.succ ?_) (Evt.pure _)))
   simp only [aG.f]
   rw [bu (i + 1) (by omega) (by omega)]
   exact Evt.bind (gq hS h2 (by omega) hf.1) (Evt.aI (fV s j 125 (fun h => hf.2.2 h.2)) (Evt.neg (by simp) (ih [] [] (by simp) (by simp))))
 | el1 i m e kd ns ks h0 h1 h2 h3 ih =>
   intro acc ha
   have hb := h0.bound
   have hle := h1.le
   have hv := ih (h1.rW (by rw [h3]; decide))
   refine Evt.succ ?_
   simp only [bD.l0]
   exact Evt.bind hv (Evt.pos (by simp) (Evt.pos (by omega) (Evt.aI rfl (Evt.bind (gq hS h1 (by omega) (jK h3 (by decide))) (Evt.aI (eP s hS e 93 h2 h3) (Evt.pos (by simp) (Evt.pure _)))))))
 | els i m c n e kd ns ks l h0 h1 h2 h3 h4 h5 ih ih2 =>
   intro acc ha
   have hb := h0.bound
   have hle := h1.le
   have hle2 := h4.le
   have hb2 := h5.bound
   have hv := ih (h1.rW (by rw [h3]; decide))
   have hg := ih2 (acc ++ [⟨kd, (i : Nat), (m : Nat), ns, ks⟩]) (by simp; omega)
   rw [List.append_assoc] at hg
   refine Evt.succ ?_
   simp only [bD.l0]
   exact Evt.bind hv (Evt.pos (by simp) (Evt.pos (by omega) (Evt.aI rfl (Evt.bind (gq hS h1 (by omega) (jK h3 (by decide))) (Evt.aI (fV s c 93 (fun h => by omega)) (Evt.neg (by simp) (Evt.aI (eP s hS c 44 h2 h3) (Evt.pos (by simp) (Evt.bind (gq hS h4 (by omega) h5.first.1) hg)))))))))
 | mem1 i q c b m e kd ns ks h0 h1 h2 h3 h4 h5 h6 h7 h8 h9 h10 ih =>
   intro nacc acc hn ha
   have hq := h2.bound
   have hc := h3.le
   have hv := h6.le
   have hb := h7.bound
   have hle := h8.le
   have hr := ih (h8.rW (by rw [h10]; decide))
   refine Evt.succ ?_
   simp only [aG.l0]
   refine Evt.aI (fE s i) (Evt.pos h1 (Evt.bind (oP hS h0 h2) (Evt.succ ?_)))
   simp only [aG.j1]
   exact Evt.neg (by simp) (Evt.pos (by omega) (Evt.aI rfl (Evt.bind (gq hS h3 (by omega) (jK h5 (by decide))) (Evt.aI (eP s hS c 58 h4 h5) (Evt.pos (by simp) (Evt.bind (gq hS h6 (by omega) h7.first.1) (Evt.bind hr (Evt.pos (by simp) (Evt.pos (by omega) (Evt.aI rfl (Evt.bind (gq hS h8 (by omega) (jK h10 (by decide))) (Evt.aI (eP s hS e 125 h9 h10) (Evt.pos (by simp) (Evt.pure _))))))))))))))
 | mems i q c b m d n e kd ns nl ks l h0 h1 h2 h3 h4 h5 h6 h7 h8 h9 h10 h11 h12 ih ih2 =>
   intro nacc acc hn ha
   have hq := h2.bound
   have hc := h3.le
   have hv := h6.le
   have hb := h7.bound
   have hle := h8.le
   have hle2 := h11.le
   have hb2 := h12.bound
   have hr := ih (h8.rW (by rw [h10]; decide))
   have hg := ih2 (nacc ++ [⟨(i : Nat), (q + 1 : Nat)⟩]) (acc ++ [⟨kd, (b : Nat), (m : Nat), ns, ks⟩]) (by simp; omega) (by simp; omega)
   rw [List.append_assoc, List.append_assoc] at hg
   refine Evt.succ ?_
   simp only [aG.l0]
   refine Evt.aI (fE s i) (Evt.pos h1 (Evt.bind (oP hS h0 h2) (Evt.succ ?_)))
   simp only [aG.j1]
   exact Evt.neg (by simp) (Evt.pos (by omega) (Evt.aI rfl (Evt.bind (gq hS h3 (by omega) (jK h5 (by decide))) (Evt.aI (eP s hS c 58 h4 h5) (Evt.pos (by simp) (Evt.bind (gq hS h6 (by omega) h7.first.1) (Evt.bind hr (Evt.pos (by simp) (Evt.pos (by omega) (Evt.aI rfl (Evt.bind (gq hS h8 (by omega) (jK h10 (by decide))) (Evt.aI (fV s d 125 (fun h => by omega)) (Evt.neg (by simp) (Evt.aI (eP s hS d 44 h9 h10) (Evt.pos (by simp) (Evt.bind (gq hS h11 (by omega) h12.first.1) hg))))))))))))))))
theorem AX {s : ByteArray} (hS : s.size ≤ 65536) {i m : Nat} {kd : Int} {ns : List S44} {ks : List S32} (h0 : Blanks s 0 i) (h : J s .val i m kd ns ks) (h1 : Blanks s m s.size) : Evt (fun k => gz.f k s) (kd, (i : Int), (m : Int), ns, ks, true) := by
 have hb := h.bound
 have hz : bt s s.size = 0 := kU s s.size (Nat.le_refl _)
 unfold gz.f
 exact Evt.bind (gq hS h0 (by omega) h.first.1) (Evt.bind (h.reads hS (h1.rW (by rw [hz]; decide))) (Evt.pos (by simp) (Evt.bind (gq hS h1 (Nat.le_refl _) (jK hz (by decide))) (Evt.pos rfl (Evt.pure _)))))
end Go.Proofs.YtpgfjbimodnkeaaGreatDoor.Scan
