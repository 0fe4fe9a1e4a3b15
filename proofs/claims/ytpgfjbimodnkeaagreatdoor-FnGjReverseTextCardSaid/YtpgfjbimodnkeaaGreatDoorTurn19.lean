/- FnGjReverseText: whatever text comes in, the law returns true and the text reads afterwards as before; with the fourteen package-level variables that its row lists as the text of the program lays them (the tied card) (part 19 of 25: lemmas for its last part) -/
import Derived.Test.YtpgfjbimodnkeaaGreatDoorTurn18
set_option maxHeartbeats 16000000
set_option maxRecDepth 100000
set_option linter.unusedVariables false
set_option linter.unusedSimpArgs false
namespace Go.Proofs.YtpgfjbimodnkeaaGreatDoor.Dec
open Go Go.RowKit Go.Proofs.YtpgfjbimodnkeaaGreatDoorW.PrintWords Go.Proofs.YtpgfjbimodnkeaaGreatDoorW.PrintLast Go.Proofs.YtpgfjbimodnkeaaGreatDoorW.PrintMore Go.Proofs.YtpgfjbimodnkeaaGreatDoor.Scan Go.Proofs.YtpgfjbimodnkeaaGreatDoor.Q
structure PV (w : World) (r : Rs) (W : World) : Prop where
 z : W.heap[w.heap.size]? = some (.cells (jh ⟨0, ⟨#[]⟩, ⟨#[]⟩, 0, 0⟩) 67 (0, 0))
 v : W.heap[w.heap.size + 1]? = some (.cells (jh r) 67 (0, 0))
 bel : Below w.heap.size w W
theorem PV.below {w W W' : World} {r : Rs} (h : PV w r W) (hb : Below W.heap.size W W') : PV w r W' := ⟨bI h.z hb, bI h.v hb, bZ h.bel hb⟩
theorem PV.set {w W : World} {r : Rs} (h : PV w r W) (r' : Rs) (j : Nat) (u : Value) (hr : (jh r).setIfInBounds j u = jh r') : PV w r' (W.setCell ⟨w.heap.size + 1, j, none⟩ u) :=
 ⟨df h.z (by simp) _, bV h.v j _ hr, h.bel.setCell (Nat.le_succ _) u⟩
theorem lW (w : World) : PV w ⟨0, ⟨#[]⟩, ⟨#[]⟩, 0, 0⟩ ((w.alloc (.cells #[.int .i64 0, .string ⟨#[]⟩, .string ⟨#[]⟩, .float .f64 0, .int .i64 0, .slice none 0 0] 67)).alloc (.cells #[.int .i64 0, .string ⟨#[]⟩, .string ⟨#[]⟩, .float .f64 0, .int .i64 0, .slice none 0 0] 67)) :=
 ⟨(rf w _ _ 67 67).1, (rf w _ _ 67 67).2, ai (ai (Below.refl _ _) _) _⟩
structure FC (w : World) (r : Rs) (W : World) : Prop where
 c0 : W.cell? ⟨w.heap.size + 1, 0, none⟩ = some (.int .i64 r.k)
 c1 : W.cell? ⟨w.heap.size + 1, 1, none⟩ = some (.string r.raw)
 c2 : W.cell? ⟨w.heap.size + 1, 2, none⟩ = some (.string r.str)
 c3 : W.cell? ⟨w.heap.size + 1, 3, none⟩ = some (.float .f64 r.num)
 c4 : W.cell? ⟨w.heap.size + 1, 4, none⟩ = some (.int .i64 r.idx)
 c5 : W.cell? ⟨w.heap.size + 1, 5, none⟩ = some (.slice none 0 0)
 f : ∀ j, W.frozen? ⟨w.heap.size + 1, j, none⟩ = false
theorem PV.cells {w W : World} {r : Rs} (h : PV w r W) : FC w r W :=
 ⟨(ah h.v 0).trans rfl, (ah h.v 1).trans rfl, (ah h.v 2).trans rfl, (ah h.v 3).trans rfl, (ah h.v 4).trans rfl, (ah h.v 5).trans rfl, fun j => ak h.v j⟩
structure Fj (w W : World) : Prop where
 c0 : W.cell? ⟨w.heap.size, 0, none⟩ = some (.int .i64 0)
 c1 : W.cell? ⟨w.heap.size, 1, none⟩ = some (.string ⟨#[]⟩)
 c2 : W.cell? ⟨w.heap.size, 2, none⟩ = some (.string ⟨#[]⟩)
 c3 : W.cell? ⟨w.heap.size, 3, none⟩ = some (.float .f64 0)
 c4 : W.cell? ⟨w.heap.size, 4, none⟩ = some (.int .i64 0)
 c5 : W.cell? ⟨w.heap.size, 5, none⟩ = some (.slice none 0 0)
 f : ∀ j, W.frozen? ⟨w.heap.size, j, none⟩ = false
theorem PV.qm {w W : World} {r : Rs} (h : PV w r W) : Fj w W :=
 ⟨(ah h.z 0).trans rfl, (ah h.z 1).trans rfl, (ah h.z 2).trans rfl, (ah h.z 3).trans rfl, (ah h.z 4).trans rfl, (ah h.z 5).trans rfl, fun j => ak h.z j⟩
theorem jv (r : Rs) (h : r.k ≠ 0 ∨ r.raw.size ≠ 0) (W : World) : Calls Tryz.prog 59 #[resV r.k r.raw r.str r.num r.idx] W fun e w' => e = .returned (.bool true) ∧ Below W.heap.size W w' := by
 refine Q.iJ.calls r.k r.raw r.str r.num r.idx none 0 [] true W (Kd.EE _ _) (Nat.le_refl _) ?_
 unfold Q.iJ.f
 by_cases h0 : r.k = 0
 ·rw [if_pos h0]
  have h1 := h.resolve_left (fun hh => hh h0)
  rw [show ((r.raw.size : Int) != 0) = true from bne_iff_ne.mpr (by omega)]
 ·rw [if_neg h0]
theorem PV.put {w W : World} {r : Rs} (h : PV w r W) : ((((((W.setCell ⟨w.heap.size, 0, none⟩ (.int .i64 r.k)).setCell ⟨w.heap.size, 1, none⟩ (.string r.raw)).setCell ⟨w.heap.size, 2, none⟩ (.string r.str)).setCell ⟨w.heap.size, 3, none⟩ (.float .f64 r.num)).setCell ⟨w.heap.size, 4, none⟩ (.int .i64 r.idx)).setCell ⟨w.heap.size, 5, none⟩ (.slice none 0 0)).heap[w.heap.size]? = some (.cells (jh r) 67 (0, 0)) :=
 bV (bV (bV (bV (bV (bV h.z 0 _ rfl) 1 _ rfl) 2 _ rfl) 3 _ rfl) 4 _ rfl) 5 _ rfl
theorem PV.nS {w W : World} {r : Rs} (h : PV w r W) (a b c d e f : Value) : Below w.heap.size w ((((((W.setCell ⟨w.heap.size, 0, none⟩ a).setCell ⟨w.heap.size, 1, none⟩ b).setCell ⟨w.heap.size, 2, none⟩ c).setCell ⟨w.heap.size, 3, none⟩ d).setCell ⟨w.heap.size, 4, none⟩ e).setCell ⟨w.heap.size, 5, none⟩ f) := by
 have hl := Nat.le_refl w.heap.size
 exact (((((h.bel.setCell hl a).setCell hl b).setCell hl c).setCell hl d).setCell hl e).setCell hl f
theorem xZ (w : World) (s : ByteArray) (hs : s.size ≤ 65536) (h0 : 0 < s.size) (hc : bt s (0 : Nat) = 110) (hz : 1 < s.size) (hu : bt s (1 : Nat) = 117) (hall : ∀ j : Nat, 1 ≤ j → j < s.size → 97 ≤ bt s j ∧ bt s j ≤ 122) :
 Calls Tryz.prog 44 #[.string s] w fun e w' => ∃ r : Rs, e = .returned (resV r.k r.raw r.str r.num r.idx) ∧ r.k ≠ 5 ∧ Below w.heap.size w w' := by
 have hlit : ∀ W, Calls Tryz.prog 70 #[.string s] W fun e w' => e = .returned (.string s) ∧ Below W.heap.size W w' := fun W => by
  have h := mW W s hs s.size h0 (Nat.le_refl _) hall (.inl (by rw [kU s s.size (Nat.le_refl _)]; decide))
  rwa [lZ] at h
 replace hall := ae.mk hall
 have i2 : ((1 : Int) < (s.size : Int)) = True := eq_true (by omega)
 have i3 : (1 < s.size) = True := eq_true (by omega)
 have i4 : decide ((1 : Int) < (s.size : Int)) = true := decide_eq_true (by omega)
 have i5 : decide (1 < s.size) = true := decide_eq_true (by omega)
 have hx1 : ((s[1]'(by omega)).toNat : Int) = 117 := (bU s 1 (by simpa using hz)).trans hu
 have hx : ((s[0]'h0).toNat : Int) = 110 := (bU s 0 (by simpa using h0)).trans hc
 have i0 : ((0 : Int) < (s.size : Int)) = True := eq_true (by omega)
 have i0' : (0 < s.size) = True := eq_true h0
 have i1 : decide ((0 : Int) < (s.size : Int)) = true := decide_eq_true (by omega)
 replace hc := ae.mk hc
 go_enter Tryz.func44, Tryz.ntmps44
 go_wp2_with (fail)
 go_loopg [4] 0 (fun kq v4 W => v4 = .int .i64 0 ∧ ae (PV w ⟨0, ⟨#[]⟩, ⟨#[]⟩, 0, 0⟩ W))
 case atStart => exact ⟨rfl, ⟨lW w⟩⟩
 case round =>
  obtain ⟨rfl, hV⟩ := hrel
  obtain ⟨a0, a1, a2, a3, a4, a5, af⟩ := hV.out.cells
  go_wp2_with (fail)
  with_reducible refine (hlit _).mono ?_
  rintro e w4 ⟨rfl, hB4⟩
  have hV2 := (hV.out.set ⟨0, ⟨#[]⟩, ⟨#[]⟩, 0, 0⟩ 0 _ rfl).below hB4
  clear hB4 a0 a1 a2 a3 a4 a5 af
  obtain ⟨a0, a1, a2, a3, a4, a5, af⟩ := hV2.cells
  replace hV2 := ae.mk hV2
  go_wp2_with (fail)
  have hV3 := hV2.out.set ⟨0, s, ⟨#[]⟩, 0, 0⟩ 1 _ rfl
  have hex := jv (⟨0, s, ⟨#[]⟩, 0, 0⟩ : Rs) (by exact .inr (Nat.ne_of_gt h0))
  with_reducible refine (hex _).mono ?_
  rintro e w5 ⟨rfl, hB5⟩
  have hV4 := hV3.below hB5
  clear hB5 hV3 a0 a1 a2 a3 a4 a5 af
  obtain ⟨a0, a1, a2, a3, a4, a5, af⟩ := hV4.cells
  obtain ⟨z0, z1, z2, z3, z4, z5, zf⟩ := hV4.qm
  replace hV4 := ae.mk hV4
  go_wp2_with (fail)
  have hV6 := hV4.out.set { (⟨0, s, ⟨#[]⟩, 0, 0⟩ : Rs) with idx := 0 } 4 (.int .i64 0) rfl
  exact bodyPost_ret (results_cell_row rfl _ _ w.heap.size 67 (jh { (⟨0, s, ⟨#[]⟩, 0, 0⟩ : Rs) with idx := 0 }) (0, 0) _ rfl hV6.put Tryz.underlying67 rfl (by kernel_rfl)) rfl ⟨{ (⟨0, s, ⟨#[]⟩, 0, 0⟩ : Rs) with idx := 0 }, rfl, (by show (0 : Int) ≠ 5; decide), hV6.nS _ _ _ _ _ _⟩
theorem xK (w : World) (s : ByteArray) (hs : s.size ≤ 65536) (h0 : 0 < s.size) (hc : bt s (0 : Nat) = 102) (hall : ∀ j : Nat, 1 ≤ j → j < s.size → 97 ≤ bt s j ∧ bt s j ≤ 122) :
 Calls Tryz.prog 44 #[.string s] w fun e w' => ∃ r : Rs, e = .returned (resV r.k r.raw r.str r.num r.idx) ∧ r.k ≠ 5 ∧ Below w.heap.size w w' := by
 have hlit : ∀ W, Calls Tryz.prog 70 #[.string s] W fun e w' => e = .returned (.string s) ∧ Below W.heap.size W w' := fun W => by
  have h := mW W s hs s.size h0 (Nat.le_refl _) hall (.inl (by rw [kU s s.size (Nat.le_refl _)]; decide))
  rwa [lZ] at h
 replace hall := ae.mk hall
 have hx : ((s[0]'h0).toNat : Int) = 102 := (bU s 0 (by simpa using h0)).trans hc
 have i0 : ((0 : Int) < (s.size : Int)) = True := eq_true (by omega)
 have i0' : (0 < s.size) = True := eq_true h0
 have i1 : decide ((0 : Int) < (s.size : Int)) = true := decide_eq_true (by omega)
 replace hc := ae.mk hc
 go_enter Tryz.func44, Tryz.ntmps44
 go_wp2_with (fail)
 go_loopg [4] 0 (fun kq v4 W => v4 = .int .i64 0 ∧ ae (PV w ⟨0, ⟨#[]⟩, ⟨#[]⟩, 0, 0⟩ W))
 case atStart => exact ⟨rfl, ⟨lW w⟩⟩
 case round =>
  obtain ⟨rfl, hV⟩ := hrel
  obtain ⟨a0, a1, a2, a3, a4, a5, af⟩ := hV.out.cells
  go_wp2_with (fail)
  with_reducible refine (hlit _).mono ?_
  rintro e w4 ⟨rfl, hB4⟩
  have hV2 := (hV.out.set ⟨1, ⟨#[]⟩, ⟨#[]⟩, 0, 0⟩ 0 _ rfl).below hB4
  clear hB4 a0 a1 a2 a3 a4 a5 af
  obtain ⟨a0, a1, a2, a3, a4, a5, af⟩ := hV2.cells
  replace hV2 := ae.mk hV2
  go_wp2_with (fail)
  have hV3 := hV2.out.set ⟨1, s, ⟨#[]⟩, 0, 0⟩ 1 _ rfl
  have hex := jv (⟨1, s, ⟨#[]⟩, 0, 0⟩ : Rs) (by exact .inl (fun h => absurd h (by show ¬ ((1 : Int) = 0); decide)))
  with_reducible refine (hex _).mono ?_
  rintro e w5 ⟨rfl, hB5⟩
  have hV4 := hV3.below hB5
  clear hB5 hV3 a0 a1 a2 a3 a4 a5 af
  obtain ⟨a0, a1, a2, a3, a4, a5, af⟩ := hV4.cells
  obtain ⟨z0, z1, z2, z3, z4, z5, zf⟩ := hV4.qm
  replace hV4 := ae.mk hV4
  go_wp2_with (fail)
  have hV6 := hV4.out.set { (⟨1, s, ⟨#[]⟩, 0, 0⟩ : Rs) with idx := 0 } 4 (.int .i64 0) rfl
  exact bodyPost_ret (results_cell_row rfl _ _ w.heap.size 67 (jh { (⟨1, s, ⟨#[]⟩, 0, 0⟩ : Rs) with idx := 0 }) (0, 0) _ rfl hV6.put Tryz.underlying67 rfl (by kernel_rfl)) rfl ⟨{ (⟨1, s, ⟨#[]⟩, 0, 0⟩ : Rs) with idx := 0 }, rfl, (by show (1 : Int) ≠ 5; decide), hV6.nS _ _ _ _ _ _⟩
theorem yN (w : World) (s : ByteArray) (hs : s.size ≤ 65536) (h0 : 0 < s.size) (hc : bt s (0 : Nat) = 116) (hall : ∀ j : Nat, 1 ≤ j → j < s.size → 97 ≤ bt s j ∧ bt s j ≤ 122) :
 Calls Tryz.prog 44 #[.string s] w fun e w' => ∃ r : Rs, e = .returned (resV r.k r.raw r.str r.num r.idx) ∧ r.k ≠ 5 ∧ Below w.heap.size w w' := by
 have hlit : ∀ W, Calls Tryz.prog 70 #[.string s] W fun e w' => e = .returned (.string s) ∧ Below W.heap.size W w' := fun W => by
  have h := mW W s hs s.size h0 (Nat.le_refl _) hall (.inl (by rw [kU s s.size (Nat.le_refl _)]; decide))
  rwa [lZ] at h
 replace hall := ae.mk hall
 have hx : ((s[0]'h0).toNat : Int) = 116 := (bU s 0 (by simpa using h0)).trans hc
 have i0 : ((0 : Int) < (s.size : Int)) = True := eq_true (by omega)
 have i0' : (0 < s.size) = True := eq_true h0
 have i1 : decide ((0 : Int) < (s.size : Int)) = true := decide_eq_true (by omega)
 replace hc := ae.mk hc
 go_enter Tryz.func44, Tryz.ntmps44
 go_wp2_with (fail)
 go_loopg [4] 0 (fun kq v4 W => v4 = .int .i64 0 ∧ ae (PV w ⟨0, ⟨#[]⟩, ⟨#[]⟩, 0, 0⟩ W))
 case atStart => exact ⟨rfl, ⟨lW w⟩⟩
 case round =>
  obtain ⟨rfl, hV⟩ := hrel
  obtain ⟨a0, a1, a2, a3, a4, a5, af⟩ := hV.out.cells
  go_wp2_with (fail)
  with_reducible refine (hlit _).mono ?_
  rintro e w4 ⟨rfl, hB4⟩
  have hV2 := (hV.out.set ⟨4, ⟨#[]⟩, ⟨#[]⟩, 0, 0⟩ 0 _ rfl).below hB4
  clear hB4 a0 a1 a2 a3 a4 a5 af
  obtain ⟨a0, a1, a2, a3, a4, a5, af⟩ := hV2.cells
  replace hV2 := ae.mk hV2
  go_wp2_with (fail)
  have hV3 := hV2.out.set ⟨4, s, ⟨#[]⟩, 0, 0⟩ 1 _ rfl
  have hex := jv (⟨4, s, ⟨#[]⟩, 0, 0⟩ : Rs) (by exact .inl (fun h => absurd h (by show ¬ ((4 : Int) = 0); decide)))
  with_reducible refine (hex _).mono ?_
  rintro e w5 ⟨rfl, hB5⟩
  have hV4 := hV3.below hB5
  clear hB5 hV3 a0 a1 a2 a3 a4 a5 af
  obtain ⟨a0, a1, a2, a3, a4, a5, af⟩ := hV4.cells
  obtain ⟨z0, z1, z2, z3, z4, z5, zf⟩ := hV4.qm
  replace hV4 := ae.mk hV4
  go_wp2_with (fail)
  have hV6 := hV4.out.set { (⟨4, s, ⟨#[]⟩, 0, 0⟩ : Rs) with idx := 0 } 4 (.int .i64 0) rfl
  exact bodyPost_ret (results_cell_row rfl _ _ w.heap.size 67 (jh { (⟨4, s, ⟨#[]⟩, 0, 0⟩ : Rs) with idx := 0 }) (0, 0) _ rfl hV6.put Tryz.underlying67 rfl (by kernel_rfl)) rfl ⟨{ (⟨4, s, ⟨#[]⟩, 0, 0⟩ : Rs) with idx := 0 }, rfl, (by show (4 : Int) ≠ 5; decide), hV6.nS _ _ _ _ _ _⟩
theorem zN (w : World) (s : ByteArray) (hs : s.size ≤ 65536) (h0 : 0 < s.size) (hc : bt s (0 : Nat) = 34) (q : Nat) (hq : gG s 1 q) (v : ByteArray) (hv : Says s 1 q v) :
 Calls Tryz.prog 44 #[.string s] w fun e w' => ∃ r : Rs, e = .returned (resV r.k r.raw r.str r.num r.idx) ∧ r.k ≠ 5 ∧ Below w.heap.size w w' := by
 have hstr := fun W => xO W s hs q hc hq v hv
 obtain ⟨raw, hraw⟩ : ∃ x, s.extract 0 (q + 1) = x := ⟨_, rfl⟩
 rw [hraw] at hstr
 replace hq := ae.mk hq
 replace hv := ae.mk hv
 replace hraw := ae.mk hraw
 have hx : ((s[0]'h0).toNat : Int) = 34 := (bU s 0 (by simpa using h0)).trans hc
 have i0 : ((0 : Int) < (s.size : Int)) = True := eq_true (by omega)
 have i0' : (0 < s.size) = True := eq_true h0
 have i1 : decide ((0 : Int) < (s.size : Int)) = true := decide_eq_true (by omega)
 replace hc := ae.mk hc
 go_enter Tryz.func44, Tryz.ntmps44
 go_wp2_with (fail)
 go_loopg [4] 0 (fun kq v4 W => v4 = .int .i64 0 ∧ ae (PV w ⟨0, ⟨#[]⟩, ⟨#[]⟩, 0, 0⟩ W))
 case atStart => exact ⟨rfl, ⟨lW w⟩⟩
 case round =>
  obtain ⟨rfl, hV⟩ := hrel
  obtain ⟨a0, a1, a2, a3, a4, a5, af⟩ := hV.out.cells
  go_wp2_with (fail)
  with_reducible refine (hstr _).mono ?_
  rintro e w4 ⟨rfl, hB4⟩
  have hV2 := (hV.out.set ⟨3, ⟨#[]⟩, ⟨#[]⟩, 0, 0⟩ 0 _ rfl).below hB4
  clear hB4 a0 a1 a2 a3 a4 a5 af
  obtain ⟨a0, a1, a2, a3, a4, a5, af⟩ := hV2.cells
  replace hV2 := ae.mk hV2
  go_wp2_with (fail)
  have hV3 := (hV2.out.set ⟨3, raw, ⟨#[]⟩, 0, 0⟩ 1 _ rfl).set ⟨3, raw, v, 0, 0⟩ 2 _ rfl
  have hex := jv (⟨3, raw, v, 0, 0⟩ : Rs) (by exact .inl (fun h => absurd h (by show ¬ ((3 : Int) = 0); decide)))
  with_reducible refine (hex _).mono ?_
  rintro e w5 ⟨rfl, hB5⟩
  have hV4 := hV3.below hB5
  clear hB5 hV3 a0 a1 a2 a3 a4 a5 af
  obtain ⟨a0, a1, a2, a3, a4, a5, af⟩ := hV4.cells
  obtain ⟨z0, z1, z2, z3, z4, z5, zf⟩ := hV4.qm
  replace hV4 := ae.mk hV4
  go_wp2_with (fail)
  have hV6 := hV4.out.set { (⟨3, raw, v, 0, 0⟩ : Rs) with idx := 0 } 4 (.int .i64 0) rfl
  exact bodyPost_ret (results_cell_row rfl _ _ w.heap.size 67 (jh { (⟨3, raw, v, 0, 0⟩ : Rs) with idx := 0 }) (0, 0) _ rfl hV6.put Tryz.underlying67 rfl (by kernel_rfl)) rfl ⟨{ (⟨3, raw, v, 0, 0⟩ : Rs) with idx := 0 }, rfl, (by show (3 : Int) ≠ 5; decide), hV6.nS _ _ _ _ _ _⟩
theorem Ak (w : World) (s : ByteArray) (hs : s.size ≤ 65536) (h0 : 0 < s.size) (hc : bt s (0 : Nat) = 45 ∨ (48 ≤ bt s (0 : Nat) ∧ bt s (0 : Nat) ≤ 57)) (B : Nat) (hsp : gB s jS 0 s.size) (hT : Tabs B w) :
 Calls Tryz.prog 44 #[.string s] w fun e w' => ∃ r : Rs, e = .returned (resV r.k r.raw r.str r.num r.idx) ∧ r.k ≠ 5 ∧ Below w.heap.size w w' := by
 have hnum := fun W hT => wU W B s hs s.size h0 (Nat.le_refl _) hsp (.inl rfl) hT
 rw [lZ] at hnum
 replace hsp := ae.mk hsp
 replace hT := ae.mk hT
 have hcv : bt s (0 : Nat) = 45 ∨ bt s (0 : Nat) = 48 ∨ bt s (0 : Nat) = 49 ∨ bt s (0 : Nat) = 50 ∨ bt s (0 : Nat) = 51 ∨ bt s (0 : Nat) = 52 ∨ bt s (0 : Nat) = 53 ∨ bt s (0 : Nat) = 54 ∨ bt s (0 : Nat) = 55 ∨ bt s (0 : Nat) = 56 ∨ bt s (0 : Nat) = 57 := by omega
 clear hc
 rcases hcv with hc | hc | hc | hc | hc | hc | hc | hc | hc | hc | hc
 all_goals
  have hx : ((s[0]'h0).toNat : Int) = bt s (0 : Nat) := bU s 0 (by simpa using h0)
  rw [hc] at hx
  have i0 : ((0 : Int) < (s.size : Int)) = True := eq_true (by omega)
  have i0' : (0 < s.size) = True := eq_true h0
  have i1 : decide ((0 : Int) < (s.size : Int)) = true := decide_eq_true (by omega)
  replace hc := ae.mk hc
  go_enter Tryz.func44, Tryz.ntmps44
  go_wp2_with (fail)
  go_loopg [4] 0 (fun kq v4 W => v4 = .int .i64 0 ∧ ae (PV w ⟨0, ⟨#[]⟩, ⟨#[]⟩, 0, 0⟩ W))
  case atStart => exact ⟨rfl, ⟨lW w⟩⟩
  case round =>
   obtain ⟨rfl, hV⟩ := hrel
   obtain ⟨a0, a1, a2, a3, a4, a5, af⟩ := hV.out.cells
   go_wp2_with (fail)
   with_reducible refine (hnum _ (hT.out.below (eU (hV.out.set ⟨2, ⟨#[]⟩, ⟨#[]⟩, 0, 0⟩ 0 (.int .i64 2) rfl).bel hT.out.size))).mono ?_
   rintro e w4 ⟨⟨b, rfl⟩, hB4⟩
   have hV2 := (hV.out.set ⟨2, ⟨#[]⟩, ⟨#[]⟩, 0, 0⟩ 0 _ rfl).below hB4
   clear hB4 a0 a1 a2 a3 a4 a5 af
   obtain ⟨a0, a1, a2, a3, a4, a5, af⟩ := hV2.cells
   replace hV2 := ae.mk hV2
   go_wp2_with (fail)
   have hV3 := (hV2.out.set ⟨2, s, ⟨#[]⟩, 0, 0⟩ 1 _ rfl).set ⟨2, s, ⟨#[]⟩, b, 0⟩ 3 _ rfl
   have hex := jv (⟨2, s, ⟨#[]⟩, b, 0⟩ : Rs) (by exact .inl (fun h => absurd h (by show ¬ ((2 : Int) = 0); decide)))
   with_reducible refine (hex _).mono ?_
   rintro e w5 ⟨rfl, hB5⟩
   have hV4 := hV3.below hB5
   clear hB5 hV3 a0 a1 a2 a3 a4 a5 af
   obtain ⟨a0, a1, a2, a3, a4, a5, af⟩ := hV4.cells
   obtain ⟨z0, z1, z2, z3, z4, z5, zf⟩ := hV4.qm
   replace hV4 := ae.mk hV4
   go_wp2_with (fail)
   have hV6 := hV4.out.set { (⟨2, s, ⟨#[]⟩, b, 0⟩ : Rs) with idx := 0 } 4 (.int .i64 0) rfl
   exact bodyPost_ret (results_cell_row rfl _ _ w.heap.size 67 (jh { (⟨2, s, ⟨#[]⟩, b, 0⟩ : Rs) with idx := 0 }) (0, 0) _ rfl hV6.put Tryz.underlying67 rfl (by kernel_rfl)) rfl ⟨{ (⟨2, s, ⟨#[]⟩, b, 0⟩ : Rs) with idx := 0 }, rfl, (by show (2 : Int) ≠ 5; decide), hV6.nS _ _ _ _ _ _⟩
end Go.Proofs.YtpgfjbimodnkeaaGreatDoor.Dec
