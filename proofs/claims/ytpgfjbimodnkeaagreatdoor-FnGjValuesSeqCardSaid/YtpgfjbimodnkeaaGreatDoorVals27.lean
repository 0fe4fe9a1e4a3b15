/- FnGjValuesSeq: whatever text and stop come in, the law returns true and both read afterwards as before; with the package-level variables that its row lists as the program's own text lays them (part 27 of 27) -/
import Derived.StillTailTactics
import Derived.WalkSpells
import Derived.Deep.Cut
import Derived.ChangeArms
import Derived.OpenShut
import Derived.LaidLaws
import Derived.MakeChecks
import Derived.ChangeOld
import Derived.Test.YtpgfjbimodnkeaaGreatDoorRows
import Derived.Test.YtpgfjbimodnkeaaGreatDoorTie
import Derived.Test.YtpgfjbimodnkeaaGreatDoorCards
import Derived.WalkKit
import Derived.ProofKit
import Derived.ShutString
import Derived.Below
import Derived.LaidMore
import Derived.Lay
import Derived.SevenTiedAt
import Derived.Stop.Joined
import Derived.Test.YtpgfjbimodnkeaaGreatDoorVals9
import Derived.Test.YtpgfjbimodnkeaaGreatDoorVals18
import Derived.Test.YtpgfjbimodnkeaaGreatDoorVals26
set_option linter.unusedVariables false
set_option linter.unusedSimpArgs false
namespace Go.Proofs.YtpgfjbimodnkeaaGreatDoor.Dec
open Go Go.RowKit Go.Proofs.YtpgfjbimodnkeaaGreatDoorW.PrintWords Go.Proofs.YtpgfjbimodnkeaaGreatDoorW.PrintLast Go.Proofs.YtpgfjbimodnkeaaGreatDoorW.PrintMore Go.Proofs.YtpgfjbimodnkeaaGreatDoor.Scan Go.Proofs.YtpgfjbimodnkeaaGreatDoor.Q
set_option maxHeartbeats 4000000 in
set_option maxRecDepth 100000 in
theorem law_big (w : World) (s : ByteArray) (stop : Int) (h : 2147483647 < s.size) :
 Calls Tryz.prog 7 #[.string s, .int .i64 stop] w fun e w' => e = .returned (.bool true) ∧ Below w.heap.size w w' := by
 have h1 : decide (2147483647 < (s.size : Int)) = true := decide_eq_true (by omega)
 have h2 : decide (2147483647 < s.size) = true := decide_eq_true (by omega)
 go_enter Tryz.func7, Tryz.ntmps7
 go_wp2
 go_ret
 exact ⟨rfl, Below.refl _ _⟩
theorem text_call (w : World) (s : ByteArray) (kd : Int) (txt : ByteArray) (keys : List ByteArray) (ts : List S25) (ok : Bool) (k : Nat) (h : laws_gjText.f k s = some (kd, txt, keys, ts, ok)) :
 Calls Tryz.prog 8 #[.string s] w fun e w' => ∃ A c A3 c3, e = .returned (.tuple #[.agg #[.int .i64 kd, .string txt, .slice A keys.length c, .slice A3 ts.length c3], .bool ok]) ∧ Kd.string.C w' A keys.length keys ∧ Below w.heap.size w w' := by
 refine (laws_gjText.calls k s kd txt keys ts ok w h).mono ?_
 rintro e w' ⟨v2, v3, rfl, h2, h3, hb⟩
 obtain ⟨A, c, rfl, hl, hc⟩ := Kd.R_reads h2
 obtain ⟨A3, c3, rfl⟩ := Kd.R_slice h3
 exact ⟨A, c, A3, c3, rfl, hc, hb⟩
theorem places_call (w : World) (s : ByteArray) (kd i m : Int) (ns : List S44) (ks : List S32) (k : Nat) (h : spec_Places.f k s = some (kd, i, m, ns, ks, true)) :
 Calls Tryz.prog 10 #[.string s] w fun e w' => ∃ A3 c3 A4 c4, e = .returned (.tuple #[.agg #[.int .i64 kd, .int .i64 i, .int .i64 m, .slice A3 ns.length c3, .slice A4 ks.length c4], .bool true]) ∧ Kd.C k44 w' A3 ns.length ns ∧ Kd.C k32 w' A4 ks.length ks ∧ Below w.heap.size w w' := by
 refine (spec_Places.calls k s kd i m ns ks true w h).mono ?_
 rintro e w' ⟨v2, v3, rfl, h2, h3, hb⟩
 obtain ⟨A3, c3, rfl, hl3, hc3⟩ := Kd.R_reads h2
 obtain ⟨A4, c4, rfl, hl4, hc4⟩ := Kd.R_reads h3
 exact ⟨A3, c3, A4, c4, rfl, hc3, hc4, hb⟩
set_option maxHeartbeats 8000000 in
set_option maxRecDepth 100000 in
theorem law_notok (w : World) (s : ByteArray) (stop : Int) (h : s.size ≤ 2147483647) (kd : Int) (txt : ByteArray) (keys : List ByteArray) (ts : List S25) (k : Nat) (hk : laws_gjText.f k s = some (kd, txt, keys, ts, false)) :
 Calls Tryz.prog 7 #[.string s, .int .i64 stop] w fun e w' => e = .returned (.bool true) ∧ Below w.heap.size w w' := by
 have h1 : decide (2147483647 < (s.size : Int)) = false := decide_eq_false (by omega)
 have h2 : decide (2147483647 < s.size) = false := decide_eq_false (by omega)
 have hgt := fun W => text_call W s kd txt keys ts false k hk
 replace hk := Aside0.mk hk
 go_enter Tryz.func7, Tryz.ntmps7
 go_wp2_with (first | (go_at_call 8; (with_reducible refine (hgt _).mono ?_); rintro e w1 ⟨A1, c1, A2, c2, rfl, hC1, hB1⟩; replace hC1 := Aside0.mk hC1; replace hB1 := Aside0.mk hB1))
 go_ret
 exact ⟨rfl, below_alloc hB1.out _⟩
set_option maxHeartbeats 8000000 in
set_option maxRecDepth 100000 in
theorem law_kd (w : World) (s : ByteArray) (stop : Int) (h : s.size ≤ 2147483647) (kd : Int) (h5 : kd ≠ 5) (h6 : kd ≠ 6) (txt : ByteArray) (keys : List ByteArray) (ts : List S25) (k : Nat) (hk : laws_gjText.f k s = some (kd, txt, keys, ts, true)) :
 Calls Tryz.prog 7 #[.string s, .int .i64 stop] w fun e w' => e = .returned (.bool true) ∧ Below w.heap.size w w' := by
 have h1 : decide (2147483647 < (s.size : Int)) = false := decide_eq_false (by omega)
 have h2 : decide (2147483647 < s.size) = false := decide_eq_false (by omega)
 have h51 : (kd != 5) = true := bne_iff_ne.mpr h5
 have h61 : (kd != 6) = true := bne_iff_ne.mpr h6
 have hgt := fun W => text_call W s kd txt keys ts true k hk
 replace hk := Aside0.mk hk
 go_enter Tryz.func7, Tryz.ntmps7
 go_wp2_with (first | (go_at_call 8; (with_reducible refine (hgt _).mono ?_); rintro e w1 ⟨A1, c1, A2, c2, rfl, hC1, hB1⟩; replace hC1 := Aside0.mk hC1; replace hB1 := Aside0.mk hB1))
 go_ret
 exact ⟨rfl, below_alloc hB1.out _⟩
structure VI (n : Nat) (w5 : World) (kq i : Nat) (W : World) : Prop where
 kq : kq = n - i
 le : i ≤ n
 bel : Below w5.heap.size w5 W
set_option maxHeartbeats 16000000 in
set_option maxRecDepth 100000 in
theorem law_main (w : World) (B : Nat) (hT : Tabs B w) (s : ByteArray) (stop : Int) (kd : Int) (hkd : kd = 5 ∨ kd = 6) (txt : ByteArray) (keys : List ByteArray) (ts : List S25) (k : Nat) (hk : laws_gjText.f k s = some (kd, txt, keys, ts, true)) (i m : Nat) (ns : List S44) (ks : List S32) (hx : TextIs s kd i m ns ks keys) :
 Calls Tryz.prog 7 #[.string s, .int .i64 stop] w fun e w' => e = .returned (.bool true) ∧ Below w.heap.size w w' := by
 have hs := hx.size
 have h1 : decide (2147483647 < (s.size : Int)) = false := decide_eq_false (by omega)
 have h2 : decide (2147483647 < s.size) = false := decide_eq_false (by omega)
 have hor : (kd != 5) = false ∨ ((kd != 5) = true ∧ (kd != 6) = false) := by rcases hkd with rfl | rfl <;> simp
 have hgt := fun W => text_call W s kd txt keys ts true k hk
 obtain ⟨k2, hk2⟩ := hx.places.at
 have hpl := fun W => places_call W s kd i m ns ks k2 hk2
 have hval := fun W hT => vals_row W B s stop kd hkd i m ns ks keys hx hT
 have hgv : ks.length = 0 → ∀ W, Calls Tryz.prog 25 #[.string s] W fun e w' => e = .returned (.bool true) ∧ Below W.heap.size W w' := fun h W => by
  obtain rfl := List.eq_nil_of_length_eq_zero h
  exact valid_calls W s hs i m hx.pre (empty_of hkd hx.val) hx.post
 replace hk := Aside0.mk hk
 replace hk2 := Aside0.mk hk2
 replace hx := Aside0.mk hx
 replace hkd := Aside0.mk hkd
 replace hT := Aside0.mk hT
 replace hgv := Aside0.mk hgv
 obtain ⟨bs, hbs⟩ : ∃ b, decide (0 < stop) = b := ⟨_, rfl⟩
 have hbs0 := Aside0.mk hbs
 rcases hor with h51 | ⟨h51, h61⟩
 all_goals
  cases bs
  ·go_enter Tryz.func7, Tryz.ntmps7
   go_wp2_with (fail)
   refine (hgt _).mono ?_
   rintro e w1 ⟨A1, c1, A2, c2, rfl, hC1, hB1⟩
   replace hB1 := Aside0.mk hB1
   clear hC1
   go_wp2_with (fail)
   refine (hpl _).mono ?_
   rintro e w3 ⟨A3, c3, A4, c4, rfl, hC3, hC4, hB3⟩
   have hW3 : Aside0 (Below w.heap.size w w3) := ⟨below_step (by repeat (with_reducible first | exact hB1.out | apply below_alloc | apply pw_below_drewN | apply below_drew)) hB3⟩
   replace hC4 := Aside0.mk hC4
   clear hC3 hB3
   go_wp2_with (fail)
   refine (hval _ (hT.out.below (Below.mono (by repeat (with_reducible first | exact hW3.out | apply below_alloc | apply pw_below_drewN | apply below_drew)) hT.out.size))).mono ?_
   rintro e w5 ⟨A5, c5, ps, rfl, hR5, hB5, hE⟩
   have kP5 := Aside0.mk (blk_below (blk_new w3 _) hB5)
   have hW5 : Aside0 (Below w.heap.size w w5) := ⟨below_step (by repeat (with_reducible first | exact hW3.out | apply below_alloc | apply pw_below_drewN | apply below_drew)) hB5⟩
   have hC45 := Aside0.mk (Kd.C_below hC4.out (below_step (by repeat (with_reducible first | exact Below.refl _ _ | apply below_alloc | apply pw_below_drewN | apply below_drew)) hB5))
   replace hR5 := Aside0.mk hR5
   have hq5 : ((ps.length : Int) != ((ks.length : Nat) : Int)) = false := by
    have h := hbs0.out
    simp at h
    first
     | (have := hE.len1 (by omega); rw [this]; simp; done)
     | (have := hE.len0 (by omega); rw [this]; simp; done)
   obtain ⟨bk, hbk⟩ : ∃ b, decide (0 < ((ks.length : Nat) : Int)) = b := ⟨_, rfl⟩
   have hbk2 : decide (0 < ks.length) = bk := by
    rw [← hbk]
    have h2 := hbs0.out
    simp at h2
    exact decide_eq_decide.2 (by omega)
   have hbn : bk = false → ks.length = 0 := by
    intro h
    subst h
    have h1 := of_decide_eq_false hbk
    have h2 := hbs0.out
    simp at h2
    omega
   replace hbn := Aside0.mk hbn
   replace hE := Aside0.mk hE
   clear hB5 hW3 hC4
   go_wp2_with (fail)
   go_loopg [54] (ps.length) (fun kq v54 W => ∃ i : Nat, v54 = .int .i64 i ∧ Aside0 (VI ps.length w5 kq i W))
   case atStart => exact ⟨0, rfl, ⟨⟨by omega, by omega, Below.refl _ _⟩⟩⟩
   case round =>
    obtain ⟨i, rfl, hL⟩ := hrel
    obtain ⟨hkq, hi, hb⟩ := hL.out
    clear hL
    rcases Nat.lt_or_ge i ps.length with hlt | hge
    ·have hR6 := ReadsRow.imp_ hR5.out hb (fun _ _ h => h)
     have kP6 := blk_below kP5.out hb
     have hC46 := Kd.C_below hC45.out hb
     obtain ⟨ad5, rfl, hpc⟩ := val_at hR6 i hlt
     have hlk : i < ks.length := by have := hE.out.le; omega
     have hmax : ps.length ≤ 9223372036854775807 := hR5.out.2.1
     have hkid := atk_f hs (hE.out.at_ i (ks[i]'hlk) (ps[i]'hlt) (List.getElem?_eq_getElem hlk) (List.getElem?_eq_getElem hlt))
     obtain ⟨k4, hk4⟩ := hkid
     obtain ⟨ad4, A6, c6, A7, c7, hA4, q0, q1, q2, q3, q4, q5, q6, q7, q8⟩ := at_T32 hC46 (i : Int) (by omega) (by omega)
     subst hA4
     have hrd : rd_T32 ks (i : Int) = ks[i]'hlk := by
      unfold rd_T32
      rw [Int.toNat_natCast, List.getD_eq_getElem?_getD, List.getElem?_eq_getElem hlk]
      rfl
     rw [hrd] at q0 q1 q2 q3 q4 q5 q6 q7 q8
     rw [Int.toNat_natCast] at q0 q1 q2 q3 q4
     have hat := fun W (h1 : Kd.C k44 W A6 _ _) (h2 : Kd.C k32 W A7 _ _) => laws_gjAt.yes k4 _ _ _ _ _ s _ _ _ A6 c6 _ A7 c7 _ W h1 q5 h2 q7 hk4
     generalize hp4 : (ks[i]'hlk) = p4 at *
     generalize hpi : (ps[i]'hlt) = vr at *
     replace hp4 := Aside0.mk hp4
     replace hpi := Aside0.mk hpi
     have e1 : decide ((i : Int) < (ps.length : Int)) = true := decide_eq_true (by omega)
     have e2 : decide (i < ps.length) = true := decide_eq_true (by omega)
     have j0 : ((0 : Int) ≤ (i : Int)) = True := eq_true (by omega)
     have j1 : ((i : Int) < (ps.length : Int)) = True := eq_true (by omega)
     have j2 : (i < ps.length) = True := eq_true hlt
     have j3 : ((i : Int) < (ks.length : Int)) = True := eq_true (by omega)
     have j4 : (i < ks.length) = True := eq_true (by omega)
     have kc4 : wr.cell? ⟨w3.heap.size, 4, none⟩ = some (.slice (some ad4) ks.length c4) := (blk_cell kP6 4).trans rfl
     have p0 : wr.cell? (ad5.add (i * 5)) = some (.int .i64 vr.k) := hpc.c 0 _ rfl
     have p1 : wr.cell? ⟨(ad5.add (i * 5)).block, (ad5.add (i * 5)).off + 1, none⟩ = some (.string vr.raw) := by rw [← add_field _ _ 1 (by omega)]; exact hpc.c 1 _ rfl
     have p2 : wr.cell? ⟨(ad5.add (i * 5)).block, (ad5.add (i * 5)).off + 2, none⟩ = some (.string vr.str) := by rw [← add_field _ _ 2 (by omega)]; exact hpc.c 2 _ rfl
     have p3 : wr.cell? ⟨(ad5.add (i * 5)).block, (ad5.add (i * 5)).off + 3, none⟩ = some (.float .f64 vr.num) := by rw [← add_field _ _ 3 (by omega)]; exact hpc.c 3 _ rfl
     have p4' : wr.cell? ⟨(ad5.add (i * 5)).block, (ad5.add (i * 5)).off + 4, none⟩ = some (.bool vr.ex) := by rw [← add_field _ _ 4 (by omega)]; exact hpc.c 4 _ rfl
     replace hk4 := Aside0.mk hk4
     replace hpc := Aside0.mk hpc
     replace hrd := Aside0.mk hrd
     replace hkq := Aside0.mk hkq
     replace hb := Aside0.mk hb
     replace kP6 := Aside0.mk kP6
     replace hR6 := Aside0.mk hR6
     replace hC46 := Aside0.mk hC46
     replace q5 := Aside0.mk q5
     replace q6 := Aside0.mk q6
     replace q7 := Aside0.mk q7
     replace q8 := Aside0.mk q8
     go_wp2
     go_still_tail 10, (by kernel_rfl)
     go_wp2_with (first | (go_at_call 12; (with_reducible refine (hat _ ?s1 ?s2).mono ?_); (case s1 => exact Kd.C_below q6.out (by repeat (with_reducible first | exact Below.refl _ _ | apply pw_below_drewN | apply below_drew))); (case s2 => exact Kd.C_below q8.out (by repeat (with_reducible first | exact Below.refl _ _ | apply pw_below_drewN | apply below_drew))); rintro e w7 ⟨rfl, hB7⟩; have hb7 : Aside0 (Below w5.heap.size w5 w7) := ⟨below_step (by repeat (with_reducible first | exact hb.out | apply pw_below_drewN | apply below_drew)) hB7⟩; clear hB7 kc4 p0 p1 p2 p3 p4' q0 q1 q2 q3 q4))
     go_roundg (ps.length - (i + 1))
     case measure => have := hkq.out; omega
     case rel => exact ⟨i + 1, by first | rfl | (congr 1; omega), ⟨⟨by omega, by omega, hb7.out⟩⟩⟩
    ·have e1 : decide ((i : Int) < (ps.length : Int)) = false := decide_eq_false (by omega)
     have e2 : decide (i < ps.length) = false := decide_eq_false (by omega)
     replace hkq := Aside0.mk hkq
     replace hb := Aside0.mk hb
     cases bk
     ·have hz := hbn.out rfl
      go_wp2_with (fail)
      refine (hgv.out hz _).mono ?_
      rintro e w8 ⟨rfl, hB8⟩
      have hb8 := Aside0.mk (below_step (below_step hW5.out hb.out) hB8)
      clear hB8
      go_wp2_with (fail)
      go_ret
      exact ⟨rfl, hb8.out⟩
     ·go_wp2_with (fail)
      go_ret
      exact ⟨rfl, below_step hW5.out hb.out⟩
  ·go_enter Tryz.func7, Tryz.ntmps7
   go_wp2_with (fail)
   refine (hgt _).mono ?_
   rintro e w1 ⟨A1, c1, A2, c2, rfl, hC1, hB1⟩
   replace hB1 := Aside0.mk hB1
   clear hC1
   go_wp2_with (fail)
   refine (hpl _).mono ?_
   rintro e w3 ⟨A3, c3, A4, c4, rfl, hC3, hC4, hB3⟩
   have hW3 : Aside0 (Below w.heap.size w w3) := ⟨below_step (by repeat (with_reducible first | exact hB1.out | apply below_alloc | apply pw_below_drewN | apply below_drew)) hB3⟩
   replace hC4 := Aside0.mk hC4
   clear hC3 hB3
   go_wp2_with (fail)
   refine (hval _ (hT.out.below (Below.mono (by repeat (with_reducible first | exact hW3.out | apply below_alloc | apply pw_below_drewN | apply below_drew)) hT.out.size))).mono ?_
   rintro e w5 ⟨A5, c5, ps, rfl, hR5, hB5, hE⟩
   have kP5 := Aside0.mk (blk_below (blk_new w3 _) hB5)
   have hW5 : Aside0 (Below w.heap.size w w5) := ⟨below_step (by repeat (with_reducible first | exact hW3.out | apply below_alloc | apply pw_below_drewN | apply below_drew)) hB5⟩
   have hC45 := Aside0.mk (Kd.C_below hC4.out (below_step (by repeat (with_reducible first | exact Below.refl _ _ | apply below_alloc | apply pw_below_drewN | apply below_drew)) hB5))
   replace hR5 := Aside0.mk hR5
   have hq5 : ((ps.length : Int) != min ((ks.length : Nat) : Int) stop) = false := by
    have h := hbs0.out
    simp at h
    first
     | (have := hE.len1 (by omega); rw [this]; simp; done)
     | (have := hE.len0 (by omega); rw [this]; simp; done)
   obtain ⟨bk, hbk⟩ : ∃ b, decide (0 < min ((ks.length : Nat) : Int) stop) = b := ⟨_, rfl⟩
   have hbk2 : decide (0 < ks.length) = bk := by
    rw [← hbk]
    have h2 := hbs0.out
    simp at h2
    exact decide_eq_decide.2 (by omega)
   have hbn : bk = false → ks.length = 0 := by
    intro h
    subst h
    have h1 := of_decide_eq_false hbk
    have h2 := hbs0.out
    simp at h2
    omega
   replace hbn := Aside0.mk hbn
   replace hE := Aside0.mk hE
   clear hB5 hW3 hC4
   go_wp2_with (fail)
   go_loopg [54] (ps.length) (fun kq v54 W => ∃ i : Nat, v54 = .int .i64 i ∧ Aside0 (VI ps.length w5 kq i W))
   case atStart => exact ⟨0, rfl, ⟨⟨by omega, by omega, Below.refl _ _⟩⟩⟩
   case round =>
    obtain ⟨i, rfl, hL⟩ := hrel
    obtain ⟨hkq, hi, hb⟩ := hL.out
    clear hL
    rcases Nat.lt_or_ge i ps.length with hlt | hge
    ·have hR6 := ReadsRow.imp_ hR5.out hb (fun _ _ h => h)
     have kP6 := blk_below kP5.out hb
     have hC46 := Kd.C_below hC45.out hb
     obtain ⟨ad5, rfl, hpc⟩ := val_at hR6 i hlt
     have hlk : i < ks.length := by have := hE.out.le; omega
     have hmax : ps.length ≤ 9223372036854775807 := hR5.out.2.1
     have hkid := atk_f hs (hE.out.at_ i (ks[i]'hlk) (ps[i]'hlt) (List.getElem?_eq_getElem hlk) (List.getElem?_eq_getElem hlt))
     obtain ⟨k4, hk4⟩ := hkid
     obtain ⟨ad4, A6, c6, A7, c7, hA4, q0, q1, q2, q3, q4, q5, q6, q7, q8⟩ := at_T32 hC46 (i : Int) (by omega) (by omega)
     subst hA4
     have hrd : rd_T32 ks (i : Int) = ks[i]'hlk := by
      unfold rd_T32
      rw [Int.toNat_natCast, List.getD_eq_getElem?_getD, List.getElem?_eq_getElem hlk]
      rfl
     rw [hrd] at q0 q1 q2 q3 q4 q5 q6 q7 q8
     rw [Int.toNat_natCast] at q0 q1 q2 q3 q4
     have hat := fun W (h1 : Kd.C k44 W A6 _ _) (h2 : Kd.C k32 W A7 _ _) => laws_gjAt.yes k4 _ _ _ _ _ s _ _ _ A6 c6 _ A7 c7 _ W h1 q5 h2 q7 hk4
     generalize hp4 : (ks[i]'hlk) = p4 at *
     generalize hpi : (ps[i]'hlt) = vr at *
     replace hp4 := Aside0.mk hp4
     replace hpi := Aside0.mk hpi
     have e1 : decide ((i : Int) < (ps.length : Int)) = true := decide_eq_true (by omega)
     have e2 : decide (i < ps.length) = true := decide_eq_true (by omega)
     have j0 : ((0 : Int) ≤ (i : Int)) = True := eq_true (by omega)
     have j1 : ((i : Int) < (ps.length : Int)) = True := eq_true (by omega)
     have j2 : (i < ps.length) = True := eq_true hlt
     have j3 : ((i : Int) < (ks.length : Int)) = True := eq_true (by omega)
     have j4 : (i < ks.length) = True := eq_true (by omega)
     have kc4 : wr.cell? ⟨w3.heap.size, 4, none⟩ = some (.slice (some ad4) ks.length c4) := (blk_cell kP6 4).trans rfl
     have p0 : wr.cell? (ad5.add (i * 5)) = some (.int .i64 vr.k) := hpc.c 0 _ rfl
     have p1 : wr.cell? ⟨(ad5.add (i * 5)).block, (ad5.add (i * 5)).off + 1, none⟩ = some (.string vr.raw) := by rw [← add_field _ _ 1 (by omega)]; exact hpc.c 1 _ rfl
     have p2 : wr.cell? ⟨(ad5.add (i * 5)).block, (ad5.add (i * 5)).off + 2, none⟩ = some (.string vr.str) := by rw [← add_field _ _ 2 (by omega)]; exact hpc.c 2 _ rfl
     have p3 : wr.cell? ⟨(ad5.add (i * 5)).block, (ad5.add (i * 5)).off + 3, none⟩ = some (.float .f64 vr.num) := by rw [← add_field _ _ 3 (by omega)]; exact hpc.c 3 _ rfl
     have p4' : wr.cell? ⟨(ad5.add (i * 5)).block, (ad5.add (i * 5)).off + 4, none⟩ = some (.bool vr.ex) := by rw [← add_field _ _ 4 (by omega)]; exact hpc.c 4 _ rfl
     replace hk4 := Aside0.mk hk4
     replace hpc := Aside0.mk hpc
     replace hrd := Aside0.mk hrd
     replace hkq := Aside0.mk hkq
     replace hb := Aside0.mk hb
     replace kP6 := Aside0.mk kP6
     replace hR6 := Aside0.mk hR6
     replace hC46 := Aside0.mk hC46
     replace q5 := Aside0.mk q5
     replace q6 := Aside0.mk q6
     replace q7 := Aside0.mk q7
     replace q8 := Aside0.mk q8
     go_wp2
     go_still_tail 10, (by kernel_rfl)
     go_wp2_with (first | (go_at_call 12; (with_reducible refine (hat _ ?s1 ?s2).mono ?_); (case s1 => exact Kd.C_below q6.out (by repeat (with_reducible first | exact Below.refl _ _ | apply pw_below_drewN | apply below_drew))); (case s2 => exact Kd.C_below q8.out (by repeat (with_reducible first | exact Below.refl _ _ | apply pw_below_drewN | apply below_drew))); rintro e w7 ⟨rfl, hB7⟩; have hb7 : Aside0 (Below w5.heap.size w5 w7) := ⟨below_step (by repeat (with_reducible first | exact hb.out | apply pw_below_drewN | apply below_drew)) hB7⟩; clear hB7 kc4 p0 p1 p2 p3 p4' q0 q1 q2 q3 q4))
     go_roundg (ps.length - (i + 1))
     case measure => have := hkq.out; omega
     case rel => exact ⟨i + 1, by first | rfl | (congr 1; omega), ⟨⟨by omega, by omega, hb7.out⟩⟩⟩
    ·have e1 : decide ((i : Int) < (ps.length : Int)) = false := decide_eq_false (by omega)
     have e2 : decide (i < ps.length) = false := decide_eq_false (by omega)
     replace hkq := Aside0.mk hkq
     replace hb := Aside0.mk hb
     cases bk
     ·have hz := hbn.out rfl
      go_wp2_with (fail)
      refine (hgv.out hz _).mono ?_
      rintro e w8 ⟨rfl, hB8⟩
      have hb8 := Aside0.mk (below_step (below_step hW5.out hb.out) hB8)
      clear hB8
      go_wp2_with (fail)
      go_ret
      exact ⟨rfl, hb8.out⟩
     ·go_wp2_with (fail)
      go_ret
      exact ⟨rfl, below_step hW5.out hb.out⟩
theorem law_calls (w : World) (B : Nat) (hT : Tabs B w) (s : ByteArray) (stop : Int) :
 Calls Tryz.prog 7 #[.string s, .int .i64 stop] w fun e w' => e = .returned (.bool true) ∧ Below w.heap.size w w' := by
 rcases Nat.lt_or_ge 2147483647 s.size with hbig | hsm
 ·exact law_big w s stop hbig
 obtain ⟨kd, txt, keys, ts, ok, hgt, hok⟩ := gjtext_f s
 obtain ⟨k, hk⟩ := hgt.at
 cases ok with
 | false => exact law_notok w s stop hsm kd txt keys ts k hk
 | true =>
   obtain ⟨i, m, ns, ks, hx⟩ := hok rfl
   by_cases hkd : kd = 5 ∨ kd = 6
   ·exact law_main w B hT s stop kd hkd txt keys ts k hk i m ns ks hx
   ·exact law_kd w s stop hsm kd (by omega) (by omega) txt keys ts k hk
#print axioms law_calls
end Go.Proofs.YtpgfjbimodnkeaaGreatDoor.Dec
set_option linter.unusedVariables false
set_option linter.unusedSimpArgs false
namespace Go.Proofs.YtpgfjbimodnkeaaGreatDoor.Laid
open Go
section
variable {P : Program} {w : World} {base : Nat} {sp : Nat → Bool} {held : Bool} {fuel : Nat} {t : TypeId} {cs : List Value} {p : List MemPlace}
abbrev en : TypeId × Value → Unit := fun _ => ()
theorem laid_at : ∀ {l : List (String × DataW Unit)} {ps : List MemPlace}, DataW.LaidVars P w l ps → ∀ (i : Nat) {n : String} {d : DataW Unit}, l[i]? = some (n, d) →
 ∃ g t cs fuel p, P.globalNamed n = some g ∧ (P.globals[g]?).map (·.type) = some t ∧ w.var? P n = some cs ∧ DataW.trod en P w 0 (fun _ => true) false fuel t cs.toList = some (d, p)
 | [], _, _, i, _, _, h => by simp at h
 | (n0, d0) :: r, ps, hl, i, n, d, h => by
  obtain ⟨g, t, cs, fuel, p, q, h1, h2, h3, h4, h5, _⟩ := hl
  cases i with
  | zero =>
    simp only [List.getElem?_cons_zero, Option.some.injEq, Prod.mk.injEq] at h
    obtain ⟨rfl, rfl⟩ := h
    exact ⟨g, t, cs, fuel, p, h1, h2, h3, h4⟩
  | succ i => exact laid_at h5 i (by simpa using h)
theorem laid_var {l : List (String × DataW Unit)} {ps : List MemPlace} (hl : DataW.LaidVars P w l ps) (i : Nat) {n : String} {d : DataW Unit} (h : l[i]? = some (n, d)) {g : Nat} {t : TypeId}
 (hg : P.globalNamed n = some g) (ht : (P.globals[g]?).map (·.type) = some t) :
 ∃ (cs : List Value) (fuel : Nat) (p : List MemPlace), (∀ j, w.cell? ⟨g, j, none⟩ = cs[j]?) ∧ g < w.heap.size ∧ DataW.trod en P w 0 (fun _ => true) false fuel t cs = some (d, p) := by
 obtain ⟨g', t', cs, fuel, p, h1, h2, h3, h4⟩ := laid_at hl i h
 obtain rfl := Option.some.inj (hg.symm.trans h1)
 obtain rfl := Option.some.inj (ht.symm.trans h2)
 refine ⟨cs.toList, fuel, p, fun j => by rw [World.var?_cell hg h3 j]; simp, ?_, h4⟩
 simp only [World.var?, hg, Option.bind_some] at h3
 rcases Nat.lt_or_ge g w.heap.size with hlt | hge
 ·exact hlt
 ·rw [Array.getElem?_eq_none hge] at h3
  simp at h3
theorem bool_cell {b : Bool} (ht : P.underlying t = some .bool) (h : DataW.trod en P w base sp held fuel t cs = some (.lit (.bool b), p)) : cs = [.bool b] := by
 obtain ⟨b', e1, e2⟩ := DataW.trod_bool ht h
 simp only [Prod.mk.injEq, DataW.lit.injEq, Lit.bool.injEq] at e2
 rw [e1, e2.1]
theorem int_cell {k : IntKind} {z : Int} (ht : P.underlying t = some (.int k)) (h : DataW.trod en P w base sp held fuel t cs = some (.lit (.int k z), p)) : cs = [.int k z] ∧ (Lit.int k z).wf = true := by
 obtain ⟨n, e1, e2, e3⟩ := DataW.trod_int ht h
 simp only [Prod.mk.injEq, DataW.lit.injEq, Lit.int.injEq, true_and] at e2
 rw [e1, e2.1]
 exact ⟨rfl, e3⟩
theorem int_any {k : IntKind} {d : DataW Unit} (ht : P.underlying t = some (.int k)) (h : DataW.trod en P w base sp held fuel t cs = some (d, p)) : ∃ z, cs = [.int k z] ∧ d = .lit (.int k z) ∧ (Lit.int k z).wf = true := by
 obtain ⟨n, e1, e2, e3⟩ := DataW.trod_int ht h
 simp only [Prod.mk.injEq] at e2
 exact ⟨n, e1, e2.1, e3⟩
theorem float_any {k : FloatKind} {d : DataW Unit} (ht : P.underlying t = some (.float k)) (h : DataW.trod en P w base sp held fuel t cs = some (d, p)) : ∃ z, cs = [.float k z] := by
 cases fuel with
 | zero => simp [DataW.trod] at h
 | succ n =>
   unfold DataW.trod at h
   rw [ht] at h
   split at h <;> simp_all
theorem string_cell {l : List UInt8} (ht : P.underlying t = some .string) (h : DataW.trod en P w base sp held fuel t cs = some (.lit (.string l), p)) : cs = [.string ⟨l.toArray⟩] := by
 obtain ⟨s, e1, e2, _⟩ := DataW.trod_string ht h
 simp only [Prod.mk.injEq, DataW.lit.injEq, Lit.string.injEq] at e2
 rw [e1, e2.1]
theorem struct_field {fs : Array Field} {ds : List (DataW Unit)} (ht : P.underlying t = some (.struct fs)) (h : DataW.trod en P w base sp held fuel t cs = some (.agg ds, p)) (i : Nat) {f : Field} (hf : fs[i]? = some f) :
 cs.length = P.cellsOf t ∧ ∃ n d q, ds[i]? = some d ∧ DataW.trod en P w base sp held n f.type ((cs.drop f.offset).take (P.cellsOf f.type)) = some (d, q) := by
 obtain ⟨xs, n, rfl, hx, hl, hn, hi⟩ := DataW.trod_struct ht h
 simp only [Prod.mk.injEq, DataW.agg.injEq] at hx
 refine ⟨hl, n, ?_⟩
 have h1 := hi i f hf
 have hlt : i < xs.length := by
  rw [hn]
  exact (Array.getElem?_eq_some_iff.1 hf).1
 rw [List.getElem?_eq_getElem hlt] at h1
 refine ⟨xs[i].1, xs[i].2, ?_, h1⟩
 rw [hx.1]
 simp [hlt]
theorem array_elem {m : Nat} {e : TypeId} {ds : List (DataW Unit)} (ht : P.underlying t = some (.array m e)) (h : DataW.trod en P w base sp held fuel t cs = some (.agg ds, p)) :
 cs.length = P.cellsOf t ∧ ds.length = m ∧ ∀ i, i < m → ∃ n d q, ds[i]? = some d ∧ DataW.trod en P w base sp held n e ((cs.drop (i * P.cellsOf e)).take (P.cellsOf e)) = some (d, q) := by
 obtain ⟨xs, n, rfl, hx, hl, hn, hi⟩ := DataW.trod_array ht h
 simp only [Prod.mk.injEq, DataW.agg.injEq] at hx
 refine ⟨hl, by rw [hx.1]; simp [hn], fun i hlt => ⟨n, ?_⟩⟩
 have h1 := hi i hlt
 have hlt' : i < xs.length := by omega
 rw [List.getElem?_eq_getElem hlt'] at h1
 refine ⟨xs[i].1, xs[i].2, ?_, h1⟩
 rw [hx.1]
 simp [hlt']
theorem slice_elem {e : TypeId} {ds rs : List (DataW Unit)} (ht : P.underlying t = some (.slice e)) (h : DataW.trod en P w base sp held fuel t cs = some (.slice ds rs, p)) :
 ∃ (a : Addr) (cap : Nat), cs = [.slice (some a) ds.length cap] ∧ ∀ i, i < ds.length → ∃ n d q vs, ds[i]? = some d ∧ vs.length = P.cellsOf e ∧ (∀ j, j < P.cellsOf e → w.cell? ((a.add (i * P.cellsOf e)).add j) = vs[j]?) ∧ DataW.trod en P w base sp held n e vs = some (d, q) := by
 rcases DataW.trod_slice ht h with ⟨_, hx⟩ | ⟨a, len, cap, elems, rest, n, rfl, hc, hx, hb, hl, hm, hn, hi, _, _⟩
 ·simp at hx
 ·simp only [Prod.mk.injEq, DataW.slice.injEq] at hx
  have hlen : ds.length = len := by rw [hx.1.1]; simp [hn]
  refine ⟨a, cap, by rw [hc, hlen], fun i hlt => ⟨n, ?_⟩⟩
  rw [hlen] at hlt
  have h1 := hi i hlt
  have hlt' : i < elems.length := by omega
  rw [List.getElem?_eq_getElem hlt'] at h1
  obtain ⟨vs, hv, ht'⟩ := Option.bind_eq_some_iff.1 h1
  obtain ⟨_, hvl, hvc⟩ := World.cells?_some hv
  refine ⟨elems[i].1, elems[i].2, vs, ?_, hvl, hvc, ht'⟩
  rw [hx.1.1]
  simp [hlt']
end
end Go.Proofs.YtpgfjbimodnkeaaGreatDoor.Laid
set_option linter.unusedVariables false
set_option linter.unusedSimpArgs false
namespace Go.Proofs.YtpgfjbimodnkeaaGreatDoor.Dec
open Go Go.RowKit Go.Proofs.YtpgfjbimodnkeaaGreatDoor.Laid Go.Proofs.YtpgfjbimodnkeaaGreatDoorW.PrintWords
theorem drop_one {cs : List Value} {i : Nat} {v : Value} (h : (cs.drop (i * 1)).take 1 = [v]) : cs[i]? = some v := by
 have := congrArg (·[0]?) h
 simpa using this
def isVch (ds : List (DataW Unit)) (i : Nat) : Bool := match ds[i]? with | some (.lit (.int .u8 z)) => z == (vchar i : Nat) | _ => false
def isPow (ds : List (DataW Unit)) (i : Nat) : Bool := match ds[i]? with | some (.lit (.int .i64 z)) => z == (powAt i : Nat) | _ => false
theorem vch_table : ∃ ds, (Rows.laid_pub_tetrapla_pub_gjson_vchars : DataW Unit) = .agg ds ∧ (List.range 256).all (isVch ds) = true := ⟨_, rfl, by kernel_rfl⟩
theorem pow_table : ∃ ds, (Rows.laid_internal_strconv_powtab : DataW Unit) = .slice ds [] ∧ ds.length = 9 ∧ (List.range 9).all (isPow ds) = true := ⟨_, rfl, rfl, by kernel_rfl⟩
theorem ten_table : ∃ ds, (Rows.laid_internal_strconv_float64pow10 : DataW Unit) = .slice ds [] ∧ ds.length = 23 := ⟨_, rfl, rfl⟩
theorem c5 : Tryz.prog.cellsOf 5 = 1 := by kernel_rfl
theorem c3 : Tryz.prog.cellsOf 3 = 1 := by kernel_rfl
theorem c37 : Tryz.prog.cellsOf 37 = 1 := by kernel_rfl
theorem c221 : Tryz.prog.cellsOf 221 = 2 := by kernel_rfl
theorem c232 : Tryz.prog.cellsOf 232 = 2 := by kernel_rfl
section
variable {W : World} {l : List (String × DataW Unit)} {ps : List MemPlace}
theorem tab_vch (hl : DataW.LaidVars Tryz.prog W l ps) (i : Nat) (h : l[i]? = some ("pub-tetrapla/pub/gjson.vchars", Rows.laid_pub_tetrapla_pub_gjson_vchars)) : ∀ i, i < 256 → W.cell? ⟨0, i, none⟩ = some (.int .u8 (vchar i : Nat)) := by
 obtain ⟨cs, fuel, p, hc, _, ht⟩ := laid_var hl i h (g := 0) (t := 138) (by kernel_rfl) (by kernel_rfl)
 intro j hj
 obtain ⟨ds, eds, htab⟩ := vch_table
 rw [eds] at ht
 obtain ⟨_, _, hel⟩ := array_elem Tryz.underlying138 ht
 obtain ⟨n, d, q, hd, hr⟩ := hel j hj
 rw [c5] at hr
 obtain ⟨z, hz, rfl, _⟩ := int_any Tryz.underlying5 hr
 rw [hc j, drop_one hz]
 have hv := List.all_eq_true.1 htab j (List.mem_range.2 hj)
 unfold isVch at hv
 simp only [hd] at hv
 rw [eq_of_beq hv]
theorem tab_err (hl : DataW.LaidVars Tryz.prog W l ps) (i : Nat) {g : Nat} {n : String} {s : List UInt8} (h : l[i]? = some (n, .iface "*errors.errorString" (.ptr (.agg [.lit (.string s)])))) (hg : Tryz.prog.globalNamed n = some g) (ht : (Tryz.prog.globals[g]?).map (·.type) = some 123) : ∃ t v, W.cell? ⟨g, 0, none⟩ = some (.iface t v) := by
 obtain ⟨cs, fuel, p, hc, _, hr⟩ := laid_var hl i h hg ht
 obtain ⟨f, u, v, e, _, _⟩ := iface_of_trod Tryz.underlying123 hr
 exact ⟨u, v, by rw [hc 0, e]; rfl⟩
theorem tab_opt (hl : DataW.LaidVars Tryz.prog W l ps) (i : Nat) (h : l[i]? = some ("internal/strconv.optimize", Rows.laid_internal_strconv_optimize)) : W.cell? ⟨4, 0, none⟩ = some (.bool true) := by
 obtain ⟨cs, fuel, p, hc, _, ht⟩ := laid_var hl i h (g := 4) (t := 4) (by kernel_rfl) (by kernel_rfl)
 rw [hc 0, bool_cell Tryz.underlying4 ht]
 rfl
theorem tab_info (hl : DataW.LaidVars Tryz.prog W l ps) (i : Nat) (h : l[i]? = some ("internal/strconv.float64info", Rows.laid_internal_strconv_float64info)) :
 W.cell? ⟨5, 0, none⟩ = some (.int .u64 52) ∧ W.cell? ⟨5, 1, none⟩ = some (.int .u64 11) ∧ W.cell? ⟨5, 2, none⟩ = some (.int .i64 (-1023)) := by
 obtain ⟨cs, fuel, p, hc, _, ht⟩ := laid_var hl i h (g := 5) (t := 181) (by kernel_rfl) (by kernel_rfl)
 unfold Rows.laid_internal_strconv_float64info at ht
 have c133 : Tryz.prog.cellsOf 133 = 1 := by kernel_rfl
 obtain ⟨_, n0, d0, q0, e0, h0⟩ := struct_field Tryz.underlying181 ht 0 rfl
 obtain ⟨_, n1, d1, q1, e1, h1⟩ := struct_field Tryz.underlying181 ht 1 rfl
 obtain ⟨_, n2, d2, q2, e2, h2⟩ := struct_field Tryz.underlying181 ht 2 rfl
 obtain rfl := Option.some.inj e0
 obtain rfl := Option.some.inj e1
 obtain rfl := Option.some.inj e2
 have h0' : (cs.drop (0 * 1)).take (Tryz.prog.cellsOf 133) = _ := (int_cell Tryz.underlying133 h0).1
 have h1' : (cs.drop (1 * 1)).take (Tryz.prog.cellsOf 133) = _ := (int_cell Tryz.underlying133 h1).1
 have h2' : (cs.drop (2 * 1)).take (Tryz.prog.cellsOf 3) = _ := (int_cell Tryz.underlying3 h2).1
 rw [c133] at h0' h1'
 rw [c3] at h2'
 exact ⟨by rw [hc 0]; exact drop_one h0', by rw [hc 1]; exact drop_one h1', by rw [hc 2]; exact drop_one h2'⟩
theorem tab_pow (hl : DataW.LaidVars Tryz.prog W l ps) (i : Nat) (h : l[i]? = some ("internal/strconv.powtab", Rows.laid_internal_strconv_powtab)) :
 ∃ (b : Addr) (cc : Nat), b.block < W.heap.size ∧ W.cell? ⟨7, 0, none⟩ = some (.slice (some b) 9 cc) ∧ ∀ i, i < 9 → W.cell? (b.add i) = some (.int .i64 (powAt i : Nat)) := by
 obtain ⟨cs, fuel, p, hc, _, ht⟩ := laid_var hl i h (g := 7) (t := 65) (by kernel_rfl) (by kernel_rfl)
 obtain ⟨ds, eds, hlen, hp⟩ := pow_table
 rw [eds] at ht
 obtain ⟨a, cap, e, hel⟩ := slice_elem Tryz.underlying65 ht
 rw [hlen] at e hel
 have key : ∀ j, j < 9 → W.cell? (a.add j) = some (.int .i64 (powAt j : Nat)) := fun j hj => by
  obtain ⟨n, d, q, vs, hd, hvl, hvc, hr⟩ := hel j hj
  obtain ⟨z, rfl, rfl, _⟩ := int_any Tryz.underlying3 hr
  have hx := hvc 0 (by rw [c3]; decide)
  rw [c3, Nat.mul_one] at hx
  have hv := List.all_eq_true.1 hp j (List.mem_range.2 hj)
  unfold isPow at hv
  simp only [hd] at hv
  rw [← eq_of_beq hv]
  exact hx
 refine ⟨a, cap, ?_, by rw [hc 0, e]; rfl, key⟩
 have := World.block_lt_of_cell? W _ (key 0 (by decide))
 exact this
theorem tab_ten (hl : DataW.LaidVars Tryz.prog W l ps) (i : Nat) (h : l[i]? = some ("internal/strconv.float64pow10", Rows.laid_internal_strconv_float64pow10)) :
 ∃ (b : Addr) (cc : Nat), b.block < W.heap.size ∧ W.cell? ⟨8, 0, none⟩ = some (.slice (some b) 23 cc) ∧ ∀ i, i < 23 → ∃ x, W.cell? (b.add i) = some (.float .f64 x) := by
 obtain ⟨cs, fuel, p, hc, _, ht⟩ := laid_var hl i h (g := 8) (t := 217) (by kernel_rfl) (by kernel_rfl)
 obtain ⟨ds, eds, hlen⟩ := ten_table
 rw [eds] at ht
 obtain ⟨a, cap, e, hel⟩ := slice_elem Tryz.underlying217 ht
 rw [hlen] at e hel
 have key : ∀ j, j < 23 → ∃ x, W.cell? (a.add j) = some (.float .f64 x) := fun j hj => by
  obtain ⟨n, d, q, vs, hd, hvl, hvc, hr⟩ := hel j hj
  obtain ⟨z, rfl⟩ := float_any Tryz.underlying37 hr
  have hx := hvc 0 (by rw [c37]; decide)
  rw [c37, Nat.mul_one] at hx
  exact ⟨z, hx⟩
 refine ⟨a, cap, ?_, by rw [hc 0, e]; rfl, key⟩
 obtain ⟨x, hx⟩ := key 0 (by decide)
 have := World.block_lt_of_cell? W _ hx
 exact this
theorem tab_tab (hl : DataW.LaidVars Tryz.prog W l ps) (i : Nat) (h : l[i]? = some ("internal/strconv.pow10Tab", Rows.laid_internal_strconv_pow10Tab)) :
 ∀ i, i < 1392 → ∃ x : Int, 0 ≤ x ∧ x < 18446744073709551616 ∧ W.cell? ⟨9, i, none⟩ = some (.int .u64 x) := by
 obtain ⟨cs, fuel, p, hc, _, ht⟩ := laid_var hl i h (g := 9) (t := 222) (by kernel_rfl) (by kernel_rfl)
 unfold Rows.laid_internal_strconv_pow10Tab Go.Pinned.pow10Tab at ht
 obtain ⟨_, _, hel⟩ := array_elem Tryz.underlying222 ht
 have wf : ∀ z : Int, (Lit.int .u64 z).wf = true → 0 ≤ z ∧ z < 18446744073709551616 := fun z hz => by
  simp [Lit.wf, IntKind.min, IntKind.max, IntKind.signed, IntKind.bits] at hz
  omega
 have c134 : Tryz.prog.cellsOf 134 = 1 := by kernel_rfl
 intro j hj
 obtain ⟨n, d, q, hd, hr⟩ := hel (j / 2) (by omega)
 rw [c221] at hr
 rw [List.getElem?_map, Option.map_eq_some_iff] at hd
 obtain ⟨x, _, rfl⟩ := hd
 obtain ⟨_, n0, d0, q0, e0, h0⟩ := struct_field Tryz.underlying221 hr 0 rfl
 obtain ⟨_, n1, d1, q1, e1, h1⟩ := struct_field Tryz.underlying221 hr 1 rfl
 obtain ⟨z0, h0a, _, w0⟩ := int_any Tryz.underlying134 h0
 obtain ⟨z1, h1a, _, w1⟩ := int_any Tryz.underlying134 h1
 have h0' : ((((cs.drop (j / 2 * 2)).take 2)).drop (0 * 1)).take (Tryz.prog.cellsOf 134) = _ := h0a
 have h1' : ((((cs.drop (j / 2 * 2)).take 2)).drop (1 * 1)).take (Tryz.prog.cellsOf 134) = _ := h1a
 rw [c134] at h0' h1'
 have k0 := drop_one h0'
 have k1 := drop_one h1'
 rw [List.getElem?_take, if_pos (by decide), List.getElem?_drop] at k0 k1
 rcases Nat.mod_two_eq_zero_or_one j with hm | hm
 ·rw [show j / 2 * 2 + 0 = j by omega] at k0
  exact ⟨z0, (wf z0 w0).1, (wf z0 w0).2, by rw [hc j, k0]⟩
 ·rw [show j / 2 * 2 + 1 = j by omega] at k1
  exact ⟨z1, (wf z1 w1).1, (wf z1 w1).2, by rw [hc j, k1]⟩
theorem tab_left (hl : DataW.LaidVars Tryz.prog W l ps) (i : Nat) (h : l[i]? = some ("internal/strconv.leftcheats", Rows.laid_internal_strconv_leftcheats)) :
 ∃ (b : Addr) (cc : Nat), b.block < W.heap.size ∧ W.cell? ⟨10, 0, none⟩ = some (.slice (some b) 61 cc) ∧ ∀ k, k < 61 →
  W.cell? (b.add (k * 2)) = some (.int .i64 ((cheatAt k).1 : Nat)) ∧ W.cell? ⟨(b.add (k * 2)).block, (b.add (k * 2)).off + 1, none⟩ = some (.string (cheatStr k)) := by
 obtain ⟨cs, fuel, p, hc, _, ht⟩ := laid_var hl i h (g := 10) (t := 233) (by kernel_rfl) (by kernel_rfl)
 unfold Rows.laid_internal_strconv_leftcheats Go.Pinned.leftcheats at ht
 obtain ⟨a, cap, e, hel⟩ := slice_elem Tryz.underlying233 ht
 have hlen : Go.Pinned.cheatRows.length = 61 := by decide +kernel
 rw [List.length_map, hlen] at e hel
 have key : ∀ k, k < 61 → W.cell? (a.add (k * 2)) = some (.int .i64 ((cheatAt k).1 : Nat)) ∧ W.cell? ⟨(a.add (k * 2)).block, (a.add (k * 2)).off + 1, none⟩ = some (.string (cheatStr k)) := fun k hk => by
  obtain ⟨n, d, q, vs, hd, hvl, hvc, hr⟩ := hel k hk
  rw [c232] at hvl hvc
  rw [List.getElem?_map, Option.map_eq_some_iff] at hd
  obtain ⟨x, hx, rfl⟩ := hd
  have hxa : cheatAt k = x := by unfold cheatAt; rw [List.getD_eq_getElem?_getD, hx]; rfl
  obtain ⟨_, n0, d0, q0, e0, h0⟩ := struct_field Tryz.underlying232 hr 0 rfl
  obtain ⟨_, n1, d1, q1, e1, h1⟩ := struct_field Tryz.underlying232 hr 1 rfl
  obtain rfl := Option.some.inj e0
  obtain rfl := Option.some.inj e1
  have h0' : (vs.drop (0 * 1)).take (Tryz.prog.cellsOf 3) = _ := (int_cell Tryz.underlying3 h0).1
  have h1' : (vs.drop (1 * 1)).take (Tryz.prog.cellsOf 9) = _ := string_cell Tryz.underlying9 h1
  have c9 : Tryz.prog.cellsOf 9 = 1 := by kernel_rfl
  rw [c3] at h0'
  rw [c9] at h1'
  have k0 := (hvc 0 (by decide)).trans (drop_one h0')
  have k1 := (hvc 1 (by decide)).trans (drop_one h1')
  rw [hxa]
  refine ⟨k0, ?_⟩
  unfold cheatStr
  rw [hxa]
  exact k1
 refine ⟨a, cap, ?_, by rw [hc 0, e]; rfl, key⟩
 have := World.block_lt_of_cell? W _ (key 0 (by decide)).1
 exact this
end
theorem tabs_laid {W : World} (h : laidMetH Tryz.prog Rows.fnGjResultEachOfRow.laid W) : Tabs W.heap.size W := by
 rw [MakeChecks.laidMetH_plain _ _ _ (by kernel_rfl)] at h
 obtain ⟨ps, hl, _, _⟩ := h
 obtain ⟨_, _, _, _, hlow, _⟩ := laid_var hl 1 (n := "math/bits.deBruijn64tab") (d := Rows.laid_math_bits_deBruijn64tab) rfl (g := 13) (t := 239) (by kernel_rfl) (by kernel_rfl)
 obtain ⟨i0, i1, i2⟩ := tab_info hl 3 rfl
 exact ⟨by omega, Nat.le_refl _, tab_vch hl 11 rfl, tab_err hl 10 (n := "strconv.ErrSyntax") rfl (by kernel_rfl) (by kernel_rfl), tab_err hl 9 (n := "strconv.ErrRange") rfl (by kernel_rfl) (by kernel_rfl), tab_opt hl 4 rfl, i0, i1, i2, tab_pow hl 5 rfl, tab_ten hl 6 rfl, tab_tab hl 13 rfl, tab_left hl 12 rfl⟩
end Go.Proofs.YtpgfjbimodnkeaaGreatDoor.Dec
set_option linter.unusedVariables false
set_option linter.unusedSimpArgs false
namespace Go.Proofs.YtpgfjbimodnkeaaGreatDoor
namespace fnGjValuesSeq
open Go Go.ChangeShapes Go.WideShapes Go.ChangeAt Go.RowKit
open Go.ChangeMaps (open_string shut_string)
theorem own : ownKnob Tryz.prog.godebug = Option.none := by kernel_rfl
abbrev laid : List (String × DataW Unit) := Rows.fnGjValuesSeqRow.laid
set_option maxRecDepth 100000 in
theorem lifted (os : Os) (started : os.Started) (H : Type) (enc : TypeId × Value → H) :
 ReturnsInHanded {} Tryz.checked os 7 .any (fun w args => (Rows.fnGjValuesSeqSpec.pre enc Tryz.prog Tryz.f7 Rows.fnGjValuesSeqRow.domain false w args ∧ laidMetH Tryz.prog laid w) ∧ sizedMet enc Tryz.prog Tryz.f7 (OpenSpec.ofChange Rows.fnGjValuesSeqSpec) false w args)
  (Rows.fnGjValuesSeqSpec.post enc Tryz.prog Tryz.f7 false true false false) := by
 refine returnsInHanded_of_change_and (C := Tryz.checked) (X := fun w _ => laidMetH Tryz.prog laid w) (fun _ _ _ hh h => h.of_heap hh) own started (by kernel_rfl) Tryz.func7
  (ChangeSpec.witness_shaped (enc := enc) (C := Tryz.checked) (os := os) (X := fun w _ => laidMetH Tryz.prog laid w) false (World.laidAll Tryz.prog os laid) #[.string ByteArray.empty, .int .i64 0] 8 (World.laidAll_os _ _ _)
    (World.shaped_of_ZipB (by kernel_rfl) (by kernel_rfl)) (by kernel_rfl) (by kernel_rfl) (by kernel_rfl)
    (by rw [MakeChecks.laidMetH_plain _ _ _ (by kernel_rfl)]; exact laidMet_laidAll _ (by kernel_rfl) (by kernel_rfl))) ?_
 intro W base args ds gs before hval0 hW _ _ hL _
 have hval : ∀ (j : Nat) t v, Tryz.f7.params[j]? = some t → args[j]? = some v → Value.okWide Tryz.prog W .any base t v := hval0
 have hW' := hW
 obtain ⟨p, q, hA0, hV, rfl, _, _⟩ := hW
 have hA : DataW.TrodAll enc Tryz.prog W 0 (fun _ => true) true Tryz.f7.params.toList args.toList ds p := hA0
 rw [Tryz.params7] at hA hval
 obtain ⟨v0, v1, d0, d1, p0, p1, rfl, rfl, rfl, h0, h1⟩ := trodAll_two hA
 obtain ⟨rfl, rfl⟩ := trodVars_none hV
 obtain ⟨a0, rfl, rfl, rfl, y0⟩ := open_string Tryz.underlying9 (hval 0 9 v0 rfl rfl) h0
 obtain ⟨a1, rfl, rfl, rfl, w1⟩ := open_int Tryz.underlying3 (hval 1 3 v1 rfl rfl) h1
 clear hA0 hval0
 simp only [List.append_nil] at hW'
 refine (Dec.law_calls W _ (Dec.tabs_laid hL) a0 a1).mono fun e W' ⟨he, bel⟩ => ?_
 subst he
 exact ⟨_, rfl, _, _, _, [], _, [], hW', trodAll_mk1 (shut_bool Tryz.underlying4 _), trodAll_cons_mk (shut_string Tryz.underlying9 y0) (trodAll_cons_mk (shut_int Tryz.underlying3 w1) trodAll_mk0), rfl, bel.frame _, fun h => by cases h⟩
theorem over : Rows.FnGjValuesSeqSaid :=
 OpenClaim.holds_of_wide 7 Tryz.f7 rfl rfl rfl rfl rfl rfl rfl ⟨rfl, rfl, rfl, rfl, rfl⟩ rfl rfl rfl rfl rfl (by kernel_rfl) Tryz.func7 (by kernel_rfl)
  (of_decide_eq_true (by kernel_rfl)) (by unfold Func.isWrapper; first | (rw [if_pos (by decide +kernel)]; kernel_rfl) | (rw [if_neg (by decide +kernel)]; exact ⟨rfl, rfl⟩))
  (fun os started H enc _ => lifted os started H enc)
end fnGjValuesSeq
theorem fnGjValuesSeq_card : Rows.FnGjValuesSeqCardSaid :=
 Claim7.holds_tied_plain_at .later [] Rows.fnGjValuesSeqCard.laidKinds true (true, "8b9c496fbe4d17382abc0d2718ccfab891b4798a5aaf0721fdc382d64c84c845") true fnGjValuesSeq.over (fun _ h => by cases h) (by kernel_rfl) (fun _ h => by cases h) fnGjValuesSeq_row_tie rfl ⟨rfl, rfl⟩ (by kernel_rfl) rfl
  (fun f fn hf hfn => by
    obtain rfl : f = 7 := Option.some.inj ((show Tryz.prog.funcNamed "pub-tetrapla/laws.FnGjValuesSeq" = some 7 by kernel_rfl).symm.trans hf) |>.symm
    obtain rfl : fn = Tryz.f7 := (Option.some.inj (Tryz.func7.symm.trans hfn)).symm
    exact ⟨by kernel_rfl, fun j t ht => by
     rw [Tryz.params7] at ht
     have hm : t ∈ [9, 3] := by simpa using Array.mem_of_getElem? ht
     have hall : ([9, 3].all fun u => !Tryz.prog.wantsStandIn u) = true := by kernel_rfl
     exact (show Tryz.prog.wantsStandIn t = false by simpa using List.all_eq_true.1 hall t hm)⟩)
  (by kernel_rfl)
#print axioms fnGjValuesSeq_card
end Go.Proofs.YtpgfjbimodnkeaaGreatDoor
