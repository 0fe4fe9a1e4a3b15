/- FnGjResultEachOf: whatever text and stop come in, the law returns true and both read afterwards as before; with the package-level variables that its row lists as the program's own text lays them (part 31 of 33: lemmas for its last part) -/
import Derived.StillTailTactics
import Derived.WalkSpells
import Derived.Deep.Cut
import Derived.Test.YtpgfjbimodnkeaaGreatDoorEach16
import Derived.Test.YtpgfjbimodnkeaaGreatDoorEach18
import Derived.Test.YtpgfjbimodnkeaaGreatDoorEach27
import Derived.Test.YtpgfjbimodnkeaaGreatDoorEach30
set_option linter.unusedVariables false
set_option linter.unusedSimpArgs false
namespace Go.Proofs.YtpgfjbimodnkeaaGreatDoor.Dec
open Go Go.RowKit Go.Proofs.YtpgfjbimodnkeaaGreatDoorW.PrintWords Go.Proofs.YtpgfjbimodnkeaaGreatDoorW.PrintLast Go.Proofs.YtpgfjbimodnkeaaGreatDoorW.PrintMore Go.Proofs.YtpgfjbimodnkeaaGreatDoor.Scan Go.Proofs.YtpgfjbimodnkeaaGreatDoor.Q
structure RI (n : Nat) (w5 : World) (kq i : Nat) (W : World) : Prop where
 kq : kq = n - i
 le : i ≤ n
 bel : Below w5.heap.size w5 W
theorem each_len {s : ByteArray} {kd : Int} {nms : List S44} {ks : List S32} {stop : Int} {ps : List (Rs × Rs)} (h : EachOk s kd nms ks stop ps) :
 (stop ≤ 0 → ps.length = ks.length) ∧ (0 < stop → (ps.length : Int) = min (ks.length : Int) stop) := by
 have h1 := h.le
 have h3 := h.go
 rcases h.len with h2 | ⟨h2, h4⟩
 ·refine ⟨fun _ => h2, fun h0 => ?_⟩
  rcases Nat.lt_or_ge stop.toNat ps.length with hl | hl
  ·exact absurd (by omega) (h3 stop.toNat (by omega) hl)
  ·omega
 ·exact ⟨fun h0 => absurd h4 (by omega), fun _ => by omega⟩
set_option maxHeartbeats 16000000 in
set_option maxRecDepth 100000 in
theorem law_main (w : World) (B : Nat) (hT : Tabs B w) (s : ByteArray) (hs : s.size ≤ 65536) (h0 : 0 < s.size) (stop : Int) (kd : Int) (hkd : kd = 5 ∨ kd = 6) (txt : ByteArray) (keys : List ByteArray) (ts : List S25) (k : Nat) (hk : laws_gjText.f k s = some (kd, txt, keys, ts, true))
 (ns : List S44) (ks : List S32) (k2 : Nat) (hk2 : spec_Places.f k2 s = some (kd, 0, (s.size : Int), ns, ks, true)) (hJ : J s .val 0 s.size kd ns ks) (hP : Prd s 0) (hN : NamesAre s ns keys)
 (hb1 : decide (bt s 0 = 32 ∨ bt s 0 = 9 ∨ bt s 0 = 10 ∨ bt s 0 = 13) = false) (hb2 : decide (bt s ((s.size - 1 : Nat) : Int) = 32 ∨ bt s ((s.size - 1 : Nat) : Int) = 9 ∨ bt s ((s.size - 1 : Nat) : Int) = 10 ∨ bt s ((s.size - 1 : Nat) : Int) = 13) = false) :
 Calls Tryz.prog 3 #[.string s, .int .i64 stop] w fun e w' => e = .returned (.bool true) ∧ Below w.heap.size w w' := by
 have h1 : decide (2147483647 < (s.size : Int)) = false := decide_eq_false (by omega)
 have h2 : decide (2147483647 < s.size) = false := decide_eq_false (by omega)
 have hor : ((kd != 5) = false ∧ (kd == 6) = false) ∨ ((kd != 5) = true ∧ (kd != 6) = false ∧ (kd == 6) = true) := by rcases hkd with rfl | rfl <;> simp
 have hgt := fun W => text_call W s kd txt keys ts true k hk
 have hpl := fun W => places_call W s kd 0 (s.size : Int) ns ks k2 hk2
 have heach := fun W hT => each_all W B s hs kd hkd ns ks hJ hP stop hT
 replace hk := Aside0.mk hk
 replace hk2 := Aside0.mk hk2
 have hbl0 := fun W => blank_calls (bt s 0) W
 have hbl1 := fun W => blank_calls (bt s ((s.size - 1 : Nat) : Int)) W
 rw [hb1] at hbl0
 rw [hb2] at hbl1
 clear hb1 hb2
 have i0 : ((0 : Int) < (s.size : Int)) = True := eq_true (by omega)
 have i0' : (0 < s.size) = True := eq_true (by omega)
 have t0 : ((s[0]'h0).toNat : Int) = bt s 0 := bt_at s 0 (by simpa using h0)
 have ht : ((s.size : Int) - 1).toNat = s.size - 1 := by omega
 have i1 : ((0 : Int) ≤ (s.size : Int) - 1) = True := eq_true (by omega)
 have i2 : ((s.size : Int) - 1 < (s.size : Int)) = True := eq_true (by omega)
 have i3 : (s.size - 1 < s.size) = True := eq_true (by omega)
 have t1 : ((s[s.size - 1]'(by omega)).toNat : Int) = bt s ((s.size - 1 : Nat) : Int) := bt_at s ((s.size - 1 : Nat) : Int) (by simpa using (by omega : s.size - 1 < s.size))
 generalize bt s 0 = c0 at *
 generalize bt s ((s.size - 1 : Nat) : Int) = c9 at *
 replace hkd := Aside0.mk hkd
 replace hJ := Aside0.mk hJ
 replace hP := Aside0.mk hP
 replace hN := Aside0.mk hN
 replace hT := Aside0.mk hT
 obtain ⟨bs, hbs⟩ : ∃ b, decide (0 < stop) = b := ⟨_, rfl⟩
 have hbs0 := Aside0.mk hbs
 rcases hor with ⟨h51, e6⟩ | ⟨h51, h61, e6⟩
 all_goals
  cases bs
  all_goals
   go_enter Tryz.func3, Tryz.ntmps3
   go_wp2_with (first | (go_at_call 8; (with_reducible refine (hgt _).mono ?_); rintro e w1 ⟨A1, c1, A2, c2, rfl, hC1, hB1⟩; replace hC1 := Aside0.mk hC1; replace hB1 := Aside0.mk hB1) | (go_at_call 9; (first | (with_reducible refine (hbl0 _).mono ?_) | (with_reducible refine (hbl1 _).mono ?_)); rintro e w2 ⟨rfl, ⟨n2, rfl⟩⟩) | (go_at_call 10; (with_reducible refine (hpl _).mono ?_); rintro e w3 ⟨A3, c3, A4, c4, rfl, hC3, hC4, hB3⟩; have kN3 := Aside0.mk (blk_below (by (with_reducible repeat (first | refine blk_drewN ?_ _ | refine blk_drew ?_ | refine blk_alloc ?_ _)); exact blk_new _ _) hB3); have hW3 : Aside0 (Below w.heap.size w w3) := ⟨below_step (by repeat (with_reducible first | exact hB1.out | apply below_alloc | apply pw_below_drewN | apply below_drew)) hB3⟩; have hK3 := Aside0.mk (Kd.C_below hC1.out (below_step (by repeat (with_reducible first | exact Below.refl _ _ | apply below_alloc | apply pw_below_drewN | apply below_drew)) hB3)); replace hC3 := Aside0.mk hC3; replace hC4 := Aside0.mk hC4; clear hB3) | (go_at_call 11; (with_reducible refine (heach _ ?hT).mono ?_); (case hT => exact hT.out.below (Below.mono (by repeat (with_reducible first | exact hW3.out | apply below_alloc | apply pw_below_drewN | apply below_drew)) hT.out.size)); rintro e w5 ⟨v5, ps, rfl, hown5, hB5, hE⟩; obtain ⟨A5, c5, rfl, hR5⟩ := pair_cells hown5; have kN5 := Aside0.mk (blk_below (blk_alloc kN3.out _) hB5); have kP5 := Aside0.mk (blk_below (blk_new w3 _) hB5); have hW5 : Aside0 (Below w.heap.size w w5) := ⟨below_step (by repeat (with_reducible first | exact hW3.out | apply below_alloc | apply pw_below_drewN | apply below_drew)) hB5⟩; have hK5 := Aside0.mk (Kd.C_below hK3.out (below_step (by repeat (with_reducible first | exact Below.refl _ _ | apply below_alloc | apply pw_below_drewN | apply below_drew)) hB5)); have hC35 := Aside0.mk (Kd.C_below hC3.out (below_step (by repeat (with_reducible first | exact Below.refl _ _ | apply below_alloc | apply pw_below_drewN | apply below_drew)) hB5)); have hC45 := Aside0.mk (Kd.C_below hC4.out (below_step (by repeat (with_reducible first | exact Below.refl _ _ | apply below_alloc | apply pw_below_drewN | apply below_drew)) hB5)); replace hR5 := Aside0.mk hR5; have hl5 := each_len hE; replace hE := Aside0.mk hE; replace hl5 := Aside0.mk hl5; (first | (have hq5 : ((ps.length : Int) != ((ks.length : Nat) : Int)) = false := by (have h := hl5.out.1 (by have h := hbs0.out; simp at h; omega); rw [h]; simp)) | (have hq5 : ((ps.length : Int) != min ((ks.length : Nat) : Int) stop) = false := by (have h := hl5.out.2 (by have h := hbs0.out; simp at h; omega); rw [h]; simp))); clear hB5 hown5 kN3 hW3 hK3 hC3 hC4))
   go_loopg [68] (ps.length) (fun kq v68 W => ∃ i : Nat, v68 = .int .i64 i ∧ Aside0 (RI ps.length w5 kq i W))
   case atStart => exact ⟨0, rfl, ⟨⟨by omega, by omega, Below.refl _ _⟩⟩⟩
   case round =>
    obtain ⟨i, rfl, hL⟩ := hrel
    obtain ⟨hkq, hi, hb⟩ := hL.out
    clear hL
    rcases Nat.lt_or_ge i ps.length with hlt | hge
    ·have hR6 := ReadsRow.imp_ hR5.out hb (fun _ _ h => h)
     have kN6 := blk_below kN5.out hb
     have kP6 := blk_below kP5.out hb
     have hC36 := Kd.C_below hC35.out hb
     have hC46 := Kd.C_below hC45.out hb
     have hK6 := Kd.C_below hK5.out hb
     obtain ⟨ad5, rfl, hpc⟩ := pair_at hR6 i hlt
     have hlk : i < ks.length := by have := hE.out.le; omega
     have hmax : ps.length ≤ 9223372036854775807 := hR5.out.2.1
     have hkid := atk_f hs (hE.out.kids.at i (ks[i]'hlk) (ps[i]'hlt) (by rw [List.getElem?_take, if_pos hlt, List.getElem?_eq_getElem hlk]) (List.getElem?_eq_getElem hlt))
     obtain ⟨k4, hk4⟩ := hkid
     obtain ⟨ad4, A6, c6, A7, c7, hA4, q0, q1, q2, q3, q4, q5, q6, q7, q8⟩ := at_T32 hC46 (i : Int) (by omega) (by omega)
     subst hA4
     have hrd : rd_T32 ks (i : Int) = ks[i]'hlk := by
      unfold rd_T32
      rw [Int.toNat_natCast, List.getD_eq_getElem?_getD, List.getElem?_eq_getElem hlk]
      rfl
     rw [hrd] at q0 q1 q2 q3 q4 q5 q6 q7 q8
     rw [Int.toNat_natCast] at q0 q1 q2 q3 q4
     have hat := fun W (h1 : Kd.C k44 W A6 _ _) (h2 : Kd.C k32 W A7 _ _) => laws_gjAt.yes k4 _ _ _ _ _ s _ _ _ A6 c6 _ A7 c7 _ W h1 q5 h2 q7 hk4
     generalize hp4 : (ks[i]'hlk) = p4 at *
     generalize hpi : (ps[i]'hlt) = pi at *
     obtain ⟨kr, vr⟩ := pi
     simp only [] at hpc hat
     replace hp4 := Aside0.mk hp4
     replace hpi := Aside0.mk hpi
     have e1 : decide ((i : Int) < (ps.length : Int)) = true := decide_eq_true (by omega)
     have e2 : decide (i < ps.length) = true := decide_eq_true (by omega)
     have j0 : ((0 : Int) ≤ (i : Int)) = True := eq_true (by omega)
     have j1 : ((i : Int) < (ps.length : Int)) = True := eq_true (by omega)
     have j2 : (i < ps.length) = True := eq_true hlt
     have j3 : ((i : Int) < (ks.length : Int)) = True := eq_true (by omega)
     have j4 : (i < ks.length) = True := eq_true (by omega)
     have kc4 : wr.cell? ⟨w3.heap.size, 4, none⟩ = some (.slice (some ad4) ks.length c4) := (blk_cell kP6 4).trans rfl
     have kc3 : wr.cell? ⟨w3.heap.size, 3, none⟩ = some (.slice A3 ns.length c3) := (blk_cell kP6 3).trans rfl
     have kd0 : wr.cell? ⟨w1.heap.size, 0, none⟩ = some (.int .i64 kd) := (blk_cell kN6 0).trans rfl
     have kd2 : wr.cell? ⟨w1.heap.size, 2, none⟩ = some (.slice A1 keys.length c1) := (blk_cell kN6 2).trans rfl
     have p0 : wr.cell? (ad5.add (i * 10)) = some (.int .i64 kr.k) := hpc.c 0 _ rfl
     have p1 : wr.cell? ⟨(ad5.add (i * 10)).block, (ad5.add (i * 10)).off + 1, none⟩ = some (.string kr.raw) := by rw [← add_field _ _ 1 (by omega)]; exact hpc.c 1 _ rfl
     have p2 : wr.cell? ⟨(ad5.add (i * 10)).block, (ad5.add (i * 10)).off + 2, none⟩ = some (.string kr.str) := by rw [← add_field _ _ 2 (by omega)]; exact hpc.c 2 _ rfl
     have p5 : wr.cell? ⟨(ad5.add (i * 10)).block, (ad5.add (i * 10)).off + 5, none⟩ = some (.int .i64 vr.k) := by rw [← add_field _ _ 5 (by omega)]; exact hpc.c 5 _ rfl
     have p6 : wr.cell? ⟨(ad5.add (i * 10)).block, (ad5.add (i * 10)).off + 6, none⟩ = some (.string vr.raw) := by rw [← add_field _ _ 6 (by omega)]; exact hpc.c 6 _ rfl
     have p7 : wr.cell? ⟨(ad5.add (i * 10)).block, (ad5.add (i * 10)).off + 7, none⟩ = some (.string vr.str) := by rw [← add_field _ _ 7 (by omega)]; exact hpc.c 7 _ rfl
     have p8 : wr.cell? ⟨(ad5.add (i * 10)).block, (ad5.add (i * 10)).off + 8, none⟩ = some (.float .f64 vr.num) := by rw [← add_field _ _ 8 (by omega)]; exact hpc.c 8 _ rfl
     have p9 : wr.cell? ⟨(ad5.add (i * 10)).block, (ad5.add (i * 10)).off + 9, none⟩ = some (.bool vr.ex) := by rw [← add_field _ _ 9 (by omega)]; exact hpc.c 9 _ rfl
     replace hk4 := Aside0.mk hk4
     replace hpc := Aside0.mk hpc
     replace hrd := Aside0.mk hrd
     replace hkq := Aside0.mk hkq
     replace hb := Aside0.mk hb
     replace kN6 := Aside0.mk kN6
     replace kP6 := Aside0.mk kP6
     replace hR6 := Aside0.mk hR6
     replace hC36 := Aside0.mk hC36
     replace hC46 := Aside0.mk hC46
     replace hK6 := Aside0.mk hK6
     replace q5 := Aside0.mk q5
     replace q6 := Aside0.mk q6
     replace q7 := Aside0.mk q7
     replace q8 := Aside0.mk q8
     go_wp2
     go_still_tail 11, (by kernel_rfl)
     go_wp2_with (first | (go_at_call 12; (with_reducible refine (hat _ ?s1 ?s2).mono ?_); (case s1 => exact Kd.C_below q6.out (by repeat (with_reducible first | exact Below.refl _ _ | apply pw_below_drewN | apply below_drew))); (case s2 => exact Kd.C_below q8.out (by repeat (with_reducible first | exact Below.refl _ _ | apply pw_below_drewN | apply below_drew))); rintro e w7 ⟨rfl, hB7⟩; have hb7 : Aside0 (Below w5.heap.size w5 w7) := ⟨below_step (by repeat (with_reducible first | exact hb.out | apply pw_below_drewN | apply below_drew)) hB7⟩; have kd0' : w7.cell? ⟨w1.heap.size, 0, none⟩ = some (.int .i64 kd) := (blk_cell (blk_below kN5.out hb7.out) 0).trans rfl; clear hB7 kd0 kd2 kc3 kc4 p0 p1 p2 p5 p6 p7 p8 p9 q0 q1 q2 q3 q4))
     first
     | (have hx : (kd == 6) = false := e6
        clear hx
        replace kN6 := Aside0.mk True.intro
        go_quiet (fail)
        go_wp2
        go_roundg (ps.length - (i + 1))
        case measure => have := hkq.out; omega
        case rel => exact ⟨i + 1, by first | rfl | (congr 1; omega), ⟨⟨by omega, by omega, by repeat (with_reducible first | exact hb7.out | apply pw_below_drewN | apply below_drew)⟩⟩⟩
        done)
     | (have hk6 : kd = 6 := eq_of_beq e6
        have hnok := hE.out.names hk6
        have hnl := hnok.length
        rw [List.length_take] at hnl
        have hln : i < ns.length := by omega
        have hkl := hN.out.length
        have hlk2 : i < keys.length := by omega
        have hno := hnok.at i (ns[i]'hln) (ps[i]'hlt) (by rw [List.getElem?_take, if_pos hlt, List.getElem?_eq_getElem hln]) (List.getElem?_eq_getElem hlt)
        rw [hpi.out] at hno
        have hni := hN.out.at i (ns[i]'hln) (keys[i]'hlk2) (List.getElem?_eq_getElem hln) (List.getElem?_eq_getElem hlk2)
        have hstr := key_same hs hno hni
        have hk3 := hno.kind
        obtain ⟨b, q, g1, g2, g3, g4, g5, g6⟩ := hno.at_
        obtain ⟨en, hen⟩ : ∃ en, en = q + 1 := ⟨_, rfl⟩
        rw [← hen] at g2 g5
        simp only [] at hstr hk3 g5
        have hR7 := pair_at (ReadsRow.imp_ hR5.out hb7.out (fun _ _ h => h)) i hlt
        rw [hpi.out] at hR7
        obtain ⟨ad5', had5, hpc7⟩ := hR7
        obtain rfl := Option.some.inj had5
        obtain ⟨ad3, hA3, n0, n1⟩ := at_T44 (Kd.C_below hC35.out hb7.out) (i : Int) (by omega) (by omega)
        subst hA3
        have hrn : rd_T44 ns (i : Int) = ns[i]'hln := by
         unfold rd_T44
         rw [Int.toNat_natCast, List.getD_eq_getElem?_getD, List.getElem?_eq_getElem hln]
         rfl
        rw [hrn, Int.toNat_natCast, g1] at n0
        rw [hrn, Int.toNat_natCast, g2] at n1
        obtain ⟨ad1, cc, hA1, _, hcK, hcc⟩ := Kd.C_get (Kd.C_below hK5.out hb7.out) ⟨#[]⟩ (i : Int) (by omega) (by omega)
        subst hA1
        have hgk : keys.getD (i : Int).toNat ⟨#[]⟩ = keys[i]'hlk2 := by
         rw [Int.toNat_natCast, List.getD_eq_getElem?_getD, List.getElem?_eq_getElem hlk2]
         rfl
        rw [hgk] at hcK
        have hcK2 : cc = [.string (keys[i]'hlk2)] := hcK
        subst hcK2
        have m0 : w7.cell? (ad1.add i) = some (.string (keys[i]'hlk2)) := by
         have h : w7.cell? (ad1.add ((i : Int).toNat * 1 + 0)) = _ := hcc 0 _ rfl
         rwa [Nat.mul_one, Nat.add_zero, Int.toNat_natCast] at h
        have p0 : w7.cell? (ad5.add (i * 10)) = some (.int .i64 3) := by have h := hpc7.c 0 _ rfl; rw [hk3] at h; exact h
        have p1 : w7.cell? ⟨(ad5.add (i * 10)).block, (ad5.add (i * 10)).off + 1, none⟩ = some (.string (s.extract b en)) := by rw [← add_field _ _ 1 (by omega)]; have h := hpc7.c 1 _ rfl; rw [g5] at h; exact h
        have p2 : w7.cell? ⟨(ad5.add (i * 10)).block, (ad5.add (i * 10)).off + 2, none⟩ = some (.string (keys[i]'hlk2)) := by rw [← add_field _ _ 2 (by omega)]; have h := hpc7.c 2 _ rfl; rw [hstr] at h; exact h
        have kd2 : w7.cell? ⟨w1.heap.size, 2, none⟩ = some (.slice (some ad1) keys.length c1) := (blk_cell (blk_below kN5.out hb7.out) 2).trans rfl
        have kc3 : w7.cell? ⟨w3.heap.size, 3, none⟩ = some (.slice (some ad3) ns.length c3) := (blk_cell (blk_below kP5.out hb7.out) 3).trans rfl
        have z0 : ((0 : Int) ≤ (b : Int)) = True := eq_true (by omega)
        have z1 : ((b : Int) ≤ (en : Int)) = True := eq_true (by omega)
        have z1' : (b ≤ en) = True := eq_true (by omega)
        have z2 : ((en : Int) ≤ (s.size : Int)) = True := eq_true (by omega)
        have z2' : (en ≤ s.size) = True := eq_true (by omega)
        have j5 : ((i : Int) < (ns.length : Int)) = True := eq_true (by omega)
        have j6 : (i < ns.length) = True := eq_true (by omega)
        have j7 : ((i : Int) < (keys.length : Int)) = True := eq_true (by omega)
        have j8 : (i < keys.length) = True := eq_true (by omega)
        generalize (keys[i]'hlk2) = kv at *
        clear hgk hrn hcK hcc hnl hkl hk6 hstr hk3 g1 g2 g5 hen
        replace hno := Aside0.mk True.intro
        replace hnok := Aside0.mk True.intro
        replace hpc7 := Aside0.mk True.intro
        go_quiet (fail)
        go_wp2
        go_roundg (ps.length - (i + 1))
        case measure => have := hkq.out; omega
        case rel => exact ⟨i + 1, by first | rfl | (congr 1; omega), ⟨⟨by omega, by omega, by repeat (with_reducible first | exact hb7.out | apply pw_below_drewN | apply below_drew)⟩⟩⟩)
    ·have e1 : decide ((i : Int) < (ps.length : Int)) = false := decide_eq_false (by omega)
     have e2 : decide (i < ps.length) = false := decide_eq_false (by omega)
     replace hkq := Aside0.mk hkq
     replace hb := Aside0.mk hb
     go_wp2
     go_ret
     exact ⟨rfl, below_step hW5.out hb.out⟩
end Go.Proofs.YtpgfjbimodnkeaaGreatDoor.Dec
