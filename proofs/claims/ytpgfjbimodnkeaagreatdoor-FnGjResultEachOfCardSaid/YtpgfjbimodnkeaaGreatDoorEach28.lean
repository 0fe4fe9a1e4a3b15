/- FnGjResultEachOf: whatever text and stop come in, the law returns true and both read afterwards as before; with the package-level variables that its row lists as the program's own text lays them (part 28 of 33: lemmas for its last part) -/
import Derived.WalkSpells
import Derived.Deep.Cut
import Derived.Test.YtpgfjbimodnkeaaGreatDoorEach27
set_option linter.unusedVariables false
set_option linter.unusedSimpArgs false
namespace Go.Proofs.YtpgfjbimodnkeaaGreatDoor.Dec
open Go Go.RowKit Go.Proofs.YtpgfjbimodnkeaaGreatDoorW.PrintWords Go.Proofs.YtpgfjbimodnkeaaGreatDoorW.PrintLast Go.Proofs.YtpgfjbimodnkeaaGreatDoorW.PrintMore Go.Proofs.YtpgfjbimodnkeaaGreatDoor.Scan Go.Proofs.YtpgfjbimodnkeaaGreatDoor.Q
set_option maxHeartbeats 8000000 in
set_option maxRecDepth 100000 in
theorem foreach_arr (w0 w : World) (B B0 Bo Bs : Nat) (stop : Int) (s : ByteArray) (hs : s.size ≤ 65536) (ks : List S32) (hJ : J s .val 0 s.size 5 [] ks) (hP : Prd s 0) (str : ByteArray) (num : Nat) (hT : Tabs B w0) (hBB : B ≤ B0) (hO : Outs B0 Bo Bs stop w0 [] w) :
  Calls Tryz.prog 32 #[resV 5 s str num 0, .func (.func 33) #[] #[.pointer (some ⟨Bo, 0, none⟩), .pointer (some ⟨Bs, 0, none⟩)]] w fun e w' => e = .returned (.tuple #[]) ∧ ∃ ps : List (Rs × Rs), Outs B0 Bo Bs stop w0 ps w' ∧ KidsOk s (ks.take ps.length) ps ∧ ps.length ≤ ks.length ∧
   (ps.length = ks.length ∨ (ps.length : Int) = stop ∧ 0 < stop) ∧ ∀ j : Nat, 0 < j → j < ps.length → (j : Int) ≠ stop := by
 obtain ⟨h91, hrem⟩ := arr_start hJ
 have hx := bt_nat s 0
 rw [h91] at hx
 have hpos : 0 < s.size := hJ.bound.1
 have p1 : ((0 : Int) < (s.size : Int)) = True := eq_true (by omega)
 have hks : ks.length ≤ 100000 := by have := kids_len hJ; omega
 have hO2 := hO.below (W' := w.alloc (.cells #[.int .i64 5, .string s, .string str, .float .f64 num, .int .i64 0, .slice none 0 0] 67 (0, 0))) (below_alloc (Below.refl _ _) _)
 have hP1 : Prd s 1 := Prd.plain hs hP hpos (by rw [h91]; decide)
 replace hrem := Aside0.mk hrem
 replace hJ := Aside0.mk hJ
 replace hP := Aside0.mk hP
 replace hP1 := Aside0.mk hP1
 replace hT := Aside0.mk hT
 replace h91 := Aside0.mk h91
 replace hO := Aside0.mk hO
 clear hO2
 have hadd := add_run 37
 go_enter Tryz.func32, Tryz.ntmps32
 go_wp2
 refine wp_loop_rounds 1 ?_
 rw [rounds_succ]
 go_wp2
 go_loopg [6, 9, 10, 11, 12, 13, 14] (s.size - 1) (fun kq v6 v9 v10 v11 v12 v13 v14 w' => ∃ i ix : Nat, v6 = .int .i64 i ∧ v12 = .int .i64 ix ∧ Aside0 (∃ (ps : List (Rs × Rs)) (kdone rest : List S32) (kr vr : Rs), LA s ks B0 Bo Bs stop w0 w.heap.size (w.heap.size + 1 + 1) (w.heap.size + 1 + 1 + 1) str num kq i ix ps kdone rest kr vr w'))
 case atStart =>
  refine ⟨1, 0, rfl, rfl, ⟨[], [], ks, ⟨2, ⟨#[]⟩, ⟨#[]⟩, 13830554455654793216, 0⟩, ⟨0, ⟨#[]⟩, ⟨#[]⟩, 0, 0⟩, ⟨rfl, rfl, trivial, rfl, by omega, hrem.out, fun _ => hP1.out, ⟨?_, ?_, ?_, ?_, by omega, ?_⟩, fun j h1 h2 => by simp at h2; omega⟩⟩⟩
  ·exact hO.out.below (below_alloc (below_alloc (below_alloc (below_alloc (Below.refl _ _) _) _) _) _)
  ·exact blk_alloc (blk_alloc (blk_alloc (blk_new w _) _) _) _
  ·have := blk_alloc (blk_new ((w.alloc (.cells (resC ⟨5, s, str, num, 0⟩) 67 (0, 0))).alloc (.cells (resC ⟨5, s, str, num, 0⟩) 67 (0, 0))) (.cells (resC ⟨2, ⟨#[]⟩, ⟨#[]⟩, 13830554455654793216, 0⟩) 67 (0, 0))) (.cells (resC ⟨0, ⟨#[]⟩, ⟨#[]⟩, 0, 0⟩) 67 (0, 0))
   simpa using this
  ·have := blk_new (((w.alloc (.cells (resC ⟨5, s, str, num, 0⟩) 67 (0, 0))).alloc (.cells (resC ⟨5, s, str, num, 0⟩) 67 (0, 0))).alloc (.cells (resC ⟨2, ⟨#[]⟩, ⟨#[]⟩, 13830554455654793216, 0⟩) 67 (0, 0))) (.cells (resC ⟨0, ⟨#[]⟩, ⟨#[]⟩, 0, 0⟩) 67 (0, 0))
   simpa using this
  ·exact ⟨by have := hO.out.loB; omega, by have := hO.out.loB; omega, by have := hO.out.loB; omega⟩
 case round =>
  obtain ⟨i, ix, rfl, rfl, hL⟩ := hrel
  obtain ⟨ps, kdone, rest, kr, vr, hkq, hall, hok, hix, hbnd, hrem1, hprd, hF, hgo⟩ := hL.out
  clear hL
  have hT1 := hT.out.below (below_mono hF.outs.bel hBB)
  have hbnd2 : ix ≤ 65536 ∨ ¬ i < s.size := by omega
  by_cases hi : i < s.size
  ·have hprd1 := hprd (by omega)
   have ck3 := (blk_cell hF.bk 3).trans rfl
   have fk3 := blk_frozen hF.bk 3
   replace hok := Aside0.mk hok
   replace hall := Aside0.mk hall
   replace hgo := Aside0.mk hgo
   replace hkq := Aside0.mk hkq
   replace hix := Aside0.mk hix
   replace hF := Aside0.mk hF
   replace hT1 := Aside0.mk hT1
   clear hprd
   rcases hrem1 with ⟨j, hsp, hj⟩ | ⟨rfl, hend⟩
   ·have hjb := hj.bound
    obtain ⟨m, kd, ns1, ks1, l, rfl, hv, hA, hrem2, hms⟩ := els_next hj
    have hst := val_start hv
    go_wp2
    go_loopg [6] (s.size - i) (fun kq v6 w' => ∃ p : Nat, v6 = .int .i64 p ∧ Aside0 (InA s B0 Bo Bs stop w0 w.heap.size (w.heap.size + 1 + 1) (w.heap.size + 1 + 1 + 1) str num ps vr i j kq p w'))
    case atStart => exact ⟨i, rfl, ⟨⟨rfl, Nat.le_refl _, hsp.le, ⟨_, (hF.out.drewN _).setNum _⟩⟩⟩⟩
    case round =>
     obtain ⟨p, rfl, hL⟩ := hrel
     obtain ⟨hkq2, hip, hpj, kr2, hF2⟩ := hL.out
     clear hL ck3 fk3
     have hps : p < s.size := by omega
     have hb := bt_nat s p
     have q0 : (0 ≤ (p : Int)) = True := eq_true (by omega)
     have q1 : ((p : Int) < (s.size : Int)) = True := eq_true (by omega)
     replace hkq2 := Aside0.mk hkq2
     replace hF2 := Aside0.mk hF2
     by_cases hpe : p = j
     ·subst hpe
      have hcj := hst
      have hPj : Prd s p := Span.prd hs hsp (by omega) (fun c hc => by unfold GapC Scan.blank at hc; omega) hprd1
      have hPm := J.prd hs hv hPj
      have hvb := hv.bound
      have hmj : m < s.size := hms
      have hPm1 : Prd s (m + 1) := Prd.plain hs hPm hmj (by have := hA.resolve_left (by omega); unfold Scan.blank at this; omega)
      have hany : ∀ W, FEW s B0 Bo Bs stop w0 w.heap.size (w.heap.size + 1 + 1) (w.heap.size + 1 + 1 + 1) str num ps kr2 vr W → Calls Tryz.prog 62 #[.string s, .int .i64 p, .bool true] W fun r w' => ∃ rs : Rs, r = .returned (.tuple #[.int .i64 m, resV rs.k rs.raw rs.str rs.num rs.idx, .bool true]) ∧ KidOk s ⟨kd, p, m, ns1, ks1⟩ rs ∧ FEW s B0 Bo Bs stop w0 w.heap.size (w.heap.size + 1 + 1) (w.heap.size + 1 + 1 + 1) str num ps kr2 vr w' := fun W hW =>
       (any_value W B s hs (hT.out.below (below_mono hW.outs.bel hBB)) hv hA hPj).mono (fun r w' ⟨rs, h1, h2, h3⟩ => ⟨rs, h1, h2, hW.below h3⟩)
      obtain ⟨bgo, hbgo⟩ : ∃ b, (((ps.length + 1 : Nat) : Int) != stop) = b := ⟨_, rfl⟩
      have hcl0 : ∀ (vr2 : Rs) (W : World), FEW s B0 Bo Bs stop w0 w.heap.size (w.heap.size + 1 + 1) (w.heap.size + 1 + 1 + 1) str num ps kr2 vr2 W → Calls Tryz.prog 33 #[resV kr2.k kr2.raw kr2.str kr2.num kr2.idx, resV vr2.k vr2.raw vr2.str vr2.num vr2.idx, .pointer (some ⟨Bo, 0, none⟩), .pointer (some ⟨Bs, 0, none⟩)] W fun e w' => e = .returned (.bool bgo) ∧ FEW s B0 Bo Bs stop w0 w.heap.size (w.heap.size + 1 + 1) (w.heap.size + 1 + 1 + 1) str num (ps ++ [(kr2, vr2)]) kr2 vr2 w' := fun vr2 W hW =>
       (each_calls B0 Bo Bs stop w0 W ps kr2 vr2 hW.outs (by have := hix.out; omega)).mono (fun e w' ⟨h1, h2, h3, h4⟩ => ⟨by rw [h1, hbgo], hW.after h2 h4⟩)
      have hqn : ∀ (wx : World) (a : Option Addr) (n c n' c' : Nat), (binOp .neq 65 (.slice a n c) (.slice none n' c')).run Tryz.prog wx = .ok (.bool (!a.isNone)) wx := fun wx a n c n' c' => run_neq_slice_nil_any wx _ _ a n c n' c' Tryz.underlying65
      have hixb : (ix : Int) ≤ 65536 := by omega
      generalize bt s p = c at *
      have e1 : decide (c ≤ 32) = false := decide_eq_false (by omega)
      have e2 : (c == 44) = false := beq_eq_false_iff_ne.mpr hcj.2.1
      have e3 : (c == 58) = false := beq_eq_false_iff_ne.mpr hcj.2.2.1
      replace hst := Aside0.mk hst
      replace hcj := Aside0.mk hcj
      replace hbgo := Aside0.mk hbgo
      replace hsp := Aside0.mk hsp
      replace hv := Aside0.mk hv
      replace hA := Aside0.mk hA
      replace hPm1 := Aside0.mk hPm1
      go_upto_region 46 with (first | (go_at_call 62; (with_reducible refine (hany _ ?hF).mono ?_); (case hF => repeat (with_reducible first | exact hF2.out | apply FEW.drewN | apply FEW.drew)); rintro r w5 ⟨rs, rfl, hkid, hF5⟩; have cv0 := (blk_cell hF5.bv 0).trans rfl; have fv0 := blk_frozen hF5.bv 0; have ck0 := (blk_cell hF5.bk 0).trans rfl; have cv1 := (blk_cell hF5.bv 1).trans rfl; have fv1 := blk_frozen hF5.bv 1; have ck1 := (blk_cell hF5.bk 1).trans rfl; have cv2 := (blk_cell hF5.bv 2).trans rfl; have fv2 := blk_frozen hF5.bv 2; have ck2 := (blk_cell hF5.bk 2).trans rfl; have cv3 := (blk_cell hF5.bv 3).trans rfl; have fv3 := blk_frozen hF5.bv 3; have ck3 := (blk_cell hF5.bk 3).trans rfl; have cv4 := (blk_cell hF5.bv 4).trans rfl; have fv4 := blk_frozen hF5.bv 4; have ck4 := (blk_cell hF5.bk 4).trans rfl; have cv5 := (blk_cell hF5.bv 5).trans rfl; have fv5 := blk_frozen hF5.bv 5; have ck5 := (blk_cell hF5.bk 5).trans rfl; have ct4 := (blk_cell hF5.bt 4).trans rfl; have ct5 := (blk_cell hF5.bt 5).trans rfl; replace hF5 := Aside0.mk hF5; replace hkid := Aside0.mk hkid))
      have hF6 := hF5.out.putv rs (p : Int)
      generalize (((((((w5.setCell ⟨w.heap.size + 1 + 1 + 1, 0, none⟩ (.int .i64 rs.k)).setCell ⟨w.heap.size + 1 + 1 + 1, 1, none⟩ (.string rs.raw)).setCell ⟨w.heap.size + 1 + 1 + 1, 2, none⟩ (.string rs.str)).setCell ⟨w.heap.size + 1 + 1 + 1, 3, none⟩ (.float .f64 rs.num)).setCell ⟨w.heap.size + 1 + 1 + 1, 4, none⟩ (.int .i64 rs.idx)).setCell ⟨w.heap.size + 1 + 1 + 1, 5, none⟩ (.slice none 0 0)).setCell ⟨w.heap.size + 1 + 1 + 1, 4, none⟩ (.int .i64 (p : Int))) = W6 at hF6 ⊢
      clear cv0 cv1 cv2 cv3 cv4 cv5 ck0 ck1 ck2 ck3 ck4 ck5 fv0 fv1 fv2 fv3 fv4 fv5 ct4 ct5
      have cv0 := (blk_cell hF6.bv 0).trans rfl
      have ck0 := (blk_cell hF6.bk 0).trans rfl
      have cv1 := (blk_cell hF6.bv 1).trans rfl
      have ck1 := (blk_cell hF6.bk 1).trans rfl
      have cv2 := (blk_cell hF6.bv 2).trans rfl
      have ck2 := (blk_cell hF6.bk 2).trans rfl
      have cv3 := (blk_cell hF6.bv 3).trans rfl
      have ck3 := (blk_cell hF6.bk 3).trans rfl
      have cv4 := (blk_cell hF6.bv 4).trans rfl
      have ck4 := (blk_cell hF6.bk 4).trans rfl
      have cv5 := (blk_cell hF6.bv 5).trans rfl
      have ck5 := (blk_cell hF6.bk 5).trans rfl
      have hcl : Calls Tryz.prog 33 #[.agg #[.int .i64 kr2.k, .string kr2.raw, .string kr2.str, .float .f64 kr2.num, .int .i64 kr2.idx, .slice none 0 0], .agg #[.int .i64 rs.k, .string rs.raw, .string rs.str, .float .f64 rs.num, .int .i64 (p : Int), .slice none 0 0], .pointer (some ⟨Bo, 0, none⟩), .pointer (some ⟨Bs, 0, none⟩)] W6 fun e w' => e = .returned (.bool bgo) ∧ FEW s B0 Bo Bs stop w0 w.heap.size (w.heap.size + 1 + 1) (w.heap.size + 1 + 1 + 1) str num (ps ++ [(kr2, { rs with idx := (p : Int) })]) kr2 { rs with idx := (p : Int) } w' := hcl0 { rs with idx := (p : Int) } W6 hF6
      replace hF6 := Aside0.mk hF6
      have hkid2 := Aside0.mk (hkid.out.idx (p : Int))
      clear hany hcl0
      cases bgo with
      | false =>
       go_wp2_with (first | (go_at_call 33; (with_reducible refine hcl.mono ?_); rintro r w7 ⟨rfl, hF7⟩; replace hF7 := Aside0.mk hF7))
       refine bodyPost_ret (results_none rfl _ _ _) rfl ?_
       have hst2 : ((ps.length + 1 : Nat) : Int) = stop := by have h := hbgo.out; simpa using h
       have hlen := hok.out.length
       obtain ⟨htk, hle⟩ := take_done hall.out
       refine ⟨rfl, ps ++ [(kr2, { rs with idx := (p : Int) })], hF7.out.outs, ?_, ?_, .inr ?_, fun j h1 h2 => ?_⟩
       ·rw [List.length_append, List.length_singleton, ← hlen, htk]; exact KidsOk.snoc hkid2.out hok.out
       ·rw [List.length_append, List.length_singleton, ← hlen]; exact hle
       ·rw [List.length_append, List.length_singleton]; exact ⟨hst2, by omega⟩
       ·rw [List.length_append, List.length_singleton] at h2; exact hgo.out j h1 (by omega)
      | true =>
       go_wp2_with (first | (go_at_call 33; (with_reducible refine hcl.mono ?_); rintro r w7 ⟨rfl, hF7⟩; replace hF7 := Aside0.mk hF7))
       have hst2 : ((ps.length + 1 : Nat) : Int) ≠ stop := by have h := hbgo.out; simpa using h
       go_roundg (s.size - (m + 1))
       case measure => have := hkq.out; omega
       case rel => exact ⟨m + 1, ix + 1, by first | rfl | (congr 1; omega), by first | rfl | (congr 1; omega), ⟨ps ++ [(kr2, { rs with idx := (p : Int) })], kdone ++ [⟨kd, (p : Nat), (m : Nat), ns1, ks1⟩], l, kr2, { rs with idx := (p : Int) },
        ⟨rfl, by rw [List.append_assoc]; exact hall.out, KidsOk.snoc hkid2.out hok.out, by rw [List.length_append, List.length_singleton, hix.out], by omega, hrem2, fun _ => hPm1.out, hF7.out, fun j h1 h2 => by
         rw [List.length_append, List.length_singleton] at h2
         by_cases hje : j = ps.length + 1
         ·rw [hje]; exact hst2
         ·exact hgo.out j h1 (by omega)⟩⟩⟩
     ·have hg := hsp.all p hip (by omega)
      have hg2 := gap_tests hg
      generalize bt s p = c at *
      replace hg := Aside0.mk hg
      rcases hg2 with hle | ⟨hle, he⟩ | ⟨hle, he⟩
      ·have e1 : decide (c ≤ 32) = true := decide_eq_true hle
       go_wp2
       go_roundg (s.size - (p + 1))
       case measure => have := hkq2.out; omega
       case rel => exact ⟨p + 1, by first | rfl | (congr 1; omega), ⟨⟨rfl, by omega, by omega, ⟨kr2, by repeat (with_reducible first | exact hF2.out | apply FEW.drewN | apply FEW.drew)⟩⟩⟩⟩
      ·subst he
       go_wp2
       go_roundg (s.size - (p + 1))
       case measure => have := hkq2.out; omega
       case rel => exact ⟨p + 1, by first | rfl | (congr 1; omega), ⟨⟨rfl, by omega, by omega, ⟨kr2, by repeat (with_reducible first | exact hF2.out | apply FEW.drewN | apply FEW.drew)⟩⟩⟩⟩
      ·subst he
       go_wp2
       go_roundg (s.size - (p + 1))
       case measure => have := hkq2.out; omega
       case rel => exact ⟨p + 1, by first | rfl | (congr 1; omega), ⟨⟨rfl, by omega, by omega, ⟨kr2, by repeat (with_reducible first | exact hF2.out | apply FEW.drewN | apply FEW.drew)⟩⟩⟩⟩
   ·obtain ⟨hi2, hsp, hb93⟩ := hend.way.resolve_left (by omega)
    obtain ⟨j, hj1⟩ : ∃ j, s.size = j + 1 := ⟨s.size - 1, by omega⟩
    rw [hj1, Nat.add_sub_cancel] at hsp hb93
    have hjs : j < s.size := by omega
    replace hj1 := Aside0.mk hj1
    clear hi2 hend
    go_wp2
    go_loopg [6] (s.size - i) (fun kq v6 w' => ∃ p : Nat, v6 = .int .i64 p ∧ Aside0 (InA s B0 Bo Bs stop w0 w.heap.size (w.heap.size + 1 + 1) (w.heap.size + 1 + 1 + 1) str num ps vr i j kq p w'))
    case atStart => exact ⟨i, rfl, ⟨⟨rfl, Nat.le_refl _, hsp.le, ⟨_, (hF.out.drewN _).setNum _⟩⟩⟩⟩
    case round =>
     obtain ⟨p, rfl, hL⟩ := hrel
     obtain ⟨hkq2, hip, hpj, kr2, hF2⟩ := hL.out
     clear hL ck3 fk3
     have hps : p < s.size := by omega
     have hb := bt_nat s p
     have q0 : (0 ≤ (p : Int)) = True := eq_true (by omega)
     have q1 : ((p : Int) < (s.size : Int)) = True := eq_true (by omega)
     replace hkq2 := Aside0.mk hkq2
     replace hF2 := Aside0.mk hF2
     by_cases hpe : p = j
     ·subst hpe
      have hany : ∀ W, FEW s B0 Bo Bs stop w0 w.heap.size (w.heap.size + 1 + 1) (w.heap.size + 1 + 1 + 1) str num ps kr2 vr W → Calls Tryz.prog 62 #[.string s, .int .i64 p, .bool true] W fun r w' => r = .returned (.tuple #[.int .i64 s.size, resV 0 ⟨#[]⟩ ⟨#[]⟩ 0 0, .bool false]) ∧ FEW s B0 Bo Bs stop w0 w.heap.size (w.heap.size + 1 + 1) (w.heap.size + 1 + 1 + 1) str num ps kr2 vr w' := fun W hW =>
       (any_none W s hs p hj1.out.symm hb93).mono (fun r w' ⟨h1, h2⟩ => ⟨h1, hW.below h2⟩)
      rw [hb93] at hb
      replace hsp := Aside0.mk hsp
      replace hb93 := Aside0.mk hb93
      go_wp2_with (first | (go_at_call 62; (with_reducible refine (hany _ ?hF).mono ?_); (case hF => repeat (with_reducible first | exact hF2.out | apply FEW.drewN | apply FEW.drew)); rintro r w5 ⟨rfl, hF5⟩; have cv0 := (blk_cell hF5.bv 0).trans rfl; have fv0 := blk_frozen hF5.bv 0; have cv1 := (blk_cell hF5.bv 1).trans rfl; have fv1 := blk_frozen hF5.bv 1; have cv2 := (blk_cell hF5.bv 2).trans rfl; have fv2 := blk_frozen hF5.bv 2; have cv3 := (blk_cell hF5.bv 3).trans rfl; have fv3 := blk_frozen hF5.bv 3; have cv4 := (blk_cell hF5.bv 4).trans rfl; have fv4 := blk_frozen hF5.bv 4; have cv5 := (blk_cell hF5.bv 5).trans rfl; have fv5 := blk_frozen hF5.bv 5; replace hF5 := Aside0.mk hF5))
      refine bodyPost_ret (results_none rfl _ _ _) rfl ?_
      have hall2 : kdone = ks := by have h := hall.out; rwa [List.append_nil] at h
      subst hall2
      have hlen := hok.out.length
      exact ⟨rfl, ps, (((((((hF5.out.setv ⟨0, vr.raw, vr.str, vr.num, vr.idx⟩ 0 _ rfl).setv ⟨0, ⟨#[]⟩, vr.str, vr.num, vr.idx⟩ 1 _ rfl).setv ⟨0, ⟨#[]⟩, ⟨#[]⟩, vr.num, vr.idx⟩ 2 _ rfl).setv ⟨0, ⟨#[]⟩, ⟨#[]⟩, 0, vr.idx⟩ 3 _ rfl).setv ⟨0, ⟨#[]⟩, ⟨#[]⟩, 0, 0⟩ 4 _ rfl).setv ⟨0, ⟨#[]⟩, ⟨#[]⟩, 0, 0⟩ 5 _ rfl)).outs, by rw [← hlen, List.take_length]; exact hok.out, by omega, .inl hlen.symm, fun j h1 h2 => hgo.out j h1 (by omega)⟩
     ·have hg := hsp.all p hip (by omega)
      have hg2 := gap_tests hg
      generalize bt s p = c at *
      replace hg := Aside0.mk hg
      rcases hg2 with hle | ⟨hle, he⟩ | ⟨hle, he⟩
      ·have e1 : decide (c ≤ 32) = true := decide_eq_true hle
       go_wp2
       go_roundg (s.size - (p + 1))
       case measure => have := hkq2.out; omega
       case rel => exact ⟨p + 1, by first | rfl | (congr 1; omega), ⟨⟨rfl, by omega, by omega, ⟨kr2, by repeat (with_reducible first | exact hF2.out | apply FEW.drewN | apply FEW.drew)⟩⟩⟩⟩
      ·subst he
       go_wp2
       go_roundg (s.size - (p + 1))
       case measure => have := hkq2.out; omega
       case rel => exact ⟨p + 1, by first | rfl | (congr 1; omega), ⟨⟨rfl, by omega, by omega, ⟨kr2, by repeat (with_reducible first | exact hF2.out | apply FEW.drewN | apply FEW.drew)⟩⟩⟩⟩
      ·subst he
       go_wp2
       go_roundg (s.size - (p + 1))
       case measure => have := hkq2.out; omega
       case rel => exact ⟨p + 1, by first | rfl | (congr 1; omega), ⟨⟨rfl, by omega, by omega, ⟨kr2, by repeat (with_reducible first | exact hF2.out | apply FEW.drewN | apply FEW.drew)⟩⟩⟩⟩
  ·have hr : rest = [] := by
    rcases hrem1 with ⟨j, hsp, hj⟩ | ⟨h, _⟩
    ·have := hj.bound; have := hsp.le; omega
    ·exact h
   subst hr
   rw [List.append_nil] at hall
   subst hall
   have hlen := hok.length
   go_wp2
   go_end0
   exact ⟨rfl, ps, hF.outs, by rw [← hlen, List.take_length]; exact hok, by omega, .inl hlen.symm, fun j h1 h2 => hgo j h1 (by omega)⟩
end Go.Proofs.YtpgfjbimodnkeaaGreatDoor.Dec
