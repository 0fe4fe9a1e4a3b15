/- FnGjReverseText: whatever text comes in, the law returns true and the text reads afterwards as before; with the fourteen package-level variables that its row lists as the text of the program lays them (the tied card) (part 20 of 25: lemmas for its last part) -/
import Derived.WalkSpells
import Derived.Deep.Cut
import Derived.Test.YtpgfjbimodnkeaaGreatDoorTurn18
import Derived.Test.YtpgfjbimodnkeaaGreatDoorTurn19
set_option maxHeartbeats 16000000
set_option maxRecDepth 100000
set_option linter.unusedVariables false
set_option linter.unusedSimpArgs false
namespace Go.Proofs.YtpgfjbimodnkeaaGreatDoor.Dec
open Go Go.RowKit Go.Proofs.YtpgfjbimodnkeaaGreatDoorW.PrintWords Go.Proofs.YtpgfjbimodnkeaaGreatDoorW.PrintLast Go.Proofs.YtpgfjbimodnkeaaGreatDoorW.PrintMore Go.Proofs.YtpgfjbimodnkeaaGreatDoor.Scan Go.Proofs.YtpgfjbimodnkeaaGreatDoor.Q
theorem sN (w : World) (s : ByteArray) (h0 : 0 < s.size) (hc : bt s (0 : Nat) = 123 ∨ bt s (0 : Nat) = 91) :
 Calls Tryz.prog 44 #[.string s] w fun e w' => e = .returned (resV 5 s ⟨#[]⟩ 0 0) ∧ Below w.heap.size w w' := by
 have hx : ((s[0]'h0).toNat : Int) = bt s (0 : Nat) := bU s 0 (by simpa using h0)
 have i0 : ((0 : Int) < (s.size : Int)) = True := eq_true (by omega)
 have i0' : (0 < s.size) = True := eq_true h0
 have i1 : decide ((0 : Int) < (s.size : Int)) = true := decide_eq_true (by omega)
 have s1 : ((0 : Int) ≤ (s.size : Int)) = True := eq_true (by omega)
 have hall : s.extract 0 s.size = s := lZ s
 generalize bt s (0 : Nat) = c at *
 go_enter Tryz.func44, Tryz.ntmps44
 go_wp2_with (fail)
 go_loopg [4] 0 (fun kq v4 W => v4 = .int .i64 0 ∧ ae (PV w ⟨0, ⟨#[]⟩, ⟨#[]⟩, 0, 0⟩ W))
 case atStart => exact ⟨rfl, ⟨lW w⟩⟩
 case round =>
  obtain ⟨rfl, hV⟩ := hrel
  obtain ⟨a0, a1, a2, a3, a4, a5, af⟩ := hV.out.cells
  rcases hc with rfl | rfl
  all_goals
   go_wp2_with (fail)
   have hV3 := (hV.out.set ⟨5, ⟨#[]⟩, ⟨#[]⟩, 0, 0⟩ 0 _ rfl).set ⟨5, s, ⟨#[]⟩, 0, 0⟩ 1 _ rfl
   have hex := jv (⟨5, s, ⟨#[]⟩, 0, 0⟩ : Rs) (.inl (by show (5 : Int) ≠ 0; decide))
   with_reducible refine (hex _).mono ?_
   rintro e w5 ⟨rfl, hB5⟩
   have hV4 := hV3.below hB5
   clear hB5 hV3 a0 a1 a2 a3 a4 a5 af
   obtain ⟨a0, a1, a2, a3, a4, a5, af⟩ := hV4.cells
   obtain ⟨z0, z1, z2, z3, z4, z5, zf⟩ := hV4.qm
   replace hV4 := ae.mk hV4
   go_wp2_with (fail)
   have hV6 := hV4.out.set { (⟨5, s, ⟨#[]⟩, 0, 0⟩ : Rs) with idx := 0 } 4 (.int .i64 0) rfl
   exact bodyPost_ret (results_cell_row rfl _ _ w.heap.size 67 (jh { (⟨5, s, ⟨#[]⟩, 0, 0⟩ : Rs) with idx := 0 }) (0, 0) _ rfl hV6.put Tryz.underlying67 rfl (by kernel_rfl)) rfl ⟨rfl, hV6.nS _ _ _ _ _ _⟩
theorem Dj (r : Rs) (h : r.k ≠ 5) (w : World) : Calls Tryz.prog 90 #[resV r.k r.raw r.str r.num r.idx] w fun e w' => e = .returned (.bool false) ∧ Below w.heap.size w w' := by
 have h1 : (r.k == 5) = false := beq_eq_false_iff_ne.mpr h
 go_enter Tryz.func90, Tryz.ntmps90
 go_wp2
 go_ret
 exact ⟨rfl, ai (Below.refl _ _) _⟩
theorem BK (r : Rs) (h : r.k ≠ 5) (w : World) : Calls Tryz.prog 88 #[resV r.k r.raw r.str r.num r.idx] w fun e w' => e = .returned (.bool false) ∧ Below w.heap.size w w' := by
 have h1 : (r.k == 5) = false := beq_eq_false_iff_ne.mpr h
 go_enter Tryz.func88, Tryz.ntmps88
 go_wp2
 go_ret
 exact ⟨rfl, ai (Below.refl _ _) _⟩
theorem sQ (s : ByteArray) (h0 : 0 < s.size) (b : Bool) (hb : (bt s (0 : Nat) == 91) = b) (str : ByteArray) (num : Nat) (idx : Int) (w : World) : Calls Tryz.prog 90 #[resV 5 s str num idx] w fun e w' => e = .returned (.bool b) ∧ Below w.heap.size w w' := by
 have hx : ((s[0]'h0).toNat : Int) = bt s (0 : Nat) := bU s 0 (by simpa using h0)
 have i0 : ((0 : Int) < (s.size : Int)) = True := eq_true (by omega)
 have i0' : (0 < s.size) = True := eq_true h0
 have i1 : decide (0 < s.size) = true := decide_eq_true h0
 generalize bt s (0 : Nat) = c at *
 go_enter Tryz.func90, Tryz.ntmps90
 go_wp2
 go_ret
 exact ⟨rfl, ai (Below.refl _ _) _⟩
theorem yL (s : ByteArray) (h0 : 0 < s.size) (b : Bool) (hb : (bt s (0 : Nat) == 123) = b) (str : ByteArray) (num : Nat) (idx : Int) (w : World) : Calls Tryz.prog 88 #[resV 5 s str num idx] w fun e w' => e = .returned (.bool b) ∧ Below w.heap.size w w' := by
 have hx : ((s[0]'h0).toNat : Int) = bt s (0 : Nat) := bU s 0 (by simpa using h0)
 have i0 : ((0 : Int) < (s.size : Int)) = True := eq_true (by omega)
 have i0' : (0 < s.size) = True := eq_true h0
 have i1 : decide (0 < s.size) = true := decide_eq_true h0
 generalize bt s (0 : Nat) = c at *
 go_enter Tryz.func88, Tryz.ntmps88
 go_wp2
 go_ret
 exact ⟨rfl, ai (Below.refl _ _) _⟩
theorem uP (base n : Nat) (v : Value) (xs : List Int) (w : World) (h : w.ownsRow base 5 1 v n (nums .u8 xs)) : Calls Tryz.prog 93 #[v] w fun e w' => e = .returned (.string (strOfNums xs)) ∧ w' = w := by
 have hcv := oU (P := Tryz.prog) Tryz.underlying99 Tryz.underlying5 Tryz.underlying9 h
 obtain ⟨A, c, rfl⟩ := lK h
 replace h := ae.mk h
 go_enter Tryz.func93, Tryz.ntmps93
 go_wp2
 go_ret
 exact ⟨rfl, rfl⟩
theorem xe (w0 w : World) (B B0 B1 : Nat) (stop : Int) (Inv : List (Rs × Rs) → World → Prop) (F : Nat) (C : Addr) (s : ByteArray) (hs : s.size ≤ 65536) (ks : List S32) (eJ : Nat) (hJ : J s .val 0 eJ 5 [] ks) (hE : Blanks s eJ s.size) (hP : Prd s 0) (str : ByteArray) (num : Int) (hT : Tabs B w0) (hBB : B ≤ B0) (hfd : Dw B0 B1 w0 Inv) (heat : Dv B0 B1 stop Inv F C s [] ks) (hin : ∀ (args : Array Value) (W : World), (callFunc F args).run Tryz.prog W = .ok (.enter F args) W) (hB1 : B1 = w.heap.size + 4) (hO : Inv [] w) :
 Calls Tryz.prog 32 #[resV 5 s str 0 num, .func (.func F) #[] #[.pointer (some C)]] w fun e w' => e = .returned (.tuple #[]) ∧ ∃ ps : List (Rs × Rs), Inv ps w' ∧ iw s (ks.take ps.length) ps ∧ ps.length ≤ ks.length ∧
  (ps.length = ks.length ∨ (ps.length : Int) = stop ∧ 0 < stop) ∧ ∀ j : Nat, 0 < j → j < ps.length → (j : Int) ≠ stop := by
 obtain ⟨h91, hrem⟩ := uM hJ hE
 have hx := iR s 0
 rw [h91] at hx
 have hpos : 0 < s.size := by have := hJ.bound; omega
 have p1 : ((0 : Int) < (s.size : Int)) = True := eq_true (by omega)
 have hks : ks.length ≤ 100000 := by have := lU hJ; have := hJ.bound; omega
 have hP1 : Prd s 1 := Prd.plain hs hP hpos (by rw [h91]; decide)
 replace hrem := ae.mk hrem
 replace hJ := ae.mk hJ
 replace hE := ae.mk hE
 replace hP := ae.mk hP
 replace hP1 := ae.mk hP1
 replace hT := ae.mk hT
 replace h91 := ae.mk h91
 replace hO := ae.mk hO
 have hadd := Es 37
 go_enter Tryz.func32, Tryz.ntmps32
 go_wp2
 refine wp_loop_rounds 1 ?_
 rw [rounds_succ]
 go_wp2
 go_loopg [6, 9, 10, 11, 12, 13, 14] (s.size - 1) (fun kq v6 v9 v10 v11 v12 v13 v14 w' => ∃ i ix : Nat, v6 = .int .i64 i ∧ v12 = .int .i64 ix ∧ ae (∃ (ps : List (Rs × Rs)) (kdone rest : List S32) (kr vr : Rs), LA s eJ ks B0 B1 stop w0 Inv w.heap.size (w.heap.size + 1 + 1) (w.heap.size + 1 + 1 + 1) str num kq i ix ps kdone rest kr vr w'))
 case atStart =>
  refine ⟨1, 0, rfl, rfl, ⟨[], [], ks, ⟨2, ⟨#[]⟩, ⟨#[]⟩, 13830554455654793216, 0⟩, ⟨0, ⟨#[]⟩, ⟨#[]⟩, 0, 0⟩, ⟨rfl, rfl, trivial, rfl, by omega, hrem.out, fun _ => hP1.out, ⟨hfd, ?_, ?_, ?_, ?_, by omega, ?_, by omega⟩, fun j h1 h2 => by simp at h2; omega⟩⟩⟩
  ·exact hfd.below hO.out (ai (ai (ai (ai (Below.refl _ _) _) _) _) _)
  ·exact aN (aN (aN (dX w _) _) _) _
  ·have := aN (dX ((w.alloc (.cells (jh ⟨5, s, str, 0, num⟩) 67 (0, 0))).alloc (.cells (jh ⟨5, s, str, 0, num⟩) 67 (0, 0))) (.cells (jh ⟨2, ⟨#[]⟩, ⟨#[]⟩, 13830554455654793216, 0⟩) 67 (0, 0))) (.cells (jh ⟨0, ⟨#[]⟩, ⟨#[]⟩, 0, 0⟩) 67 (0, 0))
   simpa using this
  ·have := dX (((w.alloc (.cells (jh ⟨5, s, str, 0, num⟩) 67 (0, 0))).alloc (.cells (jh ⟨5, s, str, 0, num⟩) 67 (0, 0))).alloc (.cells (jh ⟨2, ⟨#[]⟩, ⟨#[]⟩, 13830554455654793216, 0⟩) 67 (0, 0))) (.cells (jh ⟨0, ⟨#[]⟩, ⟨#[]⟩, 0, 0⟩) 67 (0, 0))
   simpa using this
  ·exact ⟨by have := hfd.lo hO.out; omega, by have := hfd.lo hO.out; omega, by have := hfd.lo hO.out; omega⟩
 case round =>
  obtain ⟨i, ix, rfl, rfl, hL⟩ := hrel
  obtain ⟨ps, kdone, rest, kr, vr, hkq, hall, hok, hix, hbnd, hrem1, hprd, hF, hgo⟩ := hL.out
  clear hL
  have hT1 := hT.out.below (eU hF.bel hBB)
  have hbnd2 : ix ≤ 65536 ∨ ¬ i < s.size := by omega
  by_cases hi : i < s.size
  ·have hprd1 := hprd (by omega)
   have ck3 := (ah hF.bk 3).trans rfl
   have fk3 := ak hF.bk 3
   replace hok := ae.mk hok
   replace hall := ae.mk hall
   replace hgo := ae.mk hgo
   replace hkq := ae.mk hkq
   replace hix := ae.mk hix
   replace hF := ae.mk hF
   replace hT1 := ae.mk hT1
   clear hprd
   rcases hrem1 with ⟨j, hsp, hj⟩ | ⟨rfl, hend⟩
   ·have hjb := hj.bound
    obtain ⟨m, kd, ns1, ks1, l, rfl, hv, hA, hrem2, hms⟩ := Bc hj hE.out
    have hst := uB hv
    go_wp2
    go_loopg [6] (s.size - i) (fun kq v6 w' => ∃ p : Nat, v6 = .int .i64 p ∧ ae (InA s B0 B1 w0 Inv w.heap.size (w.heap.size + 1 + 1) (w.heap.size + 1 + 1 + 1) str num ps vr i j kq p w'))
    case atStart => exact ⟨i, rfl, ⟨⟨rfl, Nat.le_refl _, hsp.le, ⟨_, (hF.out.drewN _).Cj _⟩⟩⟩⟩
    case round =>
     obtain ⟨p, rfl, hL⟩ := hrel
     obtain ⟨hkq2, hip, hpj, kr2, hF2⟩ := hL.out
     clear hL ck3 fk3
     have hps : p < s.size := by omega
     have hb := iR s p
     have q0 : (0 ≤ (p : Int)) = True := eq_true (by omega)
     have q1 : ((p : Int) < (s.size : Int)) = True := eq_true (by omega)
     replace hkq2 := ae.mk hkq2
     replace hF2 := ae.mk hF2
     by_cases hpe : p = j
     ·subst hpe
      have hcj := hst
      have hPj : Prd s p := gB.prd hs hsp (by omega) (fun c hc => by unfold qP Scan.blank at hc; omega) hprd1
      have hPm := J.prd hs hv hPj
      have hvb := hv.bound
      have hmj : m < s.size := hms
      have hPm1 : Prd s (m + 1) := Prd.plain hs hPm hmj (by have := hA.resolve_left (by omega); unfold Scan.blank at this; omega)
      have hany : ∀ W, FEW s B0 B1 w0 Inv w.heap.size (w.heap.size + 1 + 1) (w.heap.size + 1 + 1 + 1) str num ps kr2 vr W → Calls Tryz.prog 62 #[.string s, .int .i64 p, .bool true] W fun r w' => ∃ rs : Rs, r = .returned (.tuple #[.int .i64 m, resV rs.k rs.raw rs.str rs.num rs.idx, .bool true]) ∧ mH s ⟨kd, p, m, ns1, ks1⟩ rs ∧ FEW s B0 B1 w0 Inv w.heap.size (w.heap.size + 1 + 1) (w.heap.size + 1 + 1 + 1) str num ps kr2 vr w' := fun W hW =>
       (uS W B s hs (hT.out.below (eU hW.bel hBB)) hv hA hPj).mono (fun r w' ⟨rs, h1, h2, h3⟩ => ⟨rs, h1, h2, hW.below h3⟩)
      obtain ⟨bgo, hbgo⟩ : ∃ b, (((ps.length + 1 : Nat) : Int) != stop) = b := ⟨_, rfl⟩
      have hat := iw.next hall.out hok.out
      have hcl0 : ∀ (vr2 : Rs) (W : World), mH s ⟨kd, p, m, ns1, ks1⟩ vr2 → FEW s B0 B1 w0 Inv w.heap.size (w.heap.size + 1 + 1) (w.heap.size + 1 + 1 + 1) str num ps kr2 vr2 W → Calls Tryz.prog F #[resV kr2.k kr2.raw kr2.str kr2.num kr2.idx, resV vr2.k vr2.raw vr2.str vr2.num vr2.idx, .pointer (some C)] W fun e w' => e = .returned (.bool bgo) ∧ FEW s B0 B1 w0 Inv w.heap.size (w.heap.size + 1 + 1) (w.heap.size + 1 + 1 + 1) str num (ps ++ [(kr2, vr2)]) kr2 vr2 w' := fun vr2 W hk hW =>
       (heat ps kr2 vr2 _ W hW.inv hat hk (fun n hn => by simp at hn) (by have := hix.out; omega) (by have := (Array.getElem?_eq_some_iff.1 hW.bv).1; omega)).mono (fun e w' ⟨h1, h2, h3⟩ => ⟨by rw [h1, hbgo], hW.after h2 h3⟩)
      have hqn : ∀ (wx : World) (a : Option Addr) (n c n' c' : Nat), (binOp .neq 65 (.slice a n c) (.slice none n' c')).run Tryz.prog wx = .ok (.bool (!a.isNone)) wx := fun wx a n c n' c' => run_neq_slice_nil_any wx _ _ a n c n' c' Tryz.underlying65
      have hixb : (ix : Int) ≤ 65536 := by omega
      generalize bt s p = c at *
      have e1 : decide (c ≤ 32) = false := decide_eq_false (by omega)
      have e2 : (c == 44) = false := beq_eq_false_iff_ne.mpr hcj.2.1
      have e3 : (c == 58) = false := beq_eq_false_iff_ne.mpr hcj.2.2.1
      replace hst := ae.mk hst
      replace hcj := ae.mk hcj
      replace hbgo := ae.mk hbgo
      replace hat := ae.mk hat
      replace hsp := ae.mk hsp
      replace hv := ae.mk hv
      replace hA := ae.mk hA
      replace hPm1 := ae.mk hPm1
      go_upto_region 46 with (first | (go_at_call 62; (with_reducible refine (hany _ ?hF).mono ?_); (case hF => repeat (with_reducible first | exact hF2.out | apply FEW.drewN | apply FEW.drew)); rintro r w5 ⟨rs, rfl, hkid, hF5⟩; have cv0 := (ah hF5.bv 0).trans rfl; have fv0 := ak hF5.bv 0; have ck0 := (ah hF5.bk 0).trans rfl; have cv1 := (ah hF5.bv 1).trans rfl; have fv1 := ak hF5.bv 1; have ck1 := (ah hF5.bk 1).trans rfl; have cv2 := (ah hF5.bv 2).trans rfl; have fv2 := ak hF5.bv 2; have ck2 := (ah hF5.bk 2).trans rfl; have cv3 := (ah hF5.bv 3).trans rfl; have fv3 := ak hF5.bv 3; have ck3 := (ah hF5.bk 3).trans rfl; have cv4 := (ah hF5.bv 4).trans rfl; have fv4 := ak hF5.bv 4; have ck4 := (ah hF5.bk 4).trans rfl; have cv5 := (ah hF5.bv 5).trans rfl; have fv5 := ak hF5.bv 5; have ck5 := (ah hF5.bk 5).trans rfl; have ct4 := (ah hF5.bt 4).trans rfl; have ct5 := (ah hF5.bt 5).trans rfl; replace hF5 := ae.mk hF5; replace hkid := ae.mk hkid))
      have hF6 := hF5.out.Fh rs (wrap64 ((p : Int) + num))
      generalize (((((((w5.setCell ⟨w.heap.size + 1 + 1 + 1, 0, none⟩ (.int .i64 rs.k)).setCell ⟨w.heap.size + 1 + 1 + 1, 1, none⟩ (.string rs.raw)).setCell ⟨w.heap.size + 1 + 1 + 1, 2, none⟩ (.string rs.str)).setCell ⟨w.heap.size + 1 + 1 + 1, 3, none⟩ (.float .f64 rs.num)).setCell ⟨w.heap.size + 1 + 1 + 1, 4, none⟩ (.int .i64 rs.idx)).setCell ⟨w.heap.size + 1 + 1 + 1, 5, none⟩ (.slice none 0 0)).setCell ⟨w.heap.size + 1 + 1 + 1, 4, none⟩ (.int .i64 (wrap64 ((p : Int) + num)))) = W6 at hF6 ⊢
      clear cv0 cv1 cv2 cv3 cv4 cv5 ck0 ck1 ck2 ck3 ck4 ck5 fv0 fv1 fv2 fv3 fv4 fv5 ct4 ct5
      have cv0 := (ah hF6.bv 0).trans rfl
      have ck0 := (ah hF6.bk 0).trans rfl
      have cv1 := (ah hF6.bv 1).trans rfl
      have ck1 := (ah hF6.bk 1).trans rfl
      have cv2 := (ah hF6.bv 2).trans rfl
      have ck2 := (ah hF6.bk 2).trans rfl
      have cv3 := (ah hF6.bv 3).trans rfl
      have ck3 := (ah hF6.bk 3).trans rfl
      have cv4 := (ah hF6.bv 4).trans rfl
      have ck4 := (ah hF6.bk 4).trans rfl
      have cv5 := (ah hF6.bv 5).trans rfl
      have ck5 := (ah hF6.bk 5).trans rfl
      have hcl : Calls Tryz.prog F #[.agg #[.int .i64 kr2.k, .string kr2.raw, .string kr2.str, .float .f64 kr2.num, .int .i64 kr2.idx, .slice none 0 0], .agg #[.int .i64 rs.k, .string rs.raw, .string rs.str, .float .f64 rs.num, .int .i64 (wrap64 ((p : Int) + num)), .slice none 0 0], .pointer (some C)] W6 fun e w' => e = .returned (.bool bgo) ∧ FEW s B0 B1 w0 Inv w.heap.size (w.heap.size + 1 + 1) (w.heap.size + 1 + 1 + 1) str num (ps ++ [(kr2, { rs with idx := wrap64 ((p : Int) + num) })]) kr2 { rs with idx := wrap64 ((p : Int) + num) } w' := hcl0 { rs with idx := wrap64 ((p : Int) + num) } W6 (hkid.out.idx _) hF6
      replace hF6 := ae.mk hF6
      have hkid2 := ae.mk (hkid.out.idx (wrap64 ((p : Int) + num)))
      clear hany hcl0
      cases bgo with
      | false =>
        go_wp2_with (fail)
        refine hcl.mono ?_
        rintro r w7 ⟨rfl, hF7⟩
        replace hF7 := ae.mk hF7
        go_wp2_with (fail)
        refine bodyPost_ret (results_none rfl _ _ _) rfl ?_
        have hst2 : ((ps.length + 1 : Nat) : Int) = stop := by have h := hbgo.out; simpa using h
        have hlen := hok.out.length
        obtain ⟨htk, hle⟩ := lQ hall.out
        refine ⟨rfl, ps ++ [(kr2, { rs with idx := wrap64 ((p : Int) + num) })], hF7.out.inv, ?_, ?_, .inr ?_, fun j h1 h2 => ?_⟩
        ·rw [List.length_append, List.length_singleton, ← hlen, htk]; exact iw.snoc hkid2.out hok.out
        ·rw [List.length_append, List.length_singleton, ← hlen]; exact hle
        ·rw [List.length_append, List.length_singleton]; exact ⟨hst2, by omega⟩
        ·rw [List.length_append, List.length_singleton] at h2; exact hgo.out j h1 (by omega)
      | true =>
        go_wp2_with (fail)
        refine hcl.mono ?_
        rintro r w7 ⟨rfl, hF7⟩
        replace hF7 := ae.mk hF7
        go_wp2_with (fail)
        have hst2 : ((ps.length + 1 : Nat) : Int) ≠ stop := by have h := hbgo.out; simpa using h
        go_roundg (s.size - (m + 1))
        case measure => have := hkq.out; omega
        case rel => exact ⟨m + 1, ix + 1, by first | rfl | (congr 1; omega), by first | rfl | (congr 1; omega), ⟨ps ++ [(kr2, { rs with idx := wrap64 ((p : Int) + num) })], kdone ++ [⟨kd, (p : Nat), (m : Nat), ns1, ks1⟩], l, kr2, { rs with idx := wrap64 ((p : Int) + num) },
         ⟨rfl, by rw [List.append_assoc]; exact hall.out, iw.snoc hkid2.out hok.out, by rw [List.length_append, List.length_singleton, hix.out], by omega, hrem2, fun _ => hPm1.out, hF7.out, fun j h1 h2 => by
          rw [List.length_append, List.length_singleton] at h2
          by_cases hje : j = ps.length + 1
          ·rw [hje]; exact hst2
          ·exact hgo.out j h1 (by omega)⟩⟩⟩
     ·have hg := hsp.all p hip (by omega)
      have hg2 := nO hg
      generalize bt s p = c at *
      replace hg := ae.mk hg
      rcases hg2 with hle | ⟨hle, he⟩ | ⟨hle, he⟩
      ·have e1 : decide (c ≤ 32) = true := decide_eq_true hle
       go_wp2
       go_roundg (s.size - (p + 1))
       case measure => have := hkq2.out; omega
       case rel => exact ⟨p + 1, by first | rfl | (congr 1; omega), ⟨⟨rfl, by omega, by omega, ⟨kr2, by repeat (with_reducible first | exact hF2.out | apply FEW.drewN | apply FEW.drew)⟩⟩⟩⟩
      ·subst he
       go_wp2
       go_roundg (s.size - (p + 1))
       case measure => have := hkq2.out; omega
       case rel => exact ⟨p + 1, by first | rfl | (congr 1; omega), ⟨⟨rfl, by omega, by omega, ⟨kr2, by repeat (with_reducible first | exact hF2.out | apply FEW.drewN | apply FEW.drew)⟩⟩⟩⟩
      ·subst he
       go_wp2
       go_roundg (s.size - (p + 1))
       case measure => have := hkq2.out; omega
       case rel => exact ⟨p + 1, by first | rfl | (congr 1; omega), ⟨⟨rfl, by omega, by omega, ⟨kr2, by repeat (with_reducible first | exact hF2.out | apply FEW.drewN | apply FEW.drew)⟩⟩⟩⟩
   ·obtain ⟨hi2, j, hsp, hjs, hor⟩ := hend.way.resolve_left (by omega)
    replace hor := ae.mk hor
    clear hi2 hend
    go_wp2
    go_loopg [6] (s.size - i) (fun kq v6 w' => ∃ p : Nat, v6 = .int .i64 p ∧ ae (InA s B0 B1 w0 Inv w.heap.size (w.heap.size + 1 + 1) (w.heap.size + 1 + 1 + 1) str num ps vr i j kq p w'))
    case atStart => exact ⟨i, rfl, ⟨⟨rfl, Nat.le_refl _, hsp.le, ⟨_, (hF.out.drewN _).Cj _⟩⟩⟩⟩
    case round =>
     obtain ⟨p, rfl, hL⟩ := hrel
     obtain ⟨hkq2, hip, hpj, kr2, hF2⟩ := hL.out
     clear hL ck3 fk3
     replace hkq2 := ae.mk hkq2
     replace hF2 := ae.mk hF2
     by_cases hpe : p = j
     ·subst hpe
      have hrest : ∀ q : Nat, p ≤ q → q < s.size → bt s q = 93 ∨ Scan.blank (bt s q) := fun q h1 h2 => by
       rcases hor.out with h3 | ⟨h3, h4, h5⟩
       ·omega
       ·rcases Nat.eq_or_lt_of_le h1 with h6 | h6
        ·subst h6; exact .inl h3
        ·exact .inr (h5.all q h6 h2)
      have hany : ∀ W, FEW s B0 B1 w0 Inv w.heap.size (w.heap.size + 1 + 1) (w.heap.size + 1 + 1 + 1) str num ps kr2 vr W → Calls Tryz.prog 62 #[.string s, .int .i64 p, .bool true] W fun r w' => r = .returned (.tuple #[.int .i64 s.size, resV 0 ⟨#[]⟩ ⟨#[]⟩ 0 0, .bool false]) ∧ FEW s B0 B1 w0 Inv w.heap.size (w.heap.size + 1 + 1) (w.heap.size + 1 + 1 + 1) str num ps kr2 vr w' := fun W hW =>
       (BL W s hs p hjs hrest).mono (fun r w' ⟨h1, h2⟩ => ⟨h1, hW.below h2⟩)
      have q0 : (0 ≤ (p : Int)) = True := eq_true (by omega)
      replace hsp := ae.mk hsp
      clear hrest
      rcases hor.out with h3 | ⟨h3, h4, -⟩
      ·have hq : ((p : Int) < (s.size : Int)) = False := eq_false (by omega)
       replace h3 := ae.mk h3
       go_wp2_with (first | (go_at_call 62; (with_reducible refine (hany _ ?hF).mono ?_); (case hF => repeat (with_reducible first | exact hF2.out | apply FEW.drewN | apply FEW.drew)); rintro r w5 ⟨rfl, hF5⟩; have cv0 := (ah hF5.bv 0).trans rfl; have fv0 := ak hF5.bv 0; have cv1 := (ah hF5.bv 1).trans rfl; have fv1 := ak hF5.bv 1; have cv2 := (ah hF5.bv 2).trans rfl; have fv2 := ak hF5.bv 2; have cv3 := (ah hF5.bv 3).trans rfl; have fv3 := ak hF5.bv 3; have cv4 := (ah hF5.bv 4).trans rfl; have fv4 := ak hF5.bv 4; have cv5 := (ah hF5.bv 5).trans rfl; have fv5 := ak hF5.bv 5; replace hF5 := ae.mk hF5))
       refine bodyPost_ret (results_none rfl _ _ _) rfl ?_
       have hall2 : kdone = ks := by have h := hall.out; rwa [List.append_nil] at h
       subst hall2
       have hlen := hok.out.length
       exact ⟨rfl, ps, (((((((hF5.out.lX ⟨0, vr.raw, vr.str, vr.num, vr.idx⟩ 0 _ rfl).lX ⟨0, ⟨#[]⟩, vr.str, vr.num, vr.idx⟩ 1 _ rfl).lX ⟨0, ⟨#[]⟩, ⟨#[]⟩, vr.num, vr.idx⟩ 2 _ rfl).lX ⟨0, ⟨#[]⟩, ⟨#[]⟩, 0, vr.idx⟩ 3 _ rfl).lX ⟨0, ⟨#[]⟩, ⟨#[]⟩, 0, 0⟩ 4 _ rfl).lX ⟨0, ⟨#[]⟩, ⟨#[]⟩, 0, 0⟩ 5 _ rfl)).inv, by rw [← hlen, List.take_length]; exact hok.out, by omega, .inl hlen.symm, fun j h1 h2 => hgo.out j h1 (by omega)⟩
      ·have hb := iR s p
       have q1 : ((p : Int) < (s.size : Int)) = True := eq_true (by omega)
       rw [h3] at hb
       replace h3 := ae.mk h3
       go_wp2_with (first | (go_at_call 62; (with_reducible refine (hany _ ?hF).mono ?_); (case hF => repeat (with_reducible first | exact hF2.out | apply FEW.drewN | apply FEW.drew)); rintro r w5 ⟨rfl, hF5⟩; have cv0 := (ah hF5.bv 0).trans rfl; have fv0 := ak hF5.bv 0; have cv1 := (ah hF5.bv 1).trans rfl; have fv1 := ak hF5.bv 1; have cv2 := (ah hF5.bv 2).trans rfl; have fv2 := ak hF5.bv 2; have cv3 := (ah hF5.bv 3).trans rfl; have fv3 := ak hF5.bv 3; have cv4 := (ah hF5.bv 4).trans rfl; have fv4 := ak hF5.bv 4; have cv5 := (ah hF5.bv 5).trans rfl; have fv5 := ak hF5.bv 5; replace hF5 := ae.mk hF5))
       refine bodyPost_ret (results_none rfl _ _ _) rfl ?_
       have hall2 : kdone = ks := by have h := hall.out; rwa [List.append_nil] at h
       subst hall2
       have hlen := hok.out.length
       exact ⟨rfl, ps, (((((((hF5.out.lX ⟨0, vr.raw, vr.str, vr.num, vr.idx⟩ 0 _ rfl).lX ⟨0, ⟨#[]⟩, vr.str, vr.num, vr.idx⟩ 1 _ rfl).lX ⟨0, ⟨#[]⟩, ⟨#[]⟩, vr.num, vr.idx⟩ 2 _ rfl).lX ⟨0, ⟨#[]⟩, ⟨#[]⟩, 0, vr.idx⟩ 3 _ rfl).lX ⟨0, ⟨#[]⟩, ⟨#[]⟩, 0, 0⟩ 4 _ rfl).lX ⟨0, ⟨#[]⟩, ⟨#[]⟩, 0, 0⟩ 5 _ rfl)).inv, by rw [← hlen, List.take_length]; exact hok.out, by omega, .inl hlen.symm, fun j h1 h2 => hgo.out j h1 (by omega)⟩
     ·have hps : p < s.size := by omega
      have hb := iR s p
      have q0 : (0 ≤ (p : Int)) = True := eq_true (by omega)
      have q1 : ((p : Int) < (s.size : Int)) = True := eq_true (by omega)
      have hg := hsp.all p hip (by omega)
      have hg2 := nO hg
      generalize bt s p = c at *
      replace hg := ae.mk hg
      rcases hg2 with hle | ⟨hle, he⟩ | ⟨hle, he⟩
      ·have e1 : decide (c ≤ 32) = true := decide_eq_true hle
       go_wp2
       go_roundg (s.size - (p + 1))
       case measure => have := hkq2.out; omega
       case rel => exact ⟨p + 1, by first | rfl | (congr 1; omega), ⟨⟨rfl, by omega, by omega, ⟨kr2, by repeat (with_reducible first | exact hF2.out | apply FEW.drewN | apply FEW.drew)⟩⟩⟩⟩
      ·subst he
       go_wp2
       go_roundg (s.size - (p + 1))
       case measure => have := hkq2.out; omega
       case rel => exact ⟨p + 1, by first | rfl | (congr 1; omega), ⟨⟨rfl, by omega, by omega, ⟨kr2, by repeat (with_reducible first | exact hF2.out | apply FEW.drewN | apply FEW.drew)⟩⟩⟩⟩
      ·subst he
       go_wp2
       go_roundg (s.size - (p + 1))
       case measure => have := hkq2.out; omega
       case rel => exact ⟨p + 1, by first | rfl | (congr 1; omega), ⟨⟨rfl, by omega, by omega, ⟨kr2, by repeat (with_reducible first | exact hF2.out | apply FEW.drewN | apply FEW.drew)⟩⟩⟩⟩
  ·have hr : rest = [] := by
    rcases hrem1 with ⟨j, hsp, hj⟩ | ⟨h, _⟩
    ·have := hj.bound; have := hsp.le; omega
    ·exact h
   subst hr
   rw [List.append_nil] at hall
   subst hall
   have hlen := hok.length
   go_wp2
   go_end0
   exact ⟨rfl, ps, hF.inv, by rw [← hlen, List.take_length]; exact hok, by omega, .inl hlen.symm, fun j h1 h2 => hgo j h1 (by omega)⟩
end Go.Proofs.YtpgfjbimodnkeaaGreatDoor.Dec
