/- FnGjReverseText: whatever text comes in, the law returns true and the text reads afterwards as before; with the fourteen package-level variables that its row lists as the text of the program lays them (the tied card) (part 21 of 25: lemmas for its last part) -/
import Derived.WalkSpells
import Derived.Deep.Cut
import Derived.Test.YtpgfjbimodnkeaaGreatDoorTurn2
import Derived.Test.YtpgfjbimodnkeaaGreatDoorTurn14
import Derived.Test.YtpgfjbimodnkeaaGreatDoorTurn18
set_option maxHeartbeats 16000000
set_option maxRecDepth 100000
set_option linter.unusedVariables false
set_option linter.unusedSimpArgs false
namespace Go.Proofs.YtpgfjbimodnkeaaGreatDoor.Dec
open Go Go.RowKit Go.Proofs.YtpgfjbimodnkeaaGreatDoorW.PrintWords Go.Proofs.YtpgfjbimodnkeaaGreatDoorW.PrintLast Go.Proofs.YtpgfjbimodnkeaaGreatDoorW.PrintMore Go.Proofs.YtpgfjbimodnkeaaGreatDoor.Scan Go.Proofs.YtpgfjbimodnkeaaGreatDoor.Q
structure LO (s : ByteArray) (e : Nat) (nms : List S44) (ks : List S32) (B0 B1 : Nat) (stop : Int) (w0 : World) (Inv : List (Rs × Rs) → World → Prop) (gt gk gv : Nat) (str : ByteArray) (num : Int) (kq i ix : Nat) (ps : List (Rs × Rs)) (ndone nrest : List S44) (kdone rest : List S32) (kr vr : Rs) (W : World) : Prop where
 kq : kq = s.size - i
 Gx : ndone ++ nrest = nms
 all : kdone ++ rest = ks
 nok : iC s ndone ps
 ok : iw s kdone ps
 cnt : ix = ps.length
 bnd : ix ≤ i
 rem : zO s e nrest rest i
 prd : i ≤ s.size → Prd s i
 few : FEW s B0 B1 w0 Inv gt gk gv str num ps kr vr W
 krk : kr.k = 3
 go : ∀ j : Nat, 0 < j → j ≤ ps.length → (j : Int) ≠ stop
structure InO (s : ByteArray) (B0 B1 : Nat) (w0 : World) (Inv : List (Rs × Rs) → World → Prop) (gt gk gv : Nat) (str : ByteArray) (num : Int) (ps : List (Rs × Rs)) (kr vr : Rs) (i j kq p : Nat) (W : World) : Prop where
 kq : kq = s.size - p
 lo : i ≤ p
 hi : p ≤ j
 few : FEW s B0 B1 w0 Inv gt gk gv str num ps kr vr W
theorem Ag {s : ByteArray} {e : Nat} {nrest : List S44} {rest : List S32} {i : Nat} (h : zO s e nrest rest i) (hi : i < s.size) (hb : bt s i ≠ 34) : zO s e nrest rest (i + 1) ∧ bt s i ≠ 92 := by
 rcases h with ⟨j, hsp, hj⟩ | ⟨rfl, rfl, hend⟩
 ·have hlt : i < j := by
   rcases Nat.lt_or_ge i j with hl | hl
   ·exact hl
   ·have hle := hsp.le
    have e : i = j := by omega
    subst e
    exfalso
    cases hj with
    | mem1 _ q c b m e kd ns ks h0 h1 => exact hb h1
    | mems _ q c b m d n e kd ns nl ks l h0 h1 => exact hb h1
  have hg := hsp.all i (Nat.le_refl _) hlt
  exact ⟨.inl ⟨j, lL hsp hlt, hj⟩, by unfold qP Scan.blank at hg; omega⟩
 ·obtain ⟨_, j, hsp, hjs, hor⟩ := hend.way.resolve_left (by omega)
  by_cases he : i = j
  ·subst he
   rcases hor with h3 | ⟨h3, h4, h5⟩
   ·omega
   ·refine ⟨.inr ⟨rfl, rfl, ⟨?_⟩⟩, by omega⟩
    by_cases h6 : s.size ≤ i + 1
    ·exact .inl h6
    ·exact .inr ⟨by omega, s.size, gm h5, Nat.le_refl _, .inl rfl⟩
  ·have hle := hsp.le
   have hg := hsp.all i (Nat.le_refl _) (by omega)
   refine ⟨.inr ⟨rfl, rfl, ⟨?_⟩⟩, by unfold qP Scan.blank at hg; omega⟩
   by_cases h6 : s.size ≤ i + 1
   ·exact .inl h6
   ·exact .inr ⟨by omega, j, lL hsp (by omega), hjs, hor⟩
theorem Aw {s : ByteArray} {e : Nat} {nrest : List S44} {rest : List S32} {i : Nat} (h : zO s e nrest rest i) (hi : i < s.size) (hb : bt s i = 34) : J s .mems i e 0 nrest rest := by
 rcases h with ⟨j, hsp, hj⟩ | ⟨rfl, rfl, hend⟩
 ·have hle := hsp.le
  by_cases he : i = j
  ·rw [he]; exact hj
  ·have hg := hsp.all i (Nat.le_refl _) (by omega)
   unfold qP Scan.blank at hg; omega
 ·obtain ⟨_, j, hsp, hjs, hor⟩ := hend.way.resolve_left (by omega)
  have hle := hsp.le
  by_cases he : i = j
  ·subst he
   rcases hor with h3 | ⟨h3, _, _⟩
   ·omega
   ·omega
  ·have hg := hsp.all i (Nat.le_refl _) (by omega)
   unfold qP Scan.blank at hg; omega
theorem wW (w0 w : World) (B B0 B1 : Nat) (stop : Int) (Inv : List (Rs × Rs) → World → Prop) (F : Nat) (C : Addr) (s : ByteArray) (hs : s.size ≤ 65536) (nms : List S44) (ks : List S32) (eJ : Nat) (hJ : J s .val 0 eJ 6 nms ks) (hE : Blanks s eJ s.size) (hP : Prd s 0) (str : ByteArray) (num : Int) (hT : Tabs B w0) (hBB : B ≤ B0) (hfd : Dw B0 B1 w0 Inv) (heat : Dv B0 B1 stop Inv F C s nms ks) (hin : ∀ (args : Array Value) (W : World), (callFunc F args).run Tryz.prog W = .ok (.enter F args) W) (hB1 : B1 = w.heap.size + 4) (hO : Inv [] w) :
 Calls Tryz.prog 32 #[resV 5 s str 0 num, .func (.func F) #[] #[.pointer (some C)]] w fun e w' => e = .returned (.tuple #[]) ∧ ∃ ps : List (Rs × Rs), Inv ps w' ∧ iw s (ks.take ps.length) ps ∧ iC s (nms.take ps.length) ps ∧ ps.length ≤ ks.length ∧
  (ps.length = ks.length ∨ (ps.length : Int) = stop ∧ 0 < stop) ∧ ∀ j : Nat, 0 < j → j < ps.length → (j : Int) ≠ stop := by
 obtain ⟨h91, hrem⟩ := ug hJ hE
 have hx := iR s 0
 rw [h91] at hx
 have hpos : 0 < s.size := by have := hJ.bound; omega
 have p1 : ((0 : Int) < (s.size : Int)) = True := eq_true (by omega)
 have hks : ks.length ≤ 100000 := by have := lU hJ; have := hJ.bound; omega
 have hP1 : Prd s 1 := Prd.plain hs hP hpos (by rw [h91]; decide)
 replace hrem := ae.mk hrem
 replace hJ := ae.mk hJ
 replace hE := ae.mk hE
 replace hP := ae.mk hP
 replace hP1 := ae.mk hP1
 replace hT := ae.mk hT
 replace h91 := ae.mk h91
 replace hO := ae.mk hO
 go_enter Tryz.func32, Tryz.ntmps32
 go_wp2
 refine wp_loop_rounds 1 ?_
 rw [rounds_succ]
 go_wp2
 go_loopg [6, 9, 10, 11, 12, 13, 14] (s.size - 1) (fun kq v6 v9 v10 v11 v12 v13 v14 w' => ∃ i ix : Nat, v6 = .int .i64 i ∧ v12 = .int .i64 ix ∧ ae (∃ (ps : List (Rs × Rs)) (ndone nrest : List S44) (kdone rest : List S32) (kr vr : Rs), LO s eJ nms ks B0 B1 stop w0 Inv w.heap.size (w.heap.size + 1 + 1) (w.heap.size + 1 + 1 + 1) str num kq i ix ps ndone nrest kdone rest kr vr w'))
 case atStart =>
  refine ⟨1, 0, rfl, rfl, ⟨[], [], nms, [], ks, ⟨3, ⟨#[]⟩, ⟨#[]⟩, 0, 0⟩, ⟨0, ⟨#[]⟩, ⟨#[]⟩, 0, 0⟩, ⟨rfl, rfl, rfl, trivial, trivial, rfl, by omega, hrem.out, fun _ => hP1.out, ⟨hfd, ?_, ?_, ?_, ?_, by omega, ?_, by omega⟩, rfl, fun j h1 h2 => by simp at h2; omega⟩⟩⟩
  ·exact hfd.below hO.out (ai (ai (ai (ai (Below.refl _ _) _) _) _) _)
  ·exact aN (aN (aN (dX w _) _) _) _
  ·have := aN (dX ((w.alloc (.cells (jh ⟨5, s, str, 0, num⟩) 67 (0, 0))).alloc (.cells (jh ⟨5, s, str, 0, num⟩) 67 (0, 0))) (.cells (jh ⟨3, ⟨#[]⟩, ⟨#[]⟩, 0, 0⟩) 67 (0, 0))) (.cells (jh ⟨0, ⟨#[]⟩, ⟨#[]⟩, 0, 0⟩) 67 (0, 0))
   simpa using this
  ·have := dX (((w.alloc (.cells (jh ⟨5, s, str, 0, num⟩) 67 (0, 0))).alloc (.cells (jh ⟨5, s, str, 0, num⟩) 67 (0, 0))).alloc (.cells (jh ⟨3, ⟨#[]⟩, ⟨#[]⟩, 0, 0⟩) 67 (0, 0))) (.cells (jh ⟨0, ⟨#[]⟩, ⟨#[]⟩, 0, 0⟩) 67 (0, 0))
   simpa using this
  ·exact ⟨by have := hfd.lo hO.out; omega, by have := hfd.lo hO.out; omega, by have := hfd.lo hO.out; omega⟩
 case round =>
  obtain ⟨i, ix, rfl, rfl, hL⟩ := hrel
  obtain ⟨ps, ndone, nrest, kdone, rest, kr, vr, hkq, hnall, hall, hnok, hok, hix, hbnd, hrem1, hprd, hF, hkrk, hgo⟩ := hL.out
  clear hL
  by_cases hi : i < s.size
  ·have hprd1 := hprd (by omega)
   have hb := iR s i
   have q0 : (0 ≤ (i : Int)) = True := eq_true (by omega)
   have q1 : ((i : Int) < (s.size : Int)) = True := eq_true (by omega)
   replace hok := ae.mk hok
   replace hnok := ae.mk hnok
   replace hall := ae.mk hall
   replace hnall := ae.mk hnall
   replace hgo := ae.mk hgo
   replace hkq := ae.mk hkq
   replace hix := ae.mk hix
   replace hkrk := ae.mk hkrk
   clear hprd
   by_cases h34 : bt s i = 34
   ·have hj := Aw hrem1 hi h34
    obtain ⟨q, bb, m, kd, ns1, nl, ks1, l, rfl, rfl, _, _, hq, hsp, hv, hA, hrem2, hms, hpb⟩ := Af hs hj hE.out
    have hPb := hpb hprd1
    have hvb := hv.bound
    have hst := uB hv
    have hPm1 : Prd s (m + 1) := Prd.plain hs (J.prd hs hv hPb) hms (by have := hA.resolve_left (by omega); unfold Scan.blank at this; omega)
    obtain ⟨_, v, hsay⟩ := jd hs hq (gG.prd hs hi h34 hq hprd1).1
    have hQ := hq.str.quo (show 1 ≤ i + 1 by omega) (by simpa using h34)
    have hqb := hq.bound
    obtain ⟨ve, hps, hve⟩ := pg hs hQ
    obtain ⟨k, hk⟩ := hps.at
    have hpsc := fun W => Q.aU.calls k s ((i + 1 : Nat) : Int) _ _ _ _ W hk
    rw [Nat.add_sub_cancel, show ((i + 1 : Nat) : Int) = (i : Int) + 1 by omega] at hpsc
    obtain ⟨x, hx0⟩ : ∃ x, s.extract i (q + 1) = x := ⟨_, rfl⟩
    obtain ⟨mm, hm⟩ : ∃ mm, q = i + 1 + mm := ⟨q - (i + 1), by omega⟩
    have hxz : x.size = mm + 2 := by rw [← hx0, ByteArray.size_extract]; omega
    have hcut : x.extract 1 (mm + 1) = s.extract (i + 1) q := by rw [← hx0, ou s i (q + 1) 1 (mm + 1) (by omega) (by omega), show i + (mm + 1) = q by omega]
    obtain ⟨y, hy⟩ : ∃ y, s.extract (i + 1) q = y := ⟨_, rfl⟩
    have hsl : ∀ wx : World, (Instr.slice 9 (.string x) (some (.int .i64 1)) (some (.int .i64 ((mm : Int) + 2 - 1))) none).run Tryz.prog wx = .ok (.string y) wx := fun wx => by
     rw [show (mm : Int) + 2 - 1 = (mm : Int) + 1 by omega]
     have h := run_slice_string (P := Tryz.prog) wx 9 x .i64 .i64 1 ((mm : Int) + 1) Tryz.underlying9 (by omega) (by omega) (by omega)
     rwa [show (1 : Int).toNat = 1 from rfl, show ((mm : Int) + 1).toNat = mm + 1 by omega, hcut, hy] at h
    rw [hx0] at hpsc
    have hyz : y.size ≤ 1000000 := by rw [← hy, ByteArray.size_extract]; omega
    have hys : ∃ l, Unq y 0 l ∧ v = strOfNums l := by rw [← hy]; exact hsay.unq
    have hyp : ve = false → y = v := fun h => by
     rw [← hy]
     exact (hsay.plain (by omega) (hve h)).symm
    obtain ⟨ll, hl, hvl⟩ := hys
    have hun := fun W => kW W y ll hyz hl
    rw [← hvl] at hun
    have hmb : mm ≤ 65536 := by omega
    have hlen : (x.size : Int) = (mm : Int) + 2 := by omega
    have hnm : ∀ r : Rs, r.k = 3 → r.raw = x → r.str = v → rQ s ⟨(i : Nat), (q + 1 : Nat)⟩ r := fun r h1 h2 h3 => ⟨⟨i, q, rfl, rfl, by omega, by omega, by rw [h2, hx0], by rw [h3]; exact hsay⟩, h1⟩
    have hbq : q + 1 ≤ bb := hsp.le
    have hbs : bb < s.size := by omega
    have hany : ∀ (kr2 : Rs) (W : World), FEW s B0 B1 w0 Inv w.heap.size (w.heap.size + 1 + 1) (w.heap.size + 1 + 1 + 1) str num ps kr2 vr W → Calls Tryz.prog 62 #[.string s, .int .i64 bb, .bool true] W fun r w' => ∃ rs : Rs, r = .returned (.tuple #[.int .i64 m, resV rs.k rs.raw rs.str rs.num rs.idx, .bool true]) ∧ mH s ⟨kd, bb, m, ns1, ks1⟩ rs ∧ FEW s B0 B1 w0 Inv w.heap.size (w.heap.size + 1 + 1) (w.heap.size + 1 + 1 + 1) str num ps kr2 vr w' := fun kr2 W hW =>
     (uS W B s hs (hT.out.below (eU hW.bel hBB)) hv hA hPb).mono (fun r w' ⟨rs, h1, h2, h3⟩ => ⟨rs, h1, h2, hW.below h3⟩)
    obtain ⟨bgo, hbgo⟩ : ∃ b, (((ps.length + 1 : Nat) : Int) != stop) = b := ⟨_, rfl⟩
    have hat := iw.next hall.out hok.out
    have han := iC.next hnall.out hnok.out
    have hcl0 : ∀ (kr2 vr2 : Rs) (W : World), rQ s ⟨(i : Nat), (q + 1 : Nat)⟩ kr2 → mH s ⟨kd, bb, m, ns1, ks1⟩ vr2 → FEW s B0 B1 w0 Inv w.heap.size (w.heap.size + 1 + 1) (w.heap.size + 1 + 1 + 1) str num ps kr2 vr2 W → Calls Tryz.prog F #[resV kr2.k kr2.raw kr2.str kr2.num kr2.idx, resV vr2.k vr2.raw vr2.str vr2.num vr2.idx, .pointer (some C)] W fun e w' => e = .returned (.bool bgo) ∧ FEW s B0 B1 w0 Inv w.heap.size (w.heap.size + 1 + 1) (w.heap.size + 1 + 1 + 1) str num (ps ++ [(kr2, vr2)]) kr2 vr2 w' := fun kr2 vr2 W hn hk hW =>
     (heat ps kr2 vr2 _ W hW.inv hat hk (fun n h => by rw [han] at h; cases h; exact hn) (by have := hix.out; omega) (by have := (Array.getElem?_eq_some_iff.1 hW.bv).1; omega)).mono (fun e w' ⟨h1, h2, h3⟩ => ⟨by rw [h1, hbgo], hW.after h2 h3⟩)
    have hqn : ∀ (wx : World) (a : Option Addr) (n c n' c' : Nat), (binOp .neq 65 (.slice a n c) (.slice none n' c')).run Tryz.prog wx = .ok (.bool (!a.isNone)) wx := fun wx a n c n' c' => run_neq_slice_nil_any wx _ _ a n c n' c' Tryz.underlying65
    have hun2 : ∀ W, FEW s B0 B1 w0 Inv w.heap.size (w.heap.size + 1 + 1) (w.heap.size + 1 + 1 + 1) str num ps kr vr W → Calls Tryz.prog 61 #[.string y] W fun e w' => e = .returned (.string v) ∧ FEW s B0 B1 w0 Inv w.heap.size (w.heap.size + 1 + 1) (w.heap.size + 1 + 1 + 1) str num ps kr vr w' := fun W h => (hun W).mono (fun e w' hh => ⟨hh.1, h.below hh.2⟩)
    have hixb : (ix : Int) ≤ 65536 := by omega
    rw [h34] at hb
    have hF0 := hF
    have dk0 := (ah hF0.bk 0).trans rfl
    have fk0 := ak hF0.bk 0
    have dk1 := (ah hF0.bk 1).trans rfl
    have fk1 := ak hF0.bk 1
    have dk2 := (ah hF0.bk 2).trans rfl
    have fk2 := ak hF0.bk 2
    have dk3 := (ah hF0.bk 3).trans rfl
    have fk3 := ak hF0.bk 3
    have dk4 := (ah hF0.bk 4).trans rfl
    have fk4 := ak hF0.bk 4
    have dk5 := (ah hF0.bk 5).trans rfl
    have fk5 := ak hF0.bk 5
    have dt4 := (ah hF0.bt 4).trans rfl
    replace hF := ae.mk hF
    clear hF0 hx0 hcut hy hve hps hk hsay hl hvl hun hm hyz hxz hpb hj
    replace hQ := ae.mk hQ
    replace hq := ae.mk hq
    replace h34 := ae.mk h34
    replace hrem1 := ae.mk hrem1
    replace hrem2 := ae.mk hrem2
    replace hprd1 := ae.mk hprd1
    replace hPb := ae.mk hPb
    replace hPm1 := ae.mk hPm1
    replace hv := ae.mk hv
    replace hA := ae.mk hA
    replace hst := ae.mk hst
    replace hbgo := ae.mk hbgo
    replace hat := ae.mk hat
    replace han := ae.mk han
    cases ve with
    | false =>
      have hyv := hyp rfl
      subst hyv
      clear hyp
      go_wp2_with (first | (go_at_call 60; (with_reducible refine (hpsc _).mono ?_); rintro r w4 ⟨rfl, ⟨n4, rfl⟩⟩))
      go_loopg [6] (s.size - (q + 1)) (fun kq v6 w' => ∃ p : Nat, v6 = .int .i64 p ∧ ae (InO s B0 B1 w0 Inv w.heap.size (w.heap.size + 1 + 1) (w.heap.size + 1 + 1 + 1) str num ps ⟨kr.k, x, y, kr.num, wrap64 ((i : Int) + num)⟩ vr (q + 1) bb kq p w'))
      case atStart => exact ⟨q + 1, by first | rfl | (congr 1; omega), ⟨⟨rfl, Nat.le_refl _, hbq, (((hF.out.drewN _).yR ⟨kr.k, kr.raw, y, kr.num, kr.idx⟩ 2 _ rfl).yR ⟨kr.k, x, y, kr.num, kr.idx⟩ 1 _ rfl).yR ⟨kr.k, x, y, kr.num, wrap64 ((i : Int) + num)⟩ 4 _ rfl⟩⟩⟩
      case round =>
       obtain ⟨p, rfl, hL⟩ := hrel
       obtain ⟨hkq2, hip, hpj, hF2⟩ := hL.out
       clear hL dk0 dk1 dk2 dk3 dk4 dk5 fk0 fk1 fk2 fk3 fk4 fk5 dt4
       have hps : p < s.size := by omega
       have hbp := iR s p
       have t0 : (0 ≤ (p : Int)) = True := eq_true (by omega)
       have t1 : ((p : Int) < (s.size : Int)) = True := eq_true (by omega)
       replace hkq2 := ae.mk hkq2
       replace hF2 := ae.mk hF2
       by_cases hpe : p = bb
       ·subst hpe
        have hcj := hst.out
        generalize bt s p = c at *
        have e1 : decide (c ≤ 32) = false := decide_eq_false (by omega)
        have e2 : (c == 44) = false := beq_eq_false_iff_ne.mpr hcj.2.1
        have e3 : (c == 58) = false := beq_eq_false_iff_ne.mpr hcj.2.2.1
        replace hcj := ae.mk hcj
        have hany2 := hany ⟨kr.k, x, y, kr.num, wrap64 ((i : Int) + num)⟩
        have hclb := hcl0 ⟨kr.k, x, y, kr.num, wrap64 ((i : Int) + num)⟩
        have hnmb := ae.mk (hnm ⟨kr.k, x, y, kr.num, wrap64 ((i : Int) + num)⟩ hkrk.out rfl rfl)
        clear hany hcl0 hnm
        go_upto_region 46 with (first | (go_at_call 62; (with_reducible refine (hany2 _ ?hF).mono ?_); (case hF => repeat (with_reducible first | exact hF2.out | apply FEW.drewN | apply FEW.drew)); rintro r w6 ⟨rs, rfl, hkid, hF5⟩; have cv0 := (ah hF5.bv 0).trans rfl; have fv0 := ak hF5.bv 0; have ck0 := (ah hF5.bk 0).trans rfl; have cv1 := (ah hF5.bv 1).trans rfl; have fv1 := ak hF5.bv 1; have ck1 := (ah hF5.bk 1).trans rfl; have cv2 := (ah hF5.bv 2).trans rfl; have fv2 := ak hF5.bv 2; have ck2 := (ah hF5.bk 2).trans rfl; have cv3 := (ah hF5.bv 3).trans rfl; have fv3 := ak hF5.bv 3; have ck3 := (ah hF5.bk 3).trans rfl; have cv4 := (ah hF5.bv 4).trans rfl; have fv4 := ak hF5.bv 4; have ck4 := (ah hF5.bk 4).trans rfl; have cv5 := (ah hF5.bv 5).trans rfl; have fv5 := ak hF5.bv 5; have ck5 := (ah hF5.bk 5).trans rfl; have ct4 := (ah hF5.bt 4).trans rfl; have ct5 := (ah hF5.bt 5).trans rfl; replace hF5 := ae.mk hF5; replace hkid := ae.mk hkid))
        have hF6 := hF5.out.Fh rs (wrap64 ((p : Int) + num))
        generalize (((((((w6.setCell ⟨w.heap.size + 1 + 1 + 1, 0, none⟩ (.int .i64 rs.k)).setCell ⟨w.heap.size + 1 + 1 + 1, 1, none⟩ (.string rs.raw)).setCell ⟨w.heap.size + 1 + 1 + 1, 2, none⟩ (.string rs.str)).setCell ⟨w.heap.size + 1 + 1 + 1, 3, none⟩ (.float .f64 rs.num)).setCell ⟨w.heap.size + 1 + 1 + 1, 4, none⟩ (.int .i64 rs.idx)).setCell ⟨w.heap.size + 1 + 1 + 1, 5, none⟩ (.slice none 0 0)).setCell ⟨w.heap.size + 1 + 1 + 1, 4, none⟩ (.int .i64 (wrap64 ((p : Int) + num)))) = W6 at hF6 ⊢
        clear cv0 cv1 cv2 cv3 cv4 cv5 ck0 ck1 ck2 ck3 ck4 ck5 fv0 fv1 fv2 fv3 fv4 fv5 ct4 ct5
        have cv0 := (ah hF6.bv 0).trans rfl
        have ck0 := (ah hF6.bk 0).trans rfl
        have cv1 := (ah hF6.bv 1).trans rfl
        have ck1 := (ah hF6.bk 1).trans rfl
        have cv2 := (ah hF6.bv 2).trans rfl
        have ck2 := (ah hF6.bk 2).trans rfl
        have cv3 := (ah hF6.bv 3).trans rfl
        have ck3 := (ah hF6.bk 3).trans rfl
        have cv4 := (ah hF6.bv 4).trans rfl
        have ck4 := (ah hF6.bk 4).trans rfl
        have cv5 := (ah hF6.bv 5).trans rfl
        have ck5 := (ah hF6.bk 5).trans rfl
        have hcl : Calls Tryz.prog F #[.agg #[.int .i64 kr.k, .string x, .string y, .float .f64 kr.num, .int .i64 (wrap64 ((i : Int) + num)), .slice none 0 0], .agg #[.int .i64 rs.k, .string rs.raw, .string rs.str, .float .f64 rs.num, .int .i64 (wrap64 ((p : Int) + num)), .slice none 0 0], .pointer (some C)] W6 fun e w' => e = .returned (.bool bgo) ∧ FEW s B0 B1 w0 Inv w.heap.size (w.heap.size + 1 + 1) (w.heap.size + 1 + 1 + 1) str num (ps ++ [(⟨kr.k, x, y, kr.num, wrap64 ((i : Int) + num)⟩, { rs with idx := wrap64 ((p : Int) + num) })]) ⟨kr.k, x, y, kr.num, wrap64 ((i : Int) + num)⟩ { rs with idx := wrap64 ((p : Int) + num) } w' := hclb { rs with idx := wrap64 ((p : Int) + num) } W6 hnmb.out (hkid.out.idx _) hF6
        replace hF6 := ae.mk hF6
        have hkid2 := ae.mk (hkid.out.idx (wrap64 ((p : Int) + num)))
        clear hclb hany2
        cases bgo with
        | false =>
          go_wp2_with (fail)
          refine hcl.mono ?_
          rintro r w7 ⟨rfl, hF7⟩
          replace hF7 := ae.mk hF7
          go_wp2_with (fail)
          refine bodyPost_ret (results_none rfl _ _ _) rfl ?_
          have hst2 : ((ps.length + 1 : Nat) : Int) = stop := by have h := hbgo.out; simpa using h
          have hln := hok.out.length
          have hln2 := hnok.out.length
          obtain ⟨htk, hle⟩ := lQ hall.out
          obtain ⟨htk2, _⟩ := lQ hnall.out
          refine ⟨rfl, ps ++ [(⟨kr.k, x, y, kr.num, wrap64 ((i : Int) + num)⟩, { rs with idx := wrap64 ((p : Int) + num) })], hF7.out.inv, ?_, ?_, ?_, .inr ?_, fun j h1 h2 => ?_⟩
          ·rw [List.length_append, List.length_singleton, ← hln, htk]; exact iw.snoc hkid2.out hok.out
          ·rw [List.length_append, List.length_singleton, ← hln2, htk2]; exact iC.snoc hnmb.out hnok.out
          ·rw [List.length_append, List.length_singleton, ← hln]; exact hle
          ·rw [List.length_append, List.length_singleton]; exact ⟨hst2, by omega⟩
          ·rw [List.length_append, List.length_singleton] at h2; exact hgo.out j h1 (by omega)
        | true =>
          go_wp2_with (fail)
          refine hcl.mono ?_
          rintro r w7 ⟨rfl, hF7⟩
          replace hF7 := ae.mk hF7
          go_wp2_with (fail)
          have hst2 : ((ps.length + 1 : Nat) : Int) ≠ stop := by have h := hbgo.out; simpa using h
          go_roundg (s.size - (m + 1))
          case measure => have := hkq.out; omega
          case rel => exact ⟨m + 1, ix + 1, by first | rfl | (congr 1; omega), by first | rfl | (congr 1; omega), ⟨ps ++ [(⟨kr.k, x, y, kr.num, wrap64 ((i : Int) + num)⟩, { rs with idx := wrap64 ((p : Int) + num) })], ndone ++ [⟨(i : Nat), (q + 1 : Nat)⟩], nl, kdone ++ [⟨kd, (p : Nat), (m : Nat), ns1, ks1⟩], l, ⟨kr.k, x, y, kr.num, wrap64 ((i : Int) + num)⟩, { rs with idx := wrap64 ((p : Int) + num) },
           ⟨rfl, by rw [List.append_assoc]; exact hnall.out, by rw [List.append_assoc]; exact hall.out, iC.snoc hnmb.out hnok.out, iw.snoc hkid2.out hok.out, by rw [List.length_append, List.length_singleton, hix.out], by omega, hrem2.out, fun _ => hPm1.out, hF7.out, hkrk.out, fun j h1 h2 => by
            rw [List.length_append, List.length_singleton] at h2
            by_cases hje : j = ps.length + 1
            ·rw [hje]; exact hst2
            ·exact hgo.out j h1 (by omega)⟩⟩⟩
       ·have hg := hsp.all p hip (by omega)
        have hg2 := nO hg
        generalize bt s p = c at *
        replace hg := ae.mk hg
        rcases hg2 with hle | ⟨hle, he⟩ | ⟨hle, he⟩
        ·have e1 : decide (c ≤ 32) = true := decide_eq_true hle
         go_wp2
         go_roundg (s.size - (p + 1))
         case measure => have := hkq2.out; omega
         case rel => exact ⟨p + 1, by first | rfl | (congr 1; omega), ⟨⟨rfl, by omega, by omega, by repeat (with_reducible first | exact hF2.out | apply FEW.drewN | apply FEW.drew)⟩⟩⟩
        ·subst he
         go_wp2
         go_roundg (s.size - (p + 1))
         case measure => have := hkq2.out; omega
         case rel => exact ⟨p + 1, by first | rfl | (congr 1; omega), ⟨⟨rfl, by omega, by omega, by repeat (with_reducible first | exact hF2.out | apply FEW.drewN | apply FEW.drew)⟩⟩⟩
        ·subst he
         go_wp2
         go_roundg (s.size - (p + 1))
         case measure => have := hkq2.out; omega
         case rel => exact ⟨p + 1, by first | rfl | (congr 1; omega), ⟨⟨rfl, by omega, by omega, by repeat (with_reducible first | exact hF2.out | apply FEW.drewN | apply FEW.drew)⟩⟩⟩
    | true =>
      clear hyp
      go_wp2_with (first | (go_at_call 60; (with_reducible refine (hpsc _).mono ?_); rintro r w4 ⟨rfl, ⟨n4, rfl⟩⟩) | (go_at_call 61; (with_reducible refine (hun2 _ ?hF).mono ?_); (case hF => repeat (with_reducible first | exact hF.out | apply FEW.drewN | apply FEW.drew)); rintro r w5 ⟨rfl, hF5⟩; have dk0 := (ah hF5.bk 0).trans rfl; have fk0 := ak hF5.bk 0; have dk1 := (ah hF5.bk 1).trans rfl; have fk1 := ak hF5.bk 1; have dk2 := (ah hF5.bk 2).trans rfl; have fk2 := ak hF5.bk 2; have dk3 := (ah hF5.bk 3).trans rfl; have fk3 := ak hF5.bk 3; have dk4 := (ah hF5.bk 4).trans rfl; have fk4 := ak hF5.bk 4; have dk5 := (ah hF5.bk 5).trans rfl; have fk5 := ak hF5.bk 5; have dt4 := (ah hF5.bt 4).trans rfl; replace hF5 := ae.mk hF5))
      go_loopg [6] (s.size - (q + 1)) (fun kq v6 w' => ∃ p : Nat, v6 = .int .i64 p ∧ ae (InO s B0 B1 w0 Inv w.heap.size (w.heap.size + 1 + 1) (w.heap.size + 1 + 1 + 1) str num ps ⟨kr.k, x, v, kr.num, wrap64 ((i : Int) + num)⟩ vr (q + 1) bb kq p w'))
      case atStart => exact ⟨q + 1, by first | rfl | (congr 1; omega), ⟨⟨rfl, Nat.le_refl _, hbq, ((hF5.out.yR ⟨kr.k, kr.raw, v, kr.num, kr.idx⟩ 2 _ rfl).yR ⟨kr.k, x, v, kr.num, kr.idx⟩ 1 _ rfl).yR ⟨kr.k, x, v, kr.num, wrap64 ((i : Int) + num)⟩ 4 _ rfl⟩⟩⟩
      case round =>
       obtain ⟨p, rfl, hL⟩ := hrel
       obtain ⟨hkq2, hip, hpj, hF2⟩ := hL.out
       clear hL dk0 dk1 dk2 dk3 dk4 dk5 fk0 fk1 fk2 fk3 fk4 fk5 dt4
       have hps : p < s.size := by omega
       have hbp := iR s p
       have t0 : (0 ≤ (p : Int)) = True := eq_true (by omega)
       have t1 : ((p : Int) < (s.size : Int)) = True := eq_true (by omega)
       replace hkq2 := ae.mk hkq2
       replace hF2 := ae.mk hF2
       by_cases hpe : p = bb
       ·subst hpe
        have hcj := hst.out
        generalize bt s p = c at *
        have e1 : decide (c ≤ 32) = false := decide_eq_false (by omega)
        have e2 : (c == 44) = false := beq_eq_false_iff_ne.mpr hcj.2.1
        have e3 : (c == 58) = false := beq_eq_false_iff_ne.mpr hcj.2.2.1
        replace hcj := ae.mk hcj
        have hany2 := hany ⟨kr.k, x, v, kr.num, wrap64 ((i : Int) + num)⟩
        have hclb := hcl0 ⟨kr.k, x, v, kr.num, wrap64 ((i : Int) + num)⟩
        have hnmb := ae.mk (hnm ⟨kr.k, x, v, kr.num, wrap64 ((i : Int) + num)⟩ hkrk.out rfl rfl)
        clear hany hcl0 hnm
        go_upto_region 46 with (first | (go_at_call 62; (with_reducible refine (hany2 _ ?hF).mono ?_); (case hF => repeat (with_reducible first | exact hF2.out | apply FEW.drewN | apply FEW.drew)); rintro r w6 ⟨rs, rfl, hkid, hF5⟩; have cv0 := (ah hF5.bv 0).trans rfl; have fv0 := ak hF5.bv 0; have ck0 := (ah hF5.bk 0).trans rfl; have cv1 := (ah hF5.bv 1).trans rfl; have fv1 := ak hF5.bv 1; have ck1 := (ah hF5.bk 1).trans rfl; have cv2 := (ah hF5.bv 2).trans rfl; have fv2 := ak hF5.bv 2; have ck2 := (ah hF5.bk 2).trans rfl; have cv3 := (ah hF5.bv 3).trans rfl; have fv3 := ak hF5.bv 3; have ck3 := (ah hF5.bk 3).trans rfl; have cv4 := (ah hF5.bv 4).trans rfl; have fv4 := ak hF5.bv 4; have ck4 := (ah hF5.bk 4).trans rfl; have cv5 := (ah hF5.bv 5).trans rfl; have fv5 := ak hF5.bv 5; have ck5 := (ah hF5.bk 5).trans rfl; have ct4 := (ah hF5.bt 4).trans rfl; have ct5 := (ah hF5.bt 5).trans rfl; replace hF5 := ae.mk hF5; replace hkid := ae.mk hkid))
        have hF6 := hF5.out.Fh rs (wrap64 ((p : Int) + num))
        generalize (((((((w6.setCell ⟨w.heap.size + 1 + 1 + 1, 0, none⟩ (.int .i64 rs.k)).setCell ⟨w.heap.size + 1 + 1 + 1, 1, none⟩ (.string rs.raw)).setCell ⟨w.heap.size + 1 + 1 + 1, 2, none⟩ (.string rs.str)).setCell ⟨w.heap.size + 1 + 1 + 1, 3, none⟩ (.float .f64 rs.num)).setCell ⟨w.heap.size + 1 + 1 + 1, 4, none⟩ (.int .i64 rs.idx)).setCell ⟨w.heap.size + 1 + 1 + 1, 5, none⟩ (.slice none 0 0)).setCell ⟨w.heap.size + 1 + 1 + 1, 4, none⟩ (.int .i64 (wrap64 ((p : Int) + num)))) = W6 at hF6 ⊢
        clear cv0 cv1 cv2 cv3 cv4 cv5 ck0 ck1 ck2 ck3 ck4 ck5 fv0 fv1 fv2 fv3 fv4 fv5 ct4 ct5
        have cv0 := (ah hF6.bv 0).trans rfl
        have ck0 := (ah hF6.bk 0).trans rfl
        have cv1 := (ah hF6.bv 1).trans rfl
        have ck1 := (ah hF6.bk 1).trans rfl
        have cv2 := (ah hF6.bv 2).trans rfl
        have ck2 := (ah hF6.bk 2).trans rfl
        have cv3 := (ah hF6.bv 3).trans rfl
        have ck3 := (ah hF6.bk 3).trans rfl
        have cv4 := (ah hF6.bv 4).trans rfl
        have ck4 := (ah hF6.bk 4).trans rfl
        have cv5 := (ah hF6.bv 5).trans rfl
        have ck5 := (ah hF6.bk 5).trans rfl
        have hcl : Calls Tryz.prog F #[.agg #[.int .i64 kr.k, .string x, .string v, .float .f64 kr.num, .int .i64 (wrap64 ((i : Int) + num)), .slice none 0 0], .agg #[.int .i64 rs.k, .string rs.raw, .string rs.str, .float .f64 rs.num, .int .i64 (wrap64 ((p : Int) + num)), .slice none 0 0], .pointer (some C)] W6 fun e w' => e = .returned (.bool bgo) ∧ FEW s B0 B1 w0 Inv w.heap.size (w.heap.size + 1 + 1) (w.heap.size + 1 + 1 + 1) str num (ps ++ [(⟨kr.k, x, v, kr.num, wrap64 ((i : Int) + num)⟩, { rs with idx := wrap64 ((p : Int) + num) })]) ⟨kr.k, x, v, kr.num, wrap64 ((i : Int) + num)⟩ { rs with idx := wrap64 ((p : Int) + num) } w' := hclb { rs with idx := wrap64 ((p : Int) + num) } W6 hnmb.out (hkid.out.idx _) hF6
        replace hF6 := ae.mk hF6
        have hkid2 := ae.mk (hkid.out.idx (wrap64 ((p : Int) + num)))
        clear hclb hany2
        cases bgo with
        | false =>
          go_wp2_with (fail)
          refine hcl.mono ?_
          rintro r w7 ⟨rfl, hF7⟩
          replace hF7 := ae.mk hF7
          go_wp2_with (fail)
          refine bodyPost_ret (results_none rfl _ _ _) rfl ?_
          have hst2 : ((ps.length + 1 : Nat) : Int) = stop := by have h := hbgo.out; simpa using h
          have hln := hok.out.length
          have hln2 := hnok.out.length
          obtain ⟨htk, hle⟩ := lQ hall.out
          obtain ⟨htk2, _⟩ := lQ hnall.out
          refine ⟨rfl, ps ++ [(⟨kr.k, x, v, kr.num, wrap64 ((i : Int) + num)⟩, { rs with idx := wrap64 ((p : Int) + num) })], hF7.out.inv, ?_, ?_, ?_, .inr ?_, fun j h1 h2 => ?_⟩
          ·rw [List.length_append, List.length_singleton, ← hln, htk]; exact iw.snoc hkid2.out hok.out
          ·rw [List.length_append, List.length_singleton, ← hln2, htk2]; exact iC.snoc hnmb.out hnok.out
          ·rw [List.length_append, List.length_singleton, ← hln]; exact hle
          ·rw [List.length_append, List.length_singleton]; exact ⟨hst2, by omega⟩
          ·rw [List.length_append, List.length_singleton] at h2; exact hgo.out j h1 (by omega)
        | true =>
          go_wp2_with (fail)
          refine hcl.mono ?_
          rintro r w7 ⟨rfl, hF7⟩
          replace hF7 := ae.mk hF7
          go_wp2_with (fail)
          have hst2 : ((ps.length + 1 : Nat) : Int) ≠ stop := by have h := hbgo.out; simpa using h
          go_roundg (s.size - (m + 1))
          case measure => have := hkq.out; omega
          case rel => exact ⟨m + 1, ix + 1, by first | rfl | (congr 1; omega), by first | rfl | (congr 1; omega), ⟨ps ++ [(⟨kr.k, x, v, kr.num, wrap64 ((i : Int) + num)⟩, { rs with idx := wrap64 ((p : Int) + num) })], ndone ++ [⟨(i : Nat), (q + 1 : Nat)⟩], nl, kdone ++ [⟨kd, (p : Nat), (m : Nat), ns1, ks1⟩], l, ⟨kr.k, x, v, kr.num, wrap64 ((i : Int) + num)⟩, { rs with idx := wrap64 ((p : Int) + num) },
           ⟨rfl, by rw [List.append_assoc]; exact hnall.out, by rw [List.append_assoc]; exact hall.out, iC.snoc hnmb.out hnok.out, iw.snoc hkid2.out hok.out, by rw [List.length_append, List.length_singleton, hix.out], by omega, hrem2.out, fun _ => hPm1.out, hF7.out, hkrk.out, fun j h1 h2 => by
            rw [List.length_append, List.length_singleton] at h2
            by_cases hje : j = ps.length + 1
            ·rw [hje]; exact hst2
            ·exact hgo.out j h1 (by omega)⟩⟩⟩
       ·have hg := hsp.all p hip (by omega)
        have hg2 := nO hg
        generalize bt s p = c at *
        replace hg := ae.mk hg
        rcases hg2 with hle | ⟨hle, he⟩ | ⟨hle, he⟩
        ·have e1 : decide (c ≤ 32) = true := decide_eq_true hle
         go_wp2
         go_roundg (s.size - (p + 1))
         case measure => have := hkq2.out; omega
         case rel => exact ⟨p + 1, by first | rfl | (congr 1; omega), ⟨⟨rfl, by omega, by omega, by repeat (with_reducible first | exact hF2.out | apply FEW.drewN | apply FEW.drew)⟩⟩⟩
        ·subst he
         go_wp2
         go_roundg (s.size - (p + 1))
         case measure => have := hkq2.out; omega
         case rel => exact ⟨p + 1, by first | rfl | (congr 1; omega), ⟨⟨rfl, by omega, by omega, by repeat (with_reducible first | exact hF2.out | apply FEW.drewN | apply FEW.drew)⟩⟩⟩
        ·subst he
         go_wp2
         go_roundg (s.size - (p + 1))
         case measure => have := hkq2.out; omega
         case rel => exact ⟨p + 1, by first | rfl | (congr 1; omega), ⟨⟨rfl, by omega, by omega, by repeat (with_reducible first | exact hF2.out | apply FEW.drewN | apply FEW.drew)⟩⟩⟩
   ·obtain ⟨hrem2, h92⟩ := Ag hrem1 hi h34
    have hP2 : Prd s (i + 1) := Prd.plain hs hprd1 hi h92
    generalize bt s i = c at *
    have e34 : (c != 34) = true := bne_iff_ne.mpr h34
    replace hF := ae.mk hF
    replace hrem1 := ae.mk hrem1
    replace hrem2 := ae.mk hrem2
    replace hprd1 := ae.mk hprd1
    replace hP2 := ae.mk hP2
    go_wp2
    go_roundg (s.size - (i + 1))
    case measure => have := hkq.out; omega
    case rel => exact ⟨i + 1, ix, by first | rfl | (congr 1; omega), rfl, ⟨ps, ndone, nrest, kdone, rest, kr, vr, ⟨rfl, hnall.out, hall.out, hnok.out, hok.out, hix.out, by omega, hrem2.out, fun _ => hP2.out, hF.out, hkrk.out, hgo.out⟩⟩⟩
  ·have hr : rest = [] ∧ nrest = [] := by
    rcases hrem1 with ⟨j, hsp, hj⟩ | ⟨h, h', _⟩
    ·have := hj.bound; have := hsp.le; omega
    ·exact ⟨h', h⟩
   obtain ⟨rfl, rfl⟩ := hr
   rw [List.append_nil] at hall hnall
   subst hall
   subst hnall
   have hlen := hok.length
   have hlen2 := hnok.length
   go_wp2
   go_end0
   exact ⟨rfl, ps, hF.inv, by rw [← hlen, List.take_length]; exact hok, by rw [← hlen2, List.take_length]; exact hnok, by omega, .inl hlen.symm, fun j h1 h2 => hgo j h1 (by omega)⟩
end Go.Proofs.YtpgfjbimodnkeaaGreatDoor.Dec
namespace Go.Proofs.YtpgfjbimodnkeaaGreatDoor.Q
open Go.RowKit Go.Proofs.YtpgfjbimodnkeaaGreatDoorW.PrintWords Go.Proofs.YtpgfjbimodnkeaaGreatDoorW.PrintLast Go.Proofs.YtpgfjbimodnkeaaGreatDoorW.PrintMore
attribute [local go_sem] dH dI dW dY dm dw dK dL
mutual
def aH.j2 : Nat → ByteArray → Int → Int → Int → Int → Option (Int × Int × Bool)
 | 0, _, _, _, _, _ => none
 | k + 1, x0, x1, x7, x8, x9 => if (wrap64 ((x0.size : Int) - x1)) ≤ x8 then (some (65533, 1, false)) else (aH.l0 k x0 x1 x7 x8 x9 1)
def aH.l0 : Nat → ByteArray → Int → Int → Int → Int → Int → Option (Int × Int × Bool)
 | 0, _, _, _, _, _, _ => none
 | k + 1, x0, x1, x7, x8, x9, x10 => if x10 ≤ x8 then (if 0 ≤ (wrap64 (x1 + x10)) then (if (wrap64 (x1 + x10)) < (x0.size : Int) then (if (wrap64 (bt x0 (wrap64 (x1 + x10)))) < 128 then (some (65533, 1, false)) else (if (wrap64 (bt x0 (wrap64 (x1 + x10)))) > 191 then (some (65533, 1, false)) else (aH.l0 k x0 x1 (wrap64 ((wrap64 ((wrap64 (x7 * 64)) + (wrap64 (bt x0 (wrap64 (x1 + x10)))))) - 128)) x8 x9 (wrap64 (x10 + 1))))) else (none)) else (none)) else (if x7 < x9 then (some (65533, 1, false)) else (if x7 > 1114111 then (some (65533, 1, false)) else ((dQ.f x7).bind fun t101 => (if t101 = true then (some (65533, 1, false)) else ((dF.f x7).bind fun t102 => (if t102 = true then (some (65533, 1, false)) else (some (x7, wrap64 (x8 + 1), true))))))))
def aH.j0 : Nat → ByteArray → Int → Int → Bool → Option (Int × Int × Bool)
 | 0, _, _, _, _ => none
 | k + 1, x0, x1, x7, x20 => if x20 = true then (aH.j2 k x0 x1 (wrap64 (x7 - 192)) 1 128) else (if 224 ≤ x7 then (aH.j1 k x0 x1 x7 (decide (x7 ≤ 239))) else (aH.j1 k x0 x1 x7 false))
def aH.j1 : Nat → ByteArray → Int → Int → Bool → Option (Int × Int × Bool)
 | 0, _, _, _, _ => none
 | k + 1, x0, x1, x7, x29 => if x29 = true then (aH.j2 k x0 x1 (wrap64 (x7 - 224)) 2 2048) else (if 240 ≤ x7 then (if x7 ≤ 244 then (aH.j2 k x0 x1 (wrap64 (x7 - 240)) 3 65536) else (some (65533, 1, false))) else (some (65533, 1, false)))
end
def aH.f (k : Nat) (a0 : ByteArray) (a1 : Int) : Option (Int × Int × Bool) := if 0 ≤ a1 then (if a1 < (a0.size : Int) then (if (wrap64 (bt a0 a1)) < 128 then (some (wrap64 (bt a0 a1), 1, true)) else (if 194 ≤ (wrap64 (bt a0 a1)) then (aH.j0 k a0 a1 (wrap64 (bt a0 a1)) (decide ((wrap64 (bt a0 a1)) ≤ 223))) else (aH.j0 k a0 a1 (wrap64 (bt a0 a1)) false))) else (none)) else (none)
theorem aH.calls (k : Nat) (a0 : ByteArray) (a1 : Int) (r1 : Int) (r2 : Int) (r3 : Bool) (w : World) (h : aH.f k a0 a1 = some (r1, r2, r3)) :
 Calls Tryz.prog 48 #[.string a0, .int .i64 a1] w fun e w' => e = .returned (.tuple #[.int .i64 r1, .int .i64 r2, .bool r3]) ∧ aj w w' := by
 have H : (if 0 ≤ a1 then (if a1 < (a0.size : Int) then (if (wrap64 (bt a0 a1)) < 128 then (some (wrap64 (bt a0 a1), 1, true)) else (if 194 ≤ (wrap64 (bt a0 a1)) then (aH.j0 k a0 a1 (wrap64 (bt a0 a1)) (decide ((wrap64 (bt a0 a1)) ≤ 223))) else (aH.j0 k a0 a1 (wrap64 (bt a0 a1)) false))) else (none)) else (none)) = some (r1, r2, r3) := h
 clear h
 by_cases c3 : 0 ≤ a1
 ·rw [if_pos c3] at H
  have c3b0 : decide (0 ≤ a1) = true := decide_eq_true c3
  clear c3
  by_cases c4 : a1 < (a0.size : Int)
  ·rw [if_pos c4] at H
   have c4b0 : decide (a1 < (a0.size : Int)) = true := decide_eq_true c4
   clear c4
   have HC6 := ae.mk H
   clear H
   have p5 : 0 ≤ (a1 : Int) := of_decide_eq_true (by first | (with_reducible assumption) | assumption)
   have q5 : a1 < (a0.size : Int) := of_decide_eq_true (by first | (with_reducible assumption) | assumption)
   have hx5 := bU a0 a1
   replace p5 := eq_true p5
   replace q5 := eq_true q5
   go_enter Tryz.func48, Tryz.ntmps48
   go_upto_block 0 with (fail)
   go_cut [7, 8, 9] (fun v7 v8 v9 wc => ∃ (kq : Nat) (x7_5 : Int) (x8_5 : Int) (x9_5 : Int), v7 = .int .i64 x7_5 ∧ v8 = .int .i64 x8_5 ∧ v9 = .int .i64 x9_5 ∧ ae (aH.j2 kq a0 a1 x7_5 x8_5 x9_5 = some (r1, r2, r3)) ∧ ae (kq ≤ k) ∧ aj w wc)
   case first =>
    have H := HC6.out
    clear HC6
    by_cases c7 : (wrap64 (bt a0 a1)) < 128
    ·rw [if_pos c7] at H
     have c7b0 : decide ((wrap64 (bt a0 a1)) < 128) = true := decide_eq_true c7
     clear c7
     (first | rw [c7b0] | (simp only [cZ, dD]; rw [c7b0]) | skip)
     simp only [Option.some.injEq, Prod.mk.injEq] at H
     obtain ⟨rfl, rfl, rfl⟩ := H
     go_wp2
     go_ret3
     exact ⟨by first | rfl | (simp; done) | (simp [*]; done), by repeat (first | exact aj.refl _ | apply aj.step)⟩
    ·rw [if_neg c7] at H
     have c7b0 : decide ((wrap64 (bt a0 a1)) < 128) = false := decide_eq_false c7
     clear c7
     (first | rw [c7b0] | (simp only [cZ, dD]; rw [c7b0]) | skip)
     have HC8 := ae.mk H
     clear H
     go_upto_region 6 with (fail)
     go_cut [20] (fun v20 wc => ∃ (kq : Nat) (x20_7 : Bool), v20 = .bool x20_7 ∧ ae (aH.j0 kq a0 a1 (wrap64 (bt a0 a1)) x20_7 = some (r1, r2, r3)) ∧ ae (kq ≤ k) ∧ aj w wc)
     case first =>
      have H := HC8.out
      clear HC8
      by_cases c9 : 194 ≤ (wrap64 (bt a0 a1))
      ·rw [if_pos c9] at H
       have c9b0 : decide (194 ≤ (wrap64 (bt a0 a1))) = true := decide_eq_true c9
       clear c9
       (first | rw [c9b0] | (simp only [cZ, dD]; rw [c9b0]) | skip)
       have H' := ae.mk H
       clear H
       go_wp2
       go_meet
       case rel => exact ⟨_, (decide ((wrap64 (bt a0 a1)) ≤ 223)), (by first | rfl | (simp; done) | (simp [*]; done)), H', ⟨by first | omega | exact Nat.le_refl _⟩, by repeat (first | exact aj.refl _ | apply aj.step)⟩
      ·rw [if_neg c9] at H
       have c9b0 : decide (194 ≤ (wrap64 (bt a0 a1))) = false := decide_eq_false c9
       clear c9
       (first | rw [c9b0] | (simp only [cZ, dD]; rw [c9b0]) | skip)
       have H' := ae.mk H
       clear H
       go_wp2
       go_meet
       case rel => exact ⟨_, (false), (by first | rfl | (simp; done) | (simp [*]; done)), H', ⟨by first | omega | exact Nat.le_refl _⟩, by repeat (first | exact aj.refl _ | apply aj.step)⟩
     case rest =>
      clear HC8
      try clear p2
      try clear c3
      try clear c3b0
      try clear c4
      try clear c4b0
      try clear p5
      try clear q5
      try clear hx5
      try clear p6
      try clear c7
      try clear c7b0
      try clear c9
      try clear c9b0
      try clear p5
      try clear q5
      obtain ⟨kq, x20_7, rfl, HA, HJ7, ⟨mc7, rfl⟩⟩ := hcut
      cases kq with
      | zero => exact absurd HA.out (by simp [aH.j0])
      | succ kj7 =>
        have H := HA.out
        clear HA
        simp only [aH.j0] at H
        by_cases c10 : x20_7 = true
        ·subst c10
         have H1 : (aH.j2 kj7 a0 a1 (wrap64 ((wrap64 (bt a0 a1)) - 192)) 1 128) = some (r1, r2, r3) := by rw [if_pos rfl] at H; exact H
         clear H
         have H := H1
         clear H1
         have H' := ae.mk H
         clear H
         go_wp2
         go_meet
         case rel => exact ⟨_, (wrap64 ((wrap64 (bt a0 a1)) - 192)), (1), (128), (by first | rfl | (simp; done) | (simp [*]; done)), (by first | rfl | (simp; done) | (simp [*]; done)), (by first | rfl | (simp; done) | (simp [*]; done)), H', ⟨by have := HJ7.out; first | omega | exact Nat.le_refl _⟩, by repeat (first | exact aj.refl _ | apply aj.step)⟩
        ·replace c10 := Bool.eq_false_iff.mpr c10
         subst c10
         have H1 : (if 224 ≤ (wrap64 (bt a0 a1)) then (aH.j1 kj7 a0 a1 (wrap64 (bt a0 a1)) (decide ((wrap64 (bt a0 a1)) ≤ 239))) else (aH.j1 kj7 a0 a1 (wrap64 (bt a0 a1)) false)) = some (r1, r2, r3) := by rw [if_neg (show ¬ (false = true) by decide)] at H; exact H
         clear H
         have H := H1
         clear H1
         have HC11 := ae.mk H
         clear H
         go_upto_region 8 with (fail)
         go_cut [29] (fun v29 wc => ∃ (kq : Nat) (x29_10 : Bool), v29 = .bool x29_10 ∧ ae (aH.j1 kq a0 a1 (wrap64 (bt a0 a1)) x29_10 = some (r1, r2, r3)) ∧ ae (kq ≤ kj7) ∧ aj w wc)
         case first =>
          have H := HC11.out
          clear HC11
          by_cases c12 : 224 ≤ (wrap64 (bt a0 a1))
          ·rw [if_pos c12] at H
           have c12b0 : decide (224 ≤ (wrap64 (bt a0 a1))) = true := decide_eq_true c12
           clear c12
           (first | rw [c12b0] | (simp only [cZ, dD]; rw [c12b0]) | skip)
           have H' := ae.mk H
           clear H
           go_wp2
           go_meet
           case rel => exact ⟨_, (decide ((wrap64 (bt a0 a1)) ≤ 239)), (by first | rfl | (simp; done) | (simp [*]; done)), H', ⟨by have := HJ7.out; first | omega | exact Nat.le_refl _⟩, by repeat (first | exact aj.refl _ | apply aj.step)⟩
          ·rw [if_neg c12] at H
           have c12b0 : decide (224 ≤ (wrap64 (bt a0 a1))) = false := decide_eq_false c12
           clear c12
           (first | rw [c12b0] | (simp only [cZ, dD]; rw [c12b0]) | skip)
           have H' := ae.mk H
           clear H
           go_wp2
           go_meet
           case rel => exact ⟨_, (false), (by first | rfl | (simp; done) | (simp [*]; done)), H', ⟨by have := HJ7.out; first | omega | exact Nat.le_refl _⟩, by repeat (first | exact aj.refl _ | apply aj.step)⟩
         case rest =>
          clear HC11
          try clear c1
          try clear p2
          try clear c3
          try clear c3b0
          try clear c4
          try clear c4b0
          try clear p5
          try clear q5
          try clear hx5
          try clear p6
          try clear c7
          try clear c7b0
          try clear c9
          try clear c9b0
          try clear c10
          try clear c12
          try clear c12b0
          try clear p2
          try clear p5
          try clear p6
          try clear q5
          obtain ⟨kq, x29_10, rfl, HA, HJ10, ⟨mc10, rfl⟩⟩ := hcut
          cases kq with
          | zero => exact absurd HA.out (by simp [aH.j1])
          | succ kj10 =>
            have H := HA.out
            clear HA
            simp only [aH.j1] at H
            by_cases c13 : x29_10 = true
            ·subst c13
             have H1 : (aH.j2 kj10 a0 a1 (wrap64 ((wrap64 (bt a0 a1)) - 224)) 2 2048) = some (r1, r2, r3) := by rw [if_pos rfl] at H; exact H
             clear H
             have H := H1
             clear H1
             have H' := ae.mk H
             clear H
             go_wp2
             go_meet
             case rel => exact ⟨_, (wrap64 ((wrap64 (bt a0 a1)) - 224)), (2), (2048), (by first | rfl | (simp; done) | (simp [*]; done)), (by first | rfl | (simp; done) | (simp [*]; done)), (by first | rfl | (simp; done) | (simp [*]; done)), H', ⟨by have := HJ7.out; have := HJ10.out; first | omega | exact Nat.le_refl _⟩, by repeat (first | exact aj.refl _ | apply aj.step)⟩
            ·replace c13 := Bool.eq_false_iff.mpr c13
             subst c13
             have H1 : (if 240 ≤ (wrap64 (bt a0 a1)) then (if (wrap64 (bt a0 a1)) ≤ 244 then (aH.j2 kj10 a0 a1 (wrap64 ((wrap64 (bt a0 a1)) - 240)) 3 65536) else (some (65533, 1, false))) else (some (65533, 1, false))) = some (r1, r2, r3) := by rw [if_neg (show ¬ (false = true) by decide)] at H; exact H
             clear H
             have H := H1
             clear H1
             by_cases c14 : 240 ≤ (wrap64 (bt a0 a1))
             ·rw [if_pos c14] at H
              have c14b0 : decide (240 ≤ (wrap64 (bt a0 a1))) = true := decide_eq_true c14
              clear c14
              by_cases c15 : (wrap64 (bt a0 a1)) ≤ 244
              ·rw [if_pos c15] at H
               have c15b0 : decide ((wrap64 (bt a0 a1)) ≤ 244) = true := decide_eq_true c15
               clear c15
               have H' := ae.mk H
               clear H
               go_wp2
               go_meet
               case rel => exact ⟨_, (wrap64 ((wrap64 (bt a0 a1)) - 240)), (3), (65536), (by first | rfl | (simp; done) | (simp [*]; done)), (by first | rfl | (simp; done) | (simp [*]; done)), (by first | rfl | (simp; done) | (simp [*]; done)), H', ⟨by have := HJ7.out; have := HJ10.out; first | omega | exact Nat.le_refl _⟩, by repeat (first | exact aj.refl _ | apply aj.step)⟩
              ·rw [if_neg c15] at H
               have c15b0 : decide ((wrap64 (bt a0 a1)) ≤ 244) = false := decide_eq_false c15
               clear c15
               simp only [Option.some.injEq, Prod.mk.injEq] at H
               obtain ⟨rfl, rfl, rfl⟩ := H
               go_wp2
               go_ret3
               exact ⟨by first | rfl | (simp; done) | (simp [*]; done), by repeat (first | exact aj.refl _ | apply aj.step)⟩
             ·rw [if_neg c14] at H
              have c14b0 : decide (240 ≤ (wrap64 (bt a0 a1))) = false := decide_eq_false c14
              clear c14
              simp only [Option.some.injEq, Prod.mk.injEq] at H
              obtain ⟨rfl, rfl, rfl⟩ := H
              go_wp2
              go_ret3
              exact ⟨by first | rfl | (simp; done) | (simp [*]; done), by repeat (first | exact aj.refl _ | apply aj.step)⟩
   case rest =>
    clear HC6
    try clear c1
    try clear p2
    try clear c3
    try clear c3b0
    try clear c4
    try clear c4b0
    try clear p5
    try clear q5
    try clear hx5
    try clear p6
    try clear c7
    try clear c7b0
    try clear c9
    try clear c9b0
    try clear c10
    try clear c12
    try clear c12b0
    try clear c13
    try clear c14
    try clear c14b0
    try clear c15
    try clear c15b0
    try clear p2
    try clear p5
    try clear p6
    try clear q5
    obtain ⟨kq, x7_5, x8_5, x9_5, rfl, rfl, rfl, HA, HJ5, ⟨mc5, rfl⟩⟩ := hcut
    cases kq with
    | zero => exact absurd HA.out (by simp [aH.j2])
    | succ kj5 =>
      have H := HA.out
      clear HA
      simp only [aH.j2] at H
      by_cases c16 : (wrap64 ((a0.size : Int) - a1)) ≤ x8_5
      ·rw [if_pos c16] at H
       have c16b0 : decide ((wrap64 ((a0.size : Int) - a1)) ≤ x8_5) = true := decide_eq_true c16
       clear c16
       simp only [Option.some.injEq, Prod.mk.injEq] at H
       obtain ⟨rfl, rfl, rfl⟩ := H
       go_wp2
       go_ret3
       exact ⟨by first | rfl | (simp; done) | (simp [*]; done), by repeat (first | exact aj.refl _ | apply aj.step)⟩
      ·rw [if_neg c16] at H
       have c16b0 : decide ((wrap64 ((a0.size : Int) - a1)) ≤ x8_5) = false := decide_eq_false c16
       clear c16
       have H' := ae.mk H
       clear H
       go_wp2
       go_loopg [7, 10] kj5 (fun kq v7 v10 w' => ∃ (x7_2 : Int) (x10_2 : Int), v7 = .int .i64 x7_2 ∧ v10 = .int .i64 x10_2 ∧ ae (aH.l0 kq a0 a1 x7_2 x8_5 x9_5 x10_2 = some (r1, r2, r3)) ∧ ae (kq ≤ kj5) ∧ aj w w')
       case atStart => exact ⟨(x7_5), (1), (by first | rfl | (simp; done) | (simp [*]; done)), (by first | rfl | (simp; done) | (simp [*]; done)), H', ⟨Nat.le_refl _⟩, by repeat (first | exact aj.refl _ | apply aj.step)⟩
       case round =>
        clear H'
        try clear c1
        try clear p2
        try clear c3
        try clear c3b0
        try clear c4
        try clear c4b0
        try clear c5
        try clear p5
        try clear q5
        try clear hx5
        try clear p6
        try clear c7
        try clear c7b0
        try clear c9
        try clear c9b0
        try clear c10
        try clear c12
        try clear c12b0
        try clear c13
        try clear c14
        try clear c14b0
        try clear c15
        try clear c15b0
        try clear c16
        try clear c16b0
        try clear p2
        try clear p5
        try clear p6
        try clear q5
        obtain ⟨x7_2, x10_2, rfl, rfl, HA, HK2, ⟨m2, rfl⟩⟩ := hrel
        cases gk with
        | zero => exact absurd HA.out (by simp [aH.l0])
        | succ k2 =>
          have H := HA.out
          clear HA
          simp only [aH.l0] at H
          by_cases c17 : x10_2 ≤ x8_5
          ·rw [if_pos c17] at H
           have c17b0 : decide (x10_2 ≤ x8_5) = true := decide_eq_true c17
           clear c17
           obtain ⟨ji18, hji18⟩ : ∃ j_ : Int, (wrap64 (a1 + x10_2)) = j_ := ⟨_, rfl⟩
           replace H : (if 0 ≤ (ji18) then (if (ji18) < (a0.size : Int) then (if (wrap64 (bt a0 (ji18))) < 128 then (some (65533, 1, false)) else (if (wrap64 (bt a0 (ji18))) > 191 then (some (65533, 1, false)) else (aH.l0 k2 a0 a1 (wrap64 ((wrap64 ((wrap64 (x7_2 * 64)) + (wrap64 (bt a0 (ji18))))) - 128)) x8_5 x9_5 (wrap64 (x10_2 + 1))))) else (none)) else (none)) = some (r1, r2, r3) := by first | (rw [hji18] at H; exact H) | (simp only [hji18] at H ⊢; exact H)
           have hji18w : (IntKind.i64.wrap (a1 + x10_2)) = ji18 := (cZ _).trans hji18
           by_cases c19 : 0 ≤ (ji18)
           ·rw [if_pos c19] at H
            have c19b0 : decide (0 ≤ (ji18)) = true := decide_eq_true c19
            clear c19
            by_cases c20 : (ji18) < (a0.size : Int)
            ·rw [if_pos c20] at H
             have c20b0 : decide ((ji18) < (a0.size : Int)) = true := decide_eq_true c20
             clear c20
             by_cases c22 : (wrap64 (bt a0 (ji18))) < 128
             ·rw [if_pos c22] at H
              have c22b0 : decide ((wrap64 (bt a0 (ji18))) < 128) = true := decide_eq_true c22
              clear c22
              simp only [Option.some.injEq, Prod.mk.injEq] at H
              obtain ⟨rfl, rfl, rfl⟩ := H
              have p21 : 0 ≤ ((ji18) : Int) := of_decide_eq_true (by first | (with_reducible assumption) | assumption)
              have q21 : (ji18) < (a0.size : Int) := of_decide_eq_true (by first | (with_reducible assumption) | assumption)
              have hx21 := bU a0 (ji18)
              replace p21 := eq_true p21
              replace q21 := eq_true q21
              go_wp2
              go_ret3
              exact ⟨by first | rfl | (simp; done) | (simp only [← hji18] <;> (first | rfl | simp)) | (simp [*]; done), by repeat (first | exact aj.refl _ | apply aj.step)⟩
             ·rw [if_neg c22] at H
              have c22b0 : decide ((wrap64 (bt a0 (ji18))) < 128) = false := decide_eq_false c22
              clear c22
              by_cases c23 : (wrap64 (bt a0 (ji18))) > 191
              ·rw [if_pos c23] at H
               have c23b0 : decide (191 < (wrap64 (bt a0 (ji18)))) = true := decide_eq_true c23
               clear c23
               simp only [Option.some.injEq, Prod.mk.injEq] at H
               obtain ⟨rfl, rfl, rfl⟩ := H
               have p21 : 0 ≤ ((ji18) : Int) := of_decide_eq_true (by first | (with_reducible assumption) | assumption)
               have q21 : (ji18) < (a0.size : Int) := of_decide_eq_true (by first | (with_reducible assumption) | assumption)
               have hx21 := bU a0 (ji18)
               replace p21 := eq_true p21
               replace q21 := eq_true q21
               go_wp2
               go_ret3
               exact ⟨by first | rfl | (simp; done) | (simp only [← hji18] <;> (first | rfl | simp)) | (simp [*]; done), by repeat (first | exact aj.refl _ | apply aj.step)⟩
              ·rw [if_neg c23] at H
               have c23b0 : decide (191 < (wrap64 (bt a0 (ji18)))) = false := decide_eq_false c23
               clear c23
               have H' := ae.mk H
               clear H
               have p21 : 0 ≤ ((ji18) : Int) := of_decide_eq_true (by first | (with_reducible assumption) | assumption)
               have q21 : (ji18) < (a0.size : Int) := of_decide_eq_true (by first | (with_reducible assumption) | assumption)
               have hx21 := bU a0 (ji18)
               replace p21 := eq_true p21
               replace q21 := eq_true q21
               go_wp2
               go_roundg k2
               case measure => have := HJ5.out; have := HK2.out; omega
               case rel => exact ⟨(wrap64 ((wrap64 ((wrap64 (x7_2 * 64)) + (wrap64 (bt a0 (ji18))))) - 128)), (wrap64 (x10_2 + 1)), (by first | rfl | (simp; done) | (simp only [← hji18] <;> (first | rfl | simp)) | (simp [*]; done)), (by first | rfl | (simp; done) | (simp [*]; done)), H', ⟨by have := HJ5.out; have := HK2.out; omega⟩, by repeat (first | exact aj.refl _ | apply aj.step)⟩
            ·rw [if_neg c20] at H
             exact absurd H (by simp)
           ·rw [if_neg c19] at H
            exact absurd H (by simp)
          ·rw [if_neg c17] at H
           have c17b0 : decide (x10_2 ≤ x8_5) = false := decide_eq_false c17
           clear c17
           by_cases c24 : x7_2 < x9_5
           ·rw [if_pos c24] at H
            have c24b0 : decide (x7_2 < x9_5) = true := decide_eq_true c24
            clear c24
            simp only [Option.some.injEq, Prod.mk.injEq] at H
            obtain ⟨rfl, rfl, rfl⟩ := H
            go_wp2
            go_ret3
            exact ⟨by first | rfl | (simp; done) | (simp [*]; done), by repeat (first | exact aj.refl _ | apply aj.step)⟩
           ·rw [if_neg c24] at H
            have c24b0 : decide (x7_2 < x9_5) = false := decide_eq_false c24
            clear c24
            by_cases c25 : x7_2 > 1114111
            ·rw [if_pos c25] at H
             have c25b0 : decide (1114111 < x7_2) = true := decide_eq_true c25
             clear c25
             simp only [Option.some.injEq, Prod.mk.injEq] at H
             obtain ⟨rfl, rfl, rfl⟩ := H
             go_wp2
             go_ret3
             exact ⟨by first | rfl | (simp; done) | (simp [*]; done), by repeat (first | exact aj.refl _ | apply aj.step)⟩
            ·rw [if_neg c25] at H
             have c25b0 : decide (1114111 < x7_2) = false := decide_eq_false c25
             clear c25
             replace H := Option.bind_eq_some_iff.mp H
             obtain ⟨t101, A260, H⟩ := H
             replace H : (if t101 = true then (some (65533, 1, false)) else ((dF.f x7_2).bind fun t102 => (if t102 = true then (some (65533, 1, false)) else (some (x7_2, wrap64 (x8_5 + 1), true))))) = some (r1, r2, r3) := H
             have A26 := ae.mk A260
             clear A260
             by_cases c27 : t101 = true
             ·subst c27
              have H1 : (some (65533, 1, false)) = some (r1, r2, r3) := by rw [if_pos rfl] at H; exact H
              clear H
              have H := H1
              clear H1
              simp only [Option.some.injEq, Prod.mk.injEq] at H
              obtain ⟨rfl, rfl, rfl⟩ := H
              go_wp2_with (first | (go_at_call 50; (with_reducible refine (dQ.calls x7_2 true _ A26.out).mono ?_); rintro e w' ⟨rfl, ⟨nd, rfl⟩⟩))
              go_ret3
              exact ⟨by first | rfl | (simp; done) | (simp [*]; done), by repeat (first | exact aj.refl _ | apply aj.step)⟩
             ·replace c27 := Bool.eq_false_iff.mpr c27
              subst c27
              have H1 : ((dF.f x7_2).bind fun t102 => (if t102 = true then (some (65533, 1, false)) else (some (x7_2, wrap64 (x8_5 + 1), true)))) = some (r1, r2, r3) := by rw [if_neg (show ¬ (false = true) by decide)] at H; exact H
              clear H
              have H := H1
              clear H1
              replace H := Option.bind_eq_some_iff.mp H
              obtain ⟨t102, A280, H⟩ := H
              replace H : (if t102 = true then (some (65533, 1, false)) else (some (x7_2, wrap64 (x8_5 + 1), true))) = some (r1, r2, r3) := H
              have A28 := ae.mk A280
              clear A280
              by_cases c29 : t102 = true
              ·subst c29
               have H1 : (some (65533, 1, false)) = some (r1, r2, r3) := by rw [if_pos rfl] at H; exact H
               clear H
               have H := H1
               clear H1
               simp only [Option.some.injEq, Prod.mk.injEq] at H
               obtain ⟨rfl, rfl, rfl⟩ := H
               go_wp2_with (first | (go_at_call 50; (with_reducible refine (dQ.calls x7_2 false _ A26.out).mono ?_); rintro e w' ⟨rfl, ⟨nd, rfl⟩⟩) | (go_at_call 51; (with_reducible refine (dF.calls x7_2 true _ A28.out).mono ?_); rintro e w' ⟨rfl, ⟨nd, rfl⟩⟩))
               go_ret3
               exact ⟨by first | rfl | (simp; done) | (simp [*]; done), by repeat (first | exact aj.refl _ | apply aj.step)⟩
              ·replace c29 := Bool.eq_false_iff.mpr c29
               subst c29
               have H1 : (some (x7_2, wrap64 (x8_5 + 1), true)) = some (r1, r2, r3) := by rw [if_neg (show ¬ (false = true) by decide)] at H; exact H
               clear H
               have H := H1
               clear H1
               simp only [Option.some.injEq, Prod.mk.injEq] at H
               obtain ⟨rfl, rfl, rfl⟩ := H
               go_wp2_with (first | (go_at_call 50; (with_reducible refine (dQ.calls x7_2 false _ A26.out).mono ?_); rintro e w' ⟨rfl, ⟨nd, rfl⟩⟩) | (go_at_call 51; (with_reducible refine (dF.calls x7_2 false _ A28.out).mono ?_); rintro e w' ⟨rfl, ⟨nd, rfl⟩⟩))
               go_ret3
               exact ⟨by first | rfl | (simp; done) | (simp [*]; done), by repeat (first | exact aj.refl _ | apply aj.step)⟩
  ·rw [if_neg c4] at H
   exact absurd H (by simp)
 ·rw [if_neg c3] at H
  exact absurd H (by simp)
attribute [local go_sem] dH dI dW dY dm dw dK dL
def fA.l0 : Nat → ByteArray → Int → Option (Bool)
 | 0, _, _ => none
 | k + 1, x0, x3 => if x3 < (x0.size : Int) then ((aH.f k x0 x3).bind fun bt103 => (if bt103.2.2 = true then (fA.l0 k x0 (wrap64 (x3 + bt103.2.1))) else (some false))) else (some true)
def fA.f (k : Nat) (a0 : ByteArray) : Option (Bool) := fA.l0 k a0 0
theorem fA.calls (k : Nat) (a0 : ByteArray) (r : Bool) (w : World) (h : fA.f k a0 = some r) :
 Calls Tryz.prog 26 #[.string a0] w fun e w' => e = .returned (.bool r) ∧ aj w w' := by
 have H : (fA.l0 k a0 0) = some r := h
 clear h
 have H' := ae.mk H
 clear H
 go_enter Tryz.func26, Tryz.ntmps26
 go_wp2
 go_loopg [3] k (fun kq v3 w' => ∃ (x3_1 : Int), v3 = .int .i64 x3_1 ∧ ae (fA.l0 kq a0 x3_1 = some r) ∧ ae (kq ≤ k) ∧ aj w w')
 case atStart => exact ⟨(0), (by first | rfl | (simp; done) | (simp [*]; done)), H', ⟨Nat.le_refl _⟩, by repeat (first | exact aj.refl _ | apply aj.step)⟩
 case round =>
  clear H'
  obtain ⟨x3_1, rfl, HA, HK1, ⟨m1, rfl⟩⟩ := hrel
  cases gk with
  | zero => exact absurd HA.out (by simp [fA.l0])
  | succ k1 =>
    have H := HA.out
    clear HA
    simp only [fA.l0] at H
    by_cases c2 : x3_1 < (a0.size : Int)
    ·rw [if_pos c2] at H
     have c2b0 : decide (x3_1 < (a0.size : Int)) = true := decide_eq_true c2
     clear c2
     replace H := Option.bind_eq_some_iff.mp H
     obtain ⟨⟨t103, t104, t105⟩, A30, H⟩ := H
     replace H : (if t105 = true then (fA.l0 k1 a0 (wrap64 (x3_1 + t104))) else (some false)) = some r := H
     have A3 := ae.mk A30
     clear A30
     by_cases c4 : t105 = true
     ·subst c4
      have H1 : (fA.l0 k1 a0 (wrap64 (x3_1 + t104))) = some r := by rw [if_pos rfl] at H; exact H
      clear H
      have H := H1
      clear H1
      have H' := ae.mk H
      clear H
      go_wp2_with (first | ((with_reducible refine bC (f := 48) rfl ?_); refine dZ (some 14) rfl rfl Tryz.func48 (by kernel_rfl) rfl #[.string a0, .int .i64 x3_1] rfl (by (try simp only [List.map_toArray, List.map_cons, List.map_nil]); first | done | rfl | (simp only [List.length_drop, List.length_take]; rfl)) ?_; (with_reducible refine (aH.calls k1 a0 x3_1 t103 t104 true _ A3.out).mono ?_); rintro e w' ⟨rfl, ⟨nd, rfl⟩⟩; refine ⟨_, rfl, ?_⟩))
      go_roundg k1
      case measure => have := HK1.out; omega
      case rel => exact ⟨(wrap64 (x3_1 + t104)), (by first | rfl | (simp; done) | (simp [*]; done)), H', ⟨by have := HK1.out; omega⟩, by repeat (first | exact aj.refl _ | apply aj.step)⟩
     ·replace c4 := Bool.eq_false_iff.mpr c4
      subst c4
      have H1 : (some false) = some r := by rw [if_neg (show ¬ (false = true) by decide)] at H; exact H
      clear H
      have H := H1
      clear H1
      obtain rfl := Option.some.inj H
      go_wp2_with (first | ((with_reducible refine bC (f := 48) rfl ?_); refine dZ (some 14) rfl rfl Tryz.func48 (by kernel_rfl) rfl #[.string a0, .int .i64 x3_1] rfl (by (try simp only [List.map_toArray, List.map_cons, List.map_nil]); first | done | rfl | (simp only [List.length_drop, List.length_take]; rfl)) ?_; (with_reducible refine (aH.calls k1 a0 x3_1 t103 t104 false _ A3.out).mono ?_); rintro e w' ⟨rfl, ⟨nd, rfl⟩⟩; refine ⟨_, rfl, ?_⟩))
      go_ret
      exact ⟨by first | rfl | (simp; done) | (simp [*]; done), by repeat (first | exact aj.refl _ | apply aj.step)⟩
    ·rw [if_neg c2] at H
     have c2b0 : decide (x3_1 < (a0.size : Int)) = false := decide_eq_false c2
     clear c2
     obtain rfl := Option.some.inj H
     go_wp2
     go_ret
     exact ⟨by first | rfl | (simp; done) | (simp [*]; done), by repeat (first | exact aj.refl _ | apply aj.step)⟩
end Go.Proofs.YtpgfjbimodnkeaaGreatDoor.Q
