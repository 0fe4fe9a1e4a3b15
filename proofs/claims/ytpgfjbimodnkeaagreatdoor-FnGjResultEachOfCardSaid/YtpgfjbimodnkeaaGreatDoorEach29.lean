/- FnGjResultEachOf: whatever text and stop come in, the law returns true and both read afterwards as before; with the package-level variables that its row lists as the program's own text lays them (part 29 of 33: lemmas for its last part) -/
import Derived.WalkSpells
import Derived.Deep.Cut
import Derived.Test.YtpgfjbimodnkeaaGreatDoorEach27
set_option linter.unusedVariables false
set_option linter.unusedSimpArgs false
namespace Go.Proofs.YtpgfjbimodnkeaaGreatDoor.Dec
open Go Go.RowKit Go.Proofs.YtpgfjbimodnkeaaGreatDoorW.PrintWords Go.Proofs.YtpgfjbimodnkeaaGreatDoorW.PrintLast Go.Proofs.YtpgfjbimodnkeaaGreatDoorW.PrintMore Go.Proofs.YtpgfjbimodnkeaaGreatDoor.Scan Go.Proofs.YtpgfjbimodnkeaaGreatDoor.Q
structure LO (s : ByteArray) (nms : List S44) (ks : List S32) (B0 Bo Bs : Nat) (stop : Int) (w0 : World) (gt gk gv : Nat) (str : ByteArray) (num : Nat) (kq i ix : Nat) (ps : List (Rs × Rs)) (ndone nrest : List S44) (kdone rest : List S32) (kr vr : Rs) (W : World) : Prop where
 kq : kq = s.size - i
 nall : ndone ++ nrest = nms
 all : kdone ++ rest = ks
 nok : NamesOk s ndone ps
 ok : KidsOk s kdone ps
 cnt : ix = ps.length
 bnd : ix ≤ i
 rem : RemO s nrest rest i
 prd : i ≤ s.size → Prd s i
 few : FEW s B0 Bo Bs stop w0 gt gk gv str num ps kr vr W
 krk : kr.k = 3
 go : ∀ j : Nat, 0 < j → j ≤ ps.length → (j : Int) ≠ stop
structure InO (s : ByteArray) (B0 Bo Bs : Nat) (stop : Int) (w0 : World) (gt gk gv : Nat) (str : ByteArray) (num : Nat) (ps : List (Rs × Rs)) (kr vr : Rs) (i j kq p : Nat) (W : World) : Prop where
 kq : kq = s.size - p
 lo : i ≤ p
 hi : p ≤ j
 few : FEW s B0 Bo Bs stop w0 gt gk gv str num ps kr vr W
theorem remo_skip {s : ByteArray} {nrest : List S44} {rest : List S32} {i : Nat} (h : RemO s nrest rest i) (hi : i < s.size) (hb : bt s i ≠ 34) : RemO s nrest rest (i + 1) ∧ bt s i ≠ 92 := by
 rcases h with ⟨j, hsp, hj⟩ | ⟨rfl, rfl, hend⟩
 ·have hlt : i < j := by
   rcases Nat.lt_or_ge i j with hl | hl
   ·exact hl
   ·have hle := hsp.le
    have e : i = j := by omega
    subst e
    exfalso
    generalize hz : s.size = z at hj
    cases hj with
    | mem1 _ q c b m e kd ns ks h0 h1 => exact hb h1
    | mems _ q c b m d n e kd ns nl ks l h0 h1 => exact hb h1
  have hg := hsp.all i (Nat.le_refl _) hlt
  exact ⟨.inl ⟨j, span_tail hsp hlt, hj⟩, by unfold GapC Scan.blank at hg; omega⟩
 ·obtain ⟨_, hsp, hc⟩ := hend.way.resolve_left (by omega)
  by_cases he : i = s.size - 1
  ·refine ⟨.inr ⟨rfl, rfl, ⟨.inl (by omega)⟩⟩, ?_⟩
   rw [he, hc]; decide
  ·have hg := hsp.all i (Nat.le_refl _) (by omega)
   exact ⟨.inr ⟨rfl, rfl, ⟨.inr ⟨by omega, span_tail hsp (by omega), hc⟩⟩⟩, by unfold GapC Scan.blank at hg; omega⟩
theorem remo_mark {s : ByteArray} {nrest : List S44} {rest : List S32} {i : Nat} (h : RemO s nrest rest i) (hi : i < s.size) (hb : bt s i = 34) : J s .mems i s.size 0 nrest rest := by
 rcases h with ⟨j, hsp, hj⟩ | ⟨rfl, rfl, hend⟩
 ·have hle := hsp.le
  by_cases he : i = j
  ·rw [he]; exact hj
  ·have hg := hsp.all i (Nat.le_refl _) (by omega)
   unfold GapC Scan.blank at hg; omega
 ·obtain ⟨_, hsp, hc⟩ := hend.way.resolve_left (by omega)
  by_cases he : i = s.size - 1
  ·rw [← he, hb] at hc; omega
  ·have hg := hsp.all i (Nat.le_refl _) (by omega)
   unfold GapC Scan.blank at hg; omega
set_option maxHeartbeats 8000000 in
set_option maxRecDepth 100000 in
theorem foreach_obj (w0 w : World) (B B0 Bo Bs : Nat) (stop : Int) (s : ByteArray) (hs : s.size ≤ 65536) (nms : List S44) (ks : List S32) (hJ : J s .val 0 s.size 6 nms ks) (hP : Prd s 0) (str : ByteArray) (num : Nat) (hT : Tabs B w0) (hBB : B ≤ B0) (hO : Outs B0 Bo Bs stop w0 [] w) :
  Calls Tryz.prog 32 #[resV 5 s str num 0, .func (.func 33) #[] #[.pointer (some ⟨Bo, 0, none⟩), .pointer (some ⟨Bs, 0, none⟩)]] w fun e w' => e = .returned (.tuple #[]) ∧ ∃ ps : List (Rs × Rs), Outs B0 Bo Bs stop w0 ps w' ∧ KidsOk s (ks.take ps.length) ps ∧ NamesOk s (nms.take ps.length) ps ∧ ps.length ≤ ks.length ∧
   (ps.length = ks.length ∨ (ps.length : Int) = stop ∧ 0 < stop) ∧ ∀ j : Nat, 0 < j → j < ps.length → (j : Int) ≠ stop := by
 obtain ⟨h91, hrem⟩ := obj_start hJ
 have hx := bt_nat s 0
 rw [h91] at hx
 have hpos : 0 < s.size := hJ.bound.1
 have p1 : ((0 : Int) < (s.size : Int)) = True := eq_true (by omega)
 have hks : ks.length ≤ 100000 := by have := kids_len hJ; omega
 have hP1 : Prd s 1 := Prd.plain hs hP hpos (by rw [h91]; decide)
 replace hrem := Aside0.mk hrem
 replace hJ := Aside0.mk hJ
 replace hP := Aside0.mk hP
 replace hP1 := Aside0.mk hP1
 replace hT := Aside0.mk hT
 replace h91 := Aside0.mk h91
 replace hO := Aside0.mk hO
 go_enter Tryz.func32, Tryz.ntmps32
 go_wp2
 refine wp_loop_rounds 1 ?_
 rw [rounds_succ]
 go_wp2
 go_loopg [6, 9, 10, 11, 12, 13, 14] (s.size - 1) (fun kq v6 v9 v10 v11 v12 v13 v14 w' => ∃ i ix : Nat, v6 = .int .i64 i ∧ v12 = .int .i64 ix ∧ Aside0 (∃ (ps : List (Rs × Rs)) (ndone nrest : List S44) (kdone rest : List S32) (kr vr : Rs), LO s nms ks B0 Bo Bs stop w0 w.heap.size (w.heap.size + 1 + 1) (w.heap.size + 1 + 1 + 1) str num kq i ix ps ndone nrest kdone rest kr vr w'))
 case atStart =>
  refine ⟨1, 0, rfl, rfl, ⟨[], [], nms, [], ks, ⟨3, ⟨#[]⟩, ⟨#[]⟩, 0, 0⟩, ⟨0, ⟨#[]⟩, ⟨#[]⟩, 0, 0⟩, ⟨rfl, rfl, rfl, trivial, trivial, rfl, by omega, hrem.out, fun _ => hP1.out, ⟨?_, ?_, ?_, ?_, by omega, ?_⟩, rfl, fun j h1 h2 => by simp at h2; omega⟩⟩⟩
  ·exact hO.out.below (below_alloc (below_alloc (below_alloc (below_alloc (Below.refl _ _) _) _) _) _)
  ·exact blk_alloc (blk_alloc (blk_alloc (blk_new w _) _) _) _
  ·have := blk_alloc (blk_new ((w.alloc (.cells (resC ⟨5, s, str, num, 0⟩) 67 (0, 0))).alloc (.cells (resC ⟨5, s, str, num, 0⟩) 67 (0, 0))) (.cells (resC ⟨3, ⟨#[]⟩, ⟨#[]⟩, 0, 0⟩) 67 (0, 0))) (.cells (resC ⟨0, ⟨#[]⟩, ⟨#[]⟩, 0, 0⟩) 67 (0, 0))
   simpa using this
  ·have := blk_new (((w.alloc (.cells (resC ⟨5, s, str, num, 0⟩) 67 (0, 0))).alloc (.cells (resC ⟨5, s, str, num, 0⟩) 67 (0, 0))).alloc (.cells (resC ⟨3, ⟨#[]⟩, ⟨#[]⟩, 0, 0⟩) 67 (0, 0))) (.cells (resC ⟨0, ⟨#[]⟩, ⟨#[]⟩, 0, 0⟩) 67 (0, 0))
   simpa using this
  ·exact ⟨by have := hO.out.loB; omega, by have := hO.out.loB; omega, by have := hO.out.loB; omega⟩
 case round =>
  obtain ⟨i, ix, rfl, rfl, hL⟩ := hrel
  obtain ⟨ps, ndone, nrest, kdone, rest, kr, vr, hkq, hnall, hall, hnok, hok, hix, hbnd, hrem1, hprd, hF, hkrk, hgo⟩ := hL.out
  clear hL
  by_cases hi : i < s.size
  ·have hprd1 := hprd (by omega)
   have hb := bt_nat s i
   have q0 : (0 ≤ (i : Int)) = True := eq_true (by omega)
   have q1 : ((i : Int) < (s.size : Int)) = True := eq_true (by omega)
   replace hok := Aside0.mk hok
   replace hnok := Aside0.mk hnok
   replace hall := Aside0.mk hall
   replace hnall := Aside0.mk hnall
   replace hgo := Aside0.mk hgo
   replace hkq := Aside0.mk hkq
   replace hix := Aside0.mk hix
   replace hkrk := Aside0.mk hkrk
   clear hprd
   by_cases h34 : bt s i = 34
   ·have hj := remo_mark hrem1 hi h34
    obtain ⟨q, bb, m, kd, ns1, nl, ks1, l, rfl, rfl, _, _, hq, hsp, hv, hA, hrem2, hms, hpb⟩ := mems_next hs hj
    have hPb := hpb hprd1
    have hvb := hv.bound
    have hst := val_start hv
    have hPm1 : Prd s (m + 1) := Prd.plain hs (J.prd hs hv hPb) hms (by have := hA.resolve_left (by omega); unfold Scan.blank at this; omega)
    obtain ⟨_, v, hsay⟩ := qstr_says hs hq (QStr.prd hs hi h34 hq hprd1).1
    have hQ := hq.str.quo (show 1 ≤ i + 1 by omega) (by simpa using h34)
    have hqb := hq.bound
    obtain ⟨ve, hps, hve⟩ := parse_string hs hQ
    obtain ⟨k, hk⟩ := hps.at
    have hpsc := fun W => Q.gjson_parseString.calls k s ((i + 1 : Nat) : Int) _ _ _ _ W hk
    rw [Nat.add_sub_cancel, show ((i + 1 : Nat) : Int) = (i : Int) + 1 by omega] at hpsc
    obtain ⟨x, hx0⟩ : ∃ x, s.extract i (q + 1) = x := ⟨_, rfl⟩
    obtain ⟨mm, hm⟩ : ∃ mm, q = i + 1 + mm := ⟨q - (i + 1), by omega⟩
    have hxz : x.size = mm + 2 := by rw [← hx0, ByteArray.size_extract]; omega
    have hcut : x.extract 1 (mm + 1) = s.extract (i + 1) q := by rw [← hx0, extract_in s i (q + 1) 1 (mm + 1) (by omega) (by omega), show i + (mm + 1) = q by omega]
    obtain ⟨y, hy⟩ : ∃ y, s.extract (i + 1) q = y := ⟨_, rfl⟩
    have hsl : ∀ wx : World, (Instr.slice 9 (.string x) (some (.int .i64 1)) (some (.int .i64 ((mm : Int) + 2 - 1))) none).run Tryz.prog wx = .ok (.string y) wx := fun wx => by
     rw [show (mm : Int) + 2 - 1 = (mm : Int) + 1 by omega]
     have h := run_slice_string (P := Tryz.prog) wx 9 x .i64 .i64 1 ((mm : Int) + 1) Tryz.underlying9 (by omega) (by omega) (by omega)
     rwa [show (1 : Int).toNat = 1 from rfl, show ((mm : Int) + 1).toNat = mm + 1 by omega, hcut, hy] at h
    rw [hx0] at hpsc
    have hyz : y.size ≤ 1000000 := by rw [← hy, ByteArray.size_extract]; omega
    have hys : ∃ l, Unq y 0 l ∧ v = strOfNums l := by rw [← hy]; exact hsay.unq
    have hyp : ve = false → y = v := fun h => by
     rw [← hy]
     exact (hsay.plain (by omega) (hve h)).symm
    obtain ⟨ll, hl, hvl⟩ := hys
    have hun := fun W => unescape_calls W y ll hyz hl
    rw [← hvl] at hun
    have hmb : mm ≤ 65536 := by omega
    have hlen : (x.size : Int) = (mm : Int) + 2 := by omega
    have hnm : ∀ r : Rs, r.k = 3 → r.raw = x → r.str = v → NameOk s ⟨(i : Nat), (q + 1 : Nat)⟩ r := fun r h1 h2 h3 => ⟨⟨i, q, rfl, rfl, by omega, by omega, by rw [h2, hx0], by rw [h3]; exact hsay⟩, h1⟩
    have hbq : q + 1 ≤ bb := hsp.le
    have hbs : bb < s.size := by omega
    have hany : ∀ (kr2 : Rs) (W : World), FEW s B0 Bo Bs stop w0 w.heap.size (w.heap.size + 1 + 1) (w.heap.size + 1 + 1 + 1) str num ps kr2 vr W → Calls Tryz.prog 62 #[.string s, .int .i64 bb, .bool true] W fun r w' => ∃ rs : Rs, r = .returned (.tuple #[.int .i64 m, resV rs.k rs.raw rs.str rs.num rs.idx, .bool true]) ∧ KidOk s ⟨kd, bb, m, ns1, ks1⟩ rs ∧ FEW s B0 Bo Bs stop w0 w.heap.size (w.heap.size + 1 + 1) (w.heap.size + 1 + 1 + 1) str num ps kr2 vr w' := fun kr2 W hW =>
     (any_value W B s hs (hT.out.below (below_mono hW.outs.bel hBB)) hv hA hPb).mono (fun r w' ⟨rs, h1, h2, h3⟩ => ⟨rs, h1, h2, hW.below h3⟩)
    obtain ⟨bgo, hbgo⟩ : ∃ b, (((ps.length + 1 : Nat) : Int) != stop) = b := ⟨_, rfl⟩
    have hcl0 : ∀ (kr2 vr2 : Rs) (W : World), FEW s B0 Bo Bs stop w0 w.heap.size (w.heap.size + 1 + 1) (w.heap.size + 1 + 1 + 1) str num ps kr2 vr2 W → Calls Tryz.prog 33 #[resV kr2.k kr2.raw kr2.str kr2.num kr2.idx, resV vr2.k vr2.raw vr2.str vr2.num vr2.idx, .pointer (some ⟨Bo, 0, none⟩), .pointer (some ⟨Bs, 0, none⟩)] W fun e w' => e = .returned (.bool bgo) ∧ FEW s B0 Bo Bs stop w0 w.heap.size (w.heap.size + 1 + 1) (w.heap.size + 1 + 1 + 1) str num (ps ++ [(kr2, vr2)]) kr2 vr2 w' := fun kr2 vr2 W hW =>
     (each_calls B0 Bo Bs stop w0 W ps kr2 vr2 hW.outs (by have := hix.out; omega)).mono (fun e w' ⟨h1, h2, h3, h4⟩ => ⟨by rw [h1, hbgo], hW.after h2 h4⟩)
    have hqn : ∀ (wx : World) (a : Option Addr) (n c n' c' : Nat), (binOp .neq 65 (.slice a n c) (.slice none n' c')).run Tryz.prog wx = .ok (.bool (!a.isNone)) wx := fun wx a n c n' c' => run_neq_slice_nil_any wx _ _ a n c n' c' Tryz.underlying65
    have hun2 : ∀ W, FEW s B0 Bo Bs stop w0 w.heap.size (w.heap.size + 1 + 1) (w.heap.size + 1 + 1 + 1) str num ps kr vr W → Calls Tryz.prog 61 #[.string y] W fun e w' => e = .returned (.string v) ∧ FEW s B0 Bo Bs stop w0 w.heap.size (w.heap.size + 1 + 1) (w.heap.size + 1 + 1 + 1) str num ps kr vr w' := fun W h => (hun W).mono (fun e w' hh => ⟨hh.1, h.below hh.2⟩)
    have hixb : (ix : Int) ≤ 65536 := by omega
    rw [h34] at hb
    have hF0 := hF
    have dk0 := (blk_cell hF0.bk 0).trans rfl
    have fk0 := blk_frozen hF0.bk 0
    have dk1 := (blk_cell hF0.bk 1).trans rfl
    have fk1 := blk_frozen hF0.bk 1
    have dk2 := (blk_cell hF0.bk 2).trans rfl
    have fk2 := blk_frozen hF0.bk 2
    have dk3 := (blk_cell hF0.bk 3).trans rfl
    have fk3 := blk_frozen hF0.bk 3
    have dk4 := (blk_cell hF0.bk 4).trans rfl
    have fk4 := blk_frozen hF0.bk 4
    have dk5 := (blk_cell hF0.bk 5).trans rfl
    have fk5 := blk_frozen hF0.bk 5
    have dt4 := (blk_cell hF0.bt 4).trans rfl
    replace hF := Aside0.mk hF
    clear hF0 hx0 hcut hy hve hps hk hsay hl hvl hun hm hyz hxz hpb hj
    replace hQ := Aside0.mk hQ
    replace hq := Aside0.mk hq
    replace h34 := Aside0.mk h34
    replace hrem1 := Aside0.mk hrem1
    replace hrem2 := Aside0.mk hrem2
    replace hprd1 := Aside0.mk hprd1
    replace hPb := Aside0.mk hPb
    replace hPm1 := Aside0.mk hPm1
    replace hv := Aside0.mk hv
    replace hA := Aside0.mk hA
    replace hst := Aside0.mk hst
    replace hbgo := Aside0.mk hbgo
    cases ve with
    | false =>
     have hyv := hyp rfl
     subst hyv
     clear hyp
     go_wp2_with (first | (go_at_call 60; (with_reducible refine (hpsc _).mono ?_); rintro r w4 ⟨rfl, ⟨n4, rfl⟩⟩))
     go_loopg [6] (s.size - (q + 1)) (fun kq v6 w' => ∃ p : Nat, v6 = .int .i64 p ∧ Aside0 (InO s B0 Bo Bs stop w0 w.heap.size (w.heap.size + 1 + 1) (w.heap.size + 1 + 1 + 1) str num ps ⟨kr.k, x, y, kr.num, (i : Int)⟩ vr (q + 1) bb kq p w'))
     case atStart => exact ⟨q + 1, by first | rfl | (congr 1; omega), ⟨⟨rfl, Nat.le_refl _, hbq, (((hF.out.drewN _).setk ⟨kr.k, kr.raw, y, kr.num, kr.idx⟩ 2 _ rfl).setk ⟨kr.k, x, y, kr.num, kr.idx⟩ 1 _ rfl).setk ⟨kr.k, x, y, kr.num, (i : Int)⟩ 4 _ rfl⟩⟩⟩
     case round =>
      obtain ⟨p, rfl, hL⟩ := hrel
      obtain ⟨hkq2, hip, hpj, hF2⟩ := hL.out
      clear hL dk0 dk1 dk2 dk3 dk4 dk5 fk0 fk1 fk2 fk3 fk4 fk5 dt4
      have hps : p < s.size := by omega
      have hbp := bt_nat s p
      have t0 : (0 ≤ (p : Int)) = True := eq_true (by omega)
      have t1 : ((p : Int) < (s.size : Int)) = True := eq_true (by omega)
      replace hkq2 := Aside0.mk hkq2
      replace hF2 := Aside0.mk hF2
      by_cases hpe : p = bb
      ·subst hpe
       have hcj := hst.out
       generalize bt s p = c at *
       have e1 : decide (c ≤ 32) = false := decide_eq_false (by omega)
       have e2 : (c == 44) = false := beq_eq_false_iff_ne.mpr hcj.2.1
       have e3 : (c == 58) = false := beq_eq_false_iff_ne.mpr hcj.2.2.1
       replace hcj := Aside0.mk hcj
       have hany2 := hany ⟨kr.k, x, y, kr.num, (i : Int)⟩
       have hclb := hcl0 ⟨kr.k, x, y, kr.num, (i : Int)⟩
       have hnmb := Aside0.mk (hnm ⟨kr.k, x, y, kr.num, (i : Int)⟩ hkrk.out rfl rfl)
       clear hany hcl0 hnm
       go_upto_region 46 with (first | (go_at_call 62; (with_reducible refine (hany2 _ ?hF).mono ?_); (case hF => repeat (with_reducible first | exact hF2.out | apply FEW.drewN | apply FEW.drew)); rintro r w6 ⟨rs, rfl, hkid, hF5⟩; have cv0 := (blk_cell hF5.bv 0).trans rfl; have fv0 := blk_frozen hF5.bv 0; have ck0 := (blk_cell hF5.bk 0).trans rfl; have cv1 := (blk_cell hF5.bv 1).trans rfl; have fv1 := blk_frozen hF5.bv 1; have ck1 := (blk_cell hF5.bk 1).trans rfl; have cv2 := (blk_cell hF5.bv 2).trans rfl; have fv2 := blk_frozen hF5.bv 2; have ck2 := (blk_cell hF5.bk 2).trans rfl; have cv3 := (blk_cell hF5.bv 3).trans rfl; have fv3 := blk_frozen hF5.bv 3; have ck3 := (blk_cell hF5.bk 3).trans rfl; have cv4 := (blk_cell hF5.bv 4).trans rfl; have fv4 := blk_frozen hF5.bv 4; have ck4 := (blk_cell hF5.bk 4).trans rfl; have cv5 := (blk_cell hF5.bv 5).trans rfl; have fv5 := blk_frozen hF5.bv 5; have ck5 := (blk_cell hF5.bk 5).trans rfl; have ct4 := (blk_cell hF5.bt 4).trans rfl; have ct5 := (blk_cell hF5.bt 5).trans rfl; replace hF5 := Aside0.mk hF5; replace hkid := Aside0.mk hkid))
       have hF6 := hF5.out.putv rs (p : Int)
       generalize (((((((w6.setCell ⟨w.heap.size + 1 + 1 + 1, 0, none⟩ (.int .i64 rs.k)).setCell ⟨w.heap.size + 1 + 1 + 1, 1, none⟩ (.string rs.raw)).setCell ⟨w.heap.size + 1 + 1 + 1, 2, none⟩ (.string rs.str)).setCell ⟨w.heap.size + 1 + 1 + 1, 3, none⟩ (.float .f64 rs.num)).setCell ⟨w.heap.size + 1 + 1 + 1, 4, none⟩ (.int .i64 rs.idx)).setCell ⟨w.heap.size + 1 + 1 + 1, 5, none⟩ (.slice none 0 0)).setCell ⟨w.heap.size + 1 + 1 + 1, 4, none⟩ (.int .i64 (p : Int))) = W6 at hF6 ⊢
       clear cv0 cv1 cv2 cv3 cv4 cv5 ck0 ck1 ck2 ck3 ck4 ck5 fv0 fv1 fv2 fv3 fv4 fv5 ct4 ct5
       have cv0 := (blk_cell hF6.bv 0).trans rfl
       have ck0 := (blk_cell hF6.bk 0).trans rfl
       have cv1 := (blk_cell hF6.bv 1).trans rfl
       have ck1 := (blk_cell hF6.bk 1).trans rfl
       have cv2 := (blk_cell hF6.bv 2).trans rfl
       have ck2 := (blk_cell hF6.bk 2).trans rfl
       have cv3 := (blk_cell hF6.bv 3).trans rfl
       have ck3 := (blk_cell hF6.bk 3).trans rfl
       have cv4 := (blk_cell hF6.bv 4).trans rfl
       have ck4 := (blk_cell hF6.bk 4).trans rfl
       have cv5 := (blk_cell hF6.bv 5).trans rfl
       have ck5 := (blk_cell hF6.bk 5).trans rfl
       have hcl : Calls Tryz.prog 33 #[.agg #[.int .i64 kr.k, .string x, .string y, .float .f64 kr.num, .int .i64 (i : Int), .slice none 0 0], .agg #[.int .i64 rs.k, .string rs.raw, .string rs.str, .float .f64 rs.num, .int .i64 (p : Int), .slice none 0 0], .pointer (some ⟨Bo, 0, none⟩), .pointer (some ⟨Bs, 0, none⟩)] W6 fun e w' => e = .returned (.bool bgo) ∧ FEW s B0 Bo Bs stop w0 w.heap.size (w.heap.size + 1 + 1) (w.heap.size + 1 + 1 + 1) str num (ps ++ [(⟨kr.k, x, y, kr.num, (i : Int)⟩, { rs with idx := (p : Int) })]) ⟨kr.k, x, y, kr.num, (i : Int)⟩ { rs with idx := (p : Int) } w' := hclb { rs with idx := (p : Int) } W6 hF6
       replace hF6 := Aside0.mk hF6
       have hkid2 := Aside0.mk (hkid.out.idx (p : Int))
       clear hclb hany2
       cases bgo with
       | false =>
        go_wp2_with (first | (go_at_call 33; (with_reducible refine hcl.mono ?_); rintro r w7 ⟨rfl, hF7⟩; replace hF7 := Aside0.mk hF7))
        refine bodyPost_ret (results_none rfl _ _ _) rfl ?_
        have hst2 : ((ps.length + 1 : Nat) : Int) = stop := by have h := hbgo.out; simpa using h
        have hln := hok.out.length
        have hln2 := hnok.out.length
        obtain ⟨htk, hle⟩ := take_done hall.out
        obtain ⟨htk2, _⟩ := take_done hnall.out
        refine ⟨rfl, ps ++ [(⟨kr.k, x, y, kr.num, (i : Int)⟩, { rs with idx := (p : Int) })], hF7.out.outs, ?_, ?_, ?_, .inr ?_, fun j h1 h2 => ?_⟩
        ·rw [List.length_append, List.length_singleton, ← hln, htk]; exact KidsOk.snoc hkid2.out hok.out
        ·rw [List.length_append, List.length_singleton, ← hln2, htk2]; exact NamesOk.snoc hnmb.out hnok.out
        ·rw [List.length_append, List.length_singleton, ← hln]; exact hle
        ·rw [List.length_append, List.length_singleton]; exact ⟨hst2, by omega⟩
        ·rw [List.length_append, List.length_singleton] at h2; exact hgo.out j h1 (by omega)
       | true =>
        go_wp2_with (first | (go_at_call 33; (with_reducible refine hcl.mono ?_); rintro r w7 ⟨rfl, hF7⟩; replace hF7 := Aside0.mk hF7))
        have hst2 : ((ps.length + 1 : Nat) : Int) ≠ stop := by have h := hbgo.out; simpa using h
        go_roundg (s.size - (m + 1))
        case measure => have := hkq.out; omega
        case rel => exact ⟨m + 1, ix + 1, by first | rfl | (congr 1; omega), by first | rfl | (congr 1; omega), ⟨ps ++ [(⟨kr.k, x, y, kr.num, (i : Int)⟩, { rs with idx := (p : Int) })], ndone ++ [⟨(i : Nat), (q + 1 : Nat)⟩], nl, kdone ++ [⟨kd, (p : Nat), (m : Nat), ns1, ks1⟩], l, ⟨kr.k, x, y, kr.num, (i : Int)⟩, { rs with idx := (p : Int) },
         ⟨rfl, by rw [List.append_assoc]; exact hnall.out, by rw [List.append_assoc]; exact hall.out, NamesOk.snoc hnmb.out hnok.out, KidsOk.snoc hkid2.out hok.out, by rw [List.length_append, List.length_singleton, hix.out], by omega, hrem2.out, fun _ => hPm1.out, hF7.out, hkrk.out, fun j h1 h2 => by
          rw [List.length_append, List.length_singleton] at h2
          by_cases hje : j = ps.length + 1
          ·rw [hje]; exact hst2
          ·exact hgo.out j h1 (by omega)⟩⟩⟩
      ·have hg := hsp.all p hip (by omega)
       have hg2 := gap_tests hg
       generalize bt s p = c at *
       replace hg := Aside0.mk hg
       rcases hg2 with hle | ⟨hle, he⟩ | ⟨hle, he⟩
       ·have e1 : decide (c ≤ 32) = true := decide_eq_true hle
        go_wp2
        go_roundg (s.size - (p + 1))
        case measure => have := hkq2.out; omega
        case rel => exact ⟨p + 1, by first | rfl | (congr 1; omega), ⟨⟨rfl, by omega, by omega, by repeat (with_reducible first | exact hF2.out | apply FEW.drewN | apply FEW.drew)⟩⟩⟩
       ·subst he
        go_wp2
        go_roundg (s.size - (p + 1))
        case measure => have := hkq2.out; omega
        case rel => exact ⟨p + 1, by first | rfl | (congr 1; omega), ⟨⟨rfl, by omega, by omega, by repeat (with_reducible first | exact hF2.out | apply FEW.drewN | apply FEW.drew)⟩⟩⟩
       ·subst he
        go_wp2
        go_roundg (s.size - (p + 1))
        case measure => have := hkq2.out; omega
        case rel => exact ⟨p + 1, by first | rfl | (congr 1; omega), ⟨⟨rfl, by omega, by omega, by repeat (with_reducible first | exact hF2.out | apply FEW.drewN | apply FEW.drew)⟩⟩⟩
    | true =>
     clear hyp
     go_wp2_with (first | (go_at_call 60; (with_reducible refine (hpsc _).mono ?_); rintro r w4 ⟨rfl, ⟨n4, rfl⟩⟩) | (go_at_call 61; (with_reducible refine (hun2 _ ?hF).mono ?_); (case hF => repeat (with_reducible first | exact hF.out | apply FEW.drewN | apply FEW.drew)); rintro r w5 ⟨rfl, hF5⟩; have dk0 := (blk_cell hF5.bk 0).trans rfl; have fk0 := blk_frozen hF5.bk 0; have dk1 := (blk_cell hF5.bk 1).trans rfl; have fk1 := blk_frozen hF5.bk 1; have dk2 := (blk_cell hF5.bk 2).trans rfl; have fk2 := blk_frozen hF5.bk 2; have dk3 := (blk_cell hF5.bk 3).trans rfl; have fk3 := blk_frozen hF5.bk 3; have dk4 := (blk_cell hF5.bk 4).trans rfl; have fk4 := blk_frozen hF5.bk 4; have dk5 := (blk_cell hF5.bk 5).trans rfl; have fk5 := blk_frozen hF5.bk 5; have dt4 := (blk_cell hF5.bt 4).trans rfl; replace hF5 := Aside0.mk hF5))
     go_loopg [6] (s.size - (q + 1)) (fun kq v6 w' => ∃ p : Nat, v6 = .int .i64 p ∧ Aside0 (InO s B0 Bo Bs stop w0 w.heap.size (w.heap.size + 1 + 1) (w.heap.size + 1 + 1 + 1) str num ps ⟨kr.k, x, v, kr.num, (i : Int)⟩ vr (q + 1) bb kq p w'))
     case atStart => exact ⟨q + 1, by first | rfl | (congr 1; omega), ⟨⟨rfl, Nat.le_refl _, hbq, ((hF5.out.setk ⟨kr.k, kr.raw, v, kr.num, kr.idx⟩ 2 _ rfl).setk ⟨kr.k, x, v, kr.num, kr.idx⟩ 1 _ rfl).setk ⟨kr.k, x, v, kr.num, (i : Int)⟩ 4 _ rfl⟩⟩⟩
     case round =>
      obtain ⟨p, rfl, hL⟩ := hrel
      obtain ⟨hkq2, hip, hpj, hF2⟩ := hL.out
      clear hL dk0 dk1 dk2 dk3 dk4 dk5 fk0 fk1 fk2 fk3 fk4 fk5 dt4
      have hps : p < s.size := by omega
      have hbp := bt_nat s p
      have t0 : (0 ≤ (p : Int)) = True := eq_true (by omega)
      have t1 : ((p : Int) < (s.size : Int)) = True := eq_true (by omega)
      replace hkq2 := Aside0.mk hkq2
      replace hF2 := Aside0.mk hF2
      by_cases hpe : p = bb
      ·subst hpe
       have hcj := hst.out
       generalize bt s p = c at *
       have e1 : decide (c ≤ 32) = false := decide_eq_false (by omega)
       have e2 : (c == 44) = false := beq_eq_false_iff_ne.mpr hcj.2.1
       have e3 : (c == 58) = false := beq_eq_false_iff_ne.mpr hcj.2.2.1
       replace hcj := Aside0.mk hcj
       have hany2 := hany ⟨kr.k, x, v, kr.num, (i : Int)⟩
       have hclb := hcl0 ⟨kr.k, x, v, kr.num, (i : Int)⟩
       have hnmb := Aside0.mk (hnm ⟨kr.k, x, v, kr.num, (i : Int)⟩ hkrk.out rfl rfl)
       clear hany hcl0 hnm
       go_upto_region 46 with (first | (go_at_call 62; (with_reducible refine (hany2 _ ?hF).mono ?_); (case hF => repeat (with_reducible first | exact hF2.out | apply FEW.drewN | apply FEW.drew)); rintro r w6 ⟨rs, rfl, hkid, hF5⟩; have cv0 := (blk_cell hF5.bv 0).trans rfl; have fv0 := blk_frozen hF5.bv 0; have ck0 := (blk_cell hF5.bk 0).trans rfl; have cv1 := (blk_cell hF5.bv 1).trans rfl; have fv1 := blk_frozen hF5.bv 1; have ck1 := (blk_cell hF5.bk 1).trans rfl; have cv2 := (blk_cell hF5.bv 2).trans rfl; have fv2 := blk_frozen hF5.bv 2; have ck2 := (blk_cell hF5.bk 2).trans rfl; have cv3 := (blk_cell hF5.bv 3).trans rfl; have fv3 := blk_frozen hF5.bv 3; have ck3 := (blk_cell hF5.bk 3).trans rfl; have cv4 := (blk_cell hF5.bv 4).trans rfl; have fv4 := blk_frozen hF5.bv 4; have ck4 := (blk_cell hF5.bk 4).trans rfl; have cv5 := (blk_cell hF5.bv 5).trans rfl; have fv5 := blk_frozen hF5.bv 5; have ck5 := (blk_cell hF5.bk 5).trans rfl; have ct4 := (blk_cell hF5.bt 4).trans rfl; have ct5 := (blk_cell hF5.bt 5).trans rfl; replace hF5 := Aside0.mk hF5; replace hkid := Aside0.mk hkid))
       have hF6 := hF5.out.putv rs (p : Int)
       generalize (((((((w6.setCell ⟨w.heap.size + 1 + 1 + 1, 0, none⟩ (.int .i64 rs.k)).setCell ⟨w.heap.size + 1 + 1 + 1, 1, none⟩ (.string rs.raw)).setCell ⟨w.heap.size + 1 + 1 + 1, 2, none⟩ (.string rs.str)).setCell ⟨w.heap.size + 1 + 1 + 1, 3, none⟩ (.float .f64 rs.num)).setCell ⟨w.heap.size + 1 + 1 + 1, 4, none⟩ (.int .i64 rs.idx)).setCell ⟨w.heap.size + 1 + 1 + 1, 5, none⟩ (.slice none 0 0)).setCell ⟨w.heap.size + 1 + 1 + 1, 4, none⟩ (.int .i64 (p : Int))) = W6 at hF6 ⊢
       clear cv0 cv1 cv2 cv3 cv4 cv5 ck0 ck1 ck2 ck3 ck4 ck5 fv0 fv1 fv2 fv3 fv4 fv5 ct4 ct5
       have cv0 := (blk_cell hF6.bv 0).trans rfl
       have ck0 := (blk_cell hF6.bk 0).trans rfl
       have cv1 := (blk_cell hF6.bv 1).trans rfl
       have ck1 := (blk_cell hF6.bk 1).trans rfl
       have cv2 := (blk_cell hF6.bv 2).trans rfl
       have ck2 := (blk_cell hF6.bk 2).trans rfl
       have cv3 := (blk_cell hF6.bv 3).trans rfl
       have ck3 := (blk_cell hF6.bk 3).trans rfl
       have cv4 := (blk_cell hF6.bv 4).trans rfl
       have ck4 := (blk_cell hF6.bk 4).trans rfl
       have cv5 := (blk_cell hF6.bv 5).trans rfl
       have ck5 := (blk_cell hF6.bk 5).trans rfl
       have hcl : Calls Tryz.prog 33 #[.agg #[.int .i64 kr.k, .string x, .string v, .float .f64 kr.num, .int .i64 (i : Int), .slice none 0 0], .agg #[.int .i64 rs.k, .string rs.raw, .string rs.str, .float .f64 rs.num, .int .i64 (p : Int), .slice none 0 0], .pointer (some ⟨Bo, 0, none⟩), .pointer (some ⟨Bs, 0, none⟩)] W6 fun e w' => e = .returned (.bool bgo) ∧ FEW s B0 Bo Bs stop w0 w.heap.size (w.heap.size + 1 + 1) (w.heap.size + 1 + 1 + 1) str num (ps ++ [(⟨kr.k, x, v, kr.num, (i : Int)⟩, { rs with idx := (p : Int) })]) ⟨kr.k, x, v, kr.num, (i : Int)⟩ { rs with idx := (p : Int) } w' := hclb { rs with idx := (p : Int) } W6 hF6
       replace hF6 := Aside0.mk hF6
       have hkid2 := Aside0.mk (hkid.out.idx (p : Int))
       clear hclb hany2
       cases bgo with
       | false =>
        go_wp2_with (first | (go_at_call 33; (with_reducible refine hcl.mono ?_); rintro r w7 ⟨rfl, hF7⟩; replace hF7 := Aside0.mk hF7))
        refine bodyPost_ret (results_none rfl _ _ _) rfl ?_
        have hst2 : ((ps.length + 1 : Nat) : Int) = stop := by have h := hbgo.out; simpa using h
        have hln := hok.out.length
        have hln2 := hnok.out.length
        obtain ⟨htk, hle⟩ := take_done hall.out
        obtain ⟨htk2, _⟩ := take_done hnall.out
        refine ⟨rfl, ps ++ [(⟨kr.k, x, v, kr.num, (i : Int)⟩, { rs with idx := (p : Int) })], hF7.out.outs, ?_, ?_, ?_, .inr ?_, fun j h1 h2 => ?_⟩
        ·rw [List.length_append, List.length_singleton, ← hln, htk]; exact KidsOk.snoc hkid2.out hok.out
        ·rw [List.length_append, List.length_singleton, ← hln2, htk2]; exact NamesOk.snoc hnmb.out hnok.out
        ·rw [List.length_append, List.length_singleton, ← hln]; exact hle
        ·rw [List.length_append, List.length_singleton]; exact ⟨hst2, by omega⟩
        ·rw [List.length_append, List.length_singleton] at h2; exact hgo.out j h1 (by omega)
       | true =>
        go_wp2_with (first | (go_at_call 33; (with_reducible refine hcl.mono ?_); rintro r w7 ⟨rfl, hF7⟩; replace hF7 := Aside0.mk hF7))
        have hst2 : ((ps.length + 1 : Nat) : Int) ≠ stop := by have h := hbgo.out; simpa using h
        go_roundg (s.size - (m + 1))
        case measure => have := hkq.out; omega
        case rel => exact ⟨m + 1, ix + 1, by first | rfl | (congr 1; omega), by first | rfl | (congr 1; omega), ⟨ps ++ [(⟨kr.k, x, v, kr.num, (i : Int)⟩, { rs with idx := (p : Int) })], ndone ++ [⟨(i : Nat), (q + 1 : Nat)⟩], nl, kdone ++ [⟨kd, (p : Nat), (m : Nat), ns1, ks1⟩], l, ⟨kr.k, x, v, kr.num, (i : Int)⟩, { rs with idx := (p : Int) },
         ⟨rfl, by rw [List.append_assoc]; exact hnall.out, by rw [List.append_assoc]; exact hall.out, NamesOk.snoc hnmb.out hnok.out, KidsOk.snoc hkid2.out hok.out, by rw [List.length_append, List.length_singleton, hix.out], by omega, hrem2.out, fun _ => hPm1.out, hF7.out, hkrk.out, fun j h1 h2 => by
          rw [List.length_append, List.length_singleton] at h2
          by_cases hje : j = ps.length + 1
          ·rw [hje]; exact hst2
          ·exact hgo.out j h1 (by omega)⟩⟩⟩
      ·have hg := hsp.all p hip (by omega)
       have hg2 := gap_tests hg
       generalize bt s p = c at *
       replace hg := Aside0.mk hg
       rcases hg2 with hle | ⟨hle, he⟩ | ⟨hle, he⟩
       ·have e1 : decide (c ≤ 32) = true := decide_eq_true hle
        go_wp2
        go_roundg (s.size - (p + 1))
        case measure => have := hkq2.out; omega
        case rel => exact ⟨p + 1, by first | rfl | (congr 1; omega), ⟨⟨rfl, by omega, by omega, by repeat (with_reducible first | exact hF2.out | apply FEW.drewN | apply FEW.drew)⟩⟩⟩
       ·subst he
        go_wp2
        go_roundg (s.size - (p + 1))
        case measure => have := hkq2.out; omega
        case rel => exact ⟨p + 1, by first | rfl | (congr 1; omega), ⟨⟨rfl, by omega, by omega, by repeat (with_reducible first | exact hF2.out | apply FEW.drewN | apply FEW.drew)⟩⟩⟩
       ·subst he
        go_wp2
        go_roundg (s.size - (p + 1))
        case measure => have := hkq2.out; omega
        case rel => exact ⟨p + 1, by first | rfl | (congr 1; omega), ⟨⟨rfl, by omega, by omega, by repeat (with_reducible first | exact hF2.out | apply FEW.drewN | apply FEW.drew)⟩⟩⟩
   ·obtain ⟨hrem2, h92⟩ := remo_skip hrem1 hi h34
    have hP2 : Prd s (i + 1) := Prd.plain hs hprd1 hi h92
    generalize bt s i = c at *
    have e34 : (c != 34) = true := bne_iff_ne.mpr h34
    replace hF := Aside0.mk hF
    replace hrem1 := Aside0.mk hrem1
    replace hrem2 := Aside0.mk hrem2
    replace hprd1 := Aside0.mk hprd1
    replace hP2 := Aside0.mk hP2
    go_wp2
    go_roundg (s.size - (i + 1))
    case measure => have := hkq.out; omega
    case rel => exact ⟨i + 1, ix, by first | rfl | (congr 1; omega), rfl, ⟨ps, ndone, nrest, kdone, rest, kr, vr, ⟨rfl, hnall.out, hall.out, hnok.out, hok.out, hix.out, by omega, hrem2.out, fun _ => hP2.out, hF.out, hkrk.out, hgo.out⟩⟩⟩
  ·have hr : rest = [] ∧ nrest = [] := by
    rcases hrem1 with ⟨j, hsp, hj⟩ | ⟨h, h', _⟩
    ·have := hj.bound; have := hsp.le; omega
    ·exact ⟨h', h⟩
   obtain ⟨rfl, rfl⟩ := hr
   rw [List.append_nil] at hall hnall
   subst hall
   subst hnall
   have hlen := hok.length
   have hlen2 := hnok.length
   go_wp2
   go_end0
   exact ⟨rfl, ps, hF.outs, by rw [← hlen, List.take_length]; exact hok, by rw [← hlen2, List.take_length]; exact hnok, by omega, .inl hlen.symm, fun j h1 h2 => hgo j h1 (by omega)⟩
end Go.Proofs.YtpgfjbimodnkeaaGreatDoor.Dec
