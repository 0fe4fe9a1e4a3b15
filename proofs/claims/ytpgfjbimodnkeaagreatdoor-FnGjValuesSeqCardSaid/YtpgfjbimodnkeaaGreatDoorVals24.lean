/- FnGjValuesSeq: whatever text and stop come in, the law returns true and both read afterwards as before; with the package-level variables that its row lists as the program's own text lays them (part 24 of 27: lemmas for its last part) -/
import Derived.WalkSpells
import Derived.Deep.Cut
import Derived.Lib.ConvBytes
import Derived.Test.YtpgfjbimodnkeaaGreatDoorVals3
import Derived.Test.YtpgfjbimodnkeaaGreatDoorVals18
import Derived.Test.YtpgfjbimodnkeaaGreatDoorVals23
set_option linter.unusedVariables false
set_option linter.unusedSimpArgs false
namespace Go.Proofs.YtpgfjbimodnkeaaGreatDoor.Dec
open Go Go.RowKit Go.Proofs.YtpgfjbimodnkeaaGreatDoorW.PrintWords Go.Proofs.YtpgfjbimodnkeaaGreatDoorW.PrintLast Go.Proofs.YtpgfjbimodnkeaaGreatDoorW.PrintMore Go.Proofs.YtpgfjbimodnkeaaGreatDoor.Scan Go.Proofs.YtpgfjbimodnkeaaGreatDoor.Q
structure LO (s : ByteArray) (e : Nat) (nms : List S44) (ks : List S32) (B0 Bo Bs : Nat) (stop : Int) (w0 : World) (gt gk gv : Nat) (str : ByteArray) (num : Int) (kq i ix : Nat) (ps : List (Rs × Rs)) (ndone nrest : List S44) (kdone rest : List S32) (kr vr : Rs) (W : World) : Prop where
 kq : kq = s.size - i
 nall : ndone ++ nrest = nms
 all : kdone ++ rest = ks
 nok : NamesOk s ndone ps
 ok : KidsOk s kdone ps
 cnt : ix = ps.length
 bnd : ix ≤ i
 rem : RemO s e nrest rest i
 prd : i ≤ s.size → Prd s i
 few : FEW s B0 Bo Bs stop w0 gt gk gv str num ps kr vr W
 krk : kr.k = 3
 go : ∀ j : Nat, 0 < j → j ≤ ps.length → (j : Int) ≠ stop
structure InO (s : ByteArray) (B0 Bo Bs : Nat) (stop : Int) (w0 : World) (gt gk gv : Nat) (str : ByteArray) (num : Int) (ps : List (Rs × Rs)) (kr vr : Rs) (i j kq p : Nat) (W : World) : Prop where
 kq : kq = s.size - p
 lo : i ≤ p
 hi : p ≤ j
 few : FEW s B0 Bo Bs stop w0 gt gk gv str num ps kr vr W
theorem remo_skip {s : ByteArray} {e : Nat} {nrest : List S44} {rest : List S32} {i : Nat} (h : RemO s e nrest rest i) (hi : i < s.size) (hb : bt s i ≠ 34) : RemO s e nrest rest (i + 1) ∧ bt s i ≠ 92 := by
 rcases h with ⟨j, hsp, hj⟩ | ⟨rfl, rfl, hend⟩
 ·have hlt : i < j := by
   rcases Nat.lt_or_ge i j with hl | hl
   ·exact hl
   ·have hle := hsp.le
    have e : i = j := by omega
    subst e
    exfalso
    cases hj with
    | mem1 _ q c b m e kd ns ks h0 h1 => exact hb h1
    | mems _ q c b m d n e kd ns nl ks l h0 h1 => exact hb h1
  have hg := hsp.all i (Nat.le_refl _) hlt
  exact ⟨.inl ⟨j, span_tail hsp hlt, hj⟩, by unfold GapC Scan.blank at hg; omega⟩
 ·obtain ⟨_, j, hsp, hjs, hor⟩ := hend.way.resolve_left (by omega)
  by_cases he : i = j
  ·subst he
   rcases hor with h3 | ⟨h3, h4, h5⟩
   ·omega
   ·refine ⟨.inr ⟨rfl, rfl, ⟨?_⟩⟩, by omega⟩
    by_cases h6 : s.size ≤ i + 1
    ·exact .inl h6
    ·exact .inr ⟨by omega, s.size, blanks_gap h5, Nat.le_refl _, .inl rfl⟩
  ·have hle := hsp.le
   have hg := hsp.all i (Nat.le_refl _) (by omega)
   refine ⟨.inr ⟨rfl, rfl, ⟨?_⟩⟩, by unfold GapC Scan.blank at hg; omega⟩
   by_cases h6 : s.size ≤ i + 1
   ·exact .inl h6
   ·exact .inr ⟨by omega, j, span_tail hsp (by omega), hjs, hor⟩
theorem remo_mark {s : ByteArray} {e : Nat} {nrest : List S44} {rest : List S32} {i : Nat} (h : RemO s e nrest rest i) (hi : i < s.size) (hb : bt s i = 34) : J s .mems i e 0 nrest rest := by
 rcases h with ⟨j, hsp, hj⟩ | ⟨rfl, rfl, hend⟩
 ·have hle := hsp.le
  by_cases he : i = j
  ·rw [he]; exact hj
  ·have hg := hsp.all i (Nat.le_refl _) (by omega)
   unfold GapC Scan.blank at hg; omega
 ·obtain ⟨_, j, hsp, hjs, hor⟩ := hend.way.resolve_left (by omega)
  have hle := hsp.le
  by_cases he : i = j
  ·subst he
   rcases hor with h3 | ⟨h3, _, _⟩
   ·omega
   ·omega
  ·have hg := hsp.all i (Nat.le_refl _) (by omega)
   unfold GapC Scan.blank at hg; omega
set_option maxHeartbeats 8000000 in
set_option maxRecDepth 100000 in
theorem foreach_obj (w0 w : World) (B B0 Bo Bs : Nat) (stop : Int) (s : ByteArray) (hs : s.size ≤ 65536) (nms : List S44) (ks : List S32) (eJ : Nat) (hJ : J s .val 0 eJ 6 nms ks) (hE : Blanks s eJ s.size) (hP : Prd s 0) (str : ByteArray) (num : Int) (hT : Tabs B w0) (hBB : B ≤ B0) (hO : Outs B0 Bo Bs stop w0 [] w) :
 Calls Tryz.prog 32 #[resV 5 s str 0 num, .func (.func 73) #[] #[.pointer (some ⟨Bs, 0, none⟩)]] w fun e w' => e = .returned (.tuple #[]) ∧ ∃ ps : List (Rs × Rs), Outs B0 Bo Bs stop w0 ps w' ∧ KidsOk s (ks.take ps.length) ps ∧ NamesOk s (nms.take ps.length) ps ∧ ps.length ≤ ks.length ∧
  (ps.length = ks.length ∨ (ps.length : Int) = stop ∧ 0 < stop) ∧ ∀ j : Nat, 0 < j → j < ps.length → (j : Int) ≠ stop := by
 obtain ⟨h91, hrem⟩ := obj_start hJ hE
 have hx := bt_nat s 0
 rw [h91] at hx
 have hpos : 0 < s.size := by have := hJ.bound; omega
 have p1 : ((0 : Int) < (s.size : Int)) = True := eq_true (by omega)
 have hks : ks.length ≤ 100000 := by have := kids_len hJ; have := hJ.bound; omega
 have hP1 : Prd s 1 := Prd.plain hs hP hpos (by rw [h91]; decide)
 replace hrem := Aside0.mk hrem
 replace hJ := Aside0.mk hJ
 replace hE := Aside0.mk hE
 replace hP := Aside0.mk hP
 replace hP1 := Aside0.mk hP1
 replace hT := Aside0.mk hT
 replace h91 := Aside0.mk h91
 replace hO := Aside0.mk hO
 go_enter Tryz.func32, Tryz.ntmps32
 go_wp2
 refine wp_loop_rounds 1 ?_
 rw [rounds_succ]
 go_wp2
 go_loopg [6, 9, 10, 11, 12, 13, 14] (s.size - 1) (fun kq v6 v9 v10 v11 v12 v13 v14 w' => ∃ i ix : Nat, v6 = .int .i64 i ∧ v12 = .int .i64 ix ∧ Aside0 (∃ (ps : List (Rs × Rs)) (ndone nrest : List S44) (kdone rest : List S32) (kr vr : Rs), LO s eJ nms ks B0 Bo Bs stop w0 w.heap.size (w.heap.size + 1 + 1) (w.heap.size + 1 + 1 + 1) str num kq i ix ps ndone nrest kdone rest kr vr w'))
 case atStart =>
  refine ⟨1, 0, rfl, rfl, ⟨[], [], nms, [], ks, ⟨3, ⟨#[]⟩, ⟨#[]⟩, 0, 0⟩, ⟨0, ⟨#[]⟩, ⟨#[]⟩, 0, 0⟩, ⟨rfl, rfl, rfl, trivial, trivial, rfl, by omega, hrem.out, fun _ => hP1.out, ⟨?_, ?_, ?_, ?_, by omega, ?_⟩, rfl, fun j h1 h2 => by simp at h2; omega⟩⟩⟩
  ·exact hO.out.below (below_alloc (below_alloc (below_alloc (below_alloc (Below.refl _ _) _) _) _) _)
  ·exact blk_alloc (blk_alloc (blk_alloc (blk_new w _) _) _) _
  ·have := blk_alloc (blk_new ((w.alloc (.cells (resC ⟨5, s, str, 0, num⟩) 67 (0, 0))).alloc (.cells (resC ⟨5, s, str, 0, num⟩) 67 (0, 0))) (.cells (resC ⟨3, ⟨#[]⟩, ⟨#[]⟩, 0, 0⟩) 67 (0, 0))) (.cells (resC ⟨0, ⟨#[]⟩, ⟨#[]⟩, 0, 0⟩) 67 (0, 0))
   simpa using this
  ·have := blk_new (((w.alloc (.cells (resC ⟨5, s, str, 0, num⟩) 67 (0, 0))).alloc (.cells (resC ⟨5, s, str, 0, num⟩) 67 (0, 0))).alloc (.cells (resC ⟨3, ⟨#[]⟩, ⟨#[]⟩, 0, 0⟩) 67 (0, 0))) (.cells (resC ⟨0, ⟨#[]⟩, ⟨#[]⟩, 0, 0⟩) 67 (0, 0))
   simpa using this
  ·exact ⟨by have := hO.out.loB; omega, by have := hO.out.loB; omega, by have := hO.out.loB; omega⟩
 case round =>
  obtain ⟨i, ix, rfl, rfl, hL⟩ := hrel
  obtain ⟨ps, ndone, nrest, kdone, rest, kr, vr, hkq, hnall, hall, hnok, hok, hix, hbnd, hrem1, hprd, hF, hkrk, hgo⟩ := hL.out
  clear hL
  by_cases hi : i < s.size
  ·have hprd1 := hprd (by omega)
   have hb := bt_nat s i
   have q0 : (0 ≤ (i : Int)) = True := eq_true (by omega)
   have q1 : ((i : Int) < (s.size : Int)) = True := eq_true (by omega)
   replace hok := Aside0.mk hok
   replace hnok := Aside0.mk hnok
   replace hall := Aside0.mk hall
   replace hnall := Aside0.mk hnall
   replace hgo := Aside0.mk hgo
   replace hkq := Aside0.mk hkq
   replace hix := Aside0.mk hix
   replace hkrk := Aside0.mk hkrk
   clear hprd
   by_cases h34 : bt s i = 34
   ·have hj := remo_mark hrem1 hi h34
    obtain ⟨q, bb, m, kd, ns1, nl, ks1, l, rfl, rfl, _, _, hq, hsp, hv, hA, hrem2, hms, hpb⟩ := mems_next hs hj hE.out
    have hPb := hpb hprd1
    have hvb := hv.bound
    have hst := val_start hv
    have hPm1 : Prd s (m + 1) := Prd.plain hs (J.prd hs hv hPb) hms (by have := hA.resolve_left (by omega); unfold Scan.blank at this; omega)
    obtain ⟨_, v, hsay⟩ := qstr_says hs hq (QStr.prd hs hi h34 hq hprd1).1
    have hQ := hq.str.quo (show 1 ≤ i + 1 by omega) (by simpa using h34)
    have hqb := hq.bound
    obtain ⟨ve, hps, hve⟩ := parse_string hs hQ
    obtain ⟨k, hk⟩ := hps.at
    have hpsc := fun W => Q.gjson_parseString.calls k s ((i + 1 : Nat) : Int) _ _ _ _ W hk
    rw [Nat.add_sub_cancel, show ((i + 1 : Nat) : Int) = (i : Int) + 1 by omega] at hpsc
    obtain ⟨x, hx0⟩ : ∃ x, s.extract i (q + 1) = x := ⟨_, rfl⟩
    obtain ⟨mm, hm⟩ : ∃ mm, q = i + 1 + mm := ⟨q - (i + 1), by omega⟩
    have hxz : x.size = mm + 2 := by rw [← hx0, ByteArray.size_extract]; omega
    have hcut : x.extract 1 (mm + 1) = s.extract (i + 1) q := by rw [← hx0, extract_in s i (q + 1) 1 (mm + 1) (by omega) (by omega), show i + (mm + 1) = q by omega]
    obtain ⟨y, hy⟩ : ∃ y, s.extract (i + 1) q = y := ⟨_, rfl⟩
    have hsl : ∀ wx : World, (Instr.slice 9 (.string x) (some (.int .i64 1)) (some (.int .i64 ((mm : Int) + 2 - 1))) none).run Tryz.prog wx = .ok (.string y) wx := fun wx => by
     rw [show (mm : Int) + 2 - 1 = (mm : Int) + 1 by omega]
     have h := run_slice_string (P := Tryz.prog) wx 9 x .i64 .i64 1 ((mm : Int) + 1) Tryz.underlying9 (by omega) (by omega) (by omega)
     rwa [show (1 : Int).toNat = 1 from rfl, show ((mm : Int) + 1).toNat = mm + 1 by omega, hcut, hy] at h
    rw [hx0] at hpsc
    have hyz : y.size ≤ 1000000 := by rw [← hy, ByteArray.size_extract]; omega
    have hys : ∃ l, Unq y 0 l ∧ v = strOfNums l := by rw [← hy]; exact hsay.unq
    have hyp : ve = false → y = v := fun h => by
     rw [← hy]
     exact (hsay.plain (by omega) (hve h)).symm
    obtain ⟨ll, hl, hvl⟩ := hys
    have hun := fun W => unescape_calls W y ll hyz hl
    rw [← hvl] at hun
    have hmb : mm ≤ 65536 := by omega
    have hlen : (x.size : Int) = (mm : Int) + 2 := by omega
    have hnm : ∀ r : Rs, r.k = 3 → r.raw = x → r.str = v → NameOk s ⟨(i : Nat), (q + 1 : Nat)⟩ r := fun r h1 h2 h3 => ⟨⟨i, q, rfl, rfl, by omega, by omega, by rw [h2, hx0], by rw [h3]; exact hsay⟩, h1⟩
    have hbq : q + 1 ≤ bb := hsp.le
    have hbs : bb < s.size := by omega
    have hany : ∀ (kr2 : Rs) (W : World), FEW s B0 Bo Bs stop w0 w.heap.size (w.heap.size + 1 + 1) (w.heap.size + 1 + 1 + 1) str num ps kr2 vr W → Calls Tryz.prog 62 #[.string s, .int .i64 bb, .bool true] W fun r w' => ∃ rs : Rs, r = .returned (.tuple #[.int .i64 m, resV rs.k rs.raw rs.str rs.num rs.idx, .bool true]) ∧ KidOk s ⟨kd, bb, m, ns1, ks1⟩ rs ∧ FEW s B0 Bo Bs stop w0 w.heap.size (w.heap.size + 1 + 1) (w.heap.size + 1 + 1 + 1) str num ps kr2 vr w' := fun kr2 W hW =>
     (any_value W B s hs (hT.out.below (below_mono hW.outs.bel hBB)) hv hA hPb).mono (fun r w' ⟨rs, h1, h2, h3⟩ => ⟨rs, h1, h2, hW.below h3⟩)
    obtain ⟨bgo, hbgo⟩ : ∃ b, (((ps.length + 1 : Nat) : Int) != stop) = b := ⟨_, rfl⟩
    have hcl0 : ∀ (kr2 vr2 : Rs) (W : World), FEW s B0 Bo Bs stop w0 w.heap.size (w.heap.size + 1 + 1) (w.heap.size + 1 + 1 + 1) str num ps kr2 vr2 W → Calls Tryz.prog 73 #[resV kr2.k kr2.raw kr2.str kr2.num kr2.idx, resV vr2.k vr2.raw vr2.str vr2.num vr2.idx, .pointer (some ⟨Bs, 0, none⟩)] W fun e w' => e = .returned (.bool bgo) ∧ FEW s B0 Bo Bs stop w0 w.heap.size (w.heap.size + 1 + 1) (w.heap.size + 1 + 1 + 1) str num (ps ++ [(kr2, vr2)]) kr2 vr2 w' := fun kr2 vr2 W hW =>
     (each_calls B0 Bo Bs stop w0 W ps kr2 vr2 hW.outs (by have := hix.out; omega)).mono (fun e w' ⟨h1, h2, h3, h4⟩ => ⟨by rw [h1, hbgo], hW.after h2 h4⟩)
    have hqn : ∀ (wx : World) (a : Option Addr) (n c n' c' : Nat), (binOp .neq 65 (.slice a n c) (.slice none n' c')).run Tryz.prog wx = .ok (.bool (!a.isNone)) wx := fun wx a n c n' c' => run_neq_slice_nil_any wx _ _ a n c n' c' Tryz.underlying65
    have hun2 : ∀ W, FEW s B0 Bo Bs stop w0 w.heap.size (w.heap.size + 1 + 1) (w.heap.size + 1 + 1 + 1) str num ps kr vr W → Calls Tryz.prog 61 #[.string y] W fun e w' => e = .returned (.string v) ∧ FEW s B0 Bo Bs stop w0 w.heap.size (w.heap.size + 1 + 1) (w.heap.size + 1 + 1 + 1) str num ps kr vr w' := fun W h => (hun W).mono (fun e w' hh => ⟨hh.1, h.below hh.2⟩)
    have hixb : (ix : Int) ≤ 65536 := by omega
    rw [h34] at hb
    have hF0 := hF
    have dk0 := (blk_cell hF0.bk 0).trans rfl
    have fk0 := blk_frozen hF0.bk 0
    have dk1 := (blk_cell hF0.bk 1).trans rfl
    have fk1 := blk_frozen hF0.bk 1
    have dk2 := (blk_cell hF0.bk 2).trans rfl
    have fk2 := blk_frozen hF0.bk 2
    have dk3 := (blk_cell hF0.bk 3).trans rfl
    have fk3 := blk_frozen hF0.bk 3
    have dk4 := (blk_cell hF0.bk 4).trans rfl
    have fk4 := blk_frozen hF0.bk 4
    have dk5 := (blk_cell hF0.bk 5).trans rfl
    have fk5 := blk_frozen hF0.bk 5
    have dt4 := (blk_cell hF0.bt 4).trans rfl
    replace hF := Aside0.mk hF
    clear hF0 hx0 hcut hy hve hps hk hsay hl hvl hun hm hyz hxz hpb hj
    replace hQ := Aside0.mk hQ
    replace hq := Aside0.mk hq
    replace h34 := Aside0.mk h34
    replace hrem1 := Aside0.mk hrem1
    replace hrem2 := Aside0.mk hrem2
    replace hprd1 := Aside0.mk hprd1
    replace hPb := Aside0.mk hPb
    replace hPm1 := Aside0.mk hPm1
    replace hv := Aside0.mk hv
    replace hA := Aside0.mk hA
    replace hst := Aside0.mk hst
    replace hbgo := Aside0.mk hbgo
    cases ve with
    | false =>
      have hyv := hyp rfl
      subst hyv
      clear hyp
      go_wp2_with (first | (go_at_call 60; (with_reducible refine (hpsc _).mono ?_); rintro r w4 ⟨rfl, ⟨n4, rfl⟩⟩))
      go_loopg [6] (s.size - (q + 1)) (fun kq v6 w' => ∃ p : Nat, v6 = .int .i64 p ∧ Aside0 (InO s B0 Bo Bs stop w0 w.heap.size (w.heap.size + 1 + 1) (w.heap.size + 1 + 1 + 1) str num ps ⟨kr.k, x, y, kr.num, wrap64 ((i : Int) + num)⟩ vr (q + 1) bb kq p w'))
      case atStart => exact ⟨q + 1, by first | rfl | (congr 1; omega), ⟨⟨rfl, Nat.le_refl _, hbq, (((hF.out.drewN _).setk ⟨kr.k, kr.raw, y, kr.num, kr.idx⟩ 2 _ rfl).setk ⟨kr.k, x, y, kr.num, kr.idx⟩ 1 _ rfl).setk ⟨kr.k, x, y, kr.num, wrap64 ((i : Int) + num)⟩ 4 _ rfl⟩⟩⟩
      case round =>
       obtain ⟨p, rfl, hL⟩ := hrel
       obtain ⟨hkq2, hip, hpj, hF2⟩ := hL.out
       clear hL dk0 dk1 dk2 dk3 dk4 dk5 fk0 fk1 fk2 fk3 fk4 fk5 dt4
       have hps : p < s.size := by omega
       have hbp := bt_nat s p
       have t0 : (0 ≤ (p : Int)) = True := eq_true (by omega)
       have t1 : ((p : Int) < (s.size : Int)) = True := eq_true (by omega)
       replace hkq2 := Aside0.mk hkq2
       replace hF2 := Aside0.mk hF2
       by_cases hpe : p = bb
       ·subst hpe
        have hcj := hst.out
        generalize bt s p = c at *
        have e1 : decide (c ≤ 32) = false := decide_eq_false (by omega)
        have e2 : (c == 44) = false := beq_eq_false_iff_ne.mpr hcj.2.1
        have e3 : (c == 58) = false := beq_eq_false_iff_ne.mpr hcj.2.2.1
        replace hcj := Aside0.mk hcj
        have hany2 := hany ⟨kr.k, x, y, kr.num, wrap64 ((i : Int) + num)⟩
        have hclb := hcl0 ⟨kr.k, x, y, kr.num, wrap64 ((i : Int) + num)⟩
        have hnmb := Aside0.mk (hnm ⟨kr.k, x, y, kr.num, wrap64 ((i : Int) + num)⟩ hkrk.out rfl rfl)
        clear hany hcl0 hnm
        go_upto_region 46 with (first | (go_at_call 62; (with_reducible refine (hany2 _ ?hF).mono ?_); (case hF => repeat (with_reducible first | exact hF2.out | apply FEW.drewN | apply FEW.drew)); rintro r w6 ⟨rs, rfl, hkid, hF5⟩; have cv0 := (blk_cell hF5.bv 0).trans rfl; have fv0 := blk_frozen hF5.bv 0; have ck0 := (blk_cell hF5.bk 0).trans rfl; have cv1 := (blk_cell hF5.bv 1).trans rfl; have fv1 := blk_frozen hF5.bv 1; have ck1 := (blk_cell hF5.bk 1).trans rfl; have cv2 := (blk_cell hF5.bv 2).trans rfl; have fv2 := blk_frozen hF5.bv 2; have ck2 := (blk_cell hF5.bk 2).trans rfl; have cv3 := (blk_cell hF5.bv 3).trans rfl; have fv3 := blk_frozen hF5.bv 3; have ck3 := (blk_cell hF5.bk 3).trans rfl; have cv4 := (blk_cell hF5.bv 4).trans rfl; have fv4 := blk_frozen hF5.bv 4; have ck4 := (blk_cell hF5.bk 4).trans rfl; have cv5 := (blk_cell hF5.bv 5).trans rfl; have fv5 := blk_frozen hF5.bv 5; have ck5 := (blk_cell hF5.bk 5).trans rfl; have ct4 := (blk_cell hF5.bt 4).trans rfl; have ct5 := (blk_cell hF5.bt 5).trans rfl; replace hF5 := Aside0.mk hF5; replace hkid := Aside0.mk hkid))
        have hF6 := hF5.out.putv rs (wrap64 ((p : Int) + num))
        generalize (((((((w6.setCell ⟨w.heap.size + 1 + 1 + 1, 0, none⟩ (.int .i64 rs.k)).setCell ⟨w.heap.size + 1 + 1 + 1, 1, none⟩ (.string rs.raw)).setCell ⟨w.heap.size + 1 + 1 + 1, 2, none⟩ (.string rs.str)).setCell ⟨w.heap.size + 1 + 1 + 1, 3, none⟩ (.float .f64 rs.num)).setCell ⟨w.heap.size + 1 + 1 + 1, 4, none⟩ (.int .i64 rs.idx)).setCell ⟨w.heap.size + 1 + 1 + 1, 5, none⟩ (.slice none 0 0)).setCell ⟨w.heap.size + 1 + 1 + 1, 4, none⟩ (.int .i64 (wrap64 ((p : Int) + num)))) = W6 at hF6 ⊢
        clear cv0 cv1 cv2 cv3 cv4 cv5 ck0 ck1 ck2 ck3 ck4 ck5 fv0 fv1 fv2 fv3 fv4 fv5 ct4 ct5
        have cv0 := (blk_cell hF6.bv 0).trans rfl
        have ck0 := (blk_cell hF6.bk 0).trans rfl
        have cv1 := (blk_cell hF6.bv 1).trans rfl
        have ck1 := (blk_cell hF6.bk 1).trans rfl
        have cv2 := (blk_cell hF6.bv 2).trans rfl
        have ck2 := (blk_cell hF6.bk 2).trans rfl
        have cv3 := (blk_cell hF6.bv 3).trans rfl
        have ck3 := (blk_cell hF6.bk 3).trans rfl
        have cv4 := (blk_cell hF6.bv 4).trans rfl
        have ck4 := (blk_cell hF6.bk 4).trans rfl
        have cv5 := (blk_cell hF6.bv 5).trans rfl
        have ck5 := (blk_cell hF6.bk 5).trans rfl
        have hcl : Calls Tryz.prog 73 #[.agg #[.int .i64 kr.k, .string x, .string y, .float .f64 kr.num, .int .i64 (wrap64 ((i : Int) + num)), .slice none 0 0], .agg #[.int .i64 rs.k, .string rs.raw, .string rs.str, .float .f64 rs.num, .int .i64 (wrap64 ((p : Int) + num)), .slice none 0 0], .pointer (some ⟨Bs, 0, none⟩)] W6 fun e w' => e = .returned (.bool bgo) ∧ FEW s B0 Bo Bs stop w0 w.heap.size (w.heap.size + 1 + 1) (w.heap.size + 1 + 1 + 1) str num (ps ++ [(⟨kr.k, x, y, kr.num, wrap64 ((i : Int) + num)⟩, { rs with idx := wrap64 ((p : Int) + num) })]) ⟨kr.k, x, y, kr.num, wrap64 ((i : Int) + num)⟩ { rs with idx := wrap64 ((p : Int) + num) } w' := hclb { rs with idx := wrap64 ((p : Int) + num) } W6 hF6
        replace hF6 := Aside0.mk hF6
        have hkid2 := Aside0.mk (hkid.out.idx (wrap64 ((p : Int) + num)))
        clear hclb hany2
        cases bgo with
        | false =>
          go_wp2_with (first | (go_at_call 73; (with_reducible refine hcl.mono ?_); rintro r w7 ⟨rfl, hF7⟩; replace hF7 := Aside0.mk hF7))
          refine bodyPost_ret (results_none rfl _ _ _) rfl ?_
          have hst2 : ((ps.length + 1 : Nat) : Int) = stop := by have h := hbgo.out; simpa using h
          have hln := hok.out.length
          have hln2 := hnok.out.length
          obtain ⟨htk, hle⟩ := take_done hall.out
          obtain ⟨htk2, _⟩ := take_done hnall.out
          refine ⟨rfl, ps ++ [(⟨kr.k, x, y, kr.num, wrap64 ((i : Int) + num)⟩, { rs with idx := wrap64 ((p : Int) + num) })], hF7.out.outs, ?_, ?_, ?_, .inr ?_, fun j h1 h2 => ?_⟩
          ·rw [List.length_append, List.length_singleton, ← hln, htk]; exact KidsOk.snoc hkid2.out hok.out
          ·rw [List.length_append, List.length_singleton, ← hln2, htk2]; exact NamesOk.snoc hnmb.out hnok.out
          ·rw [List.length_append, List.length_singleton, ← hln]; exact hle
          ·rw [List.length_append, List.length_singleton]; exact ⟨hst2, by omega⟩
          ·rw [List.length_append, List.length_singleton] at h2; exact hgo.out j h1 (by omega)
        | true =>
          go_wp2_with (first | (go_at_call 73; (with_reducible refine hcl.mono ?_); rintro r w7 ⟨rfl, hF7⟩; replace hF7 := Aside0.mk hF7))
          have hst2 : ((ps.length + 1 : Nat) : Int) ≠ stop := by have h := hbgo.out; simpa using h
          go_roundg (s.size - (m + 1))
          case measure => have := hkq.out; omega
          case rel => exact ⟨m + 1, ix + 1, by first | rfl | (congr 1; omega), by first | rfl | (congr 1; omega), ⟨ps ++ [(⟨kr.k, x, y, kr.num, wrap64 ((i : Int) + num)⟩, { rs with idx := wrap64 ((p : Int) + num) })], ndone ++ [⟨(i : Nat), (q + 1 : Nat)⟩], nl, kdone ++ [⟨kd, (p : Nat), (m : Nat), ns1, ks1⟩], l, ⟨kr.k, x, y, kr.num, wrap64 ((i : Int) + num)⟩, { rs with idx := wrap64 ((p : Int) + num) },
           ⟨rfl, by rw [List.append_assoc]; exact hnall.out, by rw [List.append_assoc]; exact hall.out, NamesOk.snoc hnmb.out hnok.out, KidsOk.snoc hkid2.out hok.out, by rw [List.length_append, List.length_singleton, hix.out], by omega, hrem2.out, fun _ => hPm1.out, hF7.out, hkrk.out, fun j h1 h2 => by
            rw [List.length_append, List.length_singleton] at h2
            by_cases hje : j = ps.length + 1
            ·rw [hje]; exact hst2
            ·exact hgo.out j h1 (by omega)⟩⟩⟩
       ·have hg := hsp.all p hip (by omega)
        have hg2 := gap_tests hg
        generalize bt s p = c at *
        replace hg := Aside0.mk hg
        rcases hg2 with hle | ⟨hle, he⟩ | ⟨hle, he⟩
        ·have e1 : decide (c ≤ 32) = true := decide_eq_true hle
         go_wp2
         go_roundg (s.size - (p + 1))
         case measure => have := hkq2.out; omega
         case rel => exact ⟨p + 1, by first | rfl | (congr 1; omega), ⟨⟨rfl, by omega, by omega, by repeat (with_reducible first | exact hF2.out | apply FEW.drewN | apply FEW.drew)⟩⟩⟩
        ·subst he
         go_wp2
         go_roundg (s.size - (p + 1))
         case measure => have := hkq2.out; omega
         case rel => exact ⟨p + 1, by first | rfl | (congr 1; omega), ⟨⟨rfl, by omega, by omega, by repeat (with_reducible first | exact hF2.out | apply FEW.drewN | apply FEW.drew)⟩⟩⟩
        ·subst he
         go_wp2
         go_roundg (s.size - (p + 1))
         case measure => have := hkq2.out; omega
         case rel => exact ⟨p + 1, by first | rfl | (congr 1; omega), ⟨⟨rfl, by omega, by omega, by repeat (with_reducible first | exact hF2.out | apply FEW.drewN | apply FEW.drew)⟩⟩⟩
    | true =>
      clear hyp
      go_wp2_with (first | (go_at_call 60; (with_reducible refine (hpsc _).mono ?_); rintro r w4 ⟨rfl, ⟨n4, rfl⟩⟩) | (go_at_call 61; (with_reducible refine (hun2 _ ?hF).mono ?_); (case hF => repeat (with_reducible first | exact hF.out | apply FEW.drewN | apply FEW.drew)); rintro r w5 ⟨rfl, hF5⟩; have dk0 := (blk_cell hF5.bk 0).trans rfl; have fk0 := blk_frozen hF5.bk 0; have dk1 := (blk_cell hF5.bk 1).trans rfl; have fk1 := blk_frozen hF5.bk 1; have dk2 := (blk_cell hF5.bk 2).trans rfl; have fk2 := blk_frozen hF5.bk 2; have dk3 := (blk_cell hF5.bk 3).trans rfl; have fk3 := blk_frozen hF5.bk 3; have dk4 := (blk_cell hF5.bk 4).trans rfl; have fk4 := blk_frozen hF5.bk 4; have dk5 := (blk_cell hF5.bk 5).trans rfl; have fk5 := blk_frozen hF5.bk 5; have dt4 := (blk_cell hF5.bt 4).trans rfl; replace hF5 := Aside0.mk hF5))
      go_loopg [6] (s.size - (q + 1)) (fun kq v6 w' => ∃ p : Nat, v6 = .int .i64 p ∧ Aside0 (InO s B0 Bo Bs stop w0 w.heap.size (w.heap.size + 1 + 1) (w.heap.size + 1 + 1 + 1) str num ps ⟨kr.k, x, v, kr.num, wrap64 ((i : Int) + num)⟩ vr (q + 1) bb kq p w'))
      case atStart => exact ⟨q + 1, by first | rfl | (congr 1; omega), ⟨⟨rfl, Nat.le_refl _, hbq, ((hF5.out.setk ⟨kr.k, kr.raw, v, kr.num, kr.idx⟩ 2 _ rfl).setk ⟨kr.k, x, v, kr.num, kr.idx⟩ 1 _ rfl).setk ⟨kr.k, x, v, kr.num, wrap64 ((i : Int) + num)⟩ 4 _ rfl⟩⟩⟩
      case round =>
       obtain ⟨p, rfl, hL⟩ := hrel
       obtain ⟨hkq2, hip, hpj, hF2⟩ := hL.out
       clear hL dk0 dk1 dk2 dk3 dk4 dk5 fk0 fk1 fk2 fk3 fk4 fk5 dt4
       have hps : p < s.size := by omega
       have hbp := bt_nat s p
       have t0 : (0 ≤ (p : Int)) = True := eq_true (by omega)
       have t1 : ((p : Int) < (s.size : Int)) = True := eq_true (by omega)
       replace hkq2 := Aside0.mk hkq2
       replace hF2 := Aside0.mk hF2
       by_cases hpe : p = bb
       ·subst hpe
        have hcj := hst.out
        generalize bt s p = c at *
        have e1 : decide (c ≤ 32) = false := decide_eq_false (by omega)
        have e2 : (c == 44) = false := beq_eq_false_iff_ne.mpr hcj.2.1
        have e3 : (c == 58) = false := beq_eq_false_iff_ne.mpr hcj.2.2.1
        replace hcj := Aside0.mk hcj
        have hany2 := hany ⟨kr.k, x, v, kr.num, wrap64 ((i : Int) + num)⟩
        have hclb := hcl0 ⟨kr.k, x, v, kr.num, wrap64 ((i : Int) + num)⟩
        have hnmb := Aside0.mk (hnm ⟨kr.k, x, v, kr.num, wrap64 ((i : Int) + num)⟩ hkrk.out rfl rfl)
        clear hany hcl0 hnm
        go_upto_region 46 with (first | (go_at_call 62; (with_reducible refine (hany2 _ ?hF).mono ?_); (case hF => repeat (with_reducible first | exact hF2.out | apply FEW.drewN | apply FEW.drew)); rintro r w6 ⟨rs, rfl, hkid, hF5⟩; have cv0 := (blk_cell hF5.bv 0).trans rfl; have fv0 := blk_frozen hF5.bv 0; have ck0 := (blk_cell hF5.bk 0).trans rfl; have cv1 := (blk_cell hF5.bv 1).trans rfl; have fv1 := blk_frozen hF5.bv 1; have ck1 := (blk_cell hF5.bk 1).trans rfl; have cv2 := (blk_cell hF5.bv 2).trans rfl; have fv2 := blk_frozen hF5.bv 2; have ck2 := (blk_cell hF5.bk 2).trans rfl; have cv3 := (blk_cell hF5.bv 3).trans rfl; have fv3 := blk_frozen hF5.bv 3; have ck3 := (blk_cell hF5.bk 3).trans rfl; have cv4 := (blk_cell hF5.bv 4).trans rfl; have fv4 := blk_frozen hF5.bv 4; have ck4 := (blk_cell hF5.bk 4).trans rfl; have cv5 := (blk_cell hF5.bv 5).trans rfl; have fv5 := blk_frozen hF5.bv 5; have ck5 := (blk_cell hF5.bk 5).trans rfl; have ct4 := (blk_cell hF5.bt 4).trans rfl; have ct5 := (blk_cell hF5.bt 5).trans rfl; replace hF5 := Aside0.mk hF5; replace hkid := Aside0.mk hkid))
        have hF6 := hF5.out.putv rs (wrap64 ((p : Int) + num))
        generalize (((((((w6.setCell ⟨w.heap.size + 1 + 1 + 1, 0, none⟩ (.int .i64 rs.k)).setCell ⟨w.heap.size + 1 + 1 + 1, 1, none⟩ (.string rs.raw)).setCell ⟨w.heap.size + 1 + 1 + 1, 2, none⟩ (.string rs.str)).setCell ⟨w.heap.size + 1 + 1 + 1, 3, none⟩ (.float .f64 rs.num)).setCell ⟨w.heap.size + 1 + 1 + 1, 4, none⟩ (.int .i64 rs.idx)).setCell ⟨w.heap.size + 1 + 1 + 1, 5, none⟩ (.slice none 0 0)).setCell ⟨w.heap.size + 1 + 1 + 1, 4, none⟩ (.int .i64 (wrap64 ((p : Int) + num)))) = W6 at hF6 ⊢
        clear cv0 cv1 cv2 cv3 cv4 cv5 ck0 ck1 ck2 ck3 ck4 ck5 fv0 fv1 fv2 fv3 fv4 fv5 ct4 ct5
        have cv0 := (blk_cell hF6.bv 0).trans rfl
        have ck0 := (blk_cell hF6.bk 0).trans rfl
        have cv1 := (blk_cell hF6.bv 1).trans rfl
        have ck1 := (blk_cell hF6.bk 1).trans rfl
        have cv2 := (blk_cell hF6.bv 2).trans rfl
        have ck2 := (blk_cell hF6.bk 2).trans rfl
        have cv3 := (blk_cell hF6.bv 3).trans rfl
        have ck3 := (blk_cell hF6.bk 3).trans rfl
        have cv4 := (blk_cell hF6.bv 4).trans rfl
        have ck4 := (blk_cell hF6.bk 4).trans rfl
        have cv5 := (blk_cell hF6.bv 5).trans rfl
        have ck5 := (blk_cell hF6.bk 5).trans rfl
        have hcl : Calls Tryz.prog 73 #[.agg #[.int .i64 kr.k, .string x, .string v, .float .f64 kr.num, .int .i64 (wrap64 ((i : Int) + num)), .slice none 0 0], .agg #[.int .i64 rs.k, .string rs.raw, .string rs.str, .float .f64 rs.num, .int .i64 (wrap64 ((p : Int) + num)), .slice none 0 0], .pointer (some ⟨Bs, 0, none⟩)] W6 fun e w' => e = .returned (.bool bgo) ∧ FEW s B0 Bo Bs stop w0 w.heap.size (w.heap.size + 1 + 1) (w.heap.size + 1 + 1 + 1) str num (ps ++ [(⟨kr.k, x, v, kr.num, wrap64 ((i : Int) + num)⟩, { rs with idx := wrap64 ((p : Int) + num) })]) ⟨kr.k, x, v, kr.num, wrap64 ((i : Int) + num)⟩ { rs with idx := wrap64 ((p : Int) + num) } w' := hclb { rs with idx := wrap64 ((p : Int) + num) } W6 hF6
        replace hF6 := Aside0.mk hF6
        have hkid2 := Aside0.mk (hkid.out.idx (wrap64 ((p : Int) + num)))
        clear hclb hany2
        cases bgo with
        | false =>
          go_wp2_with (first | (go_at_call 73; (with_reducible refine hcl.mono ?_); rintro r w7 ⟨rfl, hF7⟩; replace hF7 := Aside0.mk hF7))
          refine bodyPost_ret (results_none rfl _ _ _) rfl ?_
          have hst2 : ((ps.length + 1 : Nat) : Int) = stop := by have h := hbgo.out; simpa using h
          have hln := hok.out.length
          have hln2 := hnok.out.length
          obtain ⟨htk, hle⟩ := take_done hall.out
          obtain ⟨htk2, _⟩ := take_done hnall.out
          refine ⟨rfl, ps ++ [(⟨kr.k, x, v, kr.num, wrap64 ((i : Int) + num)⟩, { rs with idx := wrap64 ((p : Int) + num) })], hF7.out.outs, ?_, ?_, ?_, .inr ?_, fun j h1 h2 => ?_⟩
          ·rw [List.length_append, List.length_singleton, ← hln, htk]; exact KidsOk.snoc hkid2.out hok.out
          ·rw [List.length_append, List.length_singleton, ← hln2, htk2]; exact NamesOk.snoc hnmb.out hnok.out
          ·rw [List.length_append, List.length_singleton, ← hln]; exact hle
          ·rw [List.length_append, List.length_singleton]; exact ⟨hst2, by omega⟩
          ·rw [List.length_append, List.length_singleton] at h2; exact hgo.out j h1 (by omega)
        | true =>
          go_wp2_with (first | (go_at_call 73; (with_reducible refine hcl.mono ?_); rintro r w7 ⟨rfl, hF7⟩; replace hF7 := Aside0.mk hF7))
          have hst2 : ((ps.length + 1 : Nat) : Int) ≠ stop := by have h := hbgo.out; simpa using h
          go_roundg (s.size - (m + 1))
          case measure => have := hkq.out; omega
          case rel => exact ⟨m + 1, ix + 1, by first | rfl | (congr 1; omega), by first | rfl | (congr 1; omega), ⟨ps ++ [(⟨kr.k, x, v, kr.num, wrap64 ((i : Int) + num)⟩, { rs with idx := wrap64 ((p : Int) + num) })], ndone ++ [⟨(i : Nat), (q + 1 : Nat)⟩], nl, kdone ++ [⟨kd, (p : Nat), (m : Nat), ns1, ks1⟩], l, ⟨kr.k, x, v, kr.num, wrap64 ((i : Int) + num)⟩, { rs with idx := wrap64 ((p : Int) + num) },
           ⟨rfl, by rw [List.append_assoc]; exact hnall.out, by rw [List.append_assoc]; exact hall.out, NamesOk.snoc hnmb.out hnok.out, KidsOk.snoc hkid2.out hok.out, by rw [List.length_append, List.length_singleton, hix.out], by omega, hrem2.out, fun _ => hPm1.out, hF7.out, hkrk.out, fun j h1 h2 => by
            rw [List.length_append, List.length_singleton] at h2
            by_cases hje : j = ps.length + 1
            ·rw [hje]; exact hst2
            ·exact hgo.out j h1 (by omega)⟩⟩⟩
       ·have hg := hsp.all p hip (by omega)
        have hg2 := gap_tests hg
        generalize bt s p = c at *
        replace hg := Aside0.mk hg
        rcases hg2 with hle | ⟨hle, he⟩ | ⟨hle, he⟩
        ·have e1 : decide (c ≤ 32) = true := decide_eq_true hle
         go_wp2
         go_roundg (s.size - (p + 1))
         case measure => have := hkq2.out; omega
         case rel => exact ⟨p + 1, by first | rfl | (congr 1; omega), ⟨⟨rfl, by omega, by omega, by repeat (with_reducible first | exact hF2.out | apply FEW.drewN | apply FEW.drew)⟩⟩⟩
        ·subst he
         go_wp2
         go_roundg (s.size - (p + 1))
         case measure => have := hkq2.out; omega
         case rel => exact ⟨p + 1, by first | rfl | (congr 1; omega), ⟨⟨rfl, by omega, by omega, by repeat (with_reducible first | exact hF2.out | apply FEW.drewN | apply FEW.drew)⟩⟩⟩
        ·subst he
         go_wp2
         go_roundg (s.size - (p + 1))
         case measure => have := hkq2.out; omega
         case rel => exact ⟨p + 1, by first | rfl | (congr 1; omega), ⟨⟨rfl, by omega, by omega, by repeat (with_reducible first | exact hF2.out | apply FEW.drewN | apply FEW.drew)⟩⟩⟩
   ·obtain ⟨hrem2, h92⟩ := remo_skip hrem1 hi h34
    have hP2 : Prd s (i + 1) := Prd.plain hs hprd1 hi h92
    generalize bt s i = c at *
    have e34 : (c != 34) = true := bne_iff_ne.mpr h34
    replace hF := Aside0.mk hF
    replace hrem1 := Aside0.mk hrem1
    replace hrem2 := Aside0.mk hrem2
    replace hprd1 := Aside0.mk hprd1
    replace hP2 := Aside0.mk hP2
    go_wp2
    go_roundg (s.size - (i + 1))
    case measure => have := hkq.out; omega
    case rel => exact ⟨i + 1, ix, by first | rfl | (congr 1; omega), rfl, ⟨ps, ndone, nrest, kdone, rest, kr, vr, ⟨rfl, hnall.out, hall.out, hnok.out, hok.out, hix.out, by omega, hrem2.out, fun _ => hP2.out, hF.out, hkrk.out, hgo.out⟩⟩⟩
  ·have hr : rest = [] ∧ nrest = [] := by
    rcases hrem1 with ⟨j, hsp, hj⟩ | ⟨h, h', _⟩
    ·have := hj.bound; have := hsp.le; omega
    ·exact ⟨h', h⟩
   obtain ⟨rfl, rfl⟩ := hr
   rw [List.append_nil] at hall hnall
   subst hall
   subst hnall
   have hlen := hok.length
   have hlen2 := hnok.length
   go_wp2
   go_end0
   exact ⟨rfl, ps, hF.outs, by rw [← hlen, List.take_length]; exact hok, by rw [← hlen2, List.take_length]; exact hnok, by omega, .inl hlen.symm, fun j h1 h2 => hgo j h1 (by omega)⟩
end Go.Proofs.YtpgfjbimodnkeaaGreatDoor.Dec
set_option linter.unusedVariables false
set_option linter.unusedSimpArgs false
namespace Go.Proofs.YtpgfjbimodnkeaaGreatDoor.Dec
open Go Go.RowKit Go.Proofs.YtpgfjbimodnkeaaGreatDoorW.PrintWords Go.Proofs.YtpgfjbimodnkeaaGreatDoorW.PrintLast Go.Proofs.YtpgfjbimodnkeaaGreatDoorW.PrintMore Go.Proofs.YtpgfjbimodnkeaaGreatDoor.Scan Go.Proofs.YtpgfjbimodnkeaaGreatDoor.Q
theorem two_new (w : World) (a b : Array Value) (t u : TypeId) : ((w.alloc (.cells a t)).alloc (.cells b u)).heap[w.heap.size]? = some (.cells a t (0, 0)) ∧ ((w.alloc (.cells a t)).alloc (.cells b u)).heap[w.heap.size + 1]? = some (.cells b u (0, 0)) := by
 refine ⟨blk_alloc (blk_new w _) _, ?_⟩
 have := blk_new (w.alloc (.cells a t)) (.cells b u)
 simpa using this
set_option maxHeartbeats 8000000 in
set_option maxRecDepth 100000 in
theorem parse_calls (w : World) (s : ByteArray) (hs : s.size ≤ 65536) (i : Nat) (hi : i < s.size) (hb : Blanks s 0 i) (hc : bt s i = 123 ∨ bt s i = 91) :
 Calls Tryz.prog 44 #[.string s] w fun e w' => e = .returned (resV 5 (s.extract i s.size) ⟨#[]⟩ 0 i) ∧ Below w.heap.size w w' := by
 have hex := fun W => Q.gjson_Result_Exists.calls 5 (s.extract i s.size) ⟨#[]⟩ 0 0 none 0 [] true W (Kd.C_nil _ _) (Nat.le_refl _) (by unfold Q.gjson_Result_Exists.f; rfl)
 simp only [List.length_nil] at hex
 replace hb := Aside0.mk hb
 replace hc := Aside0.mk hc
 go_enter Tryz.func44, Tryz.ntmps44
 go_wp2_with (fail)
 go_loopg [4] i (fun kq v4 w' => ∃ p : Nat, v4 = .int .i64 p ∧ Aside0 (p + kq = i) ∧ w' = (w.alloc (.cells #[.int .i64 0, .string ⟨#[]⟩, .string ⟨#[]⟩, .float .f64 0, .int .i64 0, .slice none 0 0] 67)).alloc (.cells #[.int .i64 0, .string ⟨#[]⟩, .string ⟨#[]⟩, .float .f64 0, .int .i64 0, .slice none 0 0] 67))
 case atStart => exact ⟨0, rfl, ⟨by omega⟩, rfl⟩
 case round =>
  obtain ⟨p, rfl, hp, rfl⟩ := hrel
  have hpi := hp.out
  have hps : p < s.size := by omega
  have hx := bt_nat s p
  have j0 : ((0 : Int) ≤ (p : Int)) = True := eq_true (by omega)
  have j1 : ((p : Int) < (s.size : Int)) = True := eq_true (by omega)
  have j2 : (p < s.size) = True := eq_true hps
  have j3 : decide ((p : Int) < (s.size : Int)) = true := decide_eq_true (by omega)
  have t0 : ((s[p]'hps).toNat : Int) = bt s p := by simpa using bt_at s p (by simpa using hps)
  by_cases he : p = i
  ·subst he
   have hcc := hc.out
   have s1 : ((p : Int) ≤ (s.size : Int)) = True := eq_true (by omega)
   clear hpi
   generalize bt s p = c at *
   rcases hcc with rfl | rfl
   all_goals
    have kk := two_new w #[.int .i64 0, .string ⟨#[]⟩, .string ⟨#[]⟩, .float .f64 0, .int .i64 0, .slice none 0 0] #[.int .i64 5, .string (s.extract p s.size), .string ⟨#[]⟩, .float .f64 0, .int .i64 0, .slice none 0 0] 67 67
    have kB : Below w.heap.size w ((w.alloc (.cells #[.int .i64 0, .string ⟨#[]⟩, .string ⟨#[]⟩, .float .f64 0, .int .i64 0, .slice none 0 0] 67)).alloc (.cells #[.int .i64 5, .string (s.extract p s.size), .string ⟨#[]⟩, .float .f64 0, .int .i64 0, .slice none 0 0] 67)) := below_alloc (below_alloc (Below.refl _ _) _) _
    replace kk := Aside0.mk kk
    replace kB := Aside0.mk kB
    go_wp2_with (first | (go_at_call 59; (with_reducible refine (hex _).mono ?_); rintro e w3 ⟨rfl, hB3⟩; have k2 := blk_below kk.out.1 hB3; have k3 := blk_below kk.out.2 hB3; have kC := Aside0.mk (below_then kB.out kB.out.size hB3); clear hB3; have d0 := (blk_cell k3 0).trans rfl; have d1 := (blk_cell k3 1).trans rfl; have d2 := (blk_cell k3 2).trans rfl; have d3 := (blk_cell k3 3).trans rfl; have d4 := (blk_cell k3 4).trans rfl; have d5 := (blk_cell k3 5).trans rfl; have e4 := blk_frozen k3 4; have x0 := (blk_cell k2 0).trans rfl; have x1 := (blk_cell k2 1).trans rfl; have x2 := (blk_cell k2 2).trans rfl; have x3 := (blk_cell k2 3).trans rfl; have x4 := (blk_cell k2 4).trans rfl; have x5 := (blk_cell k2 5).trans rfl; have y0 := blk_frozen k2 0; have y1 := blk_frozen k2 1; have y2 := blk_frozen k2 2; have y3 := blk_frozen k2 3; have y4 := blk_frozen k2 4; have y5 := blk_frozen k2 5; replace k2 := Aside0.mk k2; replace k3 := Aside0.mk k3))
    refine bodyPost_ret (results_cell_row rfl _ _ w.heap.size 67 #[.int .i64 5, .string (s.extract p s.size), .string ⟨#[]⟩, .float .f64 0, .int .i64 p, .slice none 0 0] (0, 0) _ rfl (blk_put (blk_put (blk_put (blk_put (blk_put (blk_put (blk_far k2.out (by simp) _) 0 _ rfl) 1 _ rfl) 2 _ rfl) 3 _ rfl) 4 _ rfl) 5 _ rfl) Tryz.underlying67 rfl (by kernel_rfl)) rfl ?_
    have hl := Nat.le_refl w.heap.size
    exact ⟨rfl, below_set (below_set (below_set (below_set (below_set (below_set (below_set kC.out (by show w.heap.size ≤ w.heap.size + 1; omega)) hl) hl) hl) hl) hl) hl⟩
  ·have hbl := hb.out.all p (by omega) (by omega)
   unfold Scan.blank at hbl
   generalize bt s p = c at *
   have b1 : (c == 123) = false := beq_eq_false_iff_ne.mpr (by omega)
   have b2 : (c == 91) = false := beq_eq_false_iff_ne.mpr (by omega)
   have b3 : decide (c ≤ 32) = true := decide_eq_true (by omega)
   clear hbl hpi
   cases gk with
   | zero => exact absurd hp.out (by omega)
   | succ gk =>
   go_wp2_with (fail)
   go_roundg gk
   case measure => omega
   case rel => exact ⟨p + 1, by first | rfl | (congr 1; omega), ⟨by have := hp.out; omega⟩, rfl⟩
end Go.Proofs.YtpgfjbimodnkeaaGreatDoor.Dec
set_option linter.unusedVariables false
set_option linter.unusedSimpArgs false
namespace Go.Proofs.YtpgfjbimodnkeaaGreatDoor.Dec
open Go Go.RowKit Go.Proofs.YtpgfjbimodnkeaaGreatDoorW.PrintWords Go.Proofs.YtpgfjbimodnkeaaGreatDoorW.PrintLast Go.Proofs.YtpgfjbimodnkeaaGreatDoorW.PrintMore Go.Proofs.YtpgfjbimodnkeaaGreatDoor.Scan Go.Proofs.YtpgfjbimodnkeaaGreatDoor.Q
structure EachOk (s : ByteArray) (kd : Int) (nms : List S44) (ks : List S32) (stop : Int) (ps : List (Rs × Rs)) : Prop where
 kids : KidsOk s (ks.take ps.length) ps
 le : ps.length ≤ ks.length
 len : ps.length = ks.length ∨ (ps.length : Int) = stop ∧ 0 < stop
 go : ∀ j : Nat, 0 < j → j < ps.length → (j : Int) ≠ stop
theorem foreach_all (w0 w : World) (B B0 Bo Bs : Nat) (stop : Int) (s : ByteArray) (hs : s.size ≤ 65536) (kd : Int) (hkd : kd = 5 ∨ kd = 6) (nms : List S44) (ks : List S32) (e : Nat) (hJ : J s .val 0 e kd nms ks) (hE : Blanks s e s.size) (hP : Prd s 0) (str : ByteArray) (num : Int) (hT : Tabs B w0) (hBB : B ≤ B0) (hO : Outs B0 Bo Bs stop w0 [] w) :
 Calls Tryz.prog 32 #[resV 5 s str 0 num, .func (.func 73) #[] #[.pointer (some ⟨Bs, 0, none⟩)]] w fun e w' => e = .returned (.tuple #[]) ∧ ∃ ps : List (Rs × Rs), Outs B0 Bo Bs stop w0 ps w' ∧ EachOk s kd nms ks stop ps := by
 rcases hkd with rfl | rfl
 ·have hn : nms = [] := by
   generalize hi : (0 : Nat) = i at hJ
   generalize hk : (5 : Int) = kd at hJ
   cases hJ with
   | arr0 => rfl
   | arr => rfl
   | null => rfl
   | fals => rfl
   | tru => rfl
   | num => rfl
   | str => rfl
   | obj0 => rfl
   | obj => exact absurd hk (by decide)
  subst hn
  refine (foreach_arr w0 w B B0 Bo Bs stop s hs ks e hJ hE hP str num hT hBB hO).mono ?_
  rintro e w' ⟨h1, ps, h2, h3, h4, h5, h6⟩
  exact ⟨h1, ps, h2, h3, h4, h5, h6⟩
 ·refine (foreach_obj w0 w B B0 Bo Bs stop s hs nms ks e hJ hE hP str num hT hBB hO).mono ?_
  rintro e w' ⟨h1, ps, h2, h3, h3', h4, h5, h6⟩
  exact ⟨h1, ps, h2, h3, h4, h5, h6⟩
theorem outs_start {w w4 : World} {stop : Int} {r : Array Value} (kT : w4.heap[w.heap.size]? = some (.cells #[.int .i64 stop] 3 (0, 0))) (kO : w4.heap[w.heap.size + 1]? = some (.cells #[.slice none 0 0] 54 (0, 0))) (hb : Below w.heap.size w w4) :
 Outs w.heap.size (w.heap.size + 1) (w4.heap.size + 1) stop w [] ((w4.alloc (.cells r 67)).alloc (.cells #[.func (.func 46) #[] #[.pointer (some ⟨w.heap.size + 1, 0, none⟩), .pointer (some ⟨w.heap.size, 0, none⟩)]] 81)) := by
 have h2 := (two_new w4 r #[.func (.func 46) #[] #[.pointer (some ⟨w.heap.size + 1, 0, none⟩), .pointer (some ⟨w.heap.size, 0, none⟩)]] 67 81).2
 have hb2 := below_alloc (below_alloc (Below.refl w4.heap.size w4) (.cells r 67)) (.cells #[.func (.func 46) #[] #[.pointer (some ⟨w.heap.size + 1, 0, none⟩), .pointer (some ⟨w.heap.size, 0, none⟩)]] 81)
 exact ⟨below_then hb hb.size hb2, ⟨_, blk_below kO hb2, own_nil _ _ _ _⟩, ⟨_, blk_below kT hb2, h2⟩, (below_then hb hb.size hb2).size, by omega⟩
theorem v45_calls (W : World) (k : Int) (raw str : ByteArray) (num : Nat) (idx : Int) : Calls Tryz.prog 45 #[resV k raw str num idx] W fun e w' => e = .returned (.func (.func 72) #[] #[.pointer (some ⟨W.heap.size, 0, none⟩)]) ∧ w' = W.alloc (.cells #[.int .i64 k, .string raw, .string str, .float .f64 num, .int .i64 idx, .slice none 0 0] 67) := by
 have hmf : ∀ (fn : Fn) (first cap : Array Value) (w : World), (Instr.makeFunc fn first cap).run Tryz.prog w = .ok (.func fn first cap) w := fun _ _ _ _ => rfl
 go_enter Tryz.func45, Tryz.ntmps45
 go_wp2
 go_ret
 exact ⟨rfl, rfl⟩
theorem v72_calls (w4 : World) (k : Int) (raw str : ByteArray) (num : Nat) (idx : Int) (fn : Fn) (first cap : Array Value) (R : World → Prop)
 (h : Calls Tryz.prog 32 #[resV k raw str num idx, .func (.func 73) #[] #[.pointer (some ⟨w4.heap.size + 1, 0, none⟩)]] ((w4.alloc (.cells #[.int .i64 k, .string raw, .string str, .float .f64 num, .int .i64 idx, .slice none 0 0] 67)).alloc (.cells #[.func fn first cap] 81)) fun e w' => e = .returned (.tuple #[]) ∧ R w') :
 Calls Tryz.prog 72 #[.func fn first cap, .pointer (some ⟨w4.heap.size, 0, none⟩)] (w4.alloc (.cells #[.int .i64 k, .string raw, .string str, .float .f64 num, .int .i64 idx, .slice none 0 0] 67)) fun e w' => e = .returned (.tuple #[]) ∧ R w' := by
 have hmf : ∀ (fn : Fn) (first cap : Array Value) (w : World), (Instr.makeFunc fn first cap).run Tryz.prog w = .ok (.func fn first cap) w := fun _ _ _ _ => rfl
 replace h := Aside0.mk h
 go_enter Tryz.func72, Tryz.ntmps72
 go_wp2_with (first | (go_at_call 32; (with_reducible refine h.out.mono ?_); rintro e w5 ⟨rfl, hR⟩))
 go_end0
 exact ⟨rfl, hR⟩
set_option maxHeartbeats 8000000 in
set_option maxRecDepth 100000 in
theorem vals_all (w : World) (B : Nat) (s : ByteArray) (hs : s.size ≤ 65536) (i : Nat) (hi : i < s.size) (hb0 : Blanks s 0 i) (hc : bt s i = 123 ∨ bt s i = 91) (kd : Int) (hkd : kd = 5 ∨ kd = 6) (nms : List S44) (ks : List S32) (m : Nat) (hJ : J (s.extract i s.size) .val 0 m kd nms ks) (hE : Blanks (s.extract i s.size) m (s.extract i s.size).size) (hP : Prd (s.extract i s.size) 0) (stop : Int) (hT : Tabs B w) :
 Calls Tryz.prog 24 #[.string s, .int .i64 stop] w fun e w' => ∃ (v : Value) (ps : List (Rs × Rs)), e = .returned v ∧ w'.ownsRow w.heap.size 39 5 v ps.length (ps.flatMap fun p => p.2.cells) ∧ Below w.heap.size w w' ∧ EachOk (s.extract i s.size) kd nms ks stop ps := by
 have hpa := fun W => parse_calls W s hs i hi hb0 hc
 have hfe := fun (W : World) (Bs : Nat) hO => foreach_all w W B w.heap.size (w.heap.size + 1) Bs stop (s.extract i s.size) (by rw [ByteArray.size_extract]; omega) kd hkd nms ks m hJ hE hP ⟨#[]⟩ i hT hT.size hO
 have hmf : ∀ (fn : Fn) (first cap : Array Value) (w : World), (Instr.makeFunc fn first cap).run Tryz.prog w = .ok (.func fn first cap) w := fun _ _ _ _ => rfl
 replace hkd := Aside0.mk hkd
 replace hJ := Aside0.mk hJ
 replace hP := Aside0.mk hP
 replace hT := Aside0.mk hT
 replace hc := Aside0.mk hc
 have kk := Aside0.mk (two_new w #[.int .i64 stop] #[.slice none 0 0] 3 54)
 have kB : Aside0 (Below w.heap.size w ((w.alloc (.cells #[.int .i64 stop] 3)).alloc (.cells #[.slice none 0 0] 54))) := ⟨below_alloc (below_alloc (Below.refl _ _) _) _⟩
 go_enter Tryz.func24, Tryz.ntmps24
 go_wp2_with (fail)
 refine (hpa _).mono ?_
 rintro e w4 ⟨rfl, hB4⟩
 have hO4 := Aside0.mk (outs_start (r := #[.int .i64 5, .string (s.extract i s.size), .string ⟨#[]⟩, .float .f64 0, .int .i64 i, .slice none 0 0]) (blk_below kk.out.1 hB4) (blk_below kk.out.2 hB4) (below_then kB.out kB.out.size hB4))
 clear hB4
 go_wp2_with (fail)
 refine (v45_calls _ _ _ _ _ _).mono ?_
 rintro e w5 ⟨rfl, rfl⟩
 go_wp2_with (fail)
 refine (v72_calls w4 _ _ _ _ _ _ _ _ _ (hfe _ _ hO4.out)).mono ?_
 rintro e w6 ⟨rfl, ps, hO5, hE5⟩
 obtain ⟨v5, hv5, hown5⟩ := hO5.out
 have c5 := (blk_cell hv5 0).trans rfl
 have hbel5 := hO5.bel
 replace hv5 := Aside0.mk hv5
 replace hown5 := Aside0.mk hown5
 replace hO5 := Aside0.mk hO5
 replace hE5 := Aside0.mk hE5
 replace hbel5 := Aside0.mk hbel5
 go_wp2_with (fail)
 go_ret
 exact ⟨_, ps, rfl, hown5.out, hbel5.out, hE5.out⟩
end Go.Proofs.YtpgfjbimodnkeaaGreatDoor.Dec
set_option linter.unusedVariables false
set_option linter.unusedSimpArgs false
namespace Go.Proofs.YtpgfjbimodnkeaaGreatDoor.Dec
open Go Go.RowKit Go.Proofs.YtpgfjbimodnkeaaGreatDoorW.PrintWords Go.Proofs.YtpgfjbimodnkeaaGreatDoorW.PrintLast Go.Proofs.YtpgfjbimodnkeaaGreatDoorW.PrintMore Go.Proofs.YtpgfjbimodnkeaaGreatDoor.Scan Go.Proofs.YtpgfjbimodnkeaaGreatDoor.Q
structure ByteRow (w : World) (s : ByteArray) (A : Addr) : Prop where
 c : ∀ j : Nat, j < s.size → w.cell? (A.add j) = some (.int .u8 (bt s j))
theorem ByteRow.drewN {w : World} {s : ByteArray} {A : Addr} (h : ByteRow w s A) (n : Nat) : ByteRow (w.drewN n) s A := ⟨fun j hj => by rw [← h.c j hj]; rfl⟩
theorem ByteRow.drawn {w w' : World} {s : ByteArray} {A : Addr} (h : ByteRow w s A) (hd : Drawn0 w w') : ByteRow w' s A := by
 obtain ⟨n, rfl⟩ := hd
 exact h.drewN n
theorem drawn0_bel {w w' w0 : World} {b : Nat} (h : Drawn0 w w') (hb : Below b w0 w) : Below b w0 w' := by
 obtain ⟨n, rfl⟩ := h
 exact pw_below_drewN hb _
theorem drawn0_trans {w w1 w2 : World} (h : Drawn0 w w1) (h2 : Drawn0 w1 w2) : Drawn0 w w2 := by
 obtain ⟨n, rfl⟩ := h2
 exact h.step n
set_option maxHeartbeats 8000000 in
set_option maxRecDepth 100000 in
theorem vobj_calls (w : World) (s : ByteArray) (hs : s.size ≤ 65536) (A : Addr) (cap i j : Nat) (hr : ByteRow w s A) (hb : Blanks s i j) (hj : j < s.size) (hc : bt s j = 125) :
 Calls Tryz.prog 115 #[.slice (some A) s.size cap, .int .i64 i] w fun e w' => e = .returned (.tuple #[.int .i64 ((j + 1 : Nat) : Int), .bool true]) ∧ Drawn0 w w' := by
 have hij := hb.le
 replace hb := Aside0.mk hb
 replace hc := Aside0.mk hc
 replace hr := Aside0.mk hr
 go_enter Tryz.func115, Tryz.ntmps115
 go_wp2_with (fail)
 go_loopg [1] (j - i) (fun kq v1 w' => ∃ p : Nat, v1 = .int .i64 p ∧ Aside0 (p + kq = j ∧ i ≤ p) ∧ Aside0 (Drawn0 w w'))
 case atStart => exact ⟨i, rfl, ⟨by omega⟩, ⟨⟨0, rfl⟩⟩⟩
 case round =>
  obtain ⟨p, rfl, hp, hd⟩ := hrel
  obtain ⟨hpk, hpi⟩ := hp.out
  have hps : p < s.size := by omega
  have j0 : ((0 : Int) ≤ (p : Int)) = True := eq_true (by omega)
  have j1 : ((p : Int) < (s.size : Int)) = True := eq_true (by omega)
  have j2 : (p < s.size) = True := eq_true hps
  have j3 : decide ((p : Int) < (s.size : Int)) = true := decide_eq_true (by omega)
  have t0 := (hr.out.drawn hd.out).c p hps
  by_cases he : p = j
  ·have hcc := hc.out
   subst he
   rw [hcc] at t0
   clear hpk
   clear hpi
   go_wp2_with (fail)
   go_ret2
   exact ⟨rfl, hd.out⟩
  ·have hbl := hb.out.all p (by omega) (by omega)
   unfold Scan.blank at hbl
   generalize bt s p = c at *
   cases gk with
   | zero => exact absurd hp.out (by omega)
   | succ gk =>
   clear hpk
   clear hpi
   rcases hbl with rfl | rfl | rfl | rfl
   all_goals
    go_wp2_with (fail)
    go_roundg gk
    case measure => omega
    case rel => exact ⟨p + 1, by first | rfl | (congr 1; omega), ⟨by have := hp.out; omega⟩, ⟨hd.out⟩⟩
set_option maxHeartbeats 8000000 in
set_option maxRecDepth 100000 in
theorem varr_calls (w : World) (s : ByteArray) (hs : s.size ≤ 65536) (A : Addr) (cap i j : Nat) (hr : ByteRow w s A) (hb : Blanks s i j) (hj : j < s.size) (hc : bt s j = 93) :
 Calls Tryz.prog 116 #[.slice (some A) s.size cap, .int .i64 i] w fun e w' => e = .returned (.tuple #[.int .i64 ((j + 1 : Nat) : Int), .bool true]) ∧ Drawn0 w w' := by
 have hij := hb.le
 replace hb := Aside0.mk hb
 replace hc := Aside0.mk hc
 replace hr := Aside0.mk hr
 go_enter Tryz.func116, Tryz.ntmps116
 go_wp2_with (fail)
 go_loopg [1] (j - i) (fun kq v1 w' => ∃ p : Nat, v1 = .int .i64 p ∧ Aside0 (p + kq = j ∧ i ≤ p) ∧ Aside0 (Drawn0 w w'))
 case atStart => exact ⟨i, rfl, ⟨by omega⟩, ⟨⟨0, rfl⟩⟩⟩
 case round =>
  obtain ⟨p, rfl, hp, hd⟩ := hrel
  obtain ⟨hpk, hpi⟩ := hp.out
  have hps : p < s.size := by omega
  have j0 : ((0 : Int) ≤ (p : Int)) = True := eq_true (by omega)
  have j1 : ((p : Int) < (s.size : Int)) = True := eq_true (by omega)
  have j2 : (p < s.size) = True := eq_true hps
  have j3 : decide ((p : Int) < (s.size : Int)) = true := decide_eq_true (by omega)
  have t0 := (hr.out.drawn hd.out).c p hps
  by_cases he : p = j
  ·have hcc := hc.out
   subst he
   rw [hcc] at t0
   clear hpk
   clear hpi
   go_wp2_with (fail)
   go_ret2
   exact ⟨rfl, hd.out⟩
  ·have hbl := hb.out.all p (by omega) (by omega)
   unfold Scan.blank at hbl
   generalize bt s p = c at *
   cases gk with
   | zero => exact absurd hp.out (by omega)
   | succ gk =>
   clear hpk
   clear hpi
   rcases hbl with rfl | rfl | rfl | rfl
   all_goals
    go_wp2_with (fail)
    go_roundg gk
    case measure => omega
    case rel => exact ⟨p + 1, by first | rfl | (congr 1; omega), ⟨by have := hp.out; omega⟩, ⟨hd.out⟩⟩
def Empty0 (s : ByteArray) (i m : Nat) : Prop := ∃ j, m = j + 1 ∧ j < s.size ∧ Blanks s (i + 1) j ∧ (bt s i = 123 ∧ bt s j = 125 ∨ bt s i = 91 ∧ bt s j = 93)
set_option maxHeartbeats 8000000 in
set_option maxRecDepth 100000 in
theorem vany_calls (w : World) (s : ByteArray) (hs : s.size ≤ 65536) (A : Addr) (cap i m : Nat) (hr : ByteRow w s A) (he : Empty0 s i m) :
 Calls Tryz.prog 99 #[.slice (some A) s.size cap, .int .i64 i] w fun e w' => e = .returned (.tuple #[.int .i64 m, .bool true]) ∧ Drawn0 w w' := by
 obtain ⟨j, rfl, hj, hb, hc⟩ := he
 have hij := hb.le
 have his : i < s.size := by omega
 have j0 : ((0 : Int) ≤ (i : Int)) = True := eq_true (by omega)
 have j1 : ((i : Int) < (s.size : Int)) = True := eq_true (by omega)
 have j2 : (i < s.size) = True := eq_true his
 have j3 : decide ((i : Int) < (s.size : Int)) = true := decide_eq_true (by omega)
 have t0 := hr.c i his
 replace hb := Aside0.mk hb
 replace hr := Aside0.mk hr
 rcases hc with ⟨h1, h2⟩ | ⟨h1, h2⟩
 all_goals
  rw [h1] at t0
  clear h1
  replace h2 := Aside0.mk h2
  go_enter Tryz.func99, Tryz.ntmps99
  go_wp2_with (fail)
  go_loopg [1] 0 (fun kq v1 w' => v1 = .int .i64 i ∧ Aside0 (Drawn0 w w') ∧ w'.cell? (A.add i) = w.cell? (A.add i))
  case atStart => exact ⟨rfl, ⟨⟨0, rfl⟩⟩, rfl⟩
  case round =>
   obtain ⟨rfl, hd, t1⟩ := hrel
   rw [t0] at t1
   clear t0
   have hin : ((i : Int) + 1) = ((i + 1 : Nat) : Int) := by omega
   replace hin := Aside0.mk hin
   have q1 : wrap64 ((i : Int) + 1) = ((i + 1 : Nat) : Int) := wrap_nat _ (by omega) (by omega)
   go_wp2_with (fail)
   first
    | (refine (vobj_calls _ s hs A cap (i + 1) j (hr.out.drawn hd.out) hb.out hj h2.out).mono ?_)
    | (refine (varr_calls _ s hs A cap (i + 1) j (hr.out.drawn hd.out) hb.out hj h2.out).mono ?_)
   rintro e w3 ⟨rfl, hd3⟩
   go_wp2_with (fail)
   go_ret2
   exact ⟨rfl, drawn0_trans hd.out hd3⟩
set_option maxHeartbeats 8000000 in
set_option maxRecDepth 100000 in
theorem vpay_calls (w : World) (s : ByteArray) (hs : s.size ≤ 65536) (A : Addr) (cap i m : Nat) (hr : ByteRow w s A) (hb : Blanks s 0 i) (he : Empty0 s i m) (hE : Blanks s m s.size) :
 Calls Tryz.prog 74 #[.slice (some A) s.size cap, .int .i64 0] w fun e w' => e = .returned (.tuple #[.int .i64 s.size, .bool true]) ∧ Drawn0 w w' := by
 have him : i < m ∧ m ≤ s.size ∧ i < s.size := by obtain ⟨j, rfl, hj, h, _⟩ := he; have := h.le; omega
 obtain ⟨him1, him2, him3⟩ := him
 replace hb := Aside0.mk hb
 replace hE := Aside0.mk hE
 replace hr := Aside0.mk hr
 replace he := Aside0.mk he
 go_enter Tryz.func74, Tryz.ntmps74
 go_wp2_with (fail)
 go_loopg [1] i (fun kq v1 w' => ∃ p : Nat, v1 = .int .i64 p ∧ Aside0 (p + kq = i) ∧ Aside0 (Drawn0 w w'))
 case atStart => exact ⟨0, rfl, ⟨by omega⟩, ⟨⟨0, rfl⟩⟩⟩
 case round =>
  obtain ⟨p, rfl, hp, hd⟩ := hrel
  have hpk := hp.out
  have hps : p < s.size := by omega
  have j0 : ((0 : Int) ≤ (p : Int)) = True := eq_true (by omega)
  have j1 : ((p : Int) < (s.size : Int)) = True := eq_true (by omega)
  have j2 : (p < s.size) = True := eq_true hps
  have j3 : decide ((p : Int) < (s.size : Int)) = true := decide_eq_true (by omega)
  have t0 := (hr.out.drawn hd.out).c p hps
  by_cases hpi : p = i
  ·have hcc : bt s i = 123 ∨ bt s i = 91 := by obtain ⟨j, _, _, _, h⟩ := he.out; omega
   subst hpi
   clear hpk
   generalize bt s p = c at *
   rcases hcc with rfl | rfl
   all_goals
    go_wp2_with (fail)
    refine (vany_calls _ s hs A cap p m (hr.out.drawn hd.out) he.out).mono ?_
    rintro e w3 ⟨rfl, hd3⟩
    have hd4 := Aside0.mk (drawn0_trans hd.out hd3)
    clear hd3 t0
    go_wp2_with (fail)
    go_loopg [1] (s.size - m) (fun kq v1 w' => ∃ q : Nat, v1 = .int .i64 q ∧ Aside0 (q + kq = s.size ∧ m ≤ q) ∧ Aside0 (Drawn0 w w'))
    case atStart => exact ⟨m, rfl, ⟨by omega⟩, hd4⟩
    case round =>
     obtain ⟨q, rfl, hq, hd5⟩ := hrel
     have hq' := hq.out
     by_cases hqs : q = s.size
     ·have j4 : decide ((q : Int) < (s.size : Int)) = false := decide_eq_false (by omega)
      have j5 : decide (q < s.size) = false := decide_eq_false (by omega)
      replace hqs := Aside0.mk hqs
      clear hq'
      go_wp2_with (fail)
      go_ret2
      exact ⟨by rw [hqs.out]; rfl, hd5.out⟩
     ·have hql : q < s.size := by omega
      have l0 : ((0 : Int) ≤ (q : Int)) = True := eq_true (by omega)
      have l1 : ((q : Int) < (s.size : Int)) = True := eq_true (by omega)
      have l2 : (q < s.size) = True := eq_true hql
      have l3 : decide ((q : Int) < (s.size : Int)) = true := decide_eq_true (by omega)
      have t1 := (hr.out.drawn hd5.out).c q hql
      have hbl := hE.out.all q (by omega) (by omega)
      unfold Scan.blank at hbl
      generalize bt s q = c at *
      cases gk with
      | zero => exact absurd hq.out (by omega)
      | succ gk =>
      clear hq'
      rcases hbl with rfl | rfl | rfl | rfl
      all_goals
       go_wp2_with (fail)
       go_roundg gk
       case measure => omega
       case rel => exact ⟨q + 1, by first | rfl | (congr 1; omega), ⟨by have := hq.out; omega⟩, ⟨hd5.out⟩⟩
  ·have hbl := hb.out.all p (by omega) (by omega)
   unfold Scan.blank at hbl
   generalize bt s p = c at *
   cases gk with
   | zero => exact absurd hp.out (by omega)
   | succ gk =>
   clear hpk
   rcases hbl with rfl | rfl | rfl | rfl
   all_goals
    go_wp2_with (fail)
    go_roundg gk
    case measure => omega
    case rel => exact ⟨p + 1, by first | rfl | (congr 1; omega), ⟨by have := hp.out; omega⟩, ⟨hd.out⟩⟩
theorem bytesWorld_below (w : World) (e : TypeId) (s : ByteArray) : Below w.heap.size w (Lib.bytesWorld w e s) := by
 refine ⟨?_, ?_, ?_, by rw [Lib.bytesWorld_size]; omega, fun k hk => Lib.bytesWorld_at_old w e s k hk⟩
 all_goals simp [Lib.bytesWorld, World.freeze, World.alloc, World.drew, -World.alloc_eq, -World.drew_eq]
theorem bytesWorld_row (w : World) (e : TypeId) (s : ByteArray) : ByteRow (Lib.bytesWorld w e s) s ⟨w.heap.size, 0, none⟩ := by
 refine ⟨fun j hj => ?_⟩
 have h := Lib.bytesWorld_cell w e s j hj
 have hb := bt_nat s j hj
 rw [← hb]
 have h2 : s.data.toList.getD j 0 = s[j] := by
  rw [List.getD_eq_getElem?_getD, Array.getElem?_toList, Array.getElem?_eq_getElem hj]
  rfl
 rw [h2] at h
 have ha : (⟨w.heap.size, 0, none⟩ : Addr).add j = ⟨w.heap.size, j, none⟩ := by cases j <;> simp [Addr.add]
 rw [ha]
 exact h
theorem v75_calls (w : World) (s : ByteArray) : Calls Tryz.prog 75 #[.string s] w fun e w' => e = .returned (.slice (some ⟨w.heap.size, 0, none⟩) s.size (grownCap w s.size 0 5)) ∧ w' = Lib.bytesWorld w 5 s := by
 have hcv := Lib.run_convert_string_bytes (P := Tryz.prog) w 9 99 5 s Tryz.underlying9 Tryz.underlying99 Tryz.underlying5
 go_enter Tryz.func75, Tryz.ntmps75
 go_wp2
 go_ret
 exact ⟨rfl, rfl⟩
theorem valid_calls (w : World) (s : ByteArray) (hs : s.size ≤ 65536) (i m : Nat) (hb : Blanks s 0 i) (he : Empty0 s i m) (hE : Blanks s m s.size) :
 Calls Tryz.prog 25 #[.string s] w fun e w' => e = .returned (.bool true) ∧ Below w.heap.size w w' := by
 have h75 := fun W => v75_calls W s
 have key : Calls Tryz.prog 47 #[.string s] w fun e w' => e = .returned (.bool true) ∧ Below w.heap.size w w' := by
  replace hb := Aside0.mk hb
  replace hE := Aside0.mk hE
  replace he := Aside0.mk he
  go_enter Tryz.func47, Tryz.ntmps47
  go_wp2_with (fail)
  refine (h75 _).mono ?_
  rintro e w1 ⟨rfl, rfl⟩
  go_wp2_with (fail)
  refine (vpay_calls _ s hs _ _ i m (bytesWorld_row _ _ _) hb.out he.out hE.out).mono ?_
  rintro e w2 ⟨rfl, hd2⟩
  go_wp2_with (fail)
  go_ret
  exact ⟨rfl, drawn0_bel hd2 (bytesWorld_below _ _ _)⟩
 replace hb := Aside0.mk hb
 replace hE := Aside0.mk hE
 replace he := Aside0.mk he
 replace key := Aside0.mk key
 go_enter Tryz.func25, Tryz.ntmps25
 go_wp2_with (fail)
 refine key.out.mono ?_
 rintro e w1 ⟨rfl, hB⟩
 go_wp2_with (fail)
 go_ret
 exact ⟨rfl, hB⟩
end Go.Proofs.YtpgfjbimodnkeaaGreatDoor.Dec
namespace Go.Proofs.YtpgfjbimodnkeaaGreatDoor.Q
open Go.RowKit Go.Proofs.YtpgfjbimodnkeaaGreatDoorW.PrintWords Go.Proofs.YtpgfjbimodnkeaaGreatDoorW.PrintLast Go.Proofs.YtpgfjbimodnkeaaGreatDoorW.PrintMore
attribute [local go_sem] max2_int min2_int max_two min_two max_three min_three max_four min_four
set_option linter.unusedVariables false
set_option linter.unusedSimpArgs false
mutual
def spec_Character.j2 : Nat → ByteArray → Int → Int → Int → Int → Option (Int × Int × Bool)
 | 0, _, _, _, _, _ => none
 | k + 1, x0, x1, x7, x8, x9 => if (wrap64 ((x0.size : Int) - x1)) ≤ x8 then (some (65533, 1, false)) else (spec_Character.l0 k x0 x1 x7 x8 x9 1)
def spec_Character.l0 : Nat → ByteArray → Int → Int → Int → Int → Int → Option (Int × Int × Bool)
 | 0, _, _, _, _, _, _ => none
 | k + 1, x0, x1, x7, x8, x9, x10 => if x10 ≤ x8 then (if 0 ≤ (wrap64 (x1 + x10)) then (if (wrap64 (x1 + x10)) < (x0.size : Int) then (if (wrap64 (bt x0 (wrap64 (x1 + x10)))) < 128 then (some (65533, 1, false)) else (if (wrap64 (bt x0 (wrap64 (x1 + x10)))) > 191 then (some (65533, 1, false)) else (spec_Character.l0 k x0 x1 (wrap64 ((wrap64 ((wrap64 (x7 * 64)) + (wrap64 (bt x0 (wrap64 (x1 + x10)))))) - 128)) x8 x9 (wrap64 (x10 + 1))))) else (none)) else (none)) else (if x7 < x9 then (some (65533, 1, false)) else (if x7 > 1114111 then (some (65533, 1, false)) else ((spec_high.f x7).bind fun t101 => (if t101 = true then (some (65533, 1, false)) else ((spec_low.f x7).bind fun t102 => (if t102 = true then (some (65533, 1, false)) else (some (x7, wrap64 (x8 + 1), true))))))))
def spec_Character.j0 : Nat → ByteArray → Int → Int → Bool → Option (Int × Int × Bool)
 | 0, _, _, _, _ => none
 | k + 1, x0, x1, x7, x20 => if x20 = true then (spec_Character.j2 k x0 x1 (wrap64 (x7 - 192)) 1 128) else (if 224 ≤ x7 then (spec_Character.j1 k x0 x1 x7 (decide (x7 ≤ 239))) else (spec_Character.j1 k x0 x1 x7 false))
def spec_Character.j1 : Nat → ByteArray → Int → Int → Bool → Option (Int × Int × Bool)
 | 0, _, _, _, _ => none
 | k + 1, x0, x1, x7, x29 => if x29 = true then (spec_Character.j2 k x0 x1 (wrap64 (x7 - 224)) 2 2048) else (if 240 ≤ x7 then (if x7 ≤ 244 then (spec_Character.j2 k x0 x1 (wrap64 (x7 - 240)) 3 65536) else (some (65533, 1, false))) else (some (65533, 1, false)))
end
def spec_Character.f (k : Nat) (a0 : ByteArray) (a1 : Int) : Option (Int × Int × Bool) := if 0 ≤ a1 then (if a1 < (a0.size : Int) then (if (wrap64 (bt a0 a1)) < 128 then (some (wrap64 (bt a0 a1), 1, true)) else (if 194 ≤ (wrap64 (bt a0 a1)) then (spec_Character.j0 k a0 a1 (wrap64 (bt a0 a1)) (decide ((wrap64 (bt a0 a1)) ≤ 223))) else (spec_Character.j0 k a0 a1 (wrap64 (bt a0 a1)) false))) else (none)) else (none)
theorem spec_Character.mono_l : ∀ k, (∀ y0 y1 y2 y3 y4, LeO (spec_Character.j2 k y0 y1 y2 y3 y4) (spec_Character.j2 (k + 1) y0 y1 y2 y3 y4)) ∧ (∀ y0 y1 y2 y3 y4 y5, LeO (spec_Character.l0 k y0 y1 y2 y3 y4 y5) (spec_Character.l0 (k + 1) y0 y1 y2 y3 y4 y5)) ∧ (∀ y0 y1 y2 y3, LeO (spec_Character.j0 k y0 y1 y2 y3) (spec_Character.j0 (k + 1) y0 y1 y2 y3)) ∧ (∀ y0 y1 y2 y3, LeO (spec_Character.j1 k y0 y1 y2 y3) (spec_Character.j1 (k + 1) y0 y1 y2 y3))
 | 0 => ⟨fun _ _ _ _ _ r h => by simp [spec_Character.j2] at h, fun _ _ _ _ _ _ r h => by simp [spec_Character.l0] at h, fun _ _ _ _ r h => by simp [spec_Character.j0] at h, fun _ _ _ _ r h => by simp [spec_Character.j1] at h⟩
 | k + 1 => by
   obtain ⟨ih0, ih1, ih2, ih3⟩ := spec_Character.mono_l k
   refine ⟨?_, ?_, ?_, ?_⟩
   case' refine_1 => intro y0 y1 y2 y3 y4; unfold spec_Character.j2
   case' refine_2 => intro y0 y1 y2 y3 y4 y5; unfold spec_Character.l0
   case' refine_3 => intro y0 y1 y2 y3; unfold spec_Character.j0
   case' refine_4 => intro y0 y1 y2 y3; unfold spec_Character.j1
   all_goals repeat' first
    | (with_reducible exact ih0 _ _ _ _ _)
    | (with_reducible exact ih1 _ _ _ _ _ _)
    | (with_reducible exact ih2 _ _ _ _)
    | (with_reducible exact ih3 _ _ _ _)
    | (with_reducible exact LeO.refl _)
    | (with_reducible exact LeO.none _)
    | (with_reducible refine LeO.ite ?_ ?_)
    | (with_reducible refine LeO.bind ?_ (fun _ => ?_))
    | exact ih0 _ _ _ _ _
    | exact ih1 _ _ _ _ _ _
    | exact ih2 _ _ _ _
    | exact ih3 _ _ _ _
    | exact LeO.none _
    | refine LeO.ite ?_ ?_
    | refine LeO.bind ?_ (fun _ => ?_)
theorem spec_Character.mono : ∀ a0 a1 k, LeO (spec_Character.f k a0 a1) (spec_Character.f (k + 1) a0 a1) := by
 intro a0 a1 k
 obtain ⟨ih0, ih1, ih2, ih3⟩ := spec_Character.mono_l k
 unfold spec_Character.f
 repeat' first
  | (with_reducible exact ih0 _ _ _ _ _)
  | (with_reducible exact ih1 _ _ _ _ _ _)
  | (with_reducible exact ih2 _ _ _ _)
  | (with_reducible exact ih3 _ _ _ _)
  | (with_reducible exact LeO.refl _)
  | (with_reducible exact LeO.none _)
  | (with_reducible refine LeO.ite ?_ ?_)
  | (with_reducible refine LeO.bind ?_ (fun _ => ?_))
  | exact ih0 _ _ _ _ _
  | exact ih1 _ _ _ _ _ _
  | exact ih2 _ _ _ _
  | exact ih3 _ _ _ _
  | exact LeO.none _
  | refine LeO.ite ?_ ?_
  | refine LeO.bind ?_ (fun _ => ?_)
set_option maxHeartbeats 8000000 in
set_option maxRecDepth 100000 in
theorem spec_Character.calls (k : Nat) (a0 : ByteArray) (a1 : Int) (r1 : Int) (r2 : Int) (r3 : Bool) (w : World) (h : spec_Character.f k a0 a1 = some (r1, r2, r3)) :
 Calls Tryz.prog 48 #[.string a0, .int .i64 a1] w fun e w' => e = .returned (.tuple #[.int .i64 r1, .int .i64 r2, .bool r3]) ∧ Drawn0 w w' := by
 have H : (if 0 ≤ a1 then (if a1 < (a0.size : Int) then (if (wrap64 (bt a0 a1)) < 128 then (some (wrap64 (bt a0 a1), 1, true)) else (if 194 ≤ (wrap64 (bt a0 a1)) then (spec_Character.j0 k a0 a1 (wrap64 (bt a0 a1)) (decide ((wrap64 (bt a0 a1)) ≤ 223))) else (spec_Character.j0 k a0 a1 (wrap64 (bt a0 a1)) false))) else (none)) else (none)) = some (r1, r2, r3) := h
 clear h
 by_cases c3 : 0 ≤ a1
 ·rw [if_pos c3] at H
  have c3b0 : decide (0 ≤ a1) = true := decide_eq_true c3
  clear c3
  by_cases c4 : a1 < (a0.size : Int)
  ·rw [if_pos c4] at H
   have c4b0 : decide (a1 < (a0.size : Int)) = true := decide_eq_true c4
   clear c4
   have HC6 := Aside0.mk H
   clear H
   have p5 : 0 ≤ (a1 : Int) := of_decide_eq_true (by first | (with_reducible assumption) | assumption)
   have q5 : a1 < (a0.size : Int) := of_decide_eq_true (by first | (with_reducible assumption) | assumption)
   have hx5 := bt_at a0 a1
   replace p5 := eq_true p5
   replace q5 := eq_true q5
   go_enter Tryz.func48, Tryz.ntmps48
   go_upto_block 0 with (fail)
   go_cut [7, 8, 9] (fun v7 v8 v9 wc => ∃ (kq : Nat) (x7_5 : Int) (x8_5 : Int) (x9_5 : Int), v7 = .int .i64 x7_5 ∧ v8 = .int .i64 x8_5 ∧ v9 = .int .i64 x9_5 ∧ Aside0 (spec_Character.j2 kq a0 a1 x7_5 x8_5 x9_5 = some (r1, r2, r3)) ∧ Aside0 (kq ≤ k) ∧ Drawn0 w wc)
   case first =>
    have H := HC6.out
    clear HC6
    by_cases c7 : (wrap64 (bt a0 a1)) < 128
    ·rw [if_pos c7] at H
     have c7b0 : decide ((wrap64 (bt a0 a1)) < 128) = true := decide_eq_true c7
     clear c7
     (first | rw [c7b0] | (simp only [i64_w, i32_w]; rw [c7b0]) | skip)
     simp only [Option.some.injEq, Prod.mk.injEq] at H
     obtain ⟨rfl, rfl, rfl⟩ := H
     go_wp2
     go_ret3
     exact ⟨by first | rfl | (simp; done) | (simp [*]; done), by repeat (first | exact Drawn0.refl _ | apply Drawn0.step)⟩
    ·rw [if_neg c7] at H
     have c7b0 : decide ((wrap64 (bt a0 a1)) < 128) = false := decide_eq_false c7
     clear c7
     (first | rw [c7b0] | (simp only [i64_w, i32_w]; rw [c7b0]) | skip)
     have HC8 := Aside0.mk H
     clear H
     go_upto_region 6 with (fail)
     go_cut [20] (fun v20 wc => ∃ (kq : Nat) (x20_7 : Bool), v20 = .bool x20_7 ∧ Aside0 (spec_Character.j0 kq a0 a1 (wrap64 (bt a0 a1)) x20_7 = some (r1, r2, r3)) ∧ Aside0 (kq ≤ k) ∧ Drawn0 w wc)
     case first =>
      have H := HC8.out
      clear HC8
      by_cases c9 : 194 ≤ (wrap64 (bt a0 a1))
      ·rw [if_pos c9] at H
       have c9b0 : decide (194 ≤ (wrap64 (bt a0 a1))) = true := decide_eq_true c9
       clear c9
       (first | rw [c9b0] | (simp only [i64_w, i32_w]; rw [c9b0]) | skip)
       have H' := Aside0.mk H
       clear H
       go_wp2
       go_meet
       case rel => exact ⟨_, (decide ((wrap64 (bt a0 a1)) ≤ 223)), (by first | rfl | (simp; done) | (simp [*]; done)), H', ⟨by first | omega | exact Nat.le_refl _⟩, by repeat (first | exact Drawn0.refl _ | apply Drawn0.step)⟩
      ·rw [if_neg c9] at H
       have c9b0 : decide (194 ≤ (wrap64 (bt a0 a1))) = false := decide_eq_false c9
       clear c9
       (first | rw [c9b0] | (simp only [i64_w, i32_w]; rw [c9b0]) | skip)
       have H' := Aside0.mk H
       clear H
       go_wp2
       go_meet
       case rel => exact ⟨_, (false), (by first | rfl | (simp; done) | (simp [*]; done)), H', ⟨by first | omega | exact Nat.le_refl _⟩, by repeat (first | exact Drawn0.refl _ | apply Drawn0.step)⟩
     case rest =>
      clear HC8
      try clear p2
      try clear c3
      try clear c3b0
      try clear c4
      try clear c4b0
      try clear p5
      try clear q5
      try clear hx5
      try clear p6
      try clear c7
      try clear c7b0
      try clear c9
      try clear c9b0
      try clear p5
      try clear q5
      obtain ⟨kq, x20_7, rfl, HA, HJ7, ⟨mc7, rfl⟩⟩ := hcut
      cases kq with
      | zero => exact absurd HA.out (by simp [spec_Character.j0])
      | succ kj7 =>
        have H := HA.out
        clear HA
        simp only [spec_Character.j0] at H
        by_cases c10 : x20_7 = true
        ·subst c10
         have H1 : (spec_Character.j2 kj7 a0 a1 (wrap64 ((wrap64 (bt a0 a1)) - 192)) 1 128) = some (r1, r2, r3) := by rw [if_pos rfl] at H; exact H
         clear H
         have H := H1
         clear H1
         have H' := Aside0.mk H
         clear H
         go_wp2
         go_meet
         case rel => exact ⟨_, (wrap64 ((wrap64 (bt a0 a1)) - 192)), (1), (128), (by first | rfl | (simp; done) | (simp [*]; done)), (by first | rfl | (simp; done) | (simp [*]; done)), (by first | rfl | (simp; done) | (simp [*]; done)), H', ⟨by have := HJ7.out; first | omega | exact Nat.le_refl _⟩, by repeat (first | exact Drawn0.refl _ | apply Drawn0.step)⟩
        ·replace c10 := Bool.eq_false_iff.mpr c10
         subst c10
         have H1 : (if 224 ≤ (wrap64 (bt a0 a1)) then (spec_Character.j1 kj7 a0 a1 (wrap64 (bt a0 a1)) (decide ((wrap64 (bt a0 a1)) ≤ 239))) else (spec_Character.j1 kj7 a0 a1 (wrap64 (bt a0 a1)) false)) = some (r1, r2, r3) := by rw [if_neg (show ¬ (false = true) by decide)] at H; exact H
         clear H
         have H := H1
         clear H1
         have HC11 := Aside0.mk H
         clear H
         go_upto_region 8 with (fail)
         go_cut [29] (fun v29 wc => ∃ (kq : Nat) (x29_10 : Bool), v29 = .bool x29_10 ∧ Aside0 (spec_Character.j1 kq a0 a1 (wrap64 (bt a0 a1)) x29_10 = some (r1, r2, r3)) ∧ Aside0 (kq ≤ kj7) ∧ Drawn0 w wc)
         case first =>
          have H := HC11.out
          clear HC11
          by_cases c12 : 224 ≤ (wrap64 (bt a0 a1))
          ·rw [if_pos c12] at H
           have c12b0 : decide (224 ≤ (wrap64 (bt a0 a1))) = true := decide_eq_true c12
           clear c12
           (first | rw [c12b0] | (simp only [i64_w, i32_w]; rw [c12b0]) | skip)
           have H' := Aside0.mk H
           clear H
           go_wp2
           go_meet
           case rel => exact ⟨_, (decide ((wrap64 (bt a0 a1)) ≤ 239)), (by first | rfl | (simp; done) | (simp [*]; done)), H', ⟨by have := HJ7.out; first | omega | exact Nat.le_refl _⟩, by repeat (first | exact Drawn0.refl _ | apply Drawn0.step)⟩
          ·rw [if_neg c12] at H
           have c12b0 : decide (224 ≤ (wrap64 (bt a0 a1))) = false := decide_eq_false c12
           clear c12
           (first | rw [c12b0] | (simp only [i64_w, i32_w]; rw [c12b0]) | skip)
           have H' := Aside0.mk H
           clear H
           go_wp2
           go_meet
           case rel => exact ⟨_, (false), (by first | rfl | (simp; done) | (simp [*]; done)), H', ⟨by have := HJ7.out; first | omega | exact Nat.le_refl _⟩, by repeat (first | exact Drawn0.refl _ | apply Drawn0.step)⟩
         case rest =>
          clear HC11
          try clear c1
          try clear p2
          try clear c3
          try clear c3b0
          try clear c4
          try clear c4b0
          try clear p5
          try clear q5
          try clear hx5
          try clear p6
          try clear c7
          try clear c7b0
          try clear c9
          try clear c9b0
          try clear c10
          try clear c12
          try clear c12b0
          try clear p2
          try clear p5
          try clear p6
          try clear q5
          obtain ⟨kq, x29_10, rfl, HA, HJ10, ⟨mc10, rfl⟩⟩ := hcut
          cases kq with
          | zero => exact absurd HA.out (by simp [spec_Character.j1])
          | succ kj10 =>
            have H := HA.out
            clear HA
            simp only [spec_Character.j1] at H
            by_cases c13 : x29_10 = true
            ·subst c13
             have H1 : (spec_Character.j2 kj10 a0 a1 (wrap64 ((wrap64 (bt a0 a1)) - 224)) 2 2048) = some (r1, r2, r3) := by rw [if_pos rfl] at H; exact H
             clear H
             have H := H1
             clear H1
             have H' := Aside0.mk H
             clear H
             go_wp2
             go_meet
             case rel => exact ⟨_, (wrap64 ((wrap64 (bt a0 a1)) - 224)), (2), (2048), (by first | rfl | (simp; done) | (simp [*]; done)), (by first | rfl | (simp; done) | (simp [*]; done)), (by first | rfl | (simp; done) | (simp [*]; done)), H', ⟨by have := HJ7.out; have := HJ10.out; first | omega | exact Nat.le_refl _⟩, by repeat (first | exact Drawn0.refl _ | apply Drawn0.step)⟩
            ·replace c13 := Bool.eq_false_iff.mpr c13
             subst c13
             have H1 : (if 240 ≤ (wrap64 (bt a0 a1)) then (if (wrap64 (bt a0 a1)) ≤ 244 then (spec_Character.j2 kj10 a0 a1 (wrap64 ((wrap64 (bt a0 a1)) - 240)) 3 65536) else (some (65533, 1, false))) else (some (65533, 1, false))) = some (r1, r2, r3) := by rw [if_neg (show ¬ (false = true) by decide)] at H; exact H
             clear H
             have H := H1
             clear H1
             by_cases c14 : 240 ≤ (wrap64 (bt a0 a1))
             ·rw [if_pos c14] at H
              have c14b0 : decide (240 ≤ (wrap64 (bt a0 a1))) = true := decide_eq_true c14
              clear c14
              by_cases c15 : (wrap64 (bt a0 a1)) ≤ 244
              ·rw [if_pos c15] at H
               have c15b0 : decide ((wrap64 (bt a0 a1)) ≤ 244) = true := decide_eq_true c15
               clear c15
               have H' := Aside0.mk H
               clear H
               go_wp2
               go_meet
               case rel => exact ⟨_, (wrap64 ((wrap64 (bt a0 a1)) - 240)), (3), (65536), (by first | rfl | (simp; done) | (simp [*]; done)), (by first | rfl | (simp; done) | (simp [*]; done)), (by first | rfl | (simp; done) | (simp [*]; done)), H', ⟨by have := HJ7.out; have := HJ10.out; first | omega | exact Nat.le_refl _⟩, by repeat (first | exact Drawn0.refl _ | apply Drawn0.step)⟩
              ·rw [if_neg c15] at H
               have c15b0 : decide ((wrap64 (bt a0 a1)) ≤ 244) = false := decide_eq_false c15
               clear c15
               simp only [Option.some.injEq, Prod.mk.injEq] at H
               obtain ⟨rfl, rfl, rfl⟩ := H
               go_wp2
               go_ret3
               exact ⟨by first | rfl | (simp; done) | (simp [*]; done), by repeat (first | exact Drawn0.refl _ | apply Drawn0.step)⟩
             ·rw [if_neg c14] at H
              have c14b0 : decide (240 ≤ (wrap64 (bt a0 a1))) = false := decide_eq_false c14
              clear c14
              simp only [Option.some.injEq, Prod.mk.injEq] at H
              obtain ⟨rfl, rfl, rfl⟩ := H
              go_wp2
              go_ret3
              exact ⟨by first | rfl | (simp; done) | (simp [*]; done), by repeat (first | exact Drawn0.refl _ | apply Drawn0.step)⟩
   case rest =>
    clear HC6
    try clear c1
    try clear p2
    try clear c3
    try clear c3b0
    try clear c4
    try clear c4b0
    try clear p5
    try clear q5
    try clear hx5
    try clear p6
    try clear c7
    try clear c7b0
    try clear c9
    try clear c9b0
    try clear c10
    try clear c12
    try clear c12b0
    try clear c13
    try clear c14
    try clear c14b0
    try clear c15
    try clear c15b0
    try clear p2
    try clear p5
    try clear p6
    try clear q5
    obtain ⟨kq, x7_5, x8_5, x9_5, rfl, rfl, rfl, HA, HJ5, ⟨mc5, rfl⟩⟩ := hcut
    cases kq with
    | zero => exact absurd HA.out (by simp [spec_Character.j2])
    | succ kj5 =>
      have H := HA.out
      clear HA
      simp only [spec_Character.j2] at H
      by_cases c16 : (wrap64 ((a0.size : Int) - a1)) ≤ x8_5
      ·rw [if_pos c16] at H
       have c16b0 : decide ((wrap64 ((a0.size : Int) - a1)) ≤ x8_5) = true := decide_eq_true c16
       clear c16
       simp only [Option.some.injEq, Prod.mk.injEq] at H
       obtain ⟨rfl, rfl, rfl⟩ := H
       go_wp2
       go_ret3
       exact ⟨by first | rfl | (simp; done) | (simp [*]; done), by repeat (first | exact Drawn0.refl _ | apply Drawn0.step)⟩
      ·rw [if_neg c16] at H
       have c16b0 : decide ((wrap64 ((a0.size : Int) - a1)) ≤ x8_5) = false := decide_eq_false c16
       clear c16
       have H' := Aside0.mk H
       clear H
       go_wp2
       go_loopg [7, 10] kj5 (fun kq v7 v10 w' => ∃ (x7_2 : Int) (x10_2 : Int), v7 = .int .i64 x7_2 ∧ v10 = .int .i64 x10_2 ∧ Aside0 (spec_Character.l0 kq a0 a1 x7_2 x8_5 x9_5 x10_2 = some (r1, r2, r3)) ∧ Aside0 (kq ≤ kj5) ∧ Drawn0 w w')
       case atStart => exact ⟨(x7_5), (1), (by first | rfl | (simp; done) | (simp [*]; done)), (by first | rfl | (simp; done) | (simp [*]; done)), H', ⟨Nat.le_refl _⟩, by repeat (first | exact Drawn0.refl _ | apply Drawn0.step)⟩
       case round =>
        clear H'
        try clear c1
        try clear p2
        try clear c3
        try clear c3b0
        try clear c4
        try clear c4b0
        try clear c5
        try clear p5
        try clear q5
        try clear hx5
        try clear p6
        try clear c7
        try clear c7b0
        try clear c9
        try clear c9b0
        try clear c10
        try clear c12
        try clear c12b0
        try clear c13
        try clear c14
        try clear c14b0
        try clear c15
        try clear c15b0
        try clear c16
        try clear c16b0
        try clear p2
        try clear p5
        try clear p6
        try clear q5
        obtain ⟨x7_2, x10_2, rfl, rfl, HA, HK2, ⟨m2, rfl⟩⟩ := hrel
        cases gk with
        | zero => exact absurd HA.out (by simp [spec_Character.l0])
        | succ k2 =>
          have H := HA.out
          clear HA
          simp only [spec_Character.l0] at H
          by_cases c17 : x10_2 ≤ x8_5
          ·rw [if_pos c17] at H
           have c17b0 : decide (x10_2 ≤ x8_5) = true := decide_eq_true c17
           clear c17
           obtain ⟨ji18, hji18⟩ : ∃ j_ : Int, (wrap64 (a1 + x10_2)) = j_ := ⟨_, rfl⟩
           replace H : (if 0 ≤ (ji18) then (if (ji18) < (a0.size : Int) then (if (wrap64 (bt a0 (ji18))) < 128 then (some (65533, 1, false)) else (if (wrap64 (bt a0 (ji18))) > 191 then (some (65533, 1, false)) else (spec_Character.l0 k2 a0 a1 (wrap64 ((wrap64 ((wrap64 (x7_2 * 64)) + (wrap64 (bt a0 (ji18))))) - 128)) x8_5 x9_5 (wrap64 (x10_2 + 1))))) else (none)) else (none)) = some (r1, r2, r3) := by first | (rw [hji18] at H; exact H) | (simp only [hji18] at H ⊢; exact H)
           have hji18w : (IntKind.i64.wrap (a1 + x10_2)) = ji18 := (i64_w _).trans hji18
           by_cases c19 : 0 ≤ (ji18)
           ·rw [if_pos c19] at H
            have c19b0 : decide (0 ≤ (ji18)) = true := decide_eq_true c19
            clear c19
            by_cases c20 : (ji18) < (a0.size : Int)
            ·rw [if_pos c20] at H
             have c20b0 : decide ((ji18) < (a0.size : Int)) = true := decide_eq_true c20
             clear c20
             by_cases c22 : (wrap64 (bt a0 (ji18))) < 128
             ·rw [if_pos c22] at H
              have c22b0 : decide ((wrap64 (bt a0 (ji18))) < 128) = true := decide_eq_true c22
              clear c22
              simp only [Option.some.injEq, Prod.mk.injEq] at H
              obtain ⟨rfl, rfl, rfl⟩ := H
              have p21 : 0 ≤ ((ji18) : Int) := of_decide_eq_true (by first | (with_reducible assumption) | assumption)
              have q21 : (ji18) < (a0.size : Int) := of_decide_eq_true (by first | (with_reducible assumption) | assumption)
              have hx21 := bt_at a0 (ji18)
              replace p21 := eq_true p21
              replace q21 := eq_true q21
              go_wp2
              go_ret3
              exact ⟨by first | rfl | (simp; done) | (simp only [← hji18] <;> (first | rfl | simp)) | (simp [*]; done), by repeat (first | exact Drawn0.refl _ | apply Drawn0.step)⟩
             ·rw [if_neg c22] at H
              have c22b0 : decide ((wrap64 (bt a0 (ji18))) < 128) = false := decide_eq_false c22
              clear c22
              by_cases c23 : (wrap64 (bt a0 (ji18))) > 191
              ·rw [if_pos c23] at H
               have c23b0 : decide (191 < (wrap64 (bt a0 (ji18)))) = true := decide_eq_true c23
               clear c23
               simp only [Option.some.injEq, Prod.mk.injEq] at H
               obtain ⟨rfl, rfl, rfl⟩ := H
               have p21 : 0 ≤ ((ji18) : Int) := of_decide_eq_true (by first | (with_reducible assumption) | assumption)
               have q21 : (ji18) < (a0.size : Int) := of_decide_eq_true (by first | (with_reducible assumption) | assumption)
               have hx21 := bt_at a0 (ji18)
               replace p21 := eq_true p21
               replace q21 := eq_true q21
               go_wp2
               go_ret3
               exact ⟨by first | rfl | (simp; done) | (simp only [← hji18] <;> (first | rfl | simp)) | (simp [*]; done), by repeat (first | exact Drawn0.refl _ | apply Drawn0.step)⟩
              ·rw [if_neg c23] at H
               have c23b0 : decide (191 < (wrap64 (bt a0 (ji18)))) = false := decide_eq_false c23
               clear c23
               have H' := Aside0.mk H
               clear H
               have p21 : 0 ≤ ((ji18) : Int) := of_decide_eq_true (by first | (with_reducible assumption) | assumption)
               have q21 : (ji18) < (a0.size : Int) := of_decide_eq_true (by first | (with_reducible assumption) | assumption)
               have hx21 := bt_at a0 (ji18)
               replace p21 := eq_true p21
               replace q21 := eq_true q21
               go_wp2
               go_roundg k2
               case measure => have := HJ5.out; have := HK2.out; omega
               case rel => exact ⟨(wrap64 ((wrap64 ((wrap64 (x7_2 * 64)) + (wrap64 (bt a0 (ji18))))) - 128)), (wrap64 (x10_2 + 1)), (by first | rfl | (simp; done) | (simp only [← hji18] <;> (first | rfl | simp)) | (simp [*]; done)), (by first | rfl | (simp; done) | (simp [*]; done)), H', ⟨by have := HJ5.out; have := HK2.out; omega⟩, by repeat (first | exact Drawn0.refl _ | apply Drawn0.step)⟩
            ·rw [if_neg c20] at H
             exact absurd H (by simp)
           ·rw [if_neg c19] at H
            exact absurd H (by simp)
          ·rw [if_neg c17] at H
           have c17b0 : decide (x10_2 ≤ x8_5) = false := decide_eq_false c17
           clear c17
           by_cases c24 : x7_2 < x9_5
           ·rw [if_pos c24] at H
            have c24b0 : decide (x7_2 < x9_5) = true := decide_eq_true c24
            clear c24
            simp only [Option.some.injEq, Prod.mk.injEq] at H
            obtain ⟨rfl, rfl, rfl⟩ := H
            go_wp2
            go_ret3
            exact ⟨by first | rfl | (simp; done) | (simp [*]; done), by repeat (first | exact Drawn0.refl _ | apply Drawn0.step)⟩
           ·rw [if_neg c24] at H
            have c24b0 : decide (x7_2 < x9_5) = false := decide_eq_false c24
            clear c24
            by_cases c25 : x7_2 > 1114111
            ·rw [if_pos c25] at H
             have c25b0 : decide (1114111 < x7_2) = true := decide_eq_true c25
             clear c25
             simp only [Option.some.injEq, Prod.mk.injEq] at H
             obtain ⟨rfl, rfl, rfl⟩ := H
             go_wp2
             go_ret3
             exact ⟨by first | rfl | (simp; done) | (simp [*]; done), by repeat (first | exact Drawn0.refl _ | apply Drawn0.step)⟩
            ·rw [if_neg c25] at H
             have c25b0 : decide (1114111 < x7_2) = false := decide_eq_false c25
             clear c25
             replace H := Option.bind_eq_some_iff.mp H
             obtain ⟨t101, A260, H⟩ := H
             replace H : (if t101 = true then (some (65533, 1, false)) else ((spec_low.f x7_2).bind fun t102 => (if t102 = true then (some (65533, 1, false)) else (some (x7_2, wrap64 (x8_5 + 1), true))))) = some (r1, r2, r3) := H
             have A26 := Aside0.mk A260
             clear A260
             by_cases c27 : t101 = true
             ·subst c27
              have H1 : (some (65533, 1, false)) = some (r1, r2, r3) := by rw [if_pos rfl] at H; exact H
              clear H
              have H := H1
              clear H1
              simp only [Option.some.injEq, Prod.mk.injEq] at H
              obtain ⟨rfl, rfl, rfl⟩ := H
              go_wp2_with (first | (go_at_call 50; (with_reducible refine (spec_high.calls x7_2 true _ A26.out).mono ?_); rintro e w' ⟨rfl, ⟨nd, rfl⟩⟩))
              go_ret3
              exact ⟨by first | rfl | (simp; done) | (simp [*]; done), by repeat (first | exact Drawn0.refl _ | apply Drawn0.step)⟩
             ·replace c27 := Bool.eq_false_iff.mpr c27
              subst c27
              have H1 : ((spec_low.f x7_2).bind fun t102 => (if t102 = true then (some (65533, 1, false)) else (some (x7_2, wrap64 (x8_5 + 1), true)))) = some (r1, r2, r3) := by rw [if_neg (show ¬ (false = true) by decide)] at H; exact H
              clear H
              have H := H1
              clear H1
              replace H := Option.bind_eq_some_iff.mp H
              obtain ⟨t102, A280, H⟩ := H
              replace H : (if t102 = true then (some (65533, 1, false)) else (some (x7_2, wrap64 (x8_5 + 1), true))) = some (r1, r2, r3) := H
              have A28 := Aside0.mk A280
              clear A280
              by_cases c29 : t102 = true
              ·subst c29
               have H1 : (some (65533, 1, false)) = some (r1, r2, r3) := by rw [if_pos rfl] at H; exact H
               clear H
               have H := H1
               clear H1
               simp only [Option.some.injEq, Prod.mk.injEq] at H
               obtain ⟨rfl, rfl, rfl⟩ := H
               go_wp2_with (first | (go_at_call 50; (with_reducible refine (spec_high.calls x7_2 false _ A26.out).mono ?_); rintro e w' ⟨rfl, ⟨nd, rfl⟩⟩) | (go_at_call 51; (with_reducible refine (spec_low.calls x7_2 true _ A28.out).mono ?_); rintro e w' ⟨rfl, ⟨nd, rfl⟩⟩))
               go_ret3
               exact ⟨by first | rfl | (simp; done) | (simp [*]; done), by repeat (first | exact Drawn0.refl _ | apply Drawn0.step)⟩
              ·replace c29 := Bool.eq_false_iff.mpr c29
               subst c29
               have H1 : (some (x7_2, wrap64 (x8_5 + 1), true)) = some (r1, r2, r3) := by rw [if_neg (show ¬ (false = true) by decide)] at H; exact H
               clear H
               have H := H1
               clear H1
               simp only [Option.some.injEq, Prod.mk.injEq] at H
               obtain ⟨rfl, rfl, rfl⟩ := H
               go_wp2_with (first | (go_at_call 50; (with_reducible refine (spec_high.calls x7_2 false _ A26.out).mono ?_); rintro e w' ⟨rfl, ⟨nd, rfl⟩⟩) | (go_at_call 51; (with_reducible refine (spec_low.calls x7_2 false _ A28.out).mono ?_); rintro e w' ⟨rfl, ⟨nd, rfl⟩⟩))
               go_ret3
               exact ⟨by first | rfl | (simp; done) | (simp [*]; done), by repeat (first | exact Drawn0.refl _ | apply Drawn0.step)⟩
  ·rw [if_neg c4] at H
   exact absurd H (by simp)
 ·rw [if_neg c3] at H
  exact absurd H (by simp)
end Go.Proofs.YtpgfjbimodnkeaaGreatDoor.Q
namespace Go.Proofs.YtpgfjbimodnkeaaGreatDoor.Q
open Go.RowKit Go.Proofs.YtpgfjbimodnkeaaGreatDoorW.PrintWords Go.Proofs.YtpgfjbimodnkeaaGreatDoorW.PrintLast Go.Proofs.YtpgfjbimodnkeaaGreatDoorW.PrintMore
attribute [local go_sem] max2_int min2_int max_two min_two max_three min_three max_four min_four
set_option linter.unusedVariables false
set_option linter.unusedSimpArgs false
def spec_UTF8.l0 : Nat → ByteArray → Int → Option (Bool)
 | 0, _, _ => none
 | k + 1, x0, x3 => if x3 < (x0.size : Int) then ((spec_Character.f k x0 x3).bind fun bt103 => (if bt103.2.2 = true then (spec_UTF8.l0 k x0 (wrap64 (x3 + bt103.2.1))) else (some false))) else (some true)
def spec_UTF8.f (k : Nat) (a0 : ByteArray) : Option (Bool) := spec_UTF8.l0 k a0 0
theorem spec_UTF8.mono_l : ∀ k, (∀ y0 y1, LeO (spec_UTF8.l0 k y0 y1) (spec_UTF8.l0 (k + 1) y0 y1))
 | 0 => fun _ _ r h => by simp [spec_UTF8.l0] at h
 | k + 1 => by
   have ih0 := spec_UTF8.mono_l k
   ·intro y0 y1
    unfold spec_UTF8.l0
    repeat' first
    | (with_reducible exact ih0 _ _)
    | (with_reducible exact spec_Character.mono _ _ _)
    | (with_reducible exact LeO.refl _)
    | (with_reducible exact LeO.none _)
    | (with_reducible refine LeO.ite ?_ ?_)
    | (with_reducible refine LeO.bind ?_ (fun _ => ?_))
    | exact ih0 _ _
    | exact spec_Character.mono _ _ _
    | exact LeO.none _
    | refine LeO.ite ?_ ?_
    | refine LeO.bind ?_ (fun _ => ?_)
theorem spec_UTF8.mono : ∀ a0 k, LeO (spec_UTF8.f k a0) (spec_UTF8.f (k + 1) a0) := by
 intro a0 k
 have ih0 := spec_UTF8.mono_l k
 unfold spec_UTF8.f
 repeat' first
  | (with_reducible exact ih0 _ _)
  | (with_reducible exact spec_Character.mono _ _ _)
  | (with_reducible exact LeO.refl _)
  | (with_reducible exact LeO.none _)
  | (with_reducible refine LeO.ite ?_ ?_)
  | (with_reducible refine LeO.bind ?_ (fun _ => ?_))
  | exact ih0 _ _
  | exact spec_Character.mono _ _ _
  | exact LeO.none _
  | refine LeO.ite ?_ ?_
  | refine LeO.bind ?_ (fun _ => ?_)
set_option maxHeartbeats 8000000 in
set_option maxRecDepth 100000 in
theorem spec_UTF8.calls (k : Nat) (a0 : ByteArray) (r : Bool) (w : World) (h : spec_UTF8.f k a0 = some r) :
 Calls Tryz.prog 26 #[.string a0] w fun e w' => e = .returned (.bool r) ∧ Drawn0 w w' := by
 have H : (spec_UTF8.l0 k a0 0) = some r := h
 clear h
 have H' := Aside0.mk H
 clear H
 go_enter Tryz.func26, Tryz.ntmps26
 go_wp2
 go_loopg [3] k (fun kq v3 w' => ∃ (x3_1 : Int), v3 = .int .i64 x3_1 ∧ Aside0 (spec_UTF8.l0 kq a0 x3_1 = some r) ∧ Aside0 (kq ≤ k) ∧ Drawn0 w w')
 case atStart => exact ⟨(0), (by first | rfl | (simp; done) | (simp [*]; done)), H', ⟨Nat.le_refl _⟩, by repeat (first | exact Drawn0.refl _ | apply Drawn0.step)⟩
 case round =>
  clear H'
  obtain ⟨x3_1, rfl, HA, HK1, ⟨m1, rfl⟩⟩ := hrel
  cases gk with
  | zero => exact absurd HA.out (by simp [spec_UTF8.l0])
  | succ k1 =>
    have H := HA.out
    clear HA
    simp only [spec_UTF8.l0] at H
    by_cases c2 : x3_1 < (a0.size : Int)
    ·rw [if_pos c2] at H
     have c2b0 : decide (x3_1 < (a0.size : Int)) = true := decide_eq_true c2
     clear c2
     replace H := Option.bind_eq_some_iff.mp H
     obtain ⟨⟨t103, t104, t105⟩, A30, H⟩ := H
     replace H : (if t105 = true then (spec_UTF8.l0 k1 a0 (wrap64 (x3_1 + t104))) else (some false)) = some r := H
     have A3 := Aside0.mk A30
     clear A30
     by_cases c4 : t105 = true
     ·subst c4
      have H1 : (spec_UTF8.l0 k1 a0 (wrap64 (x3_1 + t104))) = some r := by rw [if_pos rfl] at H; exact H
      clear H
      have H := H1
      clear H1
      have H' := Aside0.mk H
      clear H
      go_wp2_with (first | ((with_reducible refine gate_callee (f := 48) rfl ?_); refine goesL_ (some 14) rfl rfl Tryz.func48 (by kernel_rfl) rfl #[.string a0, .int .i64 x3_1] rfl (by (try simp only [List.map_toArray, List.map_cons, List.map_nil]); first | done | rfl | (simp only [List.length_drop, List.length_take]; rfl)) ?_; (with_reducible refine (spec_Character.calls k1 a0 x3_1 t103 t104 true _ A3.out).mono ?_); rintro e w' ⟨rfl, ⟨nd, rfl⟩⟩; refine ⟨_, rfl, ?_⟩))
      go_roundg k1
      case measure => have := HK1.out; omega
      case rel => exact ⟨(wrap64 (x3_1 + t104)), (by first | rfl | (simp; done) | (simp [*]; done)), H', ⟨by have := HK1.out; omega⟩, by repeat (first | exact Drawn0.refl _ | apply Drawn0.step)⟩
     ·replace c4 := Bool.eq_false_iff.mpr c4
      subst c4
      have H1 : (some false) = some r := by rw [if_neg (show ¬ (false = true) by decide)] at H; exact H
      clear H
      have H := H1
      clear H1
      obtain rfl := Option.some.inj H
      go_wp2_with (first | ((with_reducible refine gate_callee (f := 48) rfl ?_); refine goesL_ (some 14) rfl rfl Tryz.func48 (by kernel_rfl) rfl #[.string a0, .int .i64 x3_1] rfl (by (try simp only [List.map_toArray, List.map_cons, List.map_nil]); first | done | rfl | (simp only [List.length_drop, List.length_take]; rfl)) ?_; (with_reducible refine (spec_Character.calls k1 a0 x3_1 t103 t104 false _ A3.out).mono ?_); rintro e w' ⟨rfl, ⟨nd, rfl⟩⟩; refine ⟨_, rfl, ?_⟩))
      go_ret
      exact ⟨by first | rfl | (simp; done) | (simp [*]; done), by repeat (first | exact Drawn0.refl _ | apply Drawn0.step)⟩
    ·rw [if_neg c2] at H
     have c2b0 : decide (x3_1 < (a0.size : Int)) = false := decide_eq_false c2
     clear c2
     obtain rfl := Option.some.inj H
     go_wp2
     go_ret
     exact ⟨by first | rfl | (simp; done) | (simp [*]; done), by repeat (first | exact Drawn0.refl _ | apply Drawn0.step)⟩
end Go.Proofs.YtpgfjbimodnkeaaGreatDoor.Q
