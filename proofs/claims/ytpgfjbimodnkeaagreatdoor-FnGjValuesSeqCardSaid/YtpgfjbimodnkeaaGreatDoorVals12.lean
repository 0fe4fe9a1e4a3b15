/- FnGjValuesSeq: whatever text and stop come in, the law returns true and both read afterwards as before; with the package-level variables that its row lists as the program's own text lays them (part 12 of 27: lemmas for its last part) -/
import Derived.WalkMore
import Derived.Laws.Cover2
import Derived.Shelf.LaysM
import Derived.Shelf.Strconv.Clone
import Derived.Shelf.Strconv.SyntaxError
import Derived.Shelf.Strconv.RangeError
import Derived.Test.YtpgfjbimodnkeaaGreatDoorProg
import Derived.Lib.IfaceEq
import Derived.Test.YtpgfjbimodnkeaaGreatDoorVals1
import Derived.Test.YtpgfjbimodnkeaaGreatDoorVals3
import Derived.Test.YtpgfjbimodnkeaaGreatDoorVals4
import Derived.Test.YtpgfjbimodnkeaaGreatDoorVals5
import Derived.Test.YtpgfjbimodnkeaaGreatDoorVals10
import Derived.Test.YtpgfjbimodnkeaaGreatDoorVals11
set_option linter.unusedVariables false
set_option linter.unusedSimpArgs false
namespace Go.Proofs.YtpgfjbimodnkeaaGreatDoor.Dec
open Go Go.RowKit Go.Proofs.YtpgfjbimodnkeaaGreatDoorW.PrintWords Go.Proofs.YtpgfjbimodnkeaaGreatDoorW.PrintLast Go.Proofs.YtpgfjbimodnkeaaGreatDoorW.PrintMore
open Go.Proofs.YtpgfjbimodnkeaaGreatDoor.Q
attribute [local go_sem] max2_int min2_int max_two min_two f64bits_run
theorem Tabs.mono {B B' : Nat} {w : World} (h : Tabs B w) (h1 : B ≤ B') (h2 : B' ≤ w.heap.size) : Tabs B' w := by
 obtain ⟨b1, c1, g1, g2, g3⟩ := h.pow
 obtain ⟨b2, c2, k1, k2, k3⟩ := h.ten
 obtain ⟨b3, c3, l1, l2, l3⟩ := h.left
 exact ⟨Nat.le_trans h.low h1, h2, h.vch, h.errS, h.errR, h.opt, h.mant, h.expb, h.bias, ⟨b1, c1, Nat.lt_of_lt_of_le g1 h1, g2, g3⟩, ⟨b2, c2, Nat.lt_of_lt_of_le k1 h1, k2, k3⟩, h.tab, ⟨b3, c3, Nat.lt_of_lt_of_le l1 h1, l2, l3⟩⟩
set_option maxHeartbeats 8000000 in
set_option maxRecDepth 100000 in
theorem parsef_calls (w : World) (B : Nat) (d p sg : Int) (hd0 : 0 ≤ d) (hd1 : d < 18446744073709551616) (hp0 : -345 ≤ p) (hp1 : p ≤ 310) (hT : Tabs B w) :
 Calls Tryz.prog 157 #[.int .u64 d, .int .i64 p, .int .u64 sg] w fun e w' => RetFE e ∧ Below w.heap.size w w' := by
 have hlen := fun W => len_calls W d hd0 hd1
 obtain ⟨lp, hlp⟩ : ∃ lp : Int, (wrap64 (p * 108853)) / 32768 = lp := ⟨_, rfl⟩
 have hlog := fun W => strconv_log2Pow10.calls p lp W (by rw [strconv_log2Pow10.f, hlp])
 have hlp0 : -1200 ≤ lp ∧ lp ≤ 1100 := by
  have h1 : wrap64 (p * 108853) = p * 108853 := by unfold wrap64; omega
  rw [h1] at hlp
  omega
 clear hlp
 have hb2 : ∀ (b : Bool) (W : World), Calls Tryz.prog 165 #[.bool b] W fun e w' => (∃ k : Int, e = .returned (.int .i64 k) ∧ 0 ≤ k ∧ k ≤ 1) ∧ Drawn0 W w' := fun b W => by
  cases b with
  | true => exact (strconv_bool2_int.calls true 1 W rfl).mono (fun e w' h => ⟨⟨1, h.1, by omega, by omega⟩, h.2⟩)
  | false => exact (strconv_bool2_int.calls false 0 W rfl).mono (fun e w' h => ⟨⟨0, h.1, by omega, by omega⟩, h.2⟩)
 have hum : ∀ (W : World), Calls Tryz.prog 166 #[.int .u64 9007199254740992] W fun e w' => (∃ k : Int, e = .returned (.int .u64 k)) ∧ Drawn0 W w' := fun W => (strconv_unmin.calls 9007199254740992 _ W rfl).mono (fun e w' h => ⟨⟨_, h.1⟩, h.2⟩)
 have hrd : ∀ (u : Int) (W : World), Calls Tryz.prog 168 #[.int .u64 u] W fun e w' => (∃ k : Int, e = .returned (.int .u64 k)) ∧ Drawn0 W w' := fun u W => (strconv_unrounded_round.calls u _ W rfl).mono (fun e w' h => ⟨⟨_, h.1⟩, h.2⟩)
 have hTg := hT.mono hT.size (Nat.le_refl _)
 have hpre : ∀ (k : Nat) (e : Int), Calls Tryz.prog 163 #[.pointer (some ⟨w.heap.size, 0, none⟩), .int .i64 e, .int .i64 p, .int .i64 lp] ((w.drewN k).alloc (Obj.cells #[Value.int IntKind.u64 0, Value.int IntKind.u64 0, Value.int IntKind.i64 0] 207))
  fun r w' => r = .returned (.tuple #[]) ∧ (∃ x y z, IsSc w' w.heap.size x y z) ∧ Below w.heap.size w w' := by
  intro k e
  have h1 : Below w.heap.size w ((w.drewN k).alloc (Obj.cells #[Value.int IntKind.u64 0, Value.int IntKind.u64 0, Value.int IntKind.i64 0] 207)) := below_alloc (pw_below_drewN (Below.refl _ _) k) _
  refine (prescale_calls _ w.heap.size e p lp 0 0 0 ⟨207, by simpa using heap_alloc_new (w.drewN k) (Obj.cells #[Value.int IntKind.u64 0, Value.int IntKind.u64 0, Value.int IntKind.i64 0] 207)⟩ (hTg.below h1) (by omega) (by omega)).mono ?_
  rintro r w' ⟨h2, h3, h4⟩
  exact ⟨h2, h3, h1.trans h4⟩
 go_enter Tryz.func157, Tryz.ntmps157
 go_wp2_with (first | (go_at_call 114; (with_reducible refine (hlen _).mono ?_); rintro e w4 ⟨⟨b, rfl, hb0, hb1⟩, ⟨m4, rfl⟩⟩) | (go_at_call 162; (with_reducible refine (hlog _).mono ?_); rintro e w4 ⟨rfl, ⟨m4, rfl⟩⟩) | (go_at_call 163; (with_reducible refine (hpre _ _).mono ?_); rintro e wp ⟨rfl, ⟨x, y, z, hI⟩, hBp⟩; have s2 := hI.at2) |
  (go_at_call 164; (with_reducible refine (uscale_calls _ _ _ x y z hI).mono ?_); rintro e w4 ⟨⟨u, rfl⟩, ⟨m5, rfl⟩⟩) | (go_at_call 166; (with_reducible refine (hum _).mono ?_); rintro e w4 ⟨⟨q, rfl⟩, ⟨m6, rfl⟩⟩) | (go_at_call 165; (with_reducible refine (hb2 _ _).mono ?_); rintro e w4 ⟨⟨k, rfl, hk0, hk1⟩, ⟨m7, rfl⟩⟩) |
  (go_at_call 168; (with_reducible refine (hrd _ _).mono ?_); rintro e w4 ⟨⟨q2, rfl⟩, ⟨m8, rfl⟩⟩) | (go_at_call 171; refine (pack_calls _ _ _ (by first | omega | (split <;> omega))).mono ?_; rintro e w4 ⟨⟨bb, v, rfl, hv⟩, ⟨m9, rfl⟩⟩))
 all_goals go_ret2
 all_goals first | exact ⟨⟨_, _, rfl, .inl rfl⟩, by repeat (first | exact hBp | apply pw_below_drewN)⟩ | exact ⟨⟨_, _, rfl, hv⟩, by repeat (first | exact hBp | apply pw_below_drewN)⟩
end Go.Proofs.YtpgfjbimodnkeaaGreatDoor.Dec
set_option linter.unusedVariables false
set_option linter.unusedSimpArgs false
namespace Go.Proofs.YtpgfjbimodnkeaaGreatDoor.Dec
open Go Go.RowKit Go.Proofs.YtpgfjbimodnkeaaGreatDoorW.PrintWords Go.Proofs.YtpgfjbimodnkeaaGreatDoorW.PrintLast Go.Proofs.YtpgfjbimodnkeaaGreatDoorW.PrintMore
attribute [local go_sem] f64bits_run
structure RetAt (s : ByteArray) (e : Ending) : Prop where mk :: (out : ∃ (b i : Nat) (v : Value), e = .returned (.tuple #[.float .f64 b, .int .i64 (i : Int), v]) ∧ (v = .nilIface ∨ v = .iface 152 (.int .i64 1) ∨ v = .iface 152 (.int .i64 2)))
structure NumSigns (s : ByteArray) : Prop where
 ch : NumCh s
 not_in : ∀ i : Nat, i < s.size → bt s (i : Int) ≠ 73 ∧ bt s (i : Int) ≠ 105 ∧ bt s (i : Int) ≠ 78 ∧ bt s (i : Int) ≠ 110
theorem zero190 : Tryz.zeroCells190 = (List.replicate 800 (Value.int .u8 0) ++ [Value.int .i64 0, Value.int .i64 0, Value.bool false, Value.bool false]).toArray := by kernel_rfl
theorem row_of {v a b c d : Value} (n : Nat) (cs : Array Value) (h : cs = (List.replicate n v ++ [a, b, c, d]).toArray) :
 cs.size = n + 4 ∧ (∀ i, i < n → cs[i]? = some v) ∧ cs[n]? = some a ∧ cs[n + 1]? = some b ∧ cs[n + 2]? = some c ∧ cs[n + 3]? = some d := by
 subst h
 refine ⟨by simp, fun i hi => ?_, ?_, ?_, ?_, ?_⟩
 ·rw [List.getElem?_toArray, List.getElem?_append_left (by simpa using hi), List.getElem?_replicate, if_pos hi]
 all_goals
  rw [List.getElem?_toArray, List.getElem?_append_right (by simp)]
  simp
theorem dec_new (W : World) : IsDec (W.alloc (Obj.cells Tryz.zeroCells190 190)) W.heap.size (fun _ => 0) 0 0 false false := by
 obtain ⟨h1, h2, h3, h4, h5, h6⟩ := row_of 800 _ zero190
 exact ⟨Tryz.zeroCells190, 190, by simpa using heap_alloc_new W (Obj.cells Tryz.zeroCells190 190), h1, h2, h3, h4, h5, h6⟩
structure DecAt (w : World) (g : Nat) (W : World) : Prop where mk :: (out : Below w.heap.size w W ∧ Tabs g W ∧ ∃ a nd dp neg tr, IsDec W g a nd dp neg tr ∧ Good a nd ∧ -1000000000 ≤ dp ∧ dp ≤ 1000000000 ∧ w.heap.size ≤ g)
set_option maxHeartbeats 8000000 in
set_option maxRecDepth 100000 in
theorem atof_calls (w : World) (B : Nat) (s : ByteArray) (hs : s.size ≤ 1000000) (hN : NumSigns s) (hT : Tabs B w) :
 Calls Tryz.prog 140 #[.string s] w fun e w' => RetAt s e ∧ Below w.heap.size w w' := by
 have hsp := fun W => special_calls W s hs (fun h => hN.not_in 0 h) (fun h => ⟨(hN.not_in 1 h).1, (hN.not_in 1 h).2.1⟩)
 have hrf := fun W => rf_calls W s hs hN.ch
 have hb2 : ∀ (b : Bool) (W : World), Calls Tryz.prog 154 #[.bool b] W fun e w' => e = .returned (.int .u64 (bi b)) ∧ Drawn0 W w' := fun b W => Go.Proofs.YtpgfjbimodnkeaaGreatDoor.Q.strconv_bool2_uint64.calls b _ W (by cases b <;> rfl)
 have t4 := hT.opt
 have hu := @u64_rng'
 have hpf : ∀ (W : World) (d p sg : Int) (hp0 : -345 ≤ p) (hp1 : p ≤ 310) (hd : 0 ≤ d ∧ d < 18446744073709551616) (hW : Below w.heap.size w W), Calls Tryz.prog 157 #[.int .u64 d, .int .i64 p, .int .u64 sg] W fun e w' => RetFE e ∧ Below w.heap.size w w' := by
  intro W d p sg hp0 hp1 hd hW
  have hTW : Tabs B W := hT.below (below_mono hW hT.size)
  refine (parsef_calls W B d p sg hd.1 hd.2 hp0 hp1 hTW).mono ?_
  rintro e w' ⟨h1, h2⟩
  exact ⟨h1, hW.trans (below_mono h2 hW.size)⟩
 have hset : ∀ (W : World) (i : Nat), Below w.heap.size w W → Calls Tryz.prog 152 #[.pointer (some ⟨W.heap.size, 0, none⟩), .string (s.extract 0 i)] (W.alloc (Obj.cells Tryz.zeroCells190 190)) fun e w' => RetBool e ∧ DecAt w W.heap.size w' := by
  intro W i hW
  have h0 : Below W.heap.size W (W.alloc (Obj.cells Tryz.zeroCells190 190)) := below_alloc (Below.refl _ _) _
  refine (set_calls _ W.heap.size (s.extract 0 i) _ false false (dec_new W) (by simp [ByteArray.size_extract]; omega)).mono ?_
  rintro e w' ⟨h1, a, nd, dp, ng, tr, h2, h3, h4, h5, h6⟩
  have h7 := h0.trans h6
  have hTW : Tabs B W := hT.below (below_mono hW hT.size)
  exact ⟨h1, ⟨hW.trans (below_mono h7 hW.size), (hTW.mono hTW.size (Nat.le_refl _)).below h7, a, nd, dp, ng, tr, h2, h3, h4, h5, hW.size⟩⟩
 have hfb : ∀ (g : Nat) (W : World), DecAt w g W → Calls Tryz.prog 153 #[.pointer (some ⟨g, 0, none⟩), .pointer (some ⟨5, 0, none⟩)] W fun e w' => RetFb e ∧ Below w.heap.size w w' := by
  rintro g W ⟨h1, h2, a, nd, dp, ng, tr, h3, h4, h5, h6, h7⟩
  refine (floatbits_calls W g a nd dp ng tr h3 h4 ⟨h5, h6⟩ h2).mono ?_
  rintro e w' ⟨h8, h9⟩
  exact ⟨h8, h1.trans (below_mono h9 h7)⟩
 go_enter Tryz.func140, Tryz.ntmps140
 go_wp2_with (first | (go_at_call 145; (with_reducible refine (hsp _).mono ?_); rintro e w4 ⟨rfl, ⟨m4, rfl⟩⟩) | (go_at_call 146; (with_reducible refine (hrf _).mono ?_); rintro e w4 ⟨⟨m, x, ng, tr, i, ok, rfl, hi, hm0, hm1, hx0, hx1⟩, ⟨m5, rfl⟩⟩) | (go_at_call 154; (with_reducible refine (hb2 _ _).mono ?_); rintro e w4 ⟨rfl, ⟨m6, rfl⟩⟩) | (go_at_call 156; (with_reducible refine (exact_calls _ B _ _ _ (by omega) (by omega) (by omega) (hT.below (by repeat (first | exact Below.refl _ _ | apply pw_below_drewN)))).mono ?_); rintro e w4 ⟨⟨b1, o1, rfl⟩, ⟨m7, rfl⟩⟩) | (go_at_call 157; (with_reducible refine (hpf _ _ _ _ (by omega) (by omega) (by first | exact ⟨by omega, by omega⟩ | exact u64_rng' _) (by repeat (first | assumption | exact Below.refl _ _ | apply pw_below_drewN))).mono ?_); rintro e w4 ⟨⟨b2, v2, rfl, hv2⟩, hB4⟩; have hv3 : v2 = Value.nilIface ∨ v2 = Value.iface 152 (Value.int .i64 1) ∨ v2 = Value.iface 152 (Value.int .i64 2) := hv2.elim .inl (fun h => .inr (.inl h))) | (go_at_call 152; (with_reducible refine (hset _ _ (by assumption)).mono ?_); rintro e w6 ⟨⟨b3, rfl⟩, hP⟩; have hB6 := hP.out.1) | (go_at_call 153; (with_reducible refine (hfb _ _ (by assumption)).mono ?_); rintro e w7 ⟨⟨n7, o7, rfl⟩, hB7⟩))
 all_goals refine bodyPost_ret (results_list (rs := [.tmp 2, .tmp 3, .tmp 4]) rfl (by simp) (.tmp (.tmp (.tmp .nil)))) rfl ?_
 all_goals first | exact ⟨⟨_, i, _, rfl, .inl rfl⟩, by repeat (first | assumption | exact Below.refl _ _ | apply pw_below_drewN)⟩ | exact ⟨⟨_, i, _, rfl, .inr (.inl rfl)⟩, by repeat (first | assumption | exact Below.refl _ _ | apply pw_below_drewN)⟩ | exact ⟨⟨_, i, _, rfl, .inr (.inr rfl)⟩, by repeat (first | assumption | exact Below.refl _ _ | apply pw_below_drewN)⟩ | exact ⟨⟨_, i, _, rfl, by assumption⟩, by repeat (first | assumption | exact Below.refl _ _ | apply pw_below_drewN)⟩
end Go.Proofs.YtpgfjbimodnkeaaGreatDoor.Dec
set_option linter.unusedVariables false
set_option linter.unusedSimpArgs false
namespace Go.Proofs.YtpgfjbimodnkeaaGreatDoor.Dec
open Go Go.RowKit Go.Proofs.YtpgfjbimodnkeaaGreatDoorW.PrintWords Go.Proofs.YtpgfjbimodnkeaaGreatDoorW.PrintLast Go.Proofs.YtpgfjbimodnkeaaGreatDoorW.PrintMore
structure RetPf (e : Ending) : Prop where mk :: (out : ∃ (b : Nat) (v : Value), e = .returned (.tuple #[.float .f64 b, v]) ∧ (v = .nilIface ∨ v = .iface 152 (.int .i64 1) ∨ v = .iface 152 (.int .i64 2)))
set_option maxHeartbeats 8000000 in
set_option maxRecDepth 100000 in
theorem pfp_calls (w : World) (B : Nat) (s : ByteArray) (hs : s.size ≤ 1000000) (hN : NumSigns s) (hT : Tabs B w) :
 Calls Tryz.prog 123 #[.string s, .int .i64 64] w fun e w' => RetAt s e ∧ Below w.heap.size w w' := by
 have ha := atof_calls w B s hs hN hT
 go_enter Tryz.func123, Tryz.ntmps123
 go_wp2_with (first | (go_at_call 140; (with_reducible refine ha.mono ?_); rintro e w4 ⟨⟨b, i, v, rfl, hv⟩, hB⟩))
 all_goals refine bodyPost_ret (results_list (rs := [.tmp 4, .tmp 5, .tmp 6]) rfl (by simp) (.tmp (.tmp (.tmp .nil)))) rfl ?_
 all_goals exact ⟨⟨_, i, _, rfl, hv⟩, hB⟩
set_option maxHeartbeats 8000000 in
set_option maxRecDepth 100000 in
theorem pf102_calls (w : World) (B : Nat) (s : ByteArray) (hs : s.size ≤ 1000000) (hN : NumSigns s) (hT : Tabs B w) :
 Calls Tryz.prog 102 #[.string s, .int .i64 64] w fun e w' => RetPf e ∧ Below w.heap.size w w' := by
 have ha := pfp_calls w B s hs hN hT
 go_enter Tryz.func102, Tryz.ntmps102
 go_wp2_with (first | (go_at_call 123; (with_reducible refine ha.mono ?_); rintro e w4 ⟨⟨b, i, v, rfl, hv⟩, hB⟩))
 all_goals go_ret2
 all_goals first | exact ⟨⟨_, _, rfl, hv⟩, hB⟩ | exact ⟨⟨_, _, rfl, .inr (.inr rfl)⟩, hB⟩
end Go.Proofs.YtpgfjbimodnkeaaGreatDoor.Dec
namespace Go.Proofs
open Go.Shelf
def Tryz.laysM279_ren : Go.Shelf.Ren := ⟨fun | 279 => 124 | 316 => 141 | n => n, fun | 9 => 9 | 168 => 153 | 75 => 123 | 210 => 168 | 3 => 3 | 4 => 4 | 37 => 99 | 0 => 0 | 127 => 198 | 80 => 240 | 5 => 5 | n => n, fun | 15 => 1 | n => n⟩
theorem Tryz.laysM279 : Go.Proofs.LaysM.n279 Tryz.prog Tryz.laysM279_ren := {
 mixed := by kernel_rfl
 f279 := Tryz.func124.trans (congrArg some (by kernel_rfl))
 f316 := Tryz.func141.trans (congrArg some (by kernel_rfl))
 t0 := Tryz.underlying0
 a0 := Tryz.isAgg0
 z0 := Tryz.sizeOf0
 v0 := Tryz.zeroValue0
 t3 := Tryz.underlying3
 a3 := Tryz.isAgg3
 z3 := Tryz.sizeOf3
 v3 := Tryz.zeroValue3
 t4 := Tryz.underlying4
 a4 := Tryz.isAgg4
 z4 := Tryz.sizeOf4
 v4 := Tryz.zeroValue4
 t9 := Tryz.underlying9
 a9 := Tryz.isAgg9
 z9 := Tryz.sizeOf9
 v9 := Tryz.zeroValue9
 t37 := Tryz.underlying99
 a37 := Tryz.isAgg99
 z37 := Tryz.sizeOf99
 v37 := Tryz.zeroValue99
 t75 := Tryz.underlying123
 a75 := Tryz.isAgg123
 z75 := Tryz.sizeOf123
 v75 := Tryz.zeroValue123
 t127 := Tryz.underlying198
 a127 := Tryz.isAgg198
 z127 := Tryz.sizeOf198
 v127 := Tryz.zeroValue198
 t168 := Tryz.underlying153
 a168 := Tryz.isAgg153
 z168 := Tryz.sizeOf153
 v168 := Tryz.zeroValue153
 t210 := Tryz.underlying168
 a210 := Tryz.isAgg168
 z210 := Tryz.sizeOf168
 v210 := Tryz.zeroValue168
 g15 := by kernel_rfl
 t5 := Tryz.underlying5
 a5 := Tryz.isAgg5
 z5 := Tryz.sizeOf5
 v5 := Tryz.zeroValue5
 t80 := Tryz.underlying240
 a80 := Tryz.isAgg240
 z80 := Tryz.sizeOf240
 v80 := Tryz.zeroValue240
 i0 := by kernel_rfl
 i3 := by kernel_rfl
 i4 := by kernel_rfl
 i5 := by kernel_rfl
 i9 := by kernel_rfl
 i37 := by kernel_rfl
 i75 := by kernel_rfl
 i80 := by kernel_rfl
 i127 := by kernel_rfl
 i168 := by kernel_rfl
 i210 := by kernel_rfl
 m15 := by kernel_rfl }
open Go.RowKit in
theorem Tryz.strconv_syntaxError (fn s : ByteArray) (ev : Value) (w : World) (hlim : s.size ≤ 281474976710656) (hv : w.cell? ⟨1, 0, none⟩ = some ev) (hev : ev = .nilIface ∨ ∃ te pe, ev = .iface te pe) :
 Calls Tryz.prog 124 #[.string fn, .string s] w fun e w' => ∃ N, e = .returned (.pointer (some ⟨N, 0, none⟩)) ∧ w.heap.size ≤ N ∧ w'.heap[N]? = some (.cells #[.string fn, .string s, ev] 168 (0, 0)) ∧ Below w.heap.size w w' := Any.strconv_syntaxError Tryz.laysM279 fn s ev w hlim hv hev
def Tryz.laysM280_ren : Go.Shelf.Ren := ⟨fun | 280 => 125 | 316 => 141 | n => n, fun | 9 => 9 | 168 => 153 | 75 => 123 | 210 => 168 | 3 => 3 | 4 => 4 | 37 => 99 | 0 => 0 | 127 => 198 | 80 => 240 | 5 => 5 | n => n, fun | 16 => 2 | n => n⟩
theorem Tryz.laysM280 : Go.Proofs.LaysM.n280 Tryz.prog Tryz.laysM280_ren := {
 mixed := by kernel_rfl
 f280 := Tryz.func125.trans (congrArg some (by kernel_rfl))
 f316 := Tryz.func141.trans (congrArg some (by kernel_rfl))
 t0 := Tryz.underlying0
 a0 := Tryz.isAgg0
 z0 := Tryz.sizeOf0
 v0 := Tryz.zeroValue0
 t3 := Tryz.underlying3
 a3 := Tryz.isAgg3
 z3 := Tryz.sizeOf3
 v3 := Tryz.zeroValue3
 t4 := Tryz.underlying4
 a4 := Tryz.isAgg4
 z4 := Tryz.sizeOf4
 v4 := Tryz.zeroValue4
 t9 := Tryz.underlying9
 a9 := Tryz.isAgg9
 z9 := Tryz.sizeOf9
 v9 := Tryz.zeroValue9
 t37 := Tryz.underlying99
 a37 := Tryz.isAgg99
 z37 := Tryz.sizeOf99
 v37 := Tryz.zeroValue99
 t75 := Tryz.underlying123
 a75 := Tryz.isAgg123
 z75 := Tryz.sizeOf123
 v75 := Tryz.zeroValue123
 t127 := Tryz.underlying198
 a127 := Tryz.isAgg198
 z127 := Tryz.sizeOf198
 v127 := Tryz.zeroValue198
 t168 := Tryz.underlying153
 a168 := Tryz.isAgg153
 z168 := Tryz.sizeOf153
 v168 := Tryz.zeroValue153
 t210 := Tryz.underlying168
 a210 := Tryz.isAgg168
 z210 := Tryz.sizeOf168
 v210 := Tryz.zeroValue168
 g16 := by kernel_rfl
 t5 := Tryz.underlying5
 a5 := Tryz.isAgg5
 z5 := Tryz.sizeOf5
 v5 := Tryz.zeroValue5
 t80 := Tryz.underlying240
 a80 := Tryz.isAgg240
 z80 := Tryz.sizeOf240
 v80 := Tryz.zeroValue240
 i0 := by kernel_rfl
 i3 := by kernel_rfl
 i4 := by kernel_rfl
 i5 := by kernel_rfl
 i9 := by kernel_rfl
 i37 := by kernel_rfl
 i75 := by kernel_rfl
 i80 := by kernel_rfl
 i127 := by kernel_rfl
 i168 := by kernel_rfl
 i210 := by kernel_rfl
 m16 := by kernel_rfl }
open Go.RowKit in
theorem Tryz.strconv_rangeError (fn s : ByteArray) (ev : Value) (w : World) (hlim : s.size ≤ 281474976710656) (hv : w.cell? ⟨2, 0, none⟩ = some ev) (hev : ev = .nilIface ∨ ∃ te pe, ev = .iface te pe) :
 Calls Tryz.prog 125 #[.string fn, .string s] w fun e w' => ∃ N, e = .returned (.pointer (some ⟨N, 0, none⟩)) ∧ w.heap.size ≤ N ∧ w'.heap[N]? = some (.cells #[.string fn, .string s, ev] 168 (0, 0)) ∧ Below w.heap.size w w' := Any.strconv_rangeError Tryz.laysM280 fn s ev w hlim hv hev
end Go.Proofs
set_option linter.unusedVariables false
set_option linter.unusedSimpArgs false
namespace Go.Proofs.YtpgfjbimodnkeaaGreatDoor.Dec
open Go Go.RowKit Go.Proofs.YtpgfjbimodnkeaaGreatDoorW.PrintWords Go.Proofs.YtpgfjbimodnkeaaGreatDoorW.PrintLast Go.Proofs.YtpgfjbimodnkeaaGreatDoorW.PrintMore
structure RetErr (e : Ending) : Prop where mk :: (out : ∃ (t : TypeId) (v : Value), e = .returned (.iface t v))
set_option maxHeartbeats 8000000 in
set_option maxRecDepth 100000 in
theorem toerror_calls (w : World) (B : Nat) (fn s : ByteArray) (x y : Int) (v : Value) (hs : s.size ≤ 1000000) (hT : Tabs B w) (hv : v = .iface 152 (.int .i64 1) ∨ v = .iface 152 (.int .i64 2)) :
 Calls Tryz.prog 103 #[.string fn, .string s, .int .i64 x, .int .i64 y, v] w fun e w' => RetErr e ∧ Below w.heap.size w w' := by
 obtain ⟨ts, vs, hes⟩ := hT.errS
 obtain ⟨tr, vr, her⟩ := hT.errR
 have h1 := Tryz.strconv_syntaxError fn s _ w (by omega) hes (.inr ⟨_, _, rfl⟩)
 have h2 := Tryz.strconv_rangeError fn s _ w (by omega) her (.inr ⟨_, _, rfl⟩)
 have hq11 : ∀ W, (binOp .eql 123 (.iface 152 (.int .i64 1)) (.iface 152 (.int .i64 1))).run Tryz.prog W = .ok (.bool true) W := fun W => Lib.run_eql_iface_int W 1 1 Tryz.underlying123 (by kernel_rfl) Tryz.underlying152
 have hq12 : ∀ W, (binOp .eql 123 (.iface 152 (.int .i64 1)) (.iface 152 (.int .i64 2))).run Tryz.prog W = .ok (.bool false) W := fun W => Lib.run_eql_iface_int W 1 2 Tryz.underlying123 (by kernel_rfl) Tryz.underlying152
 have hq22 : ∀ W, (binOp .eql 123 (.iface 152 (.int .i64 2)) (.iface 152 (.int .i64 2))).run Tryz.prog W = .ok (.bool true) W := fun W => Lib.run_eql_iface_int W 2 2 Tryz.underlying123 (by kernel_rfl) Tryz.underlying152
 rcases hv with rfl | rfl
 all_goals
  go_enter Tryz.func103, Tryz.ntmps103
  go_wp2_with (first | (go_at_call 124; (with_reducible refine h1.mono ?_); rintro e w4 ⟨N, rfl, hN, hh, hB⟩) | (go_at_call 125; (with_reducible refine h2.mono ?_); rintro e w4 ⟨N, rfl, hN, hh, hB⟩))
  all_goals go_ret
  all_goals exact ⟨⟨_, _, rfl⟩, hB⟩
structure RetPF (e : Ending) : Prop where mk :: (out : ∃ (b : Nat) (v : Value), e = .returned (.tuple #[.float .f64 b, v]))
set_option maxHeartbeats 8000000 in
set_option maxRecDepth 100000 in
theorem pf87_calls (w : World) (B : Nat) (s : ByteArray) (hs : s.size ≤ 1000000) (hN : NumSigns s) (hT : Tabs B w) :
 Calls Tryz.prog 87 #[.string s, .int .i64 64] w fun e w' => RetPF e ∧ Below w.heap.size w w' := by
 have ha := pf102_calls w B s hs hN hT
 have hte : ∀ (fn : ByteArray) (x y : Int) (v : Value) (W : World), Below w.heap.size w W → (v = .iface 152 (.int .i64 1) ∨ v = .iface 152 (.int .i64 2)) → Calls Tryz.prog 103 #[.string fn, .string s, .int .i64 x, .int .i64 y, v] W fun e w' => RetErr e ∧ Below w.heap.size w w' := by
  intro fn x y v W hW hv
  refine (toerror_calls W B fn s x y v hs (hT.below (below_mono hW hT.size)) hv).mono ?_
  rintro e w' ⟨h1, h2⟩
  exact ⟨h1, hW.trans (below_mono h2 hW.size)⟩
 go_enter Tryz.func87, Tryz.ntmps87
 go_wp2_with (first | (go_at_call 102; (with_reducible refine ha.mono ?_); rintro e w4 ⟨⟨b, v, rfl, hv⟩, hB⟩; rcases hv with rfl | rfl | rfl) | (go_at_call 103; (with_reducible refine (hte _ _ _ _ _ hB (by first | exact .inl rfl | exact .inr rfl)).mono ?_); rintro e w5 ⟨⟨t, v, rfl⟩, hB5⟩))
 all_goals go_ret2
 all_goals first | exact ⟨⟨_, _, rfl⟩, hB5⟩ | exact ⟨⟨_, _, rfl⟩, hB⟩
end Go.Proofs.YtpgfjbimodnkeaaGreatDoor.Dec
set_option linter.unusedVariables false
set_option linter.unusedSimpArgs false
namespace Go.Proofs.YtpgfjbimodnkeaaGreatDoor.Scan
open Go Go.RowKit Go.Proofs.YtpgfjbimodnkeaaGreatDoorW.PrintWords
inductive Str (s : ByteArray) : Nat → Nat → Prop
 | close (p : Nat) : p < s.size → bt s p = 34 → Str s p p
 | plain (p q : Nat) : p < s.size → bt s p ≠ 34 → bt s p ≠ 92 → Str s (p + 1) q → Str s p q
 | esc (p q : Nat) : p + 1 < s.size → bt s p = 92 → Str s (p + 2) q → Str s p q
def slashes (s : ByteArray) (a : Nat) : Nat → Nat
 | 0 => 0
 | k + 1 => if a ≤ k ∧ bt s k = 92 then slashes s a k + 1 else 0
theorem slashes_zero (s : ByteArray) (a k : Nat) (h : k ≤ a) : slashes s a k = 0 := by
 cases k with
 | zero => rfl
 | succ k => rw [slashes, if_neg (by omega)]
structure Quo (s : ByteArray) (a q : Nat) : Prop where
 one : 1 ≤ a
 open_ : bt s ((a - 1 : Nat) : Int) = 34
 le : a ≤ q
 lt : q < s.size
 mark : bt s q = 34
 even : slashes s a q % 2 = 0
 odd : ∀ k, a ≤ k → k < q → bt s k = 34 → slashes s a k % 2 = 1
theorem str_marks {s : ByteArray} {a p q : Nat} (h : Str s p q) (ha : a ≤ p) (he : slashes s a p % 2 = 0) :
 p ≤ q ∧ q < s.size ∧ bt s q = 34 ∧ slashes s a q % 2 = 0 ∧ ∀ k, p ≤ k → k < q → bt s k = 34 → slashes s a k % 2 = 1 := by
 induction h with
 | close p h0 h1 => exact ⟨Nat.le_refl _, h0, h1, he, fun k h2 h3 => by omega⟩
 | plain p q h0 h1 h2 h3 ih =>
   have e : slashes s a (p + 1) = 0 := by rw [slashes, if_neg (fun h => h2 h.2)]
   obtain ⟨i1, i2, i3, i4, i5⟩ := ih (by omega) (by rw [e])
   refine ⟨by omega, i2, i3, i4, fun k h4 h5 h6 => ?_⟩
   by_cases hk : k = p
   ·subst hk; exact absurd h6 h1
   ·exact i5 k (by omega) h5 h6
 | esc p q h0 h1 h3 ih =>
   have e : slashes s a (p + 1) = slashes s a p + 1 := by rw [slashes, if_pos ⟨ha, h1⟩]
   have e2 : slashes s a (p + 2) % 2 = 0 := by
    by_cases hb : bt s ((p + 1 : Nat) : Int) = 92
    ·rw [slashes, if_pos ⟨by omega, hb⟩, e]; omega
    ·rw [slashes, if_neg (fun h => hb h.2)]
   obtain ⟨i1, i2, i3, i4, i5⟩ := ih (by omega) e2
   refine ⟨by omega, i2, i3, i4, fun k h4 h5 h6 => ?_⟩
   by_cases hk : k = p
   ·subst hk; rw [h1] at h6; omega
   ·by_cases hk1 : k = p + 1
    ·subst hk1; rw [e]; omega
    ·exact i5 k (by omega) h5 h6
theorem Str.quo {s : ByteArray} {a q : Nat} (h : Str s a q) (h1 : 1 ≤ a) (h2 : bt s ((a - 1 : Nat) : Int) = 34) : Quo s a q := by
 obtain ⟨i1, i2, i3, i4, i5⟩ := str_marks h (Nat.le_refl a) (by rw [slashes_zero s a a (Nat.le_refl a)])
 exact ⟨h1, h2, i1, i2, i3, i4, i5⟩
theorem Quo.same {s : ByteArray} {a q p : Nat} (h : Quo s a q) (h1 : a ≤ p) (h2 : p ≤ q) (hm : bt s p = 34) (he : slashes s a p % 2 = 0) : p = q := by
 rcases Nat.lt_or_ge p q with hl | hl
 ·have := h.odd p h1 hl hm; omega
 ·omega
theorem slashes_le (s : ByteArray) (a m : Nat) : slashes s a m ≤ m := by
 induction m with
 | zero => simp [slashes]
 | succ m ih => rw [slashes]; split <;> omega
theorem slashes_prev {s : ByteArray} {a p : Nat} (h : slashes s a p ≠ 0) : a < p ∧ bt s ((p - 1 : Nat) : Int) = 92 ∧ slashes s a p = slashes s a (p - 1) + 1 := by
 cases p with
 | zero => exact absurd rfl h
 | succ p =>
   rw [slashes] at h ⊢
   by_cases hc : a ≤ p ∧ bt s p = 92
   ·rw [if_pos hc]; exact ⟨by omega, hc.2, rfl⟩
   ·rw [if_neg hc] at h; exact absurd rfl h
def vch (c : Int) : Int := if c = 34 then 2 else if c = 123 ∨ c = 91 ∨ c = 40 then 3 else if c = 125 ∨ c = 93 ∨ c = 41 then 1 else 0
inductive Sq (s : ByteArray) : Nat → Nat → Nat → Prop
 | last (i : Nat) : i < s.size → vch (bt s i) = 1 → Sq s i 1 (i + 1)
 | skip (i d e : Nat) : i < s.size → vch (bt s i) = 0 → Sq s (i + 1) d e → Sq s i d e
 | opens (i d e : Nat) : 1 ≤ d → i < s.size → vch (bt s i) = 3 → Sq s (i + 1) (d + 1) e → Sq s i d e
 | close (i d e : Nat) : i < s.size → vch (bt s i) = 1 → Sq s (i + 1) (d + 1) e → Sq s i (d + 2) e
 | str (i q d e : Nat) : i < s.size → vch (bt s i) = 2 → Quo s (i + 1) q → Sq s (q + 1) d e → Sq s i d e
theorem Sq.bound {s : ByteArray} {i d e : Nat} (h : Sq s i d e) : i < s.size ∧ i < e ∧ e ≤ s.size ∧ 1 ≤ d ∧ d + i ≤ s.size := by
 induction h with
 | last i h0 h1 => omega
 | skip i d e h0 h1 h2 ih => omega
 | opens i d e hd h0 h1 h2 ih => omega
 | close i d e h0 h1 h2 ih => omega
 | str i q d e h0 h1 h2 h3 ih => have := h2.le; have := h2.lt; omega
def Pass (s : ByteArray) (i j : Nat) : Prop := ∀ d e, Sq s j d e → Sq s i d e
theorem Pass.refl (s : ByteArray) (i : Nat) : Pass s i i := fun _ _ h => h
theorem Pass.trans {s : ByteArray} {i j k : Nat} (h : Pass s i j) (h' : Pass s j k) : Pass s i k := fun d e h2 => h d e (h' d e h2)
theorem Pass.one {s : ByteArray} {i : Nat} (h : i < s.size) (h0 : vch (bt s i) = 0) : Pass s i (i + 1) := fun d e h2 => .skip i d e h h0 h2
theorem Pass.quoted {s : ByteArray} {i q : Nat} (h : i < s.size) (h0 : bt s i = 34) (hq : Quo s (i + 1) q) : Pass s i (q + 1) := fun d e h2 => .str i q d e h (by rw [h0]; rfl) hq h2
theorem Pass.many {s : ByteArray} {i : Nat} : ∀ n : Nat, i + n ≤ s.size → (∀ k, i ≤ k → k < i + n → vch (bt s k) = 0) → Pass s i (i + n)
 | 0, _, _ => Pass.refl s i
 | n + 1, h, hk => (Pass.many n (by omega) (fun k h1 h2 => hk k h1 (by omega))).trans (Pass.one (by omega) (hk _ (by omega) (by omega)))
theorem Pass.bracket {s : ByteArray} {i j : Nat} (hi : i < s.size) (ho : vch (bt s i) = 3) (hj : j < s.size) (hc : vch (bt s j) = 1) (h : Pass s (i + 1) j) : Pass s i (j + 1) := fun d e h2 => by
 have hd := h2.bound
 obtain ⟨d, rfl⟩ : ∃ m, d = m + 1 := ⟨d - 1, by omega⟩
 exact .opens i _ e (by omega) hi ho (h _ _ (.close j d e hj hc h2))
theorem Pass.closes {s : ByteArray} {i j : Nat} (hj : j < s.size) (hc : vch (bt s j) = 1) (h : Pass s (i + 1) j) : Sq s (i + 1) 1 (j + 1) := h _ _ (.last j hj hc)
end Go.Proofs.YtpgfjbimodnkeaaGreatDoor.Scan
set_option linter.unusedVariables false
set_option linter.unusedSimpArgs false
namespace Go.Proofs.YtpgfjbimodnkeaaGreatDoor.Dec
open Go Go.RowKit Go.Proofs.YtpgfjbimodnkeaaGreatDoorW.PrintWords
def HexOk (c : Int) : Prop := (48 ≤ c ∧ c ≤ 57) ∨ (97 ≤ c ∧ c ≤ 102) ∨ (65 ≤ c ∧ c ≤ 70)
def hexv (c : Int) : Int := if 48 ≤ c ∧ c ≤ 57 then c - 48 else if 97 ≤ c ∧ c ≤ 102 then c - 87 else c - 55
theorem hexv_bounds {c : Int} (h : HexOk c) : 0 ≤ hexv c ∧ hexv c ≤ 15 := by
 unfold hexv; rcases h with h | h | h
 ·rw [if_pos h]; omega
 ·rw [if_neg (by omega), if_pos h]; omega
 ·rw [if_neg (by omega), if_neg (by omega)]; omega
def utf8Z (r : Int) : List Int :=
 if r ≤ 127 then [r] else if r ≤ 2047 then [192 + r / 64, 128 + r % 64]
 else if r ≤ 65535 then [224 + r / 4096, 128 + r / 64 % 64, 128 + r % 64]
 else [240 + r / 262144, 128 + r / 4096 % 64, 128 + r / 64 % 64, 128 + r % 64]
theorem utf8Z_length (r : Int) : 1 ≤ (utf8Z r).length ∧ (utf8Z r).length ≤ 4 := by
 unfold utf8Z
 split
 ·simp
 split
 ·simp
 split <;> simp
def shortc (c : Int) : Int := if c = 98 then 8 else if c = 102 then 12 else if c = 110 then 10 else if c = 114 then 13 else if c = 116 then 9 else c
def ShortOk (c : Int) : Prop := c = 92 ∨ c = 47 ∨ c = 98 ∨ c = 102 ∨ c = 110 ∨ c = 114 ∨ c = 116 ∨ c = 34
def hexAt (s : ByteArray) (p : Int) : Int := ((hexv (bt s p) * 16 + hexv (bt s (p + 1))) * 16 + hexv (bt s (p + 2))) * 16 + hexv (bt s (p + 3))
def Hex4 (s : ByteArray) (p : Int) : Prop := HexOk (bt s p) ∧ HexOk (bt s (p + 1)) ∧ HexOk (bt s (p + 2)) ∧ HexOk (bt s (p + 3))
theorem hexAt_bounds {s : ByteArray} {p : Int} (h : Hex4 s p) : 0 ≤ hexAt s p ∧ hexAt s p ≤ 65535 := by
 obtain ⟨h0, h1, h2, h3⟩ := h
 have h0 := hexv_bounds h0
 have h1 := hexv_bounds h1
 have h2 := hexv_bounds h2
 have h3 := hexv_bounds h3
 unfold hexAt
 omega
inductive Unq (s : ByteArray) : Nat → List Int → Prop
 | done (i : Nat) : i = s.size → Unq s i []
 | plain (i : Nat) (l : List Int) : i < s.size → 32 ≤ bt s i → bt s i ≠ 92 → Unq s (i + 1) l → Unq s i (bt s i :: l)
 | short (i : Nat) (l : List Int) : i + 1 < s.size → bt s i = 92 → ShortOk (bt s ((i : Int) + 1)) → Unq s (i + 2) l → Unq s i (shortc (bt s ((i : Int) + 1)) :: l)
 | uni (i : Nat) (l : List Int) : i + 6 ≤ s.size → bt s i = 92 → bt s ((i : Int) + 1) = 117 → Hex4 s ((i : Int) + 2) → ¬ (55296 ≤ hexAt s ((i : Int) + 2) ∧ hexAt s ((i : Int) + 2) ≤ 57343) →
    Unq s (i + 6) l → Unq s i (utf8Z (hexAt s ((i : Int) + 2)) ++ l)
 | pair (i : Nat) (l : List Int) : i + 12 ≤ s.size → bt s i = 92 → bt s ((i : Int) + 1) = 117 → Hex4 s ((i : Int) + 2) → 55296 ≤ hexAt s ((i : Int) + 2) → hexAt s ((i : Int) + 2) ≤ 56319 →
    bt s ((i : Int) + 6) = 92 → bt s ((i : Int) + 7) = 117 → Hex4 s ((i : Int) + 8) → 56320 ≤ hexAt s ((i : Int) + 8) → hexAt s ((i : Int) + 8) ≤ 57343 →
    Unq s (i + 12) l → Unq s i (utf8Z (65536 + (hexAt s ((i : Int) + 2) - 55296) * 1024 + (hexAt s ((i : Int) + 8) - 56320)) ++ l)
theorem Unq.size {s : ByteArray} {i : Nat} {l : List Int} (h : Unq s i l) : i + l.length ≤ s.size := by
 induction h with
 | done i h => simp; omega
 | plain i l h0 _ _ _ ih => simp only [List.length_cons]; omega
 | short i l h0 _ _ _ ih => simp only [List.length_cons]; omega
 | uni i l h0 _ _ _ _ _ ih => have := utf8Z_length (hexAt s ((i : Int) + 2)); simp only [List.length_append]; omega
 | pair i l h0 _ _ _ _ _ _ _ _ _ _ _ ih => have := utf8Z_length (65536 + (hexAt s ((i : Int) + 2) - 55296) * 1024 + (hexAt s ((i : Int) + 8) - 56320)); simp only [List.length_append]; omega
theorem bt_extract (s : ByteArray) (a b j : Nat) (hj : a + j < b) (hb : b ≤ s.size) : bt (s.extract a b) j = bt s ((a + j : Nat) : Int) := by
 unfold bt
 simp only [Int.toNat_natCast]
 have h' : j < (s.extract a b).size := by rw [ByteArray.size_extract]; omega
 rw [dif_pos h', dif_pos (by omega : a + j < s.size), ByteArray.getElem_extract]
theorem toList_inj {x y : ByteArray} (h : x.toList = y.toList) : x = y := by
 rw [ByteArray.toList_eq, ByteArray.toList_eq] at h
 exact WideShapes.bytes_inj h
theorem bt_out (s : ByteArray) (i : Nat) (h : s.size ≤ i) : bt s i = 0 := by
 unfold bt
 rw [dif_neg (by simp; omega)]
theorem wrap_id {i : Int} (h0 : -9223372036854775808 ≤ i) (h1 : i ≤ 9223372036854775807) : wrap64 i = i := by
 unfold wrap64
 omega
end Go.Proofs.YtpgfjbimodnkeaaGreatDoor.Dec
namespace Go.Proofs.YtpgfjbimodnkeaaGreatDoor.Scan
def Evt {α : Type} (g : Nat → Option α) (r : α) : Prop := ∃ K, ∀ k, K ≤ k → g k = some r
section
variable {α β : Type}
theorem Evt.pure (r : α) : Evt (fun _ => some r) r := ⟨0, fun _ _ => rfl⟩
theorem Evt.of {a : Option α} {r : α} (h : a = some r) : Evt (fun _ => a) r := ⟨0, fun _ _ => h⟩
theorem Evt.bind {g : Nat → Option α} {x : α} {f : Nat → α → Option β} {r : β} (h : Evt g x) (h' : Evt (fun k => f k x) r) : Evt (fun k => (g k).bind (f k)) r := by
 obtain ⟨K, hK⟩ := h
 obtain ⟨L, hL⟩ := h'
 refine ⟨K + L, fun k hk => ?_⟩
 show (g k).bind (f k) = some r
 rw [hK k (by omega)]
 exact hL k (by omega)
theorem Evt.bind_of {a : Option α} {x : α} {f : Nat → α → Option β} {r : β} (h : a = some x) (h' : Evt (fun k => f k x) r) : Evt (fun k => a.bind (f k)) r := by
 subst h; exact h'
theorem Evt.step {g h : Nat → Option α} {r : α} (he : ∀ k, g (k + 1) = h k) (hh : Evt h r) : Evt g r := by
 obtain ⟨K, hK⟩ := hh
 refine ⟨K + 1, fun k hk => ?_⟩
 obtain ⟨m, rfl⟩ : ∃ m, k = m + 1 := ⟨k - 1, by omega⟩
 rw [he]; exact hK m (by omega)
theorem Evt.congr {g h : Nat → Option α} {r : α} (he : ∀ k, g k = h k) (hh : Evt h r) : Evt g r := by
 obtain ⟨K, hK⟩ := hh
 exact ⟨K, fun k hk => (he k).trans (hK k hk)⟩
theorem Evt.uniq {g : Nat → Option α} {r r' : α} (h : Evt g r) (h' : Evt g r') : r = r' := by
 obtain ⟨K, hK⟩ := h
 obtain ⟨L, hL⟩ := h'
 have h1 := hK (K + L) (by omega)
 rw [hL (K + L) (by omega)] at h1
 exact (Option.some.inj h1).symm
theorem Evt.pos {c : Prop} [Decidable c] {g h : Nat → Option α} {r : α} (hc : c) (hh : Evt g r) : Evt (fun k => if c then g k else h k) r :=
 Evt.congr (fun _ => if_pos hc) hh
theorem Evt.neg {c : Prop} [Decidable c] {g h : Nat → Option α} {r : α} (hc : ¬ c) (hh : Evt h r) : Evt (fun k => if c then g k else h k) r :=
 Evt.congr (fun _ => if_neg hc) hh
theorem Evt.at {g : Nat → Option α} {r : α} (h : Evt g r) : ∃ k, g k = some r := by
 obtain ⟨K, hK⟩ := h
 exact ⟨K, hK K (Nat.le_refl _)⟩
end
end Go.Proofs.YtpgfjbimodnkeaaGreatDoor.Scan
set_option linter.unusedVariables false
set_option linter.unusedSimpArgs false
namespace Go.Proofs.YtpgfjbimodnkeaaGreatDoor.Dec
open Go Go.RowKit Go.Proofs.YtpgfjbimodnkeaaGreatDoorW.PrintWords Go.Proofs.YtpgfjbimodnkeaaGreatDoorW.PrintLast Go.Proofs.YtpgfjbimodnkeaaGreatDoorW.PrintMore
def hexN (s : ByteArray) : Nat → Int
 | 0 => 0
 | k + 1 => hexN s k * 16 + hexv (bt s k)
theorem hexN_bounds (s : ByteArray) (k : Nat) (h : ∀ j : Nat, j < k → HexOk (bt s j)) : 0 ≤ hexN s k ∧ hexN s k < 16 ^ k := by
 induction k with
 | zero => simp [hexN]
 | succ k ih =>
   have h1 := ih (fun j hj => h j (by omega))
   have h2 := hexv_bounds (h k (by omega))
   simp only [hexN, Int.pow_succ]
   omega
theorem lower_hi : ∀ c : Fin 6, Go.bits .or .u8 (65 + (c.val : Int)) 32 = 97 + c.val := by decide
theorem lower_lo : ∀ c : Fin 6, Go.bits .or .u8 (97 + (c.val : Int)) 32 = 97 + c.val := by decide
theorem lower_hex {c : Int} (h : (97 ≤ c ∧ c ≤ 102) ∨ (65 ≤ c ∧ c ≤ 70)) : Go.bits .or .u8 c 32 = hexv c + 87 := by
 unfold hexv
 rw [if_neg (by omega)]
 rcases h with h | h
 ·rw [if_pos h]
  have := lower_lo ⟨(c - 97).toNat, by omega⟩
  simp only at this
  rw [show (97 : Int) + ((c - 97).toNat : Int) = c by omega] at this
  rw [this]; omega
 ·rw [if_neg (by omega)]
  have := lower_hi ⟨(c - 65).toNat, by omega⟩
  simp only at this
  rw [show (65 : Int) + ((c - 65).toNat : Int) = c by omega] at this
  rw [this]; omega
theorem getD_bt (s : ByteArray) (j : Nat) : ((s.data.toList.getD j 0).toNat : Int) = bt s j := by
 unfold bt
 by_cases h : j < s.size
 ·have h' : ((j : Int).toNat) < s.size := by simpa using h
  rw [dif_pos h']
  have h2 : j < s.data.toList.length := by simpa using h
  rw [List.getD_eq_getElem?_getD, List.getElem?_eq_getElem h2]
  simp
  rfl
 ·have h' : ¬ ((j : Int).toNat) < s.size := by simpa using h
  rw [dif_neg h']
  have h2 : ¬ j < s.data.toList.length := by simpa using h
  simp only [List.getD_eq_getElem?_getD]
  rw [List.getElem?_eq_none (by omega)]
  rfl
theorem lower_same (a0 : Int) (w : World) : Calls Tryz.prog 137 #[.int .u8 a0] w fun e w' => e = .returned (.int .u8 (Go.bits .or .u8 a0 32)) ∧ w' = w := by
 go_enter Tryz.func137, Tryz.ntmps137
 go_wp2
 go_ret
 exact ⟨rfl, rfl⟩
set_option maxHeartbeats 4000000 in
set_option maxRecDepth 100000 in
theorem pu_calls (w : World) (s : ByteArray) (hs : s.size = 4) (hh : ∀ j : Nat, j < 4 → HexOk (bt s j)) :
 Calls Tryz.prog 122 #[.string s, .int .i64 16, .int .i64 64] w fun e w' => e = .returned (.tuple #[.int .u64 (hexN s 4), .nilIface]) ∧ Below w.heap.size w w' := by
 have hemp : s.toList.isEmpty = false := by
  rw [← decide_eq_emptyBytes]
  exact decide_eq_false (fun h => by rw [h] at hs; exact absurd hs (by decide))
 have hcv := Lib.run_convert_string_bytes (P := Tryz.prog) w 9 99 5 s (u := .string) Tryz.underlying9 Tryz.underlying99 Tryz.underlying5
 rw [hs] at hcv
 have hB : ∀ j : Nat, j < 4 → (Lib.bytesWorld w 5 s).cell? ⟨w.heap.size, j, none⟩ = some (.int .u8 (bt s j)) := fun j hj => by
  rw [Lib.bytesWorld_cell w 5 s j (by omega), getD_bt]
 have hbel := Aside0.mk (show Below w.heap.size w (Lib.bytesWorld w 5 s) from ⟨rfl, rfl, rfl, by rw [Lib.bytesWorld_size]; omega, fun k hk => Lib.bytesWorld_at_old w 5 s k hk⟩)
 obtain ⟨W1, hW1⟩ : ∃ W1, W1 = Lib.bytesWorld w 5 s := ⟨_, rfl⟩
 rw [← hW1] at hcv hB hbel
 clear hW1
 have hmv : IntKind.u64.wrap (IntKind.u64.wrap 18446744073709551616 - 1) = 18446744073709551615 := by
  rw [IntKind.wrap_u64, IntKind.wrap_u64]
  decide
 replace hB := Aside0.mk hB
 replace hh := Aside0.mk hh
 have hS := Aside0.mk hs
 clear hs
 go_enter Tryz.func122, Tryz.ntmps122
 go_wp2
 go_loopg [12, 13, 101] 5 (fun kq vu vn vi w' => ∃ (k : Nat) (a : Int), vu = .bool false ∧ vn = .int .u64 a ∧ vi = .int .i64 k ∧ Aside0 (k ≤ 4 ∧ a = hexN s k ∧ kq + k = 5) ∧ w' = W1)
 case atStart => exact ⟨0, 0, rfl, rfl, rfl, ⟨by omega, rfl, rfl⟩, rfl⟩
 case round =>
  obtain ⟨k, a, rfl, rfl, rfl, hA, rfl⟩ := hrel
  obtain ⟨hk, ha, hkq⟩ := hA.out
  clear hA
  by_cases hkn : k < 4
  ·have hc := hB.out k hkn
   have hd := hh.out k hkn
   have hv := hexv_bounds hd
   have hb := hexN_bounds s k (fun j hj => hh.out j (by omega))
   have hp : (16 : Int) ^ k ≤ 4096 := by
    have : k = 0 ∨ k = 1 ∨ k = 2 ∨ k = 3 := by omega
    rcases this with rfl | rfl | rfl | rfl <;> decide
   rw [← ha] at hb
   have hn : hexN s (k + 1) = a * 16 + hexv (bt s k) := by rw [ha]; rfl
   have a0 : 0 ≤ a := hb.1
   have a1 : a < 4096 := by omega
   have HN : Aside0 (k + 1 ≤ 4 ∧ a * 16 + hexv (bt s k) = hexN s (k + 1) ∧ gk - 1 + (k + 1) = 5) := ⟨by omega, hn.symm, by omega⟩
   clear ha hn hb hp
   generalize bt s k = c at *
   by_cases hdig : 48 ≤ c ∧ c ≤ 57
   ·have he : hexv c = c - 48 := if_pos hdig
    rw [he] at HN hv
    replace he := Aside0.mk he
    obtain ⟨h0, h1⟩ := hdig
    replace hd := Aside0.mk hd
    replace hkq := Aside0.mk hkq
    go_wp2
    go_roundg (gk - 1)
    case measure => have := hkq.out; omega
    case rel => exact ⟨k + 1, a * 16 + (c - 48), rfl, (by first | rfl | (congr 1; omega)), (by first | rfl | (congr 1; omega)), HN, rfl⟩
   ·have hl : (97 ≤ c ∧ c ≤ 102) ∨ (65 ≤ c ∧ c ≤ 70) := by rcases hd with h | h | h; exact absurd h hdig; exact .inl h; exact .inr h
    have hlow := lower_hex hl
    have h58 : 57 < c := by omega
    have hv10 : 10 ≤ hexv c := by unfold hexv; rw [if_neg hdig]; split <;> omega
    have hf : ∀ W, Calls Tryz.prog 137 #[.int .u8 c] W fun e w' => e = .returned (.int .u8 (hexv c + 87)) ∧ w' = W := fun W => hlow ▸ lower_same c W
    replace hd := Aside0.mk hd
    replace hl := Aside0.mk hl
    replace hlow := Aside0.mk hlow
    replace hkq := Aside0.mk hkq
    have hc0 : 0 ≤ c := by omega
    have h95 : (c == 95) = false := beq_eq_false_iff_ne.mpr (by have := hl.out; omega)
    clear hdig
    generalize hexv c = d at *
    go_wp2_with (first | (go_at_call 137; (with_reducible refine (hf _).mono ?_); rintro e w4 ⟨rfl, rfl⟩))
    go_roundg (gk - 1)
    case measure => have := hkq.out; omega
    case rel => exact ⟨k + 1, a * 16 + d, rfl, (by first | rfl | (congr 1; omega)), (by first | rfl | (congr 1; omega)), HN, rfl⟩
  ·have hkk : k = 4 := by omega
   subst hkk
   subst ha
   replace hkq := Aside0.mk hkq
   go_wp2
   go_ret2
   exact ⟨rfl, hbel.out⟩
set_option maxHeartbeats 4000000 in
set_option maxRecDepth 100000 in
theorem pu2_calls (w : World) (s : ByteArray) (hs : s.size = 4) (hh : ∀ j : Nat, j < 4 → HexOk (bt s j)) :
 Calls Tryz.prog 100 #[.string s, .int .i64 16, .int .i64 64] w fun e w' => e = .returned (.tuple #[.int .u64 (hexN s 4), .nilIface]) ∧ Below w.heap.size w w' := by
 have hc := fun W => pu_calls W s hs hh
 clear hs hh
 go_enter Tryz.func100, Tryz.ntmps100
 go_wp2_with (first | (go_at_call 122; (with_reducible refine (hc _).mono ?_); rintro e w4 ⟨rfl, hB⟩))
 go_ret2
 exact ⟨rfl, hB⟩
theorem hexN_ext (s t : ByteArray) : ∀ k : Nat, (∀ j : Nat, j < k → bt s j = bt t j) → hexN s k = hexN t k
 | 0, _ => rfl
 | k + 1, h => by simp only [hexN]; rw [hexN_ext s t k (fun j hj => h j (by omega)), h k (by omega)]
theorem bt_front (s : ByteArray) (n j : Nat) (hj : j < n) : bt (s.extract 0 n) j = bt s j := by
 unfold bt
 simp only [Int.toNat_natCast]
 by_cases h : j < s.size
 ·have h' : j < (s.extract 0 n).size := by rw [ByteArray.size_extract]; omega
  rw [dif_pos h', dif_pos h, ByteArray.getElem_extract]
  simp
 ·have h' : ¬ j < (s.extract 0 n).size := by rw [ByteArray.size_extract]; omega
  rw [dif_neg h', dif_neg h]
set_option maxHeartbeats 4000000 in
set_option maxRecDepth 100000 in
theorem runeit_calls (w : World) (s : ByteArray) (hs : 4 ≤ s.size) (hh : ∀ j : Nat, j < 4 → HexOk (bt s j)) :
 Calls Tryz.prog 80 #[.string s] w fun e w' => e = .returned (.int .i32 (hexN s 4)) ∧ Below w.heap.size w w' := by
 have hc : ∀ W, Calls Tryz.prog 100 #[.string (s.extract 0 4), .int .i64 16, .int .i64 64] W fun e w' => e = .returned (.tuple #[.int .u64 (hexN s 4), .nilIface]) ∧ Below W.heap.size W w' := fun W => by
  have h := pu2_calls W (s.extract 0 4) (by rw [ByteArray.size_extract]; omega) (fun j hj => by rw [bt_front s 4 j hj]; exact hh j hj)
  rw [hexN_ext (s.extract 0 4) s 4 (fun j hj => bt_front s 4 j hj)] at h
  exact h
 have hb := hexN_bounds s 4 hh
 generalize hexN s 4 = n at *
 have h0 : 0 ≤ n := hb.1
 have h1 : n < 65536 := hb.2
 have hs4 : (4 : Int) ≤ (s.size : Int) := by omega
 clear hb hh
 go_enter Tryz.func80, Tryz.ntmps80
 go_wp2_with (first | (go_at_call 100; (with_reducible refine (hc _).mono ?_); rintro e w4 ⟨rfl, hB⟩))
 go_ret
 exact ⟨rfl, hB⟩
end Go.Proofs.YtpgfjbimodnkeaaGreatDoor.Dec
