/- FnGjResultEachOf: whatever text and stop come in, the law returns true and both read afterwards as before; with the package-level variables that its row lists as the program's own text lays them (part 30 of 33: lemmas for its last part) -/
import Derived.StillTailTactics
import Derived.WalkSpells
import Derived.Deep.Cut
import Derived.Test.YtpgfjbimodnkeaaGreatDoorEach16
import Derived.Test.YtpgfjbimodnkeaaGreatDoorEach18
import Derived.Test.YtpgfjbimodnkeaaGreatDoorEach27
import Derived.Test.YtpgfjbimodnkeaaGreatDoorEach28
import Derived.Test.YtpgfjbimodnkeaaGreatDoorEach29
set_option linter.unusedVariables false
set_option linter.unusedSimpArgs false
namespace Go.Proofs.YtpgfjbimodnkeaaGreatDoor.Dec
open Go Go.RowKit Go.Proofs.YtpgfjbimodnkeaaGreatDoorW.PrintWords Go.Proofs.YtpgfjbimodnkeaaGreatDoorW.PrintLast Go.Proofs.YtpgfjbimodnkeaaGreatDoorW.PrintMore Go.Proofs.YtpgfjbimodnkeaaGreatDoor.Scan Go.Proofs.YtpgfjbimodnkeaaGreatDoor.Q
set_option maxHeartbeats 4000000 in
set_option maxRecDepth 100000 in
theorem gjof_calls (w : World) (k : Int) (s str : ByteArray) (num : Nat) (ex : Bool) : Calls Tryz.prog 31 #[.agg #[.int .i64 k, .string s, .string str, .float .f64 num, .bool ex]] w fun e w' => e = .returned (resV k s str num 0) ∧ Below w.heap.size w w' := by
 go_enter Tryz.func31, Tryz.ntmps31
 go_wp2
 refine bodyPost_ret (v := resV k s str num 0) ?_ rfl ?_
 ·simp [results, go_sem]
 ·exact ⟨rfl, by repeat (with_reducible first | exact Below.refl _ _ | apply below_alloc | apply below_drew | apply pw_below_drewN | (refine Below.setCell ?_ (by first | exact Nat.le_refl _ | exact Nat.le_succ _) _))⟩
structure EachOk (s : ByteArray) (kd : Int) (nms : List S44) (ks : List S32) (stop : Int) (ps : List (Rs × Rs)) : Prop where
 kids : KidsOk s (ks.take ps.length) ps
 names : kd = 6 → NamesOk s (nms.take ps.length) ps
 le : ps.length ≤ ks.length
 len : ps.length = ks.length ∨ (ps.length : Int) = stop ∧ 0 < stop
 go : ∀ j : Nat, 0 < j → j < ps.length → (j : Int) ≠ stop
theorem foreach_all (w0 w : World) (B B0 Bo Bs : Nat) (stop : Int) (s : ByteArray) (hs : s.size ≤ 65536) (kd : Int) (hkd : kd = 5 ∨ kd = 6) (nms : List S44) (ks : List S32) (hJ : J s .val 0 s.size kd nms ks) (hP : Prd s 0) (str : ByteArray) (num : Nat) (hT : Tabs B w0) (hBB : B ≤ B0) (hO : Outs B0 Bo Bs stop w0 [] w) :
  Calls Tryz.prog 32 #[resV 5 s str num 0, .func (.func 33) #[] #[.pointer (some ⟨Bo, 0, none⟩), .pointer (some ⟨Bs, 0, none⟩)]] w fun e w' => e = .returned (.tuple #[]) ∧ ∃ ps : List (Rs × Rs), Outs B0 Bo Bs stop w0 ps w' ∧ EachOk s kd nms ks stop ps := by
 rcases hkd with rfl | rfl
 ·have hn : nms = [] := by
   generalize hz : s.size = z at hJ
   generalize hi : (0 : Nat) = i at hJ
   generalize hk : (5 : Int) = kd at hJ
   cases hJ with
   | arr0 => rfl
   | arr => rfl
   | null => rfl
   | fals => rfl
   | tru => rfl
   | num => rfl
   | str => rfl
   | obj0 => rfl
   | obj => exact absurd hk (by decide)
  subst hn
  refine (foreach_arr w0 w B B0 Bo Bs stop s hs ks hJ hP str num hT hBB hO).mono ?_
  rintro e w' ⟨h1, ps, h2, h3, h4, h5, h6⟩
  exact ⟨h1, ps, h2, h3, fun h => absurd h (by decide), h4, h5, h6⟩
 ·refine (foreach_obj w0 w B B0 Bo Bs stop s hs nms ks hJ hP str num hT hBB hO).mono ?_
  rintro e w' ⟨h1, ps, h2, h3, h3', h4, h5, h6⟩
  exact ⟨h1, ps, h2, h3, fun _ => h3', h4, h5, h6⟩
set_option maxHeartbeats 8000000 in
set_option maxRecDepth 100000 in
theorem each_all (w : World) (B : Nat) (s : ByteArray) (hs : s.size ≤ 65536) (kd : Int) (hkd : kd = 5 ∨ kd = 6) (nms : List S44) (ks : List S32) (hJ : J s .val 0 s.size kd nms ks) (hP : Prd s 0) (stop : Int) (hT : Tabs B w) :
  Calls Tryz.prog 11 #[.agg #[.int .i64 5, .string s, .string ⟨#[]⟩, .float .f64 0, .bool true], .int .i64 stop] w fun e w' => ∃ (v : Value) (ps : List (Rs × Rs)), e = .returned v ∧ w'.ownsRow w.heap.size 42 10 v ps.length (ps.flatMap fun p => p.1.cells ++ p.2.cells) ∧ Below w.heap.size w w' ∧ EachOk s kd nms ks stop ps := by
 have hgo := fun W => gjof_calls W 5 s ⟨#[]⟩ 0 true
 have hfe := fun (W : World) (Bo Bs : Nat) hO => foreach_all w W B w.heap.size Bo Bs stop s hs kd hkd nms ks hJ hP ⟨#[]⟩ 0 hT hT.size hO
 have hmf : ∀ (fn : Fn) (first cap : Array Value) (w : World), (Instr.makeFunc fn first cap).run Tryz.prog w = .ok (.func fn first cap) w := fun _ _ _ _ => rfl
 replace hkd := Aside0.mk hkd
 replace hJ := Aside0.mk hJ
 replace hP := Aside0.mk hP
 replace hT := Aside0.mk hT
 have hb1 : (((w.alloc (.cells #[.int .i64 5, .string s, .string ⟨#[]⟩, .float .f64 0, .bool true] 39 (0, 0))).alloc (.cells #[.int .i64 stop] 3 (0, 0))).alloc (.cells #[.slice none 0 0] 35 (0, 0))).heap[w.heap.size + 1]? = some (.cells #[.int .i64 stop] 3 (0, 0)) := by
  have := blk_alloc (blk_new (w.alloc (.cells #[.int .i64 5, .string s, .string ⟨#[]⟩, .float .f64 0, .bool true] 39 (0, 0))) (.cells #[.int .i64 stop] 3 (0, 0))) (.cells #[.slice none 0 0] 35 (0, 0))
  simpa using this
 have hb2 : (((w.alloc (.cells #[.int .i64 5, .string s, .string ⟨#[]⟩, .float .f64 0, .bool true] 39 (0, 0))).alloc (.cells #[.int .i64 stop] 3 (0, 0))).alloc (.cells #[.slice none 0 0] 35 (0, 0))).heap[w.heap.size + 1 + 1]? = some (.cells #[.slice none 0 0] 35 (0, 0)) := by
  have := blk_new ((w.alloc (.cells #[.int .i64 5, .string s, .string ⟨#[]⟩, .float .f64 0, .bool true] 39 (0, 0))).alloc (.cells #[.int .i64 stop] 3 (0, 0))) (.cells #[.slice none 0 0] 35 (0, 0))
  simpa using this
 have hO0 : Outs w.heap.size (w.heap.size + 1 + 1) (w.heap.size + 1) stop w [] (((w.alloc (.cells #[.int .i64 5, .string s, .string ⟨#[]⟩, .float .f64 0, .bool true] 39 (0, 0))).alloc (.cells #[.int .i64 stop] 3 (0, 0))).alloc (.cells #[.slice none 0 0] 35 (0, 0))) :=
  ⟨below_alloc (below_alloc (below_alloc (Below.refl _ _) _) _) _, ⟨_, hb2, own_nil _ _ _ _⟩, hb1, (below_alloc (below_alloc (below_alloc (Below.refl _ _) _) _) _).size, by omega⟩
 replace hb1 := Aside0.mk hb1
 replace hb2 := Aside0.mk hb2
 replace hO0 := Aside0.mk hO0
 go_enter Tryz.func11, Tryz.ntmps11
 go_wp2_with (first | (go_at_call 31; (with_reducible refine (hgo _).mono ?_); rintro e w4 ⟨rfl, hB4⟩; have hO4 := Aside0.mk (hO0.out.below hB4); clear hB4) | (go_at_call 32; (with_reducible refine (hfe _ _ _ ?hO).mono ?_); (case hO => exact hO4.out); rintro e w5 ⟨rfl, ps, hO5, hE⟩; obtain ⟨v5, hv5, hown5⟩ := hO5.out; have c5 := (blk_cell hv5 0).trans rfl; have hbel5 := hO5.bel; replace hv5 := Aside0.mk hv5; replace hown5 := Aside0.mk hown5; replace hO5 := Aside0.mk hO5; replace hE := Aside0.mk hE; replace hbel5 := Aside0.mk hbel5))
 go_ret
 exact ⟨_, ps, rfl, hown5.out, hbel5.out, hE.out⟩
end Go.Proofs.YtpgfjbimodnkeaaGreatDoor.Dec
set_option linter.unusedVariables false
set_option linter.unusedSimpArgs false
namespace Go.Proofs.YtpgfjbimodnkeaaGreatDoor.Dec
open Go Go.RowKit Go.Proofs.YtpgfjbimodnkeaaGreatDoorW.PrintWords Go.Proofs.YtpgfjbimodnkeaaGreatDoorW.PrintLast Go.Proofs.YtpgfjbimodnkeaaGreatDoorW.PrintMore Go.Proofs.YtpgfjbimodnkeaaGreatDoor.Scan Go.Proofs.YtpgfjbimodnkeaaGreatDoor.Q
theorem blank_f (c : Int) : spec_Blank.f c = some (decide (c = 32 ∨ c = 9 ∨ c = 10 ∨ c = 13)) := by
 unfold spec_Blank.f
 by_cases h1 : c = 32
 ·simp [h1]
 by_cases h2 : c = 9
 ·simp [h1, h2]
 by_cases h3 : c = 10
 ·simp [h1, h2, h3]
 by_cases h4 : c = 13
 ·simp [h1, h2, h3, h4]
 ·simp [h1, h2, h3, h4]
theorem blank_calls (c : Int) (w : World) : Calls Tryz.prog 9 #[.int .u8 c] w fun e w' => e = .returned (.bool (decide (c = 32 ∨ c = 9 ∨ c = 10 ∨ c = 13))) ∧ Drawn0 w w' := spec_Blank.calls c _ w (blank_f c)
set_option maxHeartbeats 4000000 in
set_option maxRecDepth 100000 in
theorem law_big (w : World) (s : ByteArray) (stop : Int) (h : 2147483647 < s.size) :
  Calls Tryz.prog 3 #[.string s, .int .i64 stop] w fun e w' => e = .returned (.bool true) ∧ Below w.heap.size w w' := by
 have h1 : decide (2147483647 < (s.size : Int)) = true := decide_eq_true (by omega)
 have h2 : decide (2147483647 < s.size) = true := decide_eq_true (by omega)
 go_enter Tryz.func3, Tryz.ntmps3
 go_wp2
 go_ret
 exact ⟨rfl, Below.refl _ _⟩
theorem text_call (w : World) (s : ByteArray) (kd : Int) (txt : ByteArray) (keys : List ByteArray) (ts : List S25) (ok : Bool) (k : Nat) (h : laws_gjText.f k s = some (kd, txt, keys, ts, ok)) :
  Calls Tryz.prog 8 #[.string s] w fun e w' => ∃ A c A3 c3, e = .returned (.tuple #[.agg #[.int .i64 kd, .string txt, .slice A keys.length c, .slice A3 ts.length c3], .bool ok]) ∧ Kd.string.C w' A keys.length keys ∧ Below w.heap.size w w' := by
 refine (laws_gjText.calls k s kd txt keys ts ok w h).mono ?_
 rintro e w' ⟨v2, v3, rfl, h2, h3, hb⟩
 obtain ⟨A, c, rfl, hl, hc⟩ := Kd.R_reads h2
 obtain ⟨A3, c3, rfl⟩ := Kd.R_slice h3
 exact ⟨A, c, A3, c3, rfl, hc, hb⟩
theorem places_call (w : World) (s : ByteArray) (kd i m : Int) (ns : List S44) (ks : List S32) (k : Nat) (h : spec_Places.f k s = some (kd, i, m, ns, ks, true)) :
  Calls Tryz.prog 10 #[.string s] w fun e w' => ∃ A3 c3 A4 c4, e = .returned (.tuple #[.agg #[.int .i64 kd, .int .i64 i, .int .i64 m, .slice A3 ns.length c3, .slice A4 ks.length c4], .bool true]) ∧ Kd.C k44 w' A3 ns.length ns ∧ Kd.C k32 w' A4 ks.length ks ∧ Below w.heap.size w w' := by
 refine (spec_Places.calls k s kd i m ns ks true w h).mono ?_
 rintro e w' ⟨v2, v3, rfl, h2, h3, hb⟩
 obtain ⟨A3, c3, rfl, hl3, hc3⟩ := Kd.R_reads h2
 obtain ⟨A4, c4, rfl, hl4, hc4⟩ := Kd.R_reads h3
 exact ⟨A3, c3, A4, c4, rfl, hc3, hc4, hb⟩
set_option maxHeartbeats 8000000 in
set_option maxRecDepth 100000 in
theorem law_notok (w : World) (s : ByteArray) (stop : Int) (h : s.size ≤ 2147483647) (kd : Int) (txt : ByteArray) (keys : List ByteArray) (ts : List S25) (k : Nat) (hk : laws_gjText.f k s = some (kd, txt, keys, ts, false)) :
  Calls Tryz.prog 3 #[.string s, .int .i64 stop] w fun e w' => e = .returned (.bool true) ∧ Below w.heap.size w w' := by
 have h1 : decide (2147483647 < (s.size : Int)) = false := decide_eq_false (by omega)
 have h2 : decide (2147483647 < s.size) = false := decide_eq_false (by omega)
 have hgt := fun W => text_call W s kd txt keys ts false k hk
 replace hk := Aside0.mk hk
 go_enter Tryz.func3, Tryz.ntmps3
 go_wp2_with (first | (go_at_call 8; (with_reducible refine (hgt _).mono ?_); rintro e w1 ⟨A1, c1, A2, c2, rfl, hC1, hB1⟩; replace hC1 := Aside0.mk hC1; replace hB1 := Aside0.mk hB1))
 go_ret
 exact ⟨rfl, below_alloc hB1.out _⟩
set_option maxHeartbeats 8000000 in
set_option maxRecDepth 100000 in
theorem law_kd (w : World) (s : ByteArray) (stop : Int) (h : s.size ≤ 2147483647) (kd : Int) (h5 : kd ≠ 5) (h6 : kd ≠ 6) (txt : ByteArray) (keys : List ByteArray) (ts : List S25) (k : Nat) (hk : laws_gjText.f k s = some (kd, txt, keys, ts, true)) :
  Calls Tryz.prog 3 #[.string s, .int .i64 stop] w fun e w' => e = .returned (.bool true) ∧ Below w.heap.size w w' := by
 have h1 : decide (2147483647 < (s.size : Int)) = false := decide_eq_false (by omega)
 have h2 : decide (2147483647 < s.size) = false := decide_eq_false (by omega)
 have h51 : (kd != 5) = true := bne_iff_ne.mpr h5
 have h61 : (kd != 6) = true := bne_iff_ne.mpr h6
 have hgt := fun W => text_call W s kd txt keys ts true k hk
 replace hk := Aside0.mk hk
 go_enter Tryz.func3, Tryz.ntmps3
 go_wp2_with (first | (go_at_call 8; (with_reducible refine (hgt _).mono ?_); rintro e w1 ⟨A1, c1, A2, c2, rfl, hC1, hB1⟩; replace hC1 := Aside0.mk hC1; replace hB1 := Aside0.mk hB1))
 go_ret
 exact ⟨rfl, below_alloc hB1.out _⟩
set_option maxHeartbeats 8000000 in
set_option maxRecDepth 100000 in
theorem law_blank (w : World) (s : ByteArray) (stop : Int) (h : s.size ≤ 2147483647) (h0 : 0 < s.size) (kd : Int) (hkd : kd = 5 ∨ kd = 6) (txt : ByteArray) (keys : List ByteArray) (ts : List S25) (k : Nat) (hk : laws_gjText.f k s = some (kd, txt, keys, ts, true))
  (hb : ∃ b1 b2 : Bool, decide (bt s 0 = 32 ∨ bt s 0 = 9 ∨ bt s 0 = 10 ∨ bt s 0 = 13) = b1 ∧ decide (bt s ((s.size - 1 : Nat) : Int) = 32 ∨ bt s ((s.size - 1 : Nat) : Int) = 9 ∨ bt s ((s.size - 1 : Nat) : Int) = 10 ∨ bt s ((s.size - 1 : Nat) : Int) = 13) = b2 ∧ (b1 = true ∨ b2 = true)) :
  Calls Tryz.prog 3 #[.string s, .int .i64 stop] w fun e w' => e = .returned (.bool true) ∧ Below w.heap.size w w' := by
 have h1 : decide (2147483647 < (s.size : Int)) = false := decide_eq_false (by omega)
 have h2 : decide (2147483647 < s.size) = false := decide_eq_false (by omega)
 have hor : ((kd != 5) = false) ∨ ((kd != 5) = true ∧ (kd != 6) = false) := by rcases hkd with rfl | rfl <;> simp
 have hgt := fun W => text_call W s kd txt keys ts true k hk
 replace hk := Aside0.mk hk
 obtain ⟨b1, b2, hb1, hb2, hbb⟩ := hb
 have hbl0 := fun W => blank_calls (bt s 0) W
 have hbl1 := fun W => blank_calls (bt s ((s.size - 1 : Nat) : Int)) W
 rw [hb1] at hbl0
 rw [hb2] at hbl1
 clear hb1 hb2
 have i0 : ((0 : Int) < (s.size : Int)) = True := eq_true (by omega)
 have i0' : (0 < s.size) = True := eq_true (by omega)
 have t0 : ((s[0]'h0).toNat : Int) = bt s 0 := bt_at s 0 (by simpa using h0)
 have ht : ((s.size : Int) - 1).toNat = s.size - 1 := by omega
 have i1 : ((0 : Int) ≤ (s.size : Int) - 1) = True := eq_true (by omega)
 have i2 : ((s.size : Int) - 1 < (s.size : Int)) = True := eq_true (by omega)
 have i3 : (s.size - 1 < s.size) = True := eq_true (by omega)
 have t1 : ((s[s.size - 1]'(by omega)).toNat : Int) = bt s ((s.size - 1 : Nat) : Int) := bt_at s ((s.size - 1 : Nat) : Int) (by simpa using (by omega : s.size - 1 < s.size))
 generalize bt s 0 = c0 at *
 generalize bt s ((s.size - 1 : Nat) : Int) = c9 at *
 replace hkd := Aside0.mk hkd
 rcases hor with h51 | ⟨h51, h61⟩
 all_goals
  go_enter Tryz.func3, Tryz.ntmps3
  cases b1
  all_goals cases b2
  all_goals first
   | (exfalso; simp at hbb; done)
   | skip
  all_goals
   go_wp2_with (first | (go_at_call 8; (with_reducible refine (hgt _).mono ?_); rintro e w1 ⟨A1, c1, A2, c2, rfl, hC1, hB1⟩; replace hC1 := Aside0.mk hC1; replace hB1 := Aside0.mk hB1) | (go_at_call 9; (first | (with_reducible refine (hbl0 _).mono ?_) | (with_reducible refine (hbl1 _).mono ?_)); rintro e w2 ⟨rfl, ⟨n2, rfl⟩⟩))
   go_ret
   exact ⟨rfl, by repeat (with_reducible first | exact hB1.out | apply below_alloc | apply pw_below_drewN | apply below_drew)⟩
end Go.Proofs.YtpgfjbimodnkeaaGreatDoor.Dec
