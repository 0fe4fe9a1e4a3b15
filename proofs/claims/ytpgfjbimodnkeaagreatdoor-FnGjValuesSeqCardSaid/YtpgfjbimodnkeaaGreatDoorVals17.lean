/- FnGjValuesSeq: whatever text and stop come in, the law returns true and both read afterwards as before; with the package-level variables that its row lists as the program's own text lays them (part 17 of 27: lemmas for its last part) -/
import Derived.Test.YtpgfjbimodnkeaaGreatDoorVals3
import Derived.Test.YtpgfjbimodnkeaaGreatDoorVals16
set_option linter.unusedVariables false
set_option linter.unusedSimpArgs false
namespace Go.Proofs.YtpgfjbimodnkeaaGreatDoor.Q
open Go.RowKit Go.Proofs.YtpgfjbimodnkeaaGreatDoorW.PrintWords Go.Proofs.YtpgfjbimodnkeaaGreatDoorW.PrintLast Go.Proofs.YtpgfjbimodnkeaaGreatDoorW.PrintMore
mutual
def spec_reader_number.j0 : Nat → Bool → ByteArray → Int → Option (Bool × ByteArray × Int)
 | 0, _, _, _ => none
 | k + 1, x12, x1000, x1001 => if x12 = true then (some (false, x1000, x1001)) else ((spec_reader_take.f x1000 x1001 46).bind fun bt142 => (if bt142.1 = true then ((spec_reader_digits.f k bt142.2.1 bt142.2.2).bind fun bt145 => (spec_reader_number.j1 k (!bt145.1) bt145.2.1 bt145.2.2)) else (spec_reader_number.j1 k false bt142.2.1 bt142.2.2)))
def spec_reader_number.j1 : Nat → Bool → ByteArray → Int → Option (Bool × ByteArray × Int)
 | 0, _, _, _ => none
 | k + 1, x19, x1000, x1001 => if x19 = true then (some (false, x1000, x1001)) else ((spec_reader_take.f x1000 x1001 101).bind fun bt148 => (if bt148.1 = true then (spec_reader_number.j2 k true bt148.2.1 bt148.2.2) else ((spec_reader_take.f bt148.2.1 bt148.2.2 69).bind fun bt151 => (spec_reader_number.j2 k bt151.1 bt151.2.1 bt151.2.2))))
def spec_reader_number.j2 : Nat → Bool → ByteArray → Int → Option (Bool × ByteArray × Int)
 | 0, _, _, _ => none
 | k + 1, x25, x1000, x1001 => if x25 = true then ((spec_reader_take.f x1000 x1001 43).bind fun bt154 => (if bt154.1 = true then ((spec_reader_digits.f k bt154.2.1 bt154.2.2).bind fun bt157 => (some (bt157.1, bt157.2.1, bt157.2.2))) else ((spec_reader_take.f bt154.2.1 bt154.2.2 45).bind fun bt160 => ((spec_reader_digits.f k bt160.2.1 bt160.2.2).bind fun bt163 => (some (bt163.1, bt163.2.1, bt163.2.2)))))) else (some (true, x1000, x1001))
end
def spec_reader_number.f (k : Nat) (s0_0 : ByteArray) (s0_1 : Int) : Option (Bool × ByteArray × Int) := (spec_reader_take.f s0_0 s0_1 45).bind fun bt133 => ((spec_reader_take.f bt133.2.1 bt133.2.2 48).bind fun bt136 => (if bt136.1 = true then (spec_reader_number.j0 k false bt136.2.1 bt136.2.2) else ((spec_reader_digits.f k bt136.2.1 bt136.2.2).bind fun bt139 => (spec_reader_number.j0 k (!bt139.1) bt139.2.1 bt139.2.2))))
theorem spec_reader_number.mono_l : ∀ k, (∀ y0 y1 y2, LeO (spec_reader_number.j0 k y0 y1 y2) (spec_reader_number.j0 (k + 1) y0 y1 y2)) ∧ (∀ y0 y1 y2, LeO (spec_reader_number.j1 k y0 y1 y2) (spec_reader_number.j1 (k + 1) y0 y1 y2)) ∧ (∀ y0 y1 y2, LeO (spec_reader_number.j2 k y0 y1 y2) (spec_reader_number.j2 (k + 1) y0 y1 y2))
 | 0 => ⟨fun _ _ _ r h => by simp [spec_reader_number.j0] at h, fun _ _ _ r h => by simp [spec_reader_number.j1] at h, fun _ _ _ r h => by simp [spec_reader_number.j2] at h⟩
 | k + 1 => by
   obtain ⟨ih0, ih1, ih2⟩ := spec_reader_number.mono_l k
   refine ⟨?_, ?_, ?_⟩
   case' refine_1 => intro y0 y1 y2; unfold spec_reader_number.j0
   case' refine_2 => intro y0 y1 y2; unfold spec_reader_number.j1
   case' refine_3 => intro y0 y1 y2; unfold spec_reader_number.j2
   all_goals repeat' first
    | (with_reducible exact ih0 _ _ _)
    | (with_reducible exact ih1 _ _ _)
    | (with_reducible exact ih2 _ _ _)
    | (with_reducible exact spec_reader_digits.mono _ _ _)
    | (with_reducible exact LeO.refl _)
    | (with_reducible exact LeO.none _)
    | (with_reducible refine LeO.ite ?_ ?_)
    | (with_reducible refine LeO.bind ?_ (fun _ => ?_))
    | exact ih0 _ _ _
    | exact ih1 _ _ _
    | exact ih2 _ _ _
    | exact spec_reader_digits.mono _ _ _
    | exact LeO.none _
    | refine LeO.ite ?_ ?_
    | refine LeO.bind ?_ (fun _ => ?_)
theorem spec_reader_number.mono : ∀ a0 a1 k, LeO (spec_reader_number.f k a0 a1) (spec_reader_number.f (k + 1) a0 a1) := by
 intro a0 a1 k
 obtain ⟨ih0, ih1, ih2⟩ := spec_reader_number.mono_l k
 unfold spec_reader_number.f
 repeat' first
  | (with_reducible exact ih0 _ _ _)
  | (with_reducible exact ih1 _ _ _)
  | (with_reducible exact ih2 _ _ _)
  | (with_reducible exact spec_reader_digits.mono _ _ _)
  | (with_reducible exact LeO.refl _)
  | (with_reducible exact LeO.none _)
  | (with_reducible refine LeO.ite ?_ ?_)
  | (with_reducible refine LeO.bind ?_ (fun _ => ?_))
  | exact ih0 _ _ _
  | exact ih1 _ _ _
  | exact ih2 _ _ _
  | exact spec_reader_digits.mono _ _ _
  | exact LeO.none _
  | refine LeO.ite ?_ ?_
  | refine LeO.bind ?_ (fun _ => ?_)
structure Sn (w0 w : World) (g : Nat) (s : ByteArray) (i : Int) (W : World) : Prop where
 hI : IsS62 w0 W g s i
 hB : Below w0.heap.size w0 W
 hK : KeepBut w W g none
section
variable {w0 w W W' : World} {g : Nat} {s s' : ByteArray} {i i' : Int}
theorem Sn.went (h : Sn w0 w g s i W) (h1 : IsS62 w0 W' g s' i') (h2 : Below w0.heap.size w0 W') (h3 : KeepBut W W' g none) : Sn w0 w g s' i' W' := ⟨h1, h2, h.hK.trans h3 (.inl rfl)⟩
theorem Sn.take (h : Sn w0 w g s i W) {c : Int} {b : Bool} (A : spec_reader_take.f s i c = some (b, s', i')) : Calls Tryz.prog 77 #[.pointer (some ⟨g, 0, none⟩), .int .u8 c] W fun e w' => e = .returned (.bool b) ∧ Sn w0 w g s' i' w' :=
 (spec_reader_take.calls g s i c b s' i' w0 W h.hI h.hB A).mono fun e w' ⟨h1, h2, h3, h4⟩ => ⟨h1, h.went h2 h3 h4⟩
theorem Sn.digits (h : Sn w0 w g s i W) {k : Nat} {b : Bool} (A : spec_reader_digits.f k s i = some (b, s', i')) : Calls Tryz.prog 79 #[.pointer (some ⟨g, 0, none⟩)] W fun e w' => e = .returned (.bool b) ∧ Sn w0 w g s' i' w' :=
 (spec_reader_digits.calls k g s i b s' i' w0 W h.hI h.hB A).mono fun e w' ⟨h1, h2, h3, h4⟩ => ⟨h1, h.went h2 h3 h4⟩
end
set_option maxHeartbeats 8000000 in
set_option maxRecDepth 100000 in
theorem spec_reader_number.calls (k : Nat) (g : Nat) (s0_0 : ByteArray) (s0_1 : Int) (r1 : Bool) (r2 : ByteArray) (r3 : Int) (w0 w : World) (hI : IsS62 w0 w g s0_0 s0_1) (hB : Below w0.heap.size w0 w) (h : spec_reader_number.f k s0_0 s0_1 = some (r1, r2, r3)) :
 Calls Tryz.prog 57 #[.pointer (some ⟨g, 0, none⟩)] w fun e w' => e = .returned (.bool r1) ∧ IsS62 w0 w' g r2 r3 ∧ Below w0.heap.size w0 w' ∧ KeepBut w w' g none := by
 unfold spec_reader_number.f at h
 obtain ⟨⟨b1, s1, i1⟩, A1, h1⟩ := Option.bind_eq_some_iff.mp h
 obtain ⟨⟨b2, s2, i2⟩, A2, h2⟩ := Option.bind_eq_some_iff.mp h1
 dsimp only at h2
 replace A1 := Aside0.mk A1
 replace A2 := Aside0.mk A2
 replace h2 := Aside0.mk h2
 have S0 := Aside0.mk (Sn.mk hI hB (KeepBut.refl w g none))
 clear h h1 hI hB
 go_enter Tryz.func57, Tryz.ntmps57
 go_wp2_with (fail)
 refine (S0.out.take A1.out).mono ?_
 rintro e w1 ⟨rfl, S1⟩
 replace S1 := Aside0.mk S1
 clear S0
 go_upto_region 2 with (fail)
 go_cut [12] (fun v12 wc => ∃ (kq : Nat) (x : Bool) (s3 : ByteArray) (i3 : Int), v12 = .bool x ∧ Aside0 (spec_reader_number.j0 kq x s3 i3 = some (r1, r2, r3)) ∧ Aside0 (Sn w0 w g s3 i3 wc))
 case first =>
  go_wp2_with (fail)
  refine (S1.out.take A2.out).mono ?_
  rintro e w2 ⟨rfl, S2⟩
  replace S2 := Aside0.mk S2
  cases b2 with
  | true =>
    have h3 := h2.out
    rw [if_pos rfl] at h3
    replace h3 := Aside0.mk h3
    go_wp2_with (fail)
    go_meet
    case rel => exact ⟨_, _, _, _, rfl, h3, S2⟩
  | false =>
    have h3 := h2.out
    rw [if_neg (by decide)] at h3
    obtain ⟨⟨b3, s3, i3⟩, A3, h4⟩ := Option.bind_eq_some_iff.mp h3
    clear h2 h3
    replace A3 := Aside0.mk A3
    replace h4 := Aside0.mk h4
    go_wp2_with (fail)
    refine (S2.out.digits A3.out).mono ?_
    rintro e w3 ⟨rfl, S3⟩
    replace S3 := Aside0.mk S3
    go_wp2_with (fail)
    go_meet
    case rel => exact ⟨_, _, _, _, rfl, h4, S3⟩
 case rest =>
 obtain ⟨kq, x, s3, i3, rfl, HA, S3⟩ := hcut
 clear h2 S1 A1 A2
 cases kq with
 | zero => exact absurd HA.out (by simp [spec_reader_number.j0])
 | succ k1 =>
 have h3 := HA.out
 simp only [spec_reader_number.j0] at h3
 clear HA
 cases x with
 | true =>
   rw [if_pos rfl] at h3
   simp only [Option.some.injEq, Prod.mk.injEq] at h3
   obtain ⟨rfl, rfl, rfl⟩ := h3
   go_wp2_with (fail)
   go_ret
   exact ⟨rfl, S3.out.hI, S3.out.hB, S3.out.hK⟩
 | false =>
 rw [if_neg (by decide)] at h3
 obtain ⟨⟨b4, s4, i4⟩, A4, h4⟩ := Option.bind_eq_some_iff.mp h3
 dsimp only at h4
 replace A4 := Aside0.mk A4
 replace h4 := Aside0.mk h4
 clear h3
 go_upto_region 4 with (fail)
 go_cut [19] (fun v19 wc => ∃ (kq : Nat) (x : Bool) (s3 : ByteArray) (i3 : Int), v19 = .bool x ∧ Aside0 (spec_reader_number.j1 kq x s3 i3 = some (r1, r2, r3)) ∧ Aside0 (Sn w0 w g s3 i3 wc))
 case first =>
  go_wp2_with (fail)
  refine (S3.out.take A4.out).mono ?_
  rintro e w2 ⟨rfl, S4⟩
  replace S4 := Aside0.mk S4
  cases b4 with
  | false =>
    have h5 := h4.out
    rw [if_neg (by decide)] at h5
    replace h5 := Aside0.mk h5
    go_wp2_with (fail)
    go_meet
    case rel => exact ⟨_, _, _, _, rfl, h5, S4⟩
  | true =>
    have h5 := h4.out
    rw [if_pos rfl] at h5
    obtain ⟨⟨b5, s5, i5⟩, A5, h6⟩ := Option.bind_eq_some_iff.mp h5
    clear h4 h5
    replace A5 := Aside0.mk A5
    replace h6 := Aside0.mk h6
    go_wp2_with (fail)
    refine (S4.out.digits A5.out).mono ?_
    rintro e w3 ⟨rfl, S5⟩
    replace S5 := Aside0.mk S5
    go_wp2_with (fail)
    go_meet
    case rel => exact ⟨_, _, _, _, rfl, h6, S5⟩
 case rest =>
 obtain ⟨kq, x, s5, i5, rfl, HA, S5⟩ := hcut
 clear h4 S3 A4
 cases kq with
 | zero => exact absurd HA.out (by simp [spec_reader_number.j1])
 | succ k2 =>
 have h3 := HA.out
 simp only [spec_reader_number.j1] at h3
 clear HA
 cases x with
 | true =>
   rw [if_pos rfl] at h3
   simp only [Option.some.injEq, Prod.mk.injEq] at h3
   obtain ⟨rfl, rfl, rfl⟩ := h3
   go_wp2_with (fail)
   go_ret
   exact ⟨rfl, S5.out.hI, S5.out.hB, S5.out.hK⟩
 | false =>
 rw [if_neg (by decide)] at h3
 obtain ⟨⟨b6, s6, i6⟩, A6, h6⟩ := Option.bind_eq_some_iff.mp h3
 dsimp only at h6
 replace A6 := Aside0.mk A6
 replace h6 := Aside0.mk h6
 clear h3
 go_upto_region 6 with (fail)
 go_cut [25] (fun v25 wc => ∃ (kq : Nat) (x : Bool) (s3 : ByteArray) (i3 : Int), v25 = .bool x ∧ Aside0 (spec_reader_number.j2 kq x s3 i3 = some (r1, r2, r3)) ∧ Aside0 (Sn w0 w g s3 i3 wc))
 case first =>
  go_wp2_with (fail)
  refine (S5.out.take A6.out).mono ?_
  rintro e w2 ⟨rfl, S6⟩
  replace S6 := Aside0.mk S6
  cases b6 with
  | true =>
    have h7 := h6.out
    rw [if_pos rfl] at h7
    replace h7 := Aside0.mk h7
    go_wp2_with (fail)
    go_meet
    case rel => exact ⟨_, _, _, _, rfl, h7, S6⟩
  | false =>
    have h7 := h6.out
    rw [if_neg (by decide)] at h7
    obtain ⟨⟨b7, s7, i7⟩, A7, h8⟩ := Option.bind_eq_some_iff.mp h7
    clear h6 h7
    replace A7 := Aside0.mk A7
    replace h8 := Aside0.mk h8
    go_wp2_with (fail)
    refine (S6.out.take A7.out).mono ?_
    rintro e w3 ⟨rfl, S7⟩
    replace S7 := Aside0.mk S7
    go_wp2_with (fail)
    go_meet
    case rel => exact ⟨_, _, _, _, rfl, h8, S7⟩
 case rest =>
 obtain ⟨kq, x, s7, i7, rfl, HA, S7⟩ := hcut
 clear h6 S5 A6
 cases kq with
 | zero => exact absurd HA.out (by simp [spec_reader_number.j2])
 | succ k3 =>
 have h3 := HA.out
 simp only [spec_reader_number.j2] at h3
 clear HA
 cases x with
 | false =>
   rw [if_neg (by decide)] at h3
   simp only [Option.some.injEq, Prod.mk.injEq] at h3
   obtain ⟨rfl, rfl, rfl⟩ := h3
   go_wp2_with (fail)
   go_ret
   exact ⟨rfl, S7.out.hI, S7.out.hB, S7.out.hK⟩
 | true =>
 rw [if_pos rfl] at h3
 obtain ⟨⟨b8, s8, i8⟩, A8, h8⟩ := Option.bind_eq_some_iff.mp h3
 dsimp only at h8
 clear h3
 replace A8 := Aside0.mk A8
 replace h8 := Aside0.mk h8
 go_wp2_with (fail)
 refine (S7.out.take A8.out).mono ?_
 rintro e w3 ⟨rfl, S8⟩
 replace S8 := Aside0.mk S8
 cases b8 with
 | true =>
   have h9 := h8.out
   rw [if_pos rfl] at h9
   obtain ⟨⟨b9, s9, i9⟩, A9, h10⟩ := Option.bind_eq_some_iff.mp h9
   simp only [Option.some.injEq, Prod.mk.injEq] at h10
   obtain ⟨rfl, rfl, rfl⟩ := h10
   clear h8 h9
   replace A9 := Aside0.mk A9
   go_wp2_with (fail)
   refine (S8.out.digits A9.out).mono ?_
   rintro e w4 ⟨rfl, S9⟩
   go_wp2_with (fail)
   go_ret
   exact ⟨rfl, S9.hI, S9.hB, S9.hK⟩
 | false =>
   have h9 := h8.out
   rw [if_neg (by decide)] at h9
   obtain ⟨⟨b9, s9, i9⟩, A9, h10⟩ := Option.bind_eq_some_iff.mp h9
   obtain ⟨⟨b10, s10, i10⟩, A10, h11⟩ := Option.bind_eq_some_iff.mp h10
   simp only [Option.some.injEq, Prod.mk.injEq] at h11
   obtain ⟨rfl, rfl, rfl⟩ := h11
   clear h8 h9 h10
   replace A9 := Aside0.mk A9
   replace A10 := Aside0.mk A10
   go_wp2_with (fail)
   refine (S8.out.take A9.out).mono ?_
   rintro e w4 ⟨rfl, S9⟩
   replace S9 := Aside0.mk S9
   go_wp2_with (fail)
   refine (S9.out.digits A10.out).mono ?_
   rintro e w4 ⟨rfl, S10⟩
   go_wp2_with (fail)
   go_ret
   exact ⟨rfl, S10.hI, S10.hB, S10.hK⟩
end Go.Proofs.YtpgfjbimodnkeaaGreatDoor.Q
namespace Go.Proofs.YtpgfjbimodnkeaaGreatDoor.Q
open Go.RowKit Go.Proofs.YtpgfjbimodnkeaaGreatDoorW.PrintWords Go.Proofs.YtpgfjbimodnkeaaGreatDoorW.PrintLast Go.Proofs.YtpgfjbimodnkeaaGreatDoorW.PrintMore
attribute [local go_sem] max2_int min2_int max_two min_two max_three min_three max_four min_four
set_option linter.unusedVariables false
set_option linter.unusedSimpArgs false
def spec_reader_word.f (s0_0 : ByteArray) (s0_1 : Int) (a1 : ByteArray) : Option (Bool × ByteArray × Int) := if (wrap64 ((s0_0.size : Int) - s0_1)) < (a1.size : Int) then (some (false, s0_0, s0_1)) else (if 0 ≤ s0_1 then (if s0_1 ≤ (wrap64 (s0_1 + (a1.size : Int))) then (if (wrap64 (s0_1 + (a1.size : Int))) ≤ (s0_0.size : Int) then (if (s0_0.extract (s0_1 : Int).toNat ((wrap64 (s0_1 + (a1.size : Int))) : Int).toNat).toList = a1.toList then (some (true, s0_0, wrap64 (s0_1 + (a1.size : Int)))) else (some (false, s0_0, s0_1))) else (none)) else (none)) else (none))
set_option maxHeartbeats 8000000 in
set_option maxRecDepth 100000 in
theorem spec_reader_word.calls (g : Nat) (s0_0 : ByteArray) (s0_1 : Int) (a1 : ByteArray) (r1 : Bool) (r2 : ByteArray) (r3 : Int) (w0 w : World) (hI : IsS62 w0 w g s0_0 s0_1) (hB : Below w0.heap.size w0 w) (h : spec_reader_word.f s0_0 s0_1 a1 = some (r1, r2, r3)) :
 Calls Tryz.prog 58 #[.pointer (some ⟨g, 0, none⟩), .string a1] w fun e w' => e = .returned (.bool r1) ∧ IsS62 w0 w' g r2 r3 ∧ Below w0.heap.size w0 w' ∧ KeepBut w w' g none := by
 have HI0 := Aside0.mk hI
 have HK := Aside0.mk (KeepBut.refl w g none)
 have HL := Aside0.mk hB.size
 clear hI
 have HW0 := Aside0.mk hB.size
 have HB := Aside0.mk hB
 clear hB
 have H : (if (wrap64 ((s0_0.size : Int) - s0_1)) < (a1.size : Int) then (some (false, s0_0, s0_1)) else (if 0 ≤ s0_1 then (if s0_1 ≤ (wrap64 (s0_1 + (a1.size : Int))) then (if (wrap64 (s0_1 + (a1.size : Int))) ≤ (s0_0.size : Int) then (if (s0_0.extract (s0_1 : Int).toNat ((wrap64 (s0_1 + (a1.size : Int))) : Int).toNat).toList = a1.toList then (some (true, s0_0, wrap64 (s0_1 + (a1.size : Int)))) else (some (false, s0_0, s0_1))) else (none)) else (none)) else (none))) = some (r1, r2, r3) := h
 clear h
 by_cases c3 : (wrap64 ((s0_0.size : Int) - s0_1)) < (a1.size : Int)
 ·rw [if_pos c3] at H
  have c3b0 : decide ((wrap64 ((s0_0.size : Int) - s0_1)) < (a1.size : Int)) = true := decide_eq_true c3
  clear c3
  simp only [Option.some.injEq, Prod.mk.injEq] at H
  obtain ⟨rfl, rfl, rfl⟩ := H
  obtain ⟨HGz4, hgz4⟩ := HI0.out
  have hcz4_0 := cellS62_0 HGz4
  have hcz4_1 := cellS62_1 HGz4
  have hfz4_0 := blk_frozen HGz4 0
  have hfz4_1 := blk_frozen HGz4 1
  clear HGz4 hgz4
  go_enter Tryz.func58, Tryz.ntmps58
  go_wp2
  repeat (go_quiet (fail); try go_wp2)
  go_ret
  exact ⟨by first | rfl | (simp [errW_none, errW_some] <;> rfl) | (simp [*, errW_none, errW_some] <;> rfl), by repeat (first | (with_reducible first | exact HI0.out | apply IsS62.alloc | apply IsS62.drewN | apply IsS62.drew | apply IsS62.set_0 | apply IsS62.set_1) | exact HI0.out), by repeat (first | (with_reducible first | exact HB.out | apply below_alloc | apply pw_below_drewN | apply below_drew1 | refine below_set ?_ (IsS62.ge HI0.out)) | exact HB.out), by repeat (first | (with_reducible first | exact HK.out | apply KeepBut.set_ | apply keep_drewN | apply keep_drew | apply keep_alloc) | exact HK.out)⟩
 ·rw [if_neg c3] at H
  have c3b0 : decide ((wrap64 ((s0_0.size : Int) - s0_1)) < (a1.size : Int)) = false := decide_eq_false c3
  clear c3
  by_cases c5 : 0 ≤ s0_1
  ·rw [if_pos c5] at H
   have c5b0 := eq_true c5
   have c5b1 : decide (0 ≤ s0_1) = true := decide_eq_true c5
   clear c5
   by_cases c6 : s0_1 ≤ (wrap64 (s0_1 + (a1.size : Int)))
   ·rw [if_pos c6] at H
    have c6b0 := eq_true c6
    have c6b1 : decide (s0_1 ≤ (wrap64 (s0_1 + (a1.size : Int)))) = true := decide_eq_true c6
    by_cases c7 : (wrap64 (s0_1 + (a1.size : Int))) ≤ (s0_0.size : Int)
    ·rw [if_pos c7] at H
     have c7b0 := eq_true c7
     have c7b1 : decide ((wrap64 (s0_1 + (a1.size : Int))) ≤ (s0_0.size : Int)) = true := decide_eq_true c7
     by_cases c8 : (s0_0.extract (s0_1 : Int).toNat ((wrap64 (s0_1 + (a1.size : Int))) : Int).toNat).toList = a1.toList
     ·rw [if_pos c8] at H
      have c8b0 : ((s0_0.extract (s0_1 : Int).toNat ((wrap64 (s0_1 + (a1.size : Int))) : Int).toNat).toList == a1.toList) = true := beq_iff_eq.mpr c8
      have c8b0e := c8b0
      (try simp only [ByteArray.size_extract] at c8b0e)
      (try have c8b0q := eq_true (of_decide_eq_true c8b0e))
      have c8b1 : ((s0_0.extract (s0_1 : Int).toNat ((wrap64 (s0_1 + (a1.size : Int))) : Int).toNat).toList != a1.toList) = false := bne_eq_false_iff_eq.mpr c8
      have c8b1e := c8b1
      (try simp only [ByteArray.size_extract] at c8b1e)
      (try have c8b1q := eq_true (of_decide_eq_true c8b1e))
      clear c8
      simp only [Option.some.injEq, Prod.mk.injEq] at H
      obtain ⟨rfl, rfl, rfl⟩ := H
      obtain ⟨HGz9, hgz9⟩ := HI0.out
      have hcz9_0 := cellS62_0 HGz9
      have hcz9_1 := cellS62_1 HGz9
      have hfz9_0 := blk_frozen HGz9 0
      have hfz9_1 := blk_frozen HGz9 1
      clear HGz9 hgz9
      go_enter Tryz.func58, Tryz.ntmps58
      go_wp2
      repeat (go_quiet (fail); try go_wp2)
      go_ret
      exact ⟨by first | rfl | (simp [errW_none, errW_some] <;> rfl) | (simp [*, errW_none, errW_some] <;> rfl), by repeat (first | (with_reducible first | exact HI0.out | apply IsS62.alloc | apply IsS62.drewN | apply IsS62.drew | apply IsS62.set_0 | apply IsS62.set_1) | exact HI0.out), by repeat (first | (with_reducible first | exact HB.out | apply below_alloc | apply pw_below_drewN | apply below_drew1 | refine below_set ?_ (IsS62.ge HI0.out)) | exact HB.out), by repeat (first | (with_reducible first | exact HK.out | apply KeepBut.set_ | apply keep_drewN | apply keep_drew | apply keep_alloc) | exact HK.out)⟩
     ·rw [if_neg c8] at H
      have c8b0 : ((s0_0.extract (s0_1 : Int).toNat ((wrap64 (s0_1 + (a1.size : Int))) : Int).toNat).toList == a1.toList) = false := beq_eq_false_iff_ne.mpr c8
      have c8b0e := c8b0
      (try simp only [ByteArray.size_extract] at c8b0e)
      (try have c8b0q := eq_true (of_decide_eq_true c8b0e))
      have c8b1 : ((s0_0.extract (s0_1 : Int).toNat ((wrap64 (s0_1 + (a1.size : Int))) : Int).toNat).toList != a1.toList) = true := bne_iff_ne.mpr c8
      have c8b1e := c8b1
      (try simp only [ByteArray.size_extract] at c8b1e)
      (try have c8b1q := eq_true (of_decide_eq_true c8b1e))
      simp only [Option.some.injEq, Prod.mk.injEq] at H
      obtain ⟨rfl, rfl, rfl⟩ := H
      obtain ⟨HGz10, hgz10⟩ := HI0.out
      have hcz10_0 := cellS62_0 HGz10
      have hcz10_1 := cellS62_1 HGz10
      have hfz10_0 := blk_frozen HGz10 0
      have hfz10_1 := blk_frozen HGz10 1
      clear HGz10 hgz10
      go_enter Tryz.func58, Tryz.ntmps58
      go_wp2
      repeat (go_quiet (fail); try go_wp2)
      go_ret
      exact ⟨by first | rfl | (simp [errW_none, errW_some] <;> rfl) | (simp [*, errW_none, errW_some] <;> rfl), by repeat (first | (with_reducible first | exact HI0.out | apply IsS62.alloc | apply IsS62.drewN | apply IsS62.drew | apply IsS62.set_0 | apply IsS62.set_1) | exact HI0.out), by repeat (first | (with_reducible first | exact HB.out | apply below_alloc | apply pw_below_drewN | apply below_drew1 | refine below_set ?_ (IsS62.ge HI0.out)) | exact HB.out), by repeat (first | (with_reducible first | exact HK.out | apply KeepBut.set_ | apply keep_drewN | apply keep_drew | apply keep_alloc) | exact HK.out)⟩
    ·rw [if_neg c7] at H
     exact absurd H (by simp)
   ·rw [if_neg c6] at H
    exact absurd H (by simp)
  ·rw [if_neg c5] at H
   exact absurd H (by simp)
end Go.Proofs.YtpgfjbimodnkeaaGreatDoor.Q
namespace Go.Proofs.YtpgfjbimodnkeaaGreatDoor.Q
open Go.RowKit Go.Proofs.YtpgfjbimodnkeaaGreatDoorW.PrintWords Go.Proofs.YtpgfjbimodnkeaaGreatDoorW.PrintLast Go.Proofs.YtpgfjbimodnkeaaGreatDoorW.PrintMore
attribute [local go_sem] max2_int min2_int max_two min_two max_three min_three max_four min_four
set_option linter.unusedVariables false
set_option linter.unusedSimpArgs false
mutual
def spec_reader_members.l0 : Nat → List (S44) → List (S32) → ByteArray → Int → Option ((List (S44)) × (List (S32)) × Bool × ByteArray × Int)
 | 0, _, _, _, _ => none
 | k + 1, x5, x6, x1000, x1001 => (spec_reader_here.f x1000 x1001).bind fun bt171 => (if bt171.1 = 34 then ((spec_reader_quoted.f k bt171.2.1 bt171.2.2).bind fun bt174 => (spec_reader_members.j1 k x5 x6 x1001 (!bt174.1) bt174.2.1 bt174.2.2)) else (spec_reader_members.j1 k x5 x6 x1001 true bt171.2.1 bt171.2.2))
def spec_reader_members.j1 : Nat → List (S44) → List (S32) → Int → Bool → ByteArray → Int → Option ((List (S44)) × (List (S32)) × Bool × ByteArray × Int)
 | 0, _, _, _, _, _, _ => none
 | k + 1, x5, x6, x7, x32, x1000, x1001 => if x32 = true then (some (([] : List (S44)), ([] : List (S32)), false, x1000, x1001)) else (if x5.length < 8796093022208 then ((some (x5 ++ [(⟨x7, x1001⟩ : S44)] : List (S44))).bind fun y177 => ((spec_reader_blanks.f k x1000 x1001).bind fun bt180 => ((spec_reader_take.f bt180.1 bt180.2 58).bind fun bt182 => (if bt182.1 = true then ((spec_reader_blanks.f k bt182.2.1 bt182.2.2).bind fun bt185 => ((spec_reader_value.f k bt185.1 bt185.2).bind fun bt187 => (if bt187.2.2.2.2.2.1 = true then (if x6.length < 1954687338268 then ((some (x6 ++ [(⟨bt187.1, bt187.2.1, bt187.2.2.1, bt187.2.2.2.1, bt187.2.2.2.2.1⟩ : S32)] : List (S32))).bind fun y200 => ((spec_reader_blanks.f k bt187.2.2.2.2.2.2.1 bt187.2.2.2.2.2.2.2).bind fun bt203 => ((spec_reader_take.f bt203.1 bt203.2 125).bind fun bt205 => (if bt205.1 = true then (some (y177, y200, true, bt205.2.1, bt205.2.2)) else ((spec_reader_take.f bt205.2.1 bt205.2.2 44).bind fun bt208 => (if bt208.1 = true then ((spec_reader_blanks.f k bt208.2.1 bt208.2.2).bind fun bt211 => (spec_reader_members.l0 k y177 y200 bt211.1 bt211.2)) else (some (([] : List (S44)), ([] : List (S32)), false, bt208.2.1, bt208.2.2)))))))) else (none)) else (some (([] : List (S44)), ([] : List (S32)), false, bt187.2.2.2.2.2.2.1, bt187.2.2.2.2.2.2.2))))) else (some (([] : List (S44)), ([] : List (S32)), false, bt182.2.1, bt182.2.2)))))) else (none))
def spec_reader_members.f : Nat → ByteArray → Int → Option ((List (S44)) × (List (S32)) × Bool × ByteArray × Int)
 | 0, _, _ => none
 | k + 1, s0_0, s0_1 => (spec_reader_blanks.f k s0_0 (wrap64 (s0_1 + 1))).bind fun bt166 => ((spec_reader_take.f bt166.1 bt166.2 125).bind fun bt168 => (if bt168.1 = true then (some (([] : List (S44)), ([] : List (S32)), true, bt168.2.1, bt168.2.2)) else (spec_reader_members.l0 k ([] : List (S44)) ([] : List (S32)) bt168.2.1 bt168.2.2)))
def spec_reader_elements.l0 : Nat → List (S32) → ByteArray → Int → Option ((List (S32)) × Bool × ByteArray × Int)
 | 0, _, _, _ => none
 | k + 1, x4, x1000, x1001 => (spec_reader_value.f k x1000 x1001).bind fun bt218 => (if bt218.2.2.2.2.2.1 = true then (if x4.length < 1954687338268 then ((some (x4 ++ [(⟨bt218.1, bt218.2.1, bt218.2.2.1, bt218.2.2.2.1, bt218.2.2.2.2.1⟩ : S32)] : List (S32))).bind fun y231 => ((spec_reader_blanks.f k bt218.2.2.2.2.2.2.1 bt218.2.2.2.2.2.2.2).bind fun bt234 => ((spec_reader_take.f bt234.1 bt234.2 93).bind fun bt236 => (if bt236.1 = true then (some (y231, true, bt236.2.1, bt236.2.2)) else ((spec_reader_take.f bt236.2.1 bt236.2.2 44).bind fun bt239 => (if bt239.1 = true then ((spec_reader_blanks.f k bt239.2.1 bt239.2.2).bind fun bt242 => (spec_reader_elements.l0 k y231 bt242.1 bt242.2)) else (some (([] : List (S32)), false, bt239.2.1, bt239.2.2)))))))) else (none)) else (some (([] : List (S32)), false, bt218.2.2.2.2.2.2.1, bt218.2.2.2.2.2.2.2)))
def spec_reader_elements.f : Nat → ByteArray → Int → Option ((List (S32)) × Bool × ByteArray × Int)
 | 0, _, _ => none
 | k + 1, s0_0, s0_1 => (spec_reader_blanks.f k s0_0 (wrap64 (s0_1 + 1))).bind fun bt213 => ((spec_reader_take.f bt213.1 bt213.2 93).bind fun bt215 => (if bt215.1 = true then (some (([] : List (S32)), true, bt215.2.1, bt215.2.2)) else (spec_reader_elements.l0 k ([] : List (S32)) bt215.2.1 bt215.2.2)))
def spec_reader_value.j0 : Nat → Bool → Bool → ByteArray → Int → Int → Int → Int → Option (Int × Int × Int × (List (S44)) × (List (S32)) × Bool × ByteArray × Int)
 | 0, _, _, _, _, _, _, _ => none
 | k + 1, x5, x42, x1000, x1001, x246000, x246001, x246002 => if x42 = true then ((spec_reader_number.f k x1000 x1001).bind fun bt267 => (some (3, x246001, bt267.2.2, ([] : List (S44)), ([] : List (S32)), bt267.1, bt267.2.1, bt267.2.2))) else ((spec_reader_word.f x1000 x1001 (⟨#[110, 117, 108, 108]⟩ : ByteArray)).bind fun bt270 => (if bt270.1 = true then (some (0, x246001, bt270.2.2, ([] : List (S44)), ([] : List (S32)), x5, bt270.2.1, bt270.2.2)) else ((spec_reader_word.f bt270.2.1 bt270.2.2 (⟨#[102, 97, 108, 115, 101]⟩ : ByteArray)).bind fun bt273 => (if bt273.1 = true then (some (1, x246001, bt273.2.2, ([] : List (S44)), ([] : List (S32)), x5, bt273.2.1, bt273.2.2)) else ((spec_reader_word.f bt273.2.1 bt273.2.2 (⟨#[116, 114, 117, 101]⟩ : ByteArray)).bind fun bt276 => (if bt276.1 = true then (some (2, x246001, bt276.2.2, ([] : List (S44)), ([] : List (S32)), x5, bt276.2.1, bt276.2.2)) else (some (x246000, x246001, bt276.2.2, ([] : List (S44)), ([] : List (S32)), false, bt276.2.1, bt276.2.2))))))))
def spec_reader_value.f : Nat → ByteArray → Int → Option (Int × Int × Int × (List (S44)) × (List (S32)) × Bool × ByteArray × Int)
 | 0, _, _ => none
 | k + 1, s0_0, s0_1 => (spec_reader_here.f s0_0 s0_1).bind fun bt246 => (if bt246.1 = 123 then ((spec_reader_members.f k bt246.2.1 bt246.2.2).bind fun bt249 => (some (6, s0_1, bt249.2.2.2.2, bt249.1, bt249.2.1, bt249.2.2.1, bt249.2.2.2.1, bt249.2.2.2.2))) else (if bt246.1 = 91 then ((spec_reader_elements.f k bt246.2.1 bt246.2.2).bind fun bt258 => (some (5, s0_1, bt258.2.2.2, ([] : List (S44)), bt258.1, bt258.2.1, bt258.2.2.1, bt258.2.2.2))) else (if bt246.1 = 34 then ((spec_reader_quoted.f k bt246.2.1 bt246.2.2).bind fun bt264 => (some (4, s0_1, bt264.2.2, ([] : List (S44)), ([] : List (S32)), bt264.1, bt264.2.1, bt264.2.2))) else (if bt246.1 = 45 then (spec_reader_value.j0 k true true bt246.2.1 bt246.2.2 0 s0_1 0) else (if 48 ≤ bt246.1 then (spec_reader_value.j0 k true (decide (bt246.1 ≤ 57)) bt246.2.1 bt246.2.2 0 s0_1 0) else (spec_reader_value.j0 k true false bt246.2.1 bt246.2.2 0 s0_1 0))))))
end
theorem spec_reader_members.mono_ring : ∀ k, (∀ y0 y1, LeO (spec_reader_members.f k y0 y1) (spec_reader_members.f (k + 1) y0 y1)) ∧ (∀ y0 y1 y2 y3, LeO (spec_reader_members.l0 k y0 y1 y2 y3) (spec_reader_members.l0 (k + 1) y0 y1 y2 y3)) ∧ (∀ y0 y1 y2 y3 y4 y5, LeO (spec_reader_members.j1 k y0 y1 y2 y3 y4 y5) (spec_reader_members.j1 (k + 1) y0 y1 y2 y3 y4 y5)) ∧ (∀ y0 y1, LeO (spec_reader_elements.f k y0 y1) (spec_reader_elements.f (k + 1) y0 y1)) ∧ (∀ y0 y1 y2, LeO (spec_reader_elements.l0 k y0 y1 y2) (spec_reader_elements.l0 (k + 1) y0 y1 y2)) ∧ (∀ y0 y1, LeO (spec_reader_value.f k y0 y1) (spec_reader_value.f (k + 1) y0 y1)) ∧ (∀ y0 y1 y2 y3 y4 y5 y6, LeO (spec_reader_value.j0 k y0 y1 y2 y3 y4 y5 y6) (spec_reader_value.j0 (k + 1) y0 y1 y2 y3 y4 y5 y6))
 | 0 => ⟨fun _ _ r h => by simp [spec_reader_members.f] at h, fun _ _ _ _ r h => by simp [spec_reader_members.l0] at h, fun _ _ _ _ _ _ r h => by simp [spec_reader_members.j1] at h, fun _ _ r h => by simp [spec_reader_elements.f] at h, fun _ _ _ r h => by simp [spec_reader_elements.l0] at h, fun _ _ r h => by simp [spec_reader_value.f] at h, fun _ _ _ _ _ _ _ r h => by simp [spec_reader_value.j0] at h⟩
 | k + 1 => by
   obtain ⟨ih0, ih1, ih2, ih3, ih4, ih5, ih6⟩ := spec_reader_members.mono_ring k
   refine ⟨?_, ?_, ?_, ?_, ?_, ?_, ?_⟩
   case' refine_1 => intro y0 y1; rw [spec_reader_members.f, spec_reader_members.f]
   case' refine_2 => intro y0 y1 y2 y3; rw [spec_reader_members.l0, spec_reader_members.l0]
   case' refine_3 => intro y0 y1 y2 y3 y4 y5; rw [spec_reader_members.j1, spec_reader_members.j1]
   case' refine_4 => intro y0 y1; rw [spec_reader_elements.f, spec_reader_elements.f]
   case' refine_5 => intro y0 y1 y2; rw [spec_reader_elements.l0, spec_reader_elements.l0]
   case' refine_6 => intro y0 y1; rw [spec_reader_value.f, spec_reader_value.f]
   case' refine_7 => intro y0 y1 y2 y3 y4 y5 y6; rw [spec_reader_value.j0, spec_reader_value.j0]
   all_goals repeat' first
    | (with_reducible exact ih0 _ _)
    | (with_reducible exact ih1 _ _ _ _)
    | (with_reducible exact ih2 _ _ _ _ _ _)
    | (with_reducible exact ih3 _ _)
    | (with_reducible exact ih4 _ _ _)
    | (with_reducible exact ih5 _ _)
    | (with_reducible exact ih6 _ _ _ _ _ _ _)
    | (with_reducible exact spec_reader_blanks.mono _ _ _)
    | (with_reducible exact spec_reader_number.mono _ _ _)
    | (with_reducible exact spec_reader_quoted.mono _ _ _)
    | (with_reducible exact LeO.refl _)
    | (with_reducible exact LeO.none _)
    | (with_reducible refine LeO.ite ?_ ?_)
    | (with_reducible refine LeO.bind ?_ (fun _ => ?_))
    | exact LeO.none _
    | refine LeO.ite ?_ ?_
    | refine LeO.bind ?_ (fun _ => ?_)
theorem spec_reader_members.mono : ∀ a0 a1 k, LeO (spec_reader_members.f k a0 a1) (spec_reader_members.f (k + 1) a0 a1) := fun a0 a1 k => (spec_reader_members.mono_ring k).1 a0 a1
theorem spec_reader_elements.mono : ∀ a0 a1 k, LeO (spec_reader_elements.f k a0 a1) (spec_reader_elements.f (k + 1) a0 a1) := fun a0 a1 k => (spec_reader_members.mono_ring k).2.2.2.1 a0 a1
theorem spec_reader_value.mono : ∀ a0 a1 k, LeO (spec_reader_value.f k a0 a1) (spec_reader_value.f (k + 1) a0 a1) := fun a0 a1 k => (spec_reader_members.mono_ring k).2.2.2.2.2.1 a0 a1
structure Ms (w0 w : World) (g : Nat) (v5 v6 : Value) (xs : List S44) (ys : List S32) (s : ByteArray) (i : Int) (W : World) : Prop where
 r5 : Kd.R k44 44 W w.heap.size (fun _ => True) v5 xs
 r6 : Kd.R k32 32 W w.heap.size (fun k => some k ≠ v5.ownBlock) v6 ys
 hI : IsS62 w0 W g s i
 hB : Below w0.heap.size w0 W
 hK : KeepBut w W g none
 lo : w0.heap.size ≤ w.heap.size
section
variable {w0 w W W' : World} {g : Nat} {v5 v6 : Value} {xs : List S44} {ys : List S32} {s s' : ByteArray} {i i' : Int}
theorem Ms.start (hI : IsS62 w0 w g s i) (hB : Below w0.heap.size w0 w) : Ms w0 w g (.slice none 0 0) (.slice none 0 0) [] [] s i w := ⟨Kd.R_nil _ _ _ _ _, Kd.R_nil _ _ _ _ _, hI, hB, KeepBut.refl _ _ _, hB.size⟩
theorem Ms.went (h : Ms w0 w g v5 v6 xs ys s i W) (h1 : IsS62 w0 W' g s' i') (h2 : Below w0.heap.size w0 W') (h3 : KeepBut W W' g none) : Ms w0 w g v5 v6 xs ys s' i' W' :=
 ⟨Kd.R_mono (Kd.R_keep (IsS62.apart h.hI h.r5 (by decide)) h3 (fun _ h => h.2)) (fun _ h => h.1), Kd.R_mono (Kd.R_keep (IsS62.apart h.hI h.r6 (by decide)) h3 (fun _ h => h.2)) (fun _ h => h.1), h1, h2, KeepBut.trans h.hK h3 (.inl rfl), h.lo⟩
theorem Ms.size (h : Ms w0 w g v5 v6 xs ys s i W) : w.heap.size ≤ W.heap.size := keep_size (g := g) (row := none) h.hK
theorem Ms.below (h : Ms w0 w g v5 v6 xs ys s i W) (hb : Below W.heap.size W W') : Ms w0 w g v5 v6 xs ys s i W' := h.went (h.hI.below hb) (below_weaken h.hB (Nat.le_trans h.lo h.size) hb) (KeepBut.of_below hb g none)
theorem Ms.drewN (h : Ms w0 w g v5 v6 xs ys s i W) (m : Nat) : Ms w0 w g v5 v6 xs ys s i (W.drewN m) := h.below (pw_below_drewN (Below.refl _ _) m)
theorem Ms.drew (h : Ms w0 w g v5 v6 xs ys s i W) : Ms w0 w g v5 v6 xs ys s i W.drew := h.below (below_drew (Below.refl _ _))
theorem Ms.alloc (h : Ms w0 w g v5 v6 xs ys s i W) (o : Obj) : Ms w0 w g v5 v6 xs ys s i (W.alloc o) := h.below (below_alloc (Below.refl _ _) o)
theorem Ms.set1 (h : Ms w0 w g v5 v6 xs ys s i W) (j : Int) : Ms w0 w g v5 v6 xs ys s j (W.setCell ⟨g, 1, none⟩ (.int .i64 j)) := h.went (h.hI.set_1 j) (below_set h.hB h.hI.ge) ((KeepBut.refl W g none).set_ 1 _)
theorem Ms.app5 (h : Ms w0 w g v5 v6 xs ys s i W) {v : Value} {xs' : List S44} (ho : Kd.R k44 44 W' w.heap.size (fun _ => True) v xs') (hb : Below w.heap.size W W') (hg : W.grownBy W' v5.ownBlock) (hat : v.ownBlock = v5.ownBlock ∨ ∃ b, v.ownBlock = some b ∧ W.heap.size ≤ b) : Ms w0 w g v v6 xs' ys s i W' :=
 ⟨ho, Kd.R_mono (Kd.R_after (ok := fun _ => True) (Kd.R_mono h.r6 (fun _ hk => ⟨trivial, hk⟩)) hg hat) (fun _ hk => hk.2), h.hI.grown hg (h.hI.own_ne h.r5 (by decide)), below_weaken h.hB h.lo hb, h.hK.trans (KeepBut.of_grown hg g) (Kd.R_base2 h.r5), h.lo⟩
theorem Ms.app6 (h : Ms w0 w g v5 v6 xs ys s i W) {v : Value} {ys' : List S32} (ho : Kd.R k32 32 W' w.heap.size (fun k => some k ≠ v5.ownBlock) v ys') (hb : Below w.heap.size W W') (hg : W.grownBy W' v6.ownBlock) : Ms w0 w g v5 v xs ys' s i W' :=
 ⟨Kd.R_over' h.r5 (Kd.R_typed h.r6) (by decide) hg, ho, h.hI.grown hg (h.hI.own_ne h.r6 (by decide)), below_weaken h.hB h.lo hb, h.hK.trans (KeepBut.of_grown hg g) (Kd.R_base2 h.r6), h.lo⟩
theorem Ms.blanks (h : Ms w0 w g v5 v6 xs ys s i W) {k : Nat} (A : spec_reader_blanks.f k s i = some (s', i')) : Calls Tryz.prog 29 #[.pointer (some ⟨g, 0, none⟩)] W fun e w' => e = .returned (.tuple #[]) ∧ Ms w0 w g v5 v6 xs ys s' i' w' :=
 (spec_reader_blanks.calls k g s i s' i' w0 W h.hI h.hB A).mono fun e w' ⟨h1, h2, h3, h4⟩ => ⟨h1, h.went h2 h3 h4⟩
theorem Ms.take (h : Ms w0 w g v5 v6 xs ys s i W) {c : Int} {b : Bool} (A : spec_reader_take.f s i c = some (b, s', i')) : Calls Tryz.prog 77 #[.pointer (some ⟨g, 0, none⟩), .int .u8 c] W fun e w' => e = .returned (.bool b) ∧ Ms w0 w g v5 v6 xs ys s' i' w' :=
 (spec_reader_take.calls g s i c b s' i' w0 W h.hI h.hB A).mono fun e w' ⟨h1, h2, h3, h4⟩ => ⟨h1, h.went h2 h3 h4⟩
theorem Ms.here (h : Ms w0 w g v5 v6 xs ys s i W) {c : Int} (A : spec_reader_here.f s i = some (c, s', i')) : Calls Tryz.prog 53 #[.pointer (some ⟨g, 0, none⟩)] W fun e w' => e = .returned (.int .u8 c) ∧ Ms w0 w g v5 v6 xs ys s' i' w' :=
 (spec_reader_here.calls g s i c s' i' w0 W h.hI h.hB A).mono fun e w' ⟨h1, h2, h3, h4⟩ => ⟨h1, h.went h2 h3 h4⟩
theorem Ms.quoted (h : Ms w0 w g v5 v6 xs ys s i W) {k : Nat} {b : Bool} (A : spec_reader_quoted.f k s i = some (b, s', i')) : Calls Tryz.prog 56 #[.pointer (some ⟨g, 0, none⟩)] W fun e w' => e = .returned (.bool b) ∧ Ms w0 w g v5 v6 xs ys s' i' w' :=
 (spec_reader_quoted.calls k g s i b s' i' w0 W h.hI h.hB A).mono fun e w' ⟨h1, h2, h3, h4⟩ => ⟨h1, h.went h2 h3 h4⟩
end
def CM (k : Nat) : Prop := ∀ (g : Nat) (s : ByteArray) (i : Int) (r1 : List S44) (r2 : List S32) (r3 : Bool) (r4 : ByteArray) (r5 : Int) (w0 w : World) (hI : IsS62 w0 w g s i) (hB : Below w0.heap.size w0 w) (h : spec_reader_members.f k s i = some (r1, r2, r3, r4, r5)),
 Calls Tryz.prog 54 #[.pointer (some ⟨g, 0, none⟩)] w fun e w' => ∃ v0_ v1_ : Value, e = .returned (.tuple #[v0_, v1_, .bool r3]) ∧ Kd.R k44 44 w' w.heap.size (fun _ => True) v0_ r1 ∧ Kd.R k32 32 w' w.heap.size (fun k_ => some k_ ≠ (v0_ : Value).ownBlock) v1_ r2 ∧ IsS62 w0 w' g r4 r5 ∧ Below w0.heap.size w0 w' ∧ KeepBut w w' g none
def CE (k : Nat) : Prop := ∀ (g : Nat) (s : ByteArray) (i : Int) (r1 : List S32) (r2 : Bool) (r3 : ByteArray) (r4 : Int) (w0 w : World) (hI : IsS62 w0 w g s i) (hB : Below w0.heap.size w0 w) (h : spec_reader_elements.f k s i = some (r1, r2, r3, r4)),
 Calls Tryz.prog 55 #[.pointer (some ⟨g, 0, none⟩)] w fun e w' => ∃ v0_ : Value, e = .returned (.tuple #[v0_, .bool r2]) ∧ Kd.R k32 32 w' w.heap.size (fun _ => True) v0_ r1 ∧ IsS62 w0 w' g r3 r4 ∧ Below w0.heap.size w0 w' ∧ KeepBut w w' g none
def CV (k : Nat) : Prop := ∀ (g : Nat) (s : ByteArray) (i : Int) (r1 : Int) (r2 : Int) (r3 : Int) (r4 : List S44) (r5 : List S32) (r6 : Bool) (r7 : ByteArray) (r8 : Int) (w0 w : World) (hI : IsS62 w0 w g s i) (hB : Below w0.heap.size w0 w) (h : spec_reader_value.f k s i = some (r1, r2, r3, r4, r5, r6, r7, r8)),
 Calls Tryz.prog 30 #[.pointer (some ⟨g, 0, none⟩)] w fun e w' => ∃ v3_ v4_ : Value, e = .returned (.tuple #[.agg #[.int .i64 r1, .int .i64 r2, .int .i64 r3, v3_, v4_], .bool r6]) ∧ Kd.R k44 44 w' w.heap.size (fun _ => True) v3_ r4 ∧ Kd.R k32 32 w' w.heap.size (fun k_ => some k_ ≠ (v3_ : Value).ownBlock) v4_ r5 ∧ IsS62 w0 w' g r7 r8 ∧ Below w0.heap.size w0 w' ∧ KeepBut w w' g none
structure Vs (w0 w : World) (g : Nat) (v5 v6 : Value) (xs : List S44) (ys : List S32) (s : ByteArray) (i : Int) (v3 v4 : Value) (ns : List S44) (ks : List S32) (W : World) : Prop extends Ms w0 w g v5 v6 xs ys s i W where
 r3 : Kd.R k44 44 W w.heap.size (fun k => some k ≠ v5.ownBlock ∧ some k ≠ v6.ownBlock) v3 ns
 r4 : Kd.R k32 32 W w.heap.size (fun k => some k ≠ v5.ownBlock ∧ some k ≠ v6.ownBlock) v4 ks
theorem Vs.below {w0 w W W' : World} {g : Nat} {v5 v6 v3 v4 : Value} {xs ns : List S44} {ys ks : List S32} {s : ByteArray} {i : Int} (h : Vs w0 w g v5 v6 xs ys s i v3 v4 ns ks W) (hb : Below W.heap.size W W') : Vs w0 w g v5 v6 xs ys s i v3 v4 ns ks W' :=
 ⟨h.toMs.below hb, Kd.R_below h.r3 hb, Kd.R_below h.r4 hb⟩
theorem Vs.drewN {w0 w W : World} {g : Nat} {v5 v6 v3 v4 : Value} {xs ns : List S44} {ys ks : List S32} {s : ByteArray} {i : Int} (h : Vs w0 w g v5 v6 xs ys s i v3 v4 ns ks W) (m : Nat) : Vs w0 w g v5 v6 xs ys s i v3 v4 ns ks (W.drewN m) := h.below (pw_below_drewN (Below.refl _ _) m)
theorem Ms.value {w0 w W : World} {g : Nat} {v5 v6 : Value} {xs ns : List S44} {ys ks : List S32} {s s' : ByteArray} {i i' kd b e : Int} {ok : Bool} {k : Nat} (h : Ms w0 w g v5 v6 xs ys s i W) (hV : CV k) (A : spec_reader_value.f k s i = some (kd, b, e, ns, ks, ok, s', i')) :
 Calls Tryz.prog 30 #[.pointer (some ⟨g, 0, none⟩)] W fun r w' => ∃ v3 v4 : Value, r = .returned (.tuple #[.agg #[.int .i64 kd, .int .i64 b, .int .i64 e, v3, v4], .bool ok]) ∧ Vs w0 w g v5 v6 xs ys s' i' v3 v4 ns ks w' :=
 (hV g s i kd b e ns ks ok s' i' w0 W h.hI h.hB A).mono fun r w' ⟨v3, v4, h1, h2, h3, h4, h5, h6⟩ => ⟨v3, v4, h1, h.went h4 h5 h6,
   Kd.R_mono (Kd.R_lower (Kd.R_new' (Kd.R_new' h2 (Kd.R_lt h.r5)) (Kd.R_lt h.r6)) h.size) (fun _ hk => ⟨hk.1.2, hk.2⟩), Kd.R_mono (Kd.R_lower (Kd.R_new' (Kd.R_new' h3 (Kd.R_lt h.r5)) (Kd.R_lt h.r6)) h.size) (fun _ hk => ⟨hk.1.2, hk.2⟩)⟩
set_option maxHeartbeats 8000000 in
set_option maxRecDepth 100000 in
theorem members_step (k : Nat) (ihV : ∀ j, j < k → CV j) : CM k := by
 intro g s i r1 r2 r3 r4 r5 w0 w hI hB h
 cases k with
 | zero => exact absurd h (by simp [spec_reader_members.f])
 | succ k =>
 simp only [spec_reader_members.f] at h
 obtain ⟨⟨s1, i1⟩, A1, h⟩ := Option.bind_eq_some_iff.mp h
 obtain ⟨⟨b2, s2, i2⟩, A2, h⟩ := Option.bind_eq_some_iff.mp h
 dsimp only at h
 have c0 := cellS62_0 hI.1
 have c1 := cellS62_1 hI.1
 have f1 := blk_frozen hI.1 1
 have M0 := Aside0.mk (Ms.start hI hB)
 replace A1 := Aside0.mk A1
 replace A2 := Aside0.mk A2
 replace h := Aside0.mk h
 clear hI hB
 go_enter Tryz.func54, Tryz.ntmps54
 go_wp2_with (fail)
 refine (Ms.blanks (M0.out.set1 _) A1.out).mono ?_
 rintro e w6 ⟨rfl, M1⟩
 replace M1 := Aside0.mk M1
 clear M0
 go_wp2_with (fail)
 refine (M1.out.take A2.out).mono ?_
 rintro e w6 ⟨rfl, M2⟩
 replace M2 := Aside0.mk M2
 clear M1
 cases b2 with
 | true =>
   have h2 := h.out
   rw [if_pos rfl] at h2
   simp only [Option.some.injEq, Prod.mk.injEq] at h2
   obtain ⟨rfl, rfl, rfl, rfl, rfl⟩ := h2
   go_wp2_with (fail)
   go_ret3
   exact ⟨_, _, rfl, Kd.R_nil _ _ _ _ _, Kd.R_nil _ _ _ _ _, M2.out.hI, M2.out.hB, M2.out.hK⟩
 | false =>
   have h2 := h.out
   rw [if_neg (by decide)] at h2
   replace h2 := Aside0.mk h2
   clear h
   go_wp2_with (fail)
   go_loopg [5, 6] k (fun kq v5 v6 w' => ∃ (xs : List S44) (ys : List S32) (s3 : ByteArray) (i3 : Int), Aside0 (spec_reader_members.l0 kq xs ys s3 i3 = some (r1, r2, r3, r4, r5)) ∧ Aside0 (kq ≤ k) ∧ Aside0 (Ms w0 w g v5 v6 xs ys s3 i3 w'))
   case atStart => exact ⟨[], [], s2, i2, h2, ⟨Nat.le_refl _⟩, M2⟩
   case round =>
    clear h2 M2 c0 c1 f1 A1 A2
    obtain ⟨xs, ys, s3, i3, HA, HK1, M2⟩ := hrel
    cases gk with
    | zero => exact absurd HA.out (by simp [spec_reader_members.l0])
    | succ k1 =>
    have h0 := HA.out
    clear HA
    simp only [spec_reader_members.l0] at h0
    obtain ⟨⟨c, s4, i4⟩, A3, h1⟩ := Option.bind_eq_some_iff.mp h0
    dsimp only at h1
    clear h0
    have c1 := cellS62_1 M2.out.hI.1
    have nil3 : ∀ {W : World} {v5 v6 : Value} {xs : List S44} {ys : List S32} {s9 : ByteArray} {i9 : Int}, Ms w0 w g v5 v6 xs ys s9 i9 W → (([] : List S44), ([] : List S32), false, s9, i9) = (r1, r2, r3, r4, r5) → ∃ v0_ v1_ : Value, Ending.returned (.tuple #[.slice none 0 0, .slice none 0 0, .bool false]) = .returned (.tuple #[v0_, v1_, .bool r3]) ∧ Kd.R k44 44 W w.heap.size (fun _ => True) v0_ r1 ∧ Kd.R k32 32 W w.heap.size (fun k_ => some k_ ≠ (v0_ : Value).ownBlock) v1_ r2 ∧ IsS62 w0 W g r4 r5 ∧ Below w0.heap.size w0 W ∧ KeepBut w W g none := by
     intro W v5 v6 xs ys s9 i9 hM he
     simp only [Prod.mk.injEq] at he
     obtain ⟨rfl, rfl, rfl, rfl, rfl⟩ := he
     exact ⟨_, _, rfl, Kd.R_nil _ _ _ _ _, Kd.R_nil _ _ _ _ _, hM.hI, hM.hB, hM.hK⟩
    replace A3 := Aside0.mk A3
    by_cases hc : c = 34
    ·rw [if_pos hc] at h1
     obtain ⟨⟨bq, s5, i5⟩, A4, h2⟩ := Option.bind_eq_some_iff.mp h1
     dsimp only at h2
     clear h1
     have e1 : (c != 34) = false := bne_eq_false_iff_eq.mpr hc
     replace A4 := Aside0.mk A4
     clear hc
     cases k1 with
     | zero => exact absurd h2 (by simp [spec_reader_members.j1])
     | succ k1 =>
     simp only [spec_reader_members.j1] at h2
     replace h2 := Aside0.mk h2
     go_wp2_with (fail)
     refine (M2.out.here A3.out).mono ?_
     rintro e w6 ⟨rfl, M3⟩
     replace M3 := Aside0.mk M3
     go_wp2_with (fail)
     refine (M3.out.quoted A4.out).mono ?_
     rintro e w7 ⟨rfl, M4⟩
     replace M4 := Aside0.mk M4
     clear M2 M3 c1
     have c1 := cellS62_1 M4.out.hI.1
     cases bq with
     | false =>
       go_wp2_with (fail)
       go_ret3
       exact nil3 M4.out (by simpa using h2.out)
     | true =>
       have h3 := h2.out
       rw [if_neg (by decide)] at h3
       by_cases hl : xs.length < 8796093022208
       case neg => rw [if_neg hl] at h3; cases h3
       rw [if_pos hl, Option.bind_some] at h3
       obtain ⟨⟨s6, i6⟩, A5, h4⟩ := Option.bind_eq_some_iff.mp h3
       obtain ⟨⟨b7, s7, i7⟩, A6, h5⟩ := Option.bind_eq_some_iff.mp h4
       dsimp only at h5
       clear h2 h3 h4
       replace A5 := Aside0.mk A5
       replace A6 := Aside0.mk A6
       replace h5 := Aside0.mk h5
       replace hl := Aside0.mk hl
       go_wp2_with (first | ((with_reducible refine gate_builtin (b := .append) (xs := #[.tmp 33, .tmp 40]) rfl ?_); at_builtin; refine Kd.R_append k44 w.heap.size rfl (.tmp 33) (.tmp 40) 29 44 (.agg #[(.int .i64 0), (.int .i64 0)]) 16 rfl Tryz.underlying29 info44 rfl (by decide) (by omega) u5 xs (⟨i3, i5⟩ : S44) [.int .i64 i3, .int .i64 i5] (fun _ => True) (fun _ => False) rfl rfl (k44_mkM _ _ _ (⟨i3, i5⟩ : S44)) (fun _ hk => hk.elim) (fun _ _ => trivial) ?aO (Below.refl _ _) ?aS ?aL ?_; (case aO => exact M4.out.r5); (case aS => exact M4.out.size); (case aL => have := hl.out; omega); intro v1 w8 ho hb hg hat; have M5 := Aside0.mk (M4.out.app5 ho hb hg hat); clear ho hb hg hat M4))
       refine (M5.out.blanks A5.out).mono ?_
       rintro e w9 ⟨rfl, M6⟩
       replace M6 := Aside0.mk M6
       clear M5 c1
       go_wp2_with (fail)
       refine (M6.out.take A6.out).mono ?_
       rintro e w10 ⟨rfl, M7⟩
       replace M7 := Aside0.mk M7
       clear M6
       cases b7 with
       | false =>
         go_wp2_with (fail)
         go_ret3
         exact nil3 M7.out (by simpa using h5.out)
       | true =>
         have h6 := h5.out
         rw [if_pos rfl] at h6
         obtain ⟨⟨s8, i8⟩, A7, h7⟩ := Option.bind_eq_some_iff.mp h6
         obtain ⟨⟨kd, b, en, ns, ks, ok, s9, i9⟩, A8, h8⟩ := Option.bind_eq_some_iff.mp h7
         dsimp only at h8
         clear h5 h6 h7
         replace A7 := Aside0.mk A7
         replace A8 := Aside0.mk A8
         replace h8 := Aside0.mk h8
         go_wp2_with (fail)
         refine (M7.out.blanks A7.out).mono ?_
         rintro e w11 ⟨rfl, M8⟩
         replace M8 := Aside0.mk M8
         clear M7
         go_wp2_with (fail)
         refine (M8.out.value (ihV k1 (by have := HK1.out; omega)) A8.out).mono ?_
         rintro e w12 ⟨v3, v4, rfl, V⟩
         obtain ⟨a3, n3, c3, rfl⟩ := Kd.R_slice V.r3
         obtain ⟨a4, n4, c4, rfl⟩ := Kd.R_slice V.r4
         replace V := Aside0.mk V
         clear M8
         cases ok with
         | false =>
           go_wp2_with (fail)
           go_ret3
           exact nil3 (V.out.toMs.alloc _) (by simpa using h8.out)
         | true =>
           have h9 := h8.out
           rw [if_pos rfl] at h9
           by_cases hl2 : ys.length < 1954687338268
           case neg => rw [if_neg hl2] at h9; cases h9
           rw [if_pos hl2, Option.bind_some] at h9
           obtain ⟨⟨s10, i10⟩, A9, h10⟩ := Option.bind_eq_some_iff.mp h9
           obtain ⟨⟨b11, s11, i11⟩, A10, h11⟩ := Option.bind_eq_some_iff.mp h10
           dsimp only at h11
           clear h8 h9 h10
           replace A9 := Aside0.mk A9
           replace A10 := Aside0.mk A10
           replace h11 := Aside0.mk h11
           replace hl2 := Aside0.mk hl2
           have V2 := Aside0.mk (V.out.below (below_alloc (Below.refl _ _) (.cells #[.int .i64 kd, .int .i64 b, .int .i64 en, .slice a3 ns.length n3, .slice a4 ks.length n4] 32)))
           go_wp2_with (first | ((with_reducible refine gate_builtin (b := .append) (xs := #[.tmp 56, .tmp 58]) rfl ?_); at_builtin; refine Kd.R_append k32 w.heap.size rfl (.tmp 56) (.tmp 58) 30 32 (.agg #[(.int .i64 0), (.int .i64 0), (.int .i64 0), (.slice none 0 0), (.slice none 0 0)]) 72 rfl Tryz.underlying30 info32 rfl (by decide) (by omega) u6 ys (⟨kd, b, en, ns, ks⟩ : S32) [.int .i64 kd, .int .i64 b, .int .i64 en, .slice a3 ns.length n3, .slice a4 ks.length n4] (fun k_ => some k_ ≠ v1.ownBlock) (fun k_ => some k_ ≠ v1.ownBlock ∧ some k_ ≠ u6.ownBlock) rfl ?aX (k32_mkM _ _ _ (⟨kd, b, en, ns, ks⟩ : S32) V2.out.r3 V2.out.r4) (fun _ hk => hk) (Kd.fresh' (Kd.R_lt V2.out.r5)) V2.out.r6 (Below.refl _ _) V2.out.toMs.size ?aL ?_; (case aX => simp [Act.eval]); (case aL => have := hl2.out; omega); intro v2 w13 ho hb hg hat; have M9 := Aside0.mk (V2.out.toMs.app6 ho hb hg); clear ho hb hg hat V V2))
           refine (M9.out.blanks A9.out).mono ?_
           rintro e w14 ⟨rfl, M10⟩
           replace M10 := Aside0.mk M10
           clear M9
           go_wp2_with (fail)
           refine (M10.out.take A10.out).mono ?_
           rintro e w15 ⟨rfl, M11⟩
           replace M11 := Aside0.mk M11
           clear M10
           cases b11 with
           | true =>
             have h12 := h11.out
             rw [if_pos rfl] at h12
             simp only [Option.some.injEq, Prod.mk.injEq] at h12
             obtain ⟨rfl, rfl, rfl, rfl, rfl⟩ := h12
             go_wp2_with (fail)
             go_ret3
             exact ⟨_, _, rfl, M11.out.r5, M11.out.r6, M11.out.hI, M11.out.hB, M11.out.hK⟩
           | false =>
             have h12 := h11.out
             rw [if_neg (by decide)] at h12
             obtain ⟨⟨b12, s12, i12⟩, A11, h13⟩ := Option.bind_eq_some_iff.mp h12
             dsimp only at h13
             clear h11 h12
             replace A11 := Aside0.mk A11
             replace h13 := Aside0.mk h13
             go_wp2_with (fail)
             refine (M11.out.take A11.out).mono ?_
             rintro e w16 ⟨rfl, M12⟩
             replace M12 := Aside0.mk M12
             clear M11
             cases b12 with
             | false =>
               go_wp2_with (fail)
               go_ret3
               exact nil3 M12.out (by simpa using h13.out)
             | true =>
               have h14 := h13.out
               rw [if_pos rfl] at h14
               obtain ⟨⟨s13, i13⟩, A12, h15⟩ := Option.bind_eq_some_iff.mp h14
               dsimp only at h15
               clear h13 h14
               replace A12 := Aside0.mk A12
               replace h15 := Aside0.mk h15
               go_wp2_with (fail)
               refine (M12.out.blanks A12.out).mono ?_
               rintro e w17 ⟨rfl, M13⟩
               replace M13 := Aside0.mk M13
               clear M12
               go_wp2_with (fail)
               go_roundg k1
               case measure => have := HK1.out; omega
               case rel => exact ⟨_, _, _, _, h15, ⟨by have := HK1.out; omega⟩, M13⟩
    ·rw [if_neg hc] at h1
     have e1 : (c != 34) = true := bne_iff_ne.mpr hc
     clear hc
     cases k1 with
     | zero => exact absurd h1 (by simp [spec_reader_members.j1])
     | succ k1 =>
     simp only [spec_reader_members.j1] at h1
     replace h1 := Aside0.mk h1
     go_wp2_with (fail)
     refine (M2.out.here A3.out).mono ?_
     rintro e w6 ⟨rfl, M3⟩
     replace M3 := Aside0.mk M3
     go_wp2_with (fail)
     go_ret3
     exact nil3 M3.out (by simpa using h1.out)
set_option maxHeartbeats 8000000 in
set_option maxRecDepth 100000 in
theorem elements_step (k : Nat) (ihV : ∀ j, j < k → CV j) : CE k := by
 intro g s i r1 r2 r3 r4 w0 w hI hB h
 cases k with
 | zero => exact absurd h (by simp [spec_reader_elements.f])
 | succ k =>
 simp only [spec_reader_elements.f] at h
 obtain ⟨⟨s1, i1⟩, A1, h0⟩ := Option.bind_eq_some_iff.mp h
 obtain ⟨⟨b2, s2, i2⟩, A2, h1⟩ := Option.bind_eq_some_iff.mp h0
 dsimp only at h1
 have c0 := cellS62_0 hI.1
 have c1 := cellS62_1 hI.1
 have f1 := blk_frozen hI.1 1
 have M0 := Aside0.mk (Ms.start hI hB)
 have nil3 : ∀ {W : World} {v6 : Value} {ys : List S32} {s9 : ByteArray} {i9 : Int} {b : Bool}, Ms w0 w g (.slice none 0 0) v6 [] ys s9 i9 W → (([] : List S32), b, s9, i9) = (r1, r2, r3, r4) → ∃ v0_ : Value, Ending.returned (.tuple #[.slice none 0 0, .bool b]) = .returned (.tuple #[v0_, .bool r2]) ∧ Kd.R k32 32 W w.heap.size (fun _ => True) v0_ r1 ∧ IsS62 w0 W g r3 r4 ∧ Below w0.heap.size w0 W ∧ KeepBut w W g none := by
  intro W v6 ys s9 i9 b hM he
  simp only [Prod.mk.injEq] at he
  obtain ⟨rfl, rfl, rfl, rfl⟩ := he
  exact ⟨_, rfl, Kd.R_nil _ _ _ _ _, hM.hI, hM.hB, hM.hK⟩
 replace A1 := Aside0.mk A1
 replace A2 := Aside0.mk A2
 replace h1 := Aside0.mk h1
 clear hI hB h h0
 go_enter Tryz.func55, Tryz.ntmps55
 go_wp2_with (fail)
 refine (Ms.blanks (M0.out.set1 _) A1.out).mono ?_
 rintro e w6 ⟨rfl, M1⟩
 replace M1 := Aside0.mk M1
 clear M0
 go_wp2_with (fail)
 refine (M1.out.take A2.out).mono ?_
 rintro e w6 ⟨rfl, M2⟩
 replace M2 := Aside0.mk M2
 clear M1
 cases b2 with
 | true =>
   go_wp2_with (fail)
   go_ret2
   exact nil3 M2.out (by simpa using h1.out)
 | false =>
   have h2 := h1.out
   rw [if_neg (by decide)] at h2
   replace h2 := Aside0.mk h2
   clear h1
   go_wp2_with (fail)
   go_loopg [4] k (fun kq v6 w' => ∃ (ys : List S32) (s3 : ByteArray) (i3 : Int), Aside0 (spec_reader_elements.l0 kq ys s3 i3 = some (r1, r2, r3, r4)) ∧ Aside0 (kq ≤ k) ∧ Aside0 (Ms w0 w g (.slice none 0 0) v6 [] ys s3 i3 w'))
   case atStart => exact ⟨[], s2, i2, h2, ⟨Nat.le_refl _⟩, M2⟩
   case round =>
    clear h2 M2 c0 c1 f1 A1 A2
    obtain ⟨ys, s3, i3, HA, HK1, M2⟩ := hrel
    cases gk with
    | zero => exact absurd HA.out (by simp [spec_reader_elements.l0])
    | succ k1 =>
    have h0 := HA.out
    clear HA
    simp only [spec_reader_elements.l0] at h0
    obtain ⟨⟨kd, b, en, ns, ks, ok, s9, i9⟩, A8, h8⟩ := Option.bind_eq_some_iff.mp h0
    dsimp only at h8
    clear h0
    replace A8 := Aside0.mk A8
    replace h8 := Aside0.mk h8
    go_wp2_with (fail)
    refine (M2.out.value (ihV k1 (by have := HK1.out; omega)) A8.out).mono ?_
    rintro e w12 ⟨v3, v4, rfl, V⟩
    obtain ⟨a3, n3, rfl⟩ := Kd.R_slice V.r3
    obtain ⟨a4, n4, rfl⟩ := Kd.R_slice V.r4
    replace V := Aside0.mk V
    clear M2
    cases ok with
    | false =>
      go_wp2_with (fail)
      go_ret2
      exact nil3 (V.out.toMs.alloc _) (by simpa using h8.out)
    | true =>
      have h9 := h8.out
      rw [if_pos rfl] at h9
      by_cases hl2 : ys.length < 1954687338268
      case neg => rw [if_neg hl2] at h9; cases h9
      rw [if_pos hl2, Option.bind_some] at h9
      obtain ⟨⟨s10, i10⟩, A9, h10⟩ := Option.bind_eq_some_iff.mp h9
      obtain ⟨⟨b11, s11, i11⟩, A10, h11⟩ := Option.bind_eq_some_iff.mp h10
      dsimp only at h11
      clear h8 h9 h10
      replace A9 := Aside0.mk A9
      replace A10 := Aside0.mk A10
      replace h11 := Aside0.mk h11
      replace hl2 := Aside0.mk hl2
      have V2 := Aside0.mk (V.out.below (below_alloc (Below.refl _ _) (.cells #[.int .i64 kd, .int .i64 b, .int .i64 en, .slice a3 ns.length n3, .slice a4 ks.length n4] 32)))
      go_wp2_with (first | ((with_reducible refine gate_builtin (b := .append) (xs := #[.tmp 25, .tmp 27]) rfl ?_); at_builtin; refine Kd.R_append k32 w.heap.size rfl (.tmp 25) (.tmp 27) 30 32 (.agg #[(.int .i64 0), (.int .i64 0), (.int .i64 0), (.slice none 0 0), (.slice none 0 0)]) 72 rfl Tryz.underlying30 info32 rfl (by decide) (by omega) u4 ys (⟨kd, b, en, ns, ks⟩ : S32) [.int .i64 kd, .int .i64 b, .int .i64 en, .slice a3 ns.length n3, .slice a4 ks.length n4] (fun k_ => some k_ ≠ (Value.slice none 0 0).ownBlock) (fun k_ => some k_ ≠ (Value.slice none 0 0).ownBlock ∧ some k_ ≠ u4.ownBlock) rfl ?aX (k32_mkM _ _ _ (⟨kd, b, en, ns, ks⟩ : S32) V2.out.r3 V2.out.r4) (fun _ hk => hk) (Kd.fresh' (Kd.R_lt V2.out.r5)) V2.out.r6 (Below.refl _ _) V2.out.toMs.size ?aL ?_; (case aX => simp [Act.eval]); (case aL => have := hl2.out; omega); intro v2 w13 ho hb hg hat; have M9 := Aside0.mk (V2.out.toMs.app6 ho hb hg); clear ho hb hg hat V V2))
      refine (M9.out.blanks A9.out).mono ?_
      rintro e w14 ⟨rfl, M10⟩
      replace M10 := Aside0.mk M10
      clear M9
      go_wp2_with (fail)
      refine (M10.out.take A10.out).mono ?_
      rintro e w15 ⟨rfl, M11⟩
      replace M11 := Aside0.mk M11
      clear M10
      cases b11 with
      | true =>
        have h12 := h11.out
        rw [if_pos rfl] at h12
        simp only [Option.some.injEq, Prod.mk.injEq] at h12
        obtain ⟨rfl, rfl, rfl, rfl⟩ := h12
        go_wp2_with (fail)
        go_ret2
        exact ⟨_, rfl, Kd.R_mono M11.out.r6 (fun _ _ => trivial), M11.out.hI, M11.out.hB, M11.out.hK⟩
      | false =>
        have h12 := h11.out
        rw [if_neg (by decide)] at h12
        obtain ⟨⟨b12, s12, i12⟩, A11, h13⟩ := Option.bind_eq_some_iff.mp h12
        dsimp only at h13
        clear h11 h12
        replace A11 := Aside0.mk A11
        replace h13 := Aside0.mk h13
        go_wp2_with (fail)
        refine (M11.out.take A11.out).mono ?_
        rintro e w16 ⟨rfl, M12⟩
        replace M12 := Aside0.mk M12
        clear M11
        cases b12 with
        | false =>
          go_wp2_with (fail)
          go_ret2
          exact nil3 M12.out (by simpa using h13.out)
        | true =>
          have h14 := h13.out
          rw [if_pos rfl] at h14
          obtain ⟨⟨s13, i13⟩, A12, h15⟩ := Option.bind_eq_some_iff.mp h14
          dsimp only at h15
          clear h13 h14
          replace A12 := Aside0.mk A12
          replace h15 := Aside0.mk h15
          go_wp2_with (fail)
          refine (M12.out.blanks A12.out).mono ?_
          rintro e w17 ⟨rfl, M13⟩
          replace M13 := Aside0.mk M13
          clear M12
          go_wp2_with (fail)
          go_roundg k1
          case measure => have := HK1.out; omega
          case rel => exact ⟨_, _, _, h15, ⟨by have := HK1.out; omega⟩, M13⟩
structure Ps (w0 w : World) (g : Nat) (s : ByteArray) (i kd b : Int) (v3 v4 : Value) (ns : List S44) (ks : List S32) (W : World) : Prop where
 b2 : W.heap[w.heap.size]? = some (.cells #[.int .i64 0, .int .i64 0, .int .i64 0, .slice none 0 0, .slice none 0 0] 32 (0, 0))
 b4 : W.heap[w.heap.size + 1]? = some (.cells #[.int .i64 kd, .int .i64 b, .int .i64 0, v3, v4] 32 (0, 0))
 r3 : Kd.R k44 44 W (w.heap.size + 2) (fun _ => True) v3 ns
 r4 : Kd.R k32 32 W (w.heap.size + 2) (fun k => some k ≠ v3.ownBlock) v4 ks
 hI : IsS62 w0 W g s i
 hB : Below w0.heap.size w0 W
 hK : KeepBut w W g none
 lo : w0.heap.size ≤ w.heap.size
section
variable {w0 w W W' : World} {g : Nat} {v3 v4 : Value} {ns : List S44} {ks : List S32} {s s' : ByteArray} {i i' kd b : Int}
theorem Ps.start (hI : IsS62 w0 w g s i) (hB : Below w0.heap.size w0 w) : Ps w0 w g s i 0 i (.slice none 0 0) (.slice none 0 0) [] [] ((w.alloc (.cells #[.int .i64 0, .int .i64 0, .int .i64 0, .slice none 0 0, .slice none 0 0] 32)).alloc (.cells #[.int .i64 0, .int .i64 i, .int .i64 0, .slice none 0 0, .slice none 0 0] 32)) := by
 refine ⟨blk_alloc (blk_new w _) _, ?_, Kd.R_nil _ _ _ _ _, Kd.R_nil _ _ _ _ _, (hI.alloc _).alloc _, below_alloc (below_alloc hB _) _, keep_alloc (keep_alloc (KeepBut.refl _ _ _) _) _, hB.size⟩
 have := blk_new (w.alloc (.cells #[.int .i64 0, .int .i64 0, .int .i64 0, .slice none 0 0, .slice none 0 0] 32)) (.cells #[.int .i64 0, .int .i64 i, .int .i64 0, .slice none 0 0, .slice none 0 0] 32)
 simpa using this
theorem Ps.went (h : Ps w0 w g s i kd b v3 v4 ns ks W) (h1 : IsS62 w0 W' g s' i') (h2 : Below w0.heap.size w0 W') (h3 : KeepBut W W' g none) : Ps w0 w g s' i' kd b v3 v4 ns ks W' :=
 ⟨h3.blk h.b2 (h.hI.ne_blk h.b2 (by decide)).symm (by simp), h3.blk h.b4 (h.hI.ne_blk h.b4 (by decide)).symm (by simp), Kd.R_mono (Kd.R_keep (IsS62.apart h.hI h.r3 (by decide)) h3 (fun _ h => h.2)) (fun _ h => h.1), Kd.R_mono (Kd.R_keep (IsS62.apart h.hI h.r4 (by decide)) h3 (fun _ h => h.2)) (fun _ h => h.1), h1, h2, KeepBut.trans h.hK h3 (.inl rfl), h.lo⟩
theorem Ps.drewN (h : Ps w0 w g s i kd b v3 v4 ns ks W) (m : Nat) : Ps w0 w g s i kd b v3 v4 ns ks (W.drewN m) := h.went (h.hI.drewN m) (pw_below_drewN h.hB m) (keep_drewN (KeepBut.refl W g none) m)
theorem R_hi {α : Type} {d : Kd α} {e base : Nat} {ok : Nat → Prop} {v : Value} {xs : List α} (h : d.R e W base ok v xs) {p : Addr} (hp : p.block < base) (u : Value) : d.R e (W.setCell p u) base ok v xs := Kd.R_mono (Kd.R_far (Kd.R_bound h) (fun k hk e => by have := hk.2.1; omega) u) (fun _ h => h.1)
theorem Ps.kind (h : Ps w0 w g s i kd b v3 v4 ns ks W) (kd' : Int) : Ps w0 w g s i kd' b v3 v4 ns ks (W.setCell ⟨w.heap.size + 1, 0, none⟩ (.int .i64 kd')) :=
 ⟨blk_far h.b2 (by simp) _, blk_put h.b4 0 _ rfl, R_hi h.r3 (by simp) _, R_hi h.r4 (by simp) _, h.hI.far (h.hI.ne_blk h.b4 (by decide)) _, below_set h.hB (by have := h.lo; show w0.heap.size ≤ w.heap.size + 1; omega), keep_far h.hK (by simp) _, h.lo⟩
theorem Ps.put4 (h : Ps w0 w g s i kd b v3 (.slice none 0 0) ns [] W) (r4 : Kd.R k32 32 W (w.heap.size + 2) (fun k => some k ≠ v3.ownBlock) v4 ks) : Ps w0 w g s i kd b v3 v4 ns ks (W.setCell ⟨w.heap.size + 1, 4, none⟩ v4) :=
 ⟨blk_far h.b2 (by simp) _, blk_put h.b4 4 _ rfl, R_hi h.r3 (by simp) _, R_hi r4 (by simp) _, h.hI.far (h.hI.ne_blk h.b4 (by decide)) _, below_set h.hB (by have := h.lo; show w0.heap.size ≤ w.heap.size + 1; omega), keep_far h.hK (by simp) _, h.lo⟩
theorem Ps.put3 (h : Ps w0 w g s i kd b (.slice none 0 0) (.slice none 0 0) [] [] W) (r3 : Kd.R k44 44 W (w.heap.size + 2) (fun _ => True) v3 ns) : Ps w0 w g s i kd b v3 (.slice none 0 0) ns [] (W.setCell ⟨w.heap.size + 1, 3, none⟩ v3) :=
 ⟨blk_far h.b2 (by simp) _, blk_put h.b4 3 _ rfl, R_hi r3 (by simp) _, Kd.R_nil _ _ _ _ _, h.hI.far (h.hI.ne_blk h.b4 (by decide)) _, below_set h.hB (by have := h.lo; show w0.heap.size ≤ w.heap.size + 1; omega), keep_far h.hK (by simp) _, h.lo⟩
theorem Ps.here (h : Ps w0 w g s i kd b v3 v4 ns ks W) {c : Int} (A : spec_reader_here.f s i = some (c, s', i')) : Calls Tryz.prog 53 #[.pointer (some ⟨g, 0, none⟩)] W fun e w' => e = .returned (.int .u8 c) ∧ Ps w0 w g s' i' kd b v3 v4 ns ks w' :=
 (spec_reader_here.calls g s i c s' i' w0 W h.hI h.hB A).mono fun e w' ⟨h1, h2, h3, h4⟩ => ⟨h1, h.went h2 h3 h4⟩
theorem Ps.quoted (h : Ps w0 w g s i kd b v3 v4 ns ks W) {k : Nat} {o : Bool} (A : spec_reader_quoted.f k s i = some (o, s', i')) : Calls Tryz.prog 56 #[.pointer (some ⟨g, 0, none⟩)] W fun e w' => e = .returned (.bool o) ∧ Ps w0 w g s' i' kd b v3 v4 ns ks w' :=
 (spec_reader_quoted.calls k g s i o s' i' w0 W h.hI h.hB A).mono fun e w' ⟨h1, h2, h3, h4⟩ => ⟨h1, h.went h2 h3 h4⟩
theorem Ps.number (h : Ps w0 w g s i kd b v3 v4 ns ks W) {k : Nat} {o : Bool} (A : spec_reader_number.f k s i = some (o, s', i')) : Calls Tryz.prog 57 #[.pointer (some ⟨g, 0, none⟩)] W fun e w' => e = .returned (.bool o) ∧ Ps w0 w g s' i' kd b v3 v4 ns ks w' :=
 (spec_reader_number.calls k g s i o s' i' w0 W h.hI h.hB A).mono fun e w' ⟨h1, h2, h3, h4⟩ => ⟨h1, h.went h2 h3 h4⟩
theorem Ps.word (h : Ps w0 w g s i kd b v3 v4 ns ks W) {t : ByteArray} {o : Bool} (A : spec_reader_word.f s i t = some (o, s', i')) : Calls Tryz.prog 58 #[.pointer (some ⟨g, 0, none⟩), .string t] W fun e w' => e = .returned (.bool o) ∧ Ps w0 w g s' i' kd b v3 v4 ns ks w' :=
 (spec_reader_word.calls g s i t o s' i' w0 W h.hI h.hB A).mono fun e w' ⟨h1, h2, h3, h4⟩ => ⟨h1, h.went h2 h3 h4⟩
theorem Ps.members (h : Ps w0 w g s i kd b (.slice none 0 0) (.slice none 0 0) [] [] W) {k : Nat} {o : Bool} (hM : CM k) (A : spec_reader_members.f k s i = some (ns, ks, o, s', i')) : Calls Tryz.prog 54 #[.pointer (some ⟨g, 0, none⟩)] W fun e w' => ∃ v3 v4 : Value, e = .returned (.tuple #[v3, v4, .bool o]) ∧ Ps w0 w g s' i' kd b v3 v4 ns ks ((w'.setCell ⟨w.heap.size + 1, 3, none⟩ v3).setCell ⟨w.heap.size + 1, 4, none⟩ v4) ∧ Ps w0 w g s' i' kd b (.slice none 0 0) (.slice none 0 0) [] [] w' ∧ (∃ a c, v3 = .slice a ns.length c) ∧ ∃ a c, v4 = .slice a ks.length c :=
 (hM g s i ns ks o s' i' w0 W h.hI h.hB A).mono fun e w' ⟨v3, v4, h1, h2, h3, h4, h5, h6⟩ => by
   have hb := blk_lt h.b4
   have h7 := h.went h4 h5 h6
   refine ⟨v3, v4, h1, ?_, h7, Kd.R_slice h2, Kd.R_slice h3⟩
   exact (h7.put3 (Kd.R_lower h2 hb)).put4 (R_hi (Kd.R_lower h3 hb) (by simp) _)
theorem Ps.elements (h : Ps w0 w g s i kd b (.slice none 0 0) (.slice none 0 0) [] [] W) {k : Nat} {o : Bool} (hM : CE k) (A : spec_reader_elements.f k s i = some (ks, o, s', i')) : Calls Tryz.prog 55 #[.pointer (some ⟨g, 0, none⟩)] W fun e w' => ∃ v4 : Value, e = .returned (.tuple #[v4, .bool o]) ∧ Ps w0 w g s' i' kd b (.slice none 0 0) v4 [] ks (w'.setCell ⟨w.heap.size + 1, 4, none⟩ v4) ∧ Ps w0 w g s' i' kd b (.slice none 0 0) (.slice none 0 0) [] [] w' ∧ ∃ a c, v4 = .slice a ks.length c :=
 (hM g s i ks o s' i' w0 W h.hI h.hB A).mono fun e w' ⟨v4, h1, h3, h4, h5, h6⟩ => by
   have hb := blk_lt h.b4
   have h7 := h.went h4 h5 h6
   refine ⟨v4, h1, ?_, h7, Kd.R_slice h3⟩
   exact h7.put4 (Kd.R_mono (Kd.R_lower h3 hb) (fun _ _ => by simp [Value.ownBlock]))
end
structure Pe (w0 w : World) (g : Nat) (s : ByteArray) (i kd b e : Int) (v3 v4 : Value) (ns : List S44) (ks : List S32) (W : World) : Prop where
 b2 : W.heap[w.heap.size]? = some (.cells #[.int .i64 kd, .int .i64 b, .int .i64 e, v3, v4] 32 (0, 0))
 r3 : Kd.R k44 44 W w.heap.size (fun _ => True) v3 ns
 r4 : Kd.R k32 32 W w.heap.size (fun k => some k ≠ v3.ownBlock) v4 ks
 hI : IsS62 w0 W g s i
 hB : Below w0.heap.size w0 W
 hK : KeepBut w W g none
section
variable {w0 w W : World} {g : Nat} {v3 v4 : Value} {ns : List S44} {ks : List S32} {s : ByteArray} {i kd b : Int}
theorem Ps.last (h : Ps w0 w g s i kd b v3 v4 ns ks W) (e : Int) : Pe w0 w g s i kd b e v3 v4 ns ks ((((((W.setCell ⟨w.heap.size + 1, 2, none⟩ (.int .i64 e)).setCell ⟨w.heap.size, 0, none⟩ (.int .i64 kd)).setCell ⟨w.heap.size, 1, none⟩ (.int .i64 b)).setCell ⟨w.heap.size, 2, none⟩ (.int .i64 e)).setCell ⟨w.heap.size, 3, none⟩ v3).setCell ⟨w.heap.size, 4, none⟩ v4) := by
 have hg2 := h.hI.ne_blk h.b2 (by decide)
 have hg4 := h.hI.ne_blk h.b4 (by decide)
 have hlo := h.lo
 refine ⟨?_, ?_, ?_, ?_, ?_, ?_⟩
 ·exact blk_put (blk_put (blk_put (blk_put (blk_put (blk_far h.b2 (by simp) _) 0 _ rfl) 1 _ rfl) 2 _ rfl) 3 _ rfl) 4 _ rfl
 ·exact Kd.R_lower (R_hi (R_hi (R_hi (R_hi (R_hi (R_hi h.r3 (by simp) _) (by simp) _) (by simp) _) (by simp) _) (by simp) _) (by simp) _) (by omega)
 ·exact Kd.R_lower (R_hi (R_hi (R_hi (R_hi (R_hi (R_hi h.r4 (by simp) _) (by simp) _) (by simp) _) (by simp) _) (by simp) _) (by simp) _) (by omega)
 ·exact (((((h.hI.far hg4 _).far hg2 _).far hg2 _).far hg2 _).far hg2 _).far hg2 _
 ·have h4 : w0.heap.size ≤ w.heap.size + 1 := by omega
  exact below_set (below_set (below_set (below_set (below_set (below_set h.hB h4) hlo) hlo) hlo) hlo) hlo
 ·have hl := Nat.le_refl w.heap.size
  exact keep_far (keep_far (keep_far (keep_far (keep_far (keep_far h.hK (by simp) _) hl _) hl _) hl _) hl _) hl _
theorem Ps.cells (h : Ps w0 w g s i kd b v3 v4 ns ks W) : W.cell? ⟨g, 1, none⟩ = some (.int .i64 i) ∧ (W.cell? ⟨w.heap.size + 1, 0, none⟩ = some (.int .i64 kd) ∧ W.cell? ⟨w.heap.size + 1, 1, none⟩ = some (.int .i64 b) ∧ W.cell? ⟨w.heap.size + 1, 2, none⟩ = some (.int .i64 0) ∧ W.cell? ⟨w.heap.size + 1, 3, none⟩ = some v3 ∧ W.cell? ⟨w.heap.size + 1, 4, none⟩ = some v4) ∧
 (W.cell? ⟨w.heap.size, 0, none⟩ = some (.int .i64 0) ∧ W.cell? ⟨w.heap.size, 1, none⟩ = some (.int .i64 0) ∧ W.cell? ⟨w.heap.size, 2, none⟩ = some (.int .i64 0) ∧ W.cell? ⟨w.heap.size, 3, none⟩ = some (.slice none 0 0) ∧ W.cell? ⟨w.heap.size, 4, none⟩ = some (.slice none 0 0)) ∧
 (W.frozen? ⟨w.heap.size + 1, 0, none⟩ = false ∧ W.frozen? ⟨w.heap.size + 1, 2, none⟩ = false ∧ W.frozen? ⟨w.heap.size + 1, 3, none⟩ = false ∧ W.frozen? ⟨w.heap.size + 1, 4, none⟩ = false) ∧ W.frozen? ⟨w.heap.size, 0, none⟩ = false ∧ W.frozen? ⟨w.heap.size, 1, none⟩ = false ∧ W.frozen? ⟨w.heap.size, 2, none⟩ = false ∧ W.frozen? ⟨w.heap.size, 3, none⟩ = false ∧ W.frozen? ⟨w.heap.size, 4, none⟩ = false := by
 refine ⟨cellS62_1 h.hI.1, ⟨(blk_cell h.b4 0).trans rfl, (blk_cell h.b4 1).trans rfl, (blk_cell h.b4 2).trans rfl, (blk_cell h.b4 3).trans rfl, (blk_cell h.b4 4).trans rfl⟩, ⟨(blk_cell h.b2 0).trans rfl, (blk_cell h.b2 1).trans rfl, (blk_cell h.b2 2).trans rfl, (blk_cell h.b2 3).trans rfl, (blk_cell h.b2 4).trans rfl⟩, ⟨blk_frozen h.b4 0, blk_frozen h.b4 2, blk_frozen h.b4 3, blk_frozen h.b4 4⟩, blk_frozen h.b2 0, blk_frozen h.b2 1, blk_frozen h.b2 2, blk_frozen h.b2 3, blk_frozen h.b2 4⟩
theorem Pe.post {e : Int} {o : Bool} {tmps : Array Value} (h : Pe w0 w g s i kd b e v3 v4 ns ks W) (hp : tmps.getD 2 undef = .pointer (some ⟨w.heap.size, 0, none⟩)) (ho : tmps.getD 3 undef = .bool o) :
 bodyPost Tryz.prog Tryz.f30 (fun x w' => ∃ v3_ v4_ : Value, x = .returned (.tuple #[.agg #[.int .i64 kd, .int .i64 b, .int .i64 e, v3_, v4_], .bool o]) ∧ Kd.R k44 44 w' w.heap.size (fun _ => True) v3_ ns ∧ Kd.R k32 32 w' w.heap.size (fun k_ => some k_ ≠ (v3_ : Value).ownBlock) v4_ ks ∧ IsS62 w0 w' g s i ∧ Below w0.heap.size w0 w' ∧ KeepBut w w' g none) .ret { tmps := tmps, defers := [] } W := by
 refine bodyPost_ret (results_ct rfl _ _ w.heap.size 32 #[.int .i64 kd, .int .i64 b, .int .i64 e, v3, v4] (0, 0) _ hp h.b2 Tryz.underlying32 rfl (by kernel_rfl)) rfl ?_
 exact ⟨v3, v4, by rw [ho], h.r3, h.r4, h.hI, h.hB, h.hK⟩
end
set_option maxHeartbeats 8000000 in
set_option maxRecDepth 100000 in
theorem value_step (k : Nat) (ihM : ∀ j, j < k → CM j) (ihE : ∀ j, j < k → CE j) : CV k := by
 intro g s i r1 r2 r3 r4 r5 r6 r7 r8 w0 w hI hB h
 cases k with
 | zero => exact absurd h (by simp [spec_reader_value.f])
 | succ k =>
 simp only [spec_reader_value.f] at h
 obtain ⟨⟨c, s1, i1⟩, A1, h0⟩ := Option.bind_eq_some_iff.mp h
 dsimp only at h0
 have c1 := cellS62_1 (hI.alloc (.cells #[.int .i64 0, .int .i64 0, .int .i64 0, .slice none 0 0, .slice none 0 0] 32)).1
 replace A1 := Aside0.mk A1
 replace h0 := Aside0.mk h0
 have P0 := Aside0.mk (Ps.start hI hB)
 clear h hI hB
 go_enter Tryz.func30, Tryz.ntmps30
 go_wp2_with (fail)
 refine (P0.out.here A1.out).mono ?_
 rintro e w6 ⟨rfl, P1⟩
 clear c1 P0
 have d0 := (blk_cell P1.b4 0).trans rfl
 have e0 := blk_frozen P1.b4 0
 replace P1 := Aside0.mk P1
 have h1 := h0.out
 clear h0
 by_cases hc : c = 123
 ·rw [if_pos hc] at h1
  obtain ⟨⟨ns, ks, o, s2, i2⟩, A2, h2⟩ := Option.bind_eq_some_iff.mp h1
  simp only [Option.some.injEq, Prod.mk.injEq] at h2
  obtain ⟨rfl, rfl, rfl, rfl, rfl, rfl, rfl, rfl⟩ := h2
  clear h1
  have b1 : (c == 123) = true := beq_iff_eq.mpr hc
  clear hc
  replace A2 := Aside0.mk A2
  go_wp2_with (fail)
  refine ((P1.out.kind 6).members (ihM k (by omega)) A2.out).mono ?_
  rintro e w7 ⟨v3, v4, rfl, P3, P2, ⟨a3, n3, rfl⟩, ⟨a4, n4, rfl⟩⟩
  clear d0 e0
  obtain ⟨c1, ⟨d0, d1, d2, d3, d4⟩, ⟨x0, x1, x2, x3, x4⟩, ⟨e0, e2, e3, e4⟩, k0, k1, k2, k3, k4⟩ := P2.cells
  replace P3 := Aside0.mk P3
  clear P2
  go_wp2_with (fail)
  exact (P3.out.last _).post rfl rfl
 rw [if_neg hc] at h1
 have b1 : (c == 123) = false := beq_eq_false_iff_ne.mpr hc
 clear hc
 by_cases hc : c = 91
 ·rw [if_pos hc] at h1
  obtain ⟨⟨ks, o, s2, i2⟩, A2, h2⟩ := Option.bind_eq_some_iff.mp h1
  simp only [Option.some.injEq, Prod.mk.injEq] at h2
  obtain ⟨rfl, rfl, rfl, rfl, rfl, rfl, rfl, rfl⟩ := h2
  clear h1
  have b2 : (c == 91) = true := beq_iff_eq.mpr hc
  clear hc
  replace A2 := Aside0.mk A2
  go_wp2_with (fail)
  refine ((P1.out.kind 5).elements (ihE k (by omega)) A2.out).mono ?_
  rintro e w7 ⟨v4, rfl, P3, P2, ⟨a4, n4, rfl⟩⟩
  clear d0 e0
  obtain ⟨c1, ⟨d0, d1, d2, d3, d4⟩, ⟨x0, x1, x2, x3, x4⟩, ⟨e0, e2, e3, e4⟩, k0, k1, k2, k3, k4⟩ := P2.cells
  replace P3 := Aside0.mk P3
  clear P2
  go_wp2_with (fail)
  exact (P3.out.last _).post rfl rfl
 rw [if_neg hc] at h1
 have b2 : (c == 91) = false := beq_eq_false_iff_ne.mpr hc
 clear hc
 by_cases hc : c = 34
 ·rw [if_pos hc] at h1
  obtain ⟨⟨o, s2, i2⟩, A2, h2⟩ := Option.bind_eq_some_iff.mp h1
  simp only [Option.some.injEq, Prod.mk.injEq] at h2
  obtain ⟨rfl, rfl, rfl, rfl, rfl, rfl, rfl, rfl⟩ := h2
  clear h1
  have b3 : (c == 34) = true := beq_iff_eq.mpr hc
  clear hc
  replace A2 := Aside0.mk A2
  go_wp2_with (fail)
  refine ((P1.out.kind 4).quoted A2.out).mono ?_
  rintro e w7 ⟨rfl, P2⟩
  clear d0 e0
  obtain ⟨c1, ⟨d0, d1, d2, d3, d4⟩, ⟨x0, x1, x2, x3, x4⟩, ⟨e0, e2, e3, e4⟩, k0, k1, k2, k3, k4⟩ := P2.cells
  replace P2 := Aside0.mk P2
  go_wp2_with (fail)
  exact (P2.out.last _).post rfl rfl
 rw [if_neg hc] at h1
 have b3 : (c == 34) = false := beq_eq_false_iff_ne.mpr hc
 clear hc
 have key : (((c == 45) = true ∨ (c == 45) = false ∧ decide (48 ≤ c) = true ∧ decide (c ≤ 57) = true) ∧ spec_reader_value.j0 k true true s1 i1 0 i 0 = some (r1, r2, r3, r4, r5, r6, r7, r8)) ∨
  (((c == 45) = false ∧ decide (48 ≤ c) = true ∧ decide (c ≤ 57) = false ∨ (c == 45) = false ∧ decide (48 ≤ c) = false) ∧ spec_reader_value.j0 k true false s1 i1 0 i 0 = some (r1, r2, r3, r4, r5, r6, r7, r8)) := by
  by_cases h45 : c = 45
  ·rw [if_pos h45] at h1
   exact .inl ⟨.inl (beq_iff_eq.mpr h45), h1⟩
  rw [if_neg h45] at h1
  have b4 : (c == 45) = false := beq_eq_false_iff_ne.mpr h45
  by_cases h48 : 48 ≤ c
  ·rw [if_pos h48] at h1
   by_cases h57 : c ≤ 57
   ·rw [decide_eq_true h57] at h1
    exact .inl ⟨.inr ⟨b4, decide_eq_true h48, decide_eq_true h57⟩, h1⟩
   ·rw [decide_eq_false h57] at h1
    exact .inr ⟨.inl ⟨b4, decide_eq_true h48, decide_eq_false h57⟩, h1⟩
  ·rw [if_neg h48] at h1
   exact .inr ⟨.inr ⟨b4, decide_eq_false h48⟩, h1⟩
 clear h1
 rcases key with ⟨K, h1⟩ | ⟨K, h1⟩
 ·cases k with
  | zero => exact absurd h1 (by simp [spec_reader_value.j0])
  | succ k =>
  simp only [spec_reader_value.j0] at h1
  rw [if_pos trivial] at h1
  obtain ⟨⟨o, s2, i2⟩, A2, h2⟩ := Option.bind_eq_some_iff.mp h1
  simp only [Option.some.injEq, Prod.mk.injEq] at h2
  obtain ⟨rfl, rfl, rfl, rfl, rfl, rfl, rfl, rfl⟩ := h2
  clear h1
  replace A2 := Aside0.mk A2
  rcases K with b4 | ⟨b4, b5, b6⟩
  all_goals
   go_wp2_with (fail)
   refine ((P1.out.kind 3).number A2.out).mono ?_
   rintro e w7 ⟨rfl, P2⟩
   clear d0 e0
   obtain ⟨c1, ⟨d0, d1, d2, d3, d4⟩, ⟨x0, x1, x2, x3, x4⟩, ⟨e0, e2, e3, e4⟩, k0, k1, k2, k3, k4⟩ := P2.cells
   replace P2 := Aside0.mk P2
   go_wp2_with (fail)
   exact (P2.out.last _).post rfl rfl
 ·cases k with
  | zero => exact absurd h1 (by simp [spec_reader_value.j0])
  | succ k =>
  simp only [spec_reader_value.j0] at h1
  rw [if_neg (by decide)] at h1
  obtain ⟨⟨o, s2, i2⟩, A2, h2⟩ := Option.bind_eq_some_iff.mp h1
  dsimp only at h2
  clear h1 d0 e0
  replace A2 := Aside0.mk A2
  replace h2 := Aside0.mk h2
  rcases K with ⟨b4, b5, b6⟩ | ⟨b4, b5⟩
  all_goals
   go_wp2_with (fail)
   refine (P1.out.word A2.out).mono ?_
   rintro e w7 ⟨rfl, P2⟩
   obtain ⟨c1, ⟨d0, d1, d2, d3, d4⟩, ⟨x0, x1, x2, x3, x4⟩, ⟨e0, e2, e3, e4⟩, k0, k1, k2, k3, k4⟩ := P2.cells
   replace P2 := Aside0.mk P2
   cases o with
   | true =>
     have h3 := h2.out
     rw [if_pos rfl] at h3
     simp only [Option.some.injEq, Prod.mk.injEq] at h3
     obtain ⟨rfl, rfl, rfl, rfl, rfl, rfl, rfl, rfl⟩ := h3
     go_wp2_with (fail)
     exact ((P2.out.kind 0).last _).post rfl rfl
   | false =>
   have h3 := h2.out
   rw [if_neg (by decide)] at h3
   obtain ⟨⟨o, s3, i3⟩, A3, h4⟩ := Option.bind_eq_some_iff.mp h3
   dsimp only at h4
   clear h2 h3
   replace A3 := Aside0.mk A3
   replace h4 := Aside0.mk h4
   go_wp2_with (fail)
   refine (P2.out.word A3.out).mono ?_
   rintro e w8 ⟨rfl, P3⟩
   clear c1 d0 d1 d2 d3 d4 x0 x1 x2 x3 x4 e0 e2 e3 e4 k0 k1 k2 k3 k4 P2
   obtain ⟨c1, ⟨d0, d1, d2, d3, d4⟩, ⟨x0, x1, x2, x3, x4⟩, ⟨e0, e2, e3, e4⟩, k0, k1, k2, k3, k4⟩ := P3.cells
   replace P3 := Aside0.mk P3
   cases o with
   | true =>
     have h3 := h4.out
     rw [if_pos rfl] at h3
     simp only [Option.some.injEq, Prod.mk.injEq] at h3
     obtain ⟨rfl, rfl, rfl, rfl, rfl, rfl, rfl, rfl⟩ := h3
     go_wp2_with (fail)
     exact ((P3.out.kind 1).last _).post rfl rfl
   | false =>
   have h5 := h4.out
   rw [if_neg (by decide)] at h5
   obtain ⟨⟨o, s4, i4⟩, A4, h6⟩ := Option.bind_eq_some_iff.mp h5
   dsimp only at h6
   clear h4 h5
   replace A4 := Aside0.mk A4
   replace h6 := Aside0.mk h6
   go_wp2_with (fail)
   refine (P3.out.word A4.out).mono ?_
   rintro e w9 ⟨rfl, P4⟩
   clear c1 d0 d1 d2 d3 d4 x0 x1 x2 x3 x4 e0 e2 e3 e4 k0 k1 k2 k3 k4 P3
   obtain ⟨c1, ⟨d0, d1, d2, d3, d4⟩, ⟨x0, x1, x2, x3, x4⟩, ⟨e0, e2, e3, e4⟩, k0, k1, k2, k3, k4⟩ := P4.cells
   replace P4 := Aside0.mk P4
   cases o with
   | true =>
     have h3 := h6.out
     rw [if_pos rfl] at h3
     simp only [Option.some.injEq, Prod.mk.injEq] at h3
     obtain ⟨rfl, rfl, rfl, rfl, rfl, rfl, rfl, rfl⟩ := h3
     go_wp2_with (fail)
     exact ((P4.out.kind 2).last _).post rfl rfl
   | false =>
     have h3 := h6.out
     rw [if_neg (by decide)] at h3
     simp only [Option.some.injEq, Prod.mk.injEq] at h3
     obtain ⟨rfl, rfl, rfl, rfl, rfl, rfl, rfl, rfl⟩ := h3
     go_wp2_with (fail)
     exact (P4.out.last _).post rfl rfl
theorem spec_reader_members.ring (k : Nat) : CM k ∧ CE k ∧ CV k := by
 induction k using Nat.strongRecOn with
 | _ k ih =>
 exact ⟨members_step k (fun j h => (ih j h).2.2), elements_step k (fun j h => (ih j h).2.2), value_step k (fun j h => (ih j h).1) (fun j h => (ih j h).2.1)⟩
theorem spec_reader_members.calls (k : Nat) : CM k := (spec_reader_members.ring k).1
theorem spec_reader_elements.calls (k : Nat) : CE k := (spec_reader_members.ring k).2.1
theorem spec_reader_value.calls (k : Nat) : CV k := (spec_reader_members.ring k).2.2
end Go.Proofs.YtpgfjbimodnkeaaGreatDoor.Q
