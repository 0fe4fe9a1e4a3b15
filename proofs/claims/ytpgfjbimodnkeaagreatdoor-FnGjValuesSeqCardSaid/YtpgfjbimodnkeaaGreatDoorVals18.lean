/- FnGjValuesSeq: whatever text and stop come in, the law returns true and both read afterwards as before; with the package-level variables that its row lists as the program's own text lays them (part 18 of 27: lemmas for its last part) -/
import Derived.Test.YtpgfjbimodnkeaaGreatDoorVals3
import Derived.Test.YtpgfjbimodnkeaaGreatDoorVals12
import Derived.Test.YtpgfjbimodnkeaaGreatDoorVals16
import Derived.Test.YtpgfjbimodnkeaaGreatDoorVals17
set_option linter.unusedVariables false
set_option linter.unusedSimpArgs false
namespace Go.Proofs.YtpgfjbimodnkeaaGreatDoor.Q
open Go.RowKit Go.Proofs.YtpgfjbimodnkeaaGreatDoorW.PrintWords Go.Proofs.YtpgfjbimodnkeaaGreatDoorW.PrintLast Go.Proofs.YtpgfjbimodnkeaaGreatDoorW.PrintMore
def spec_Places.f (k : Nat) (a0 : ByteArray) : Option (Int × Int × Int × (List (S44)) × (List (S32)) × Bool) := (spec_reader_blanks.f k a0 0).bind fun bt281 => ((spec_reader_value.f k bt281.1 bt281.2).bind fun bt283 => (if bt283.2.2.2.2.2.1 = true then ((spec_reader_blanks.f k bt283.2.2.2.2.2.2.1 bt283.2.2.2.2.2.2.2).bind fun bt296 => (if bt296.2 = (a0.size : Int) then (some (bt283.1, bt283.2.1, bt283.2.2.1, bt283.2.2.2.1, bt283.2.2.2.2.1, true)) else (some (0, 0, 0, ([] : List (S44)), ([] : List (S32)), false)))) else (some (0, 0, 0, ([] : List (S44)), ([] : List (S32)), false))))
theorem spec_Places.mono : ∀ a0 k, LeO (spec_Places.f k a0) (spec_Places.f (k + 1) a0) := by
 intro a0 k
 unfold spec_Places.f
 repeat' first
  | (with_reducible exact spec_reader_blanks.mono _ _ _)
  | (with_reducible exact spec_reader_value.mono _ _ _)
  | (with_reducible exact LeO.refl _)
  | (with_reducible exact LeO.none _)
  | (with_reducible refine LeO.ite ?_ ?_)
  | (with_reducible refine LeO.bind ?_ (fun _ => ?_))
  | exact spec_reader_blanks.mono _ _ _
  | exact spec_reader_value.mono _ _ _
  | exact LeO.none _
structure Pl (w : World) (s : ByteArray) (i : Int) (W : World) : Prop where
 b2 : W.heap[w.heap.size]? = some (.cells #[.int .i64 0, .int .i64 0, .int .i64 0, .slice none 0 0, .slice none 0 0] 32 (0, 0))
 hI : IsS62 w W (w.heap.size + 1) s i
 hB : Below w.heap.size w W
section
variable {w W W' : World} {s s' : ByteArray} {i i' : Int}
theorem Pl.start (w : World) (s : ByteArray) : Pl w s 0 ((w.alloc (.cells #[.int .i64 0, .int .i64 0, .int .i64 0, .slice none 0 0, .slice none 0 0] 32)).alloc (.cells #[.string s, .int .i64 0] 62)) := by
 refine ⟨blk_alloc (blk_new w _) _, ⟨?_, by omega⟩, below_alloc (below_alloc (Below.refl _ _) _) _⟩
 have := blk_new (w.alloc (.cells #[.int .i64 0, .int .i64 0, .int .i64 0, .slice none 0 0, .slice none 0 0] 32)) (.cells #[.string s, .int .i64 0] 62)
 simpa using this
theorem Pl.went (h : Pl w s i W) (h1 : IsS62 w W' (w.heap.size + 1) s' i') (h2 : Below w.heap.size w W') (h3 : KeepBut W W' (w.heap.size + 1) none) : Pl w s' i' W' := ⟨h3.blk h.b2 (by omega) (by simp), h1, h2⟩
theorem Pl.alloc (h : Pl w s i W) (o : Obj) : Pl w s i (W.alloc o) := ⟨blk_alloc h.b2 _, h.hI.alloc _, below_alloc h.hB _⟩
theorem Pl.cells (h : Pl w s i W) : (W.cell? ⟨w.heap.size, 0, none⟩ = some (.int .i64 0) ∧ W.cell? ⟨w.heap.size, 1, none⟩ = some (.int .i64 0) ∧ W.cell? ⟨w.heap.size, 2, none⟩ = some (.int .i64 0) ∧ W.cell? ⟨w.heap.size, 3, none⟩ = some (.slice none 0 0) ∧ W.cell? ⟨w.heap.size, 4, none⟩ = some (.slice none 0 0)) ∧
 (W.frozen? ⟨w.heap.size, 0, none⟩ = false ∧ W.frozen? ⟨w.heap.size, 1, none⟩ = false ∧ W.frozen? ⟨w.heap.size, 2, none⟩ = false ∧ W.frozen? ⟨w.heap.size, 3, none⟩ = false ∧ W.frozen? ⟨w.heap.size, 4, none⟩ = false) ∧ W.cell? ⟨w.heap.size + 1, 1, none⟩ = some (.int .i64 i) :=
 ⟨⟨(blk_cell h.b2 0).trans rfl, (blk_cell h.b2 1).trans rfl, (blk_cell h.b2 2).trans rfl, (blk_cell h.b2 3).trans rfl, (blk_cell h.b2 4).trans rfl⟩, ⟨blk_frozen h.b2 0, blk_frozen h.b2 1, blk_frozen h.b2 2, blk_frozen h.b2 3, blk_frozen h.b2 4⟩, cellS62_1 h.hI.1⟩
theorem Pl.post {kd b e : Int} {v3 v4 : Value} {ns : List S44} {ks : List S32} {o : Bool} {tmps : Array Value} (h : Pl w s i W) (h3 : Kd.R k44 44 W (w.heap.size + 2) (fun _ => True) v3 ns) (h4 : Kd.R k32 32 W (w.heap.size + 2) (fun k => some k ≠ v3.ownBlock) v4 ks) (hp : tmps.getD 2 undef = .pointer (some ⟨w.heap.size, 0, none⟩)) (ho : tmps.getD 3 undef = .bool o) :
 bodyPost Tryz.prog Tryz.f10 (fun x w' => ∃ v3_ v4_ : Value, x = .returned (.tuple #[.agg #[.int .i64 kd, .int .i64 b, .int .i64 e, v3_, v4_], .bool o]) ∧ Kd.R k44 44 w' w.heap.size (fun _ => True) v3_ ns ∧ Kd.R k32 32 w' w.heap.size (fun k_ => some k_ ≠ (v3_ : Value).ownBlock) v4_ ks ∧ Below w.heap.size w w') .ret { tmps := tmps, defers := [] }
  (((((W.setCell ⟨w.heap.size, 0, none⟩ (.int .i64 kd)).setCell ⟨w.heap.size, 1, none⟩ (.int .i64 b)).setCell ⟨w.heap.size, 2, none⟩ (.int .i64 e)).setCell ⟨w.heap.size, 3, none⟩ v3).setCell ⟨w.heap.size, 4, none⟩ v4) := by
 refine bodyPost_ret (results_ct rfl _ _ w.heap.size 32 #[.int .i64 kd, .int .i64 b, .int .i64 e, v3, v4] (0, 0) _ hp (blk_put (blk_put (blk_put (blk_put (blk_put h.b2 0 _ rfl) 1 _ rfl) 2 _ rfl) 3 _ rfl) 4 _ rfl) Tryz.underlying32 rfl (by kernel_rfl)) rfl ?_
 have hl := Nat.le_refl w.heap.size
 refine ⟨v3, v4, by rw [ho], ?_, ?_, below_set (below_set (below_set (below_set (below_set h.hB hl) hl) hl) hl) hl⟩
 ·exact Kd.R_lower (R_hi (R_hi (R_hi (R_hi (R_hi h3 (by simp) _) (by simp) _) (by simp) _) (by simp) _) (by simp) _) (by omega)
 ·exact Kd.R_lower (R_hi (R_hi (R_hi (R_hi (R_hi h4 (by simp) _) (by simp) _) (by simp) _) (by simp) _) (by simp) _) (by omega)
end
set_option maxHeartbeats 8000000 in
set_option maxRecDepth 100000 in
theorem spec_Places.calls (k : Nat) (a0 : ByteArray) (r1 : Int) (r2 : Int) (r3 : Int) (r4 : List (S44)) (r5 : List (S32)) (r6 : Bool) (w : World) (h : spec_Places.f k a0 = some (r1, r2, r3, r4, r5, r6)) :
 Calls Tryz.prog 10 #[.string a0] w fun e w' => ∃ v3_ v4_ : Value, e = .returned (.tuple #[.agg #[.int .i64 r1, .int .i64 r2, .int .i64 r3, v3_, v4_], .bool r6]) ∧ Kd.R k44 44 w' w.heap.size (fun _ => True) v3_ r4 ∧ Kd.R k32 32 w' w.heap.size (fun k_ => some k_ ≠ (v3_ : Value).ownBlock) v4_ r5 ∧ Below w.heap.size w w' := by
 unfold spec_Places.f at h
 obtain ⟨⟨s1, i1⟩, A1, h1⟩ := Option.bind_eq_some_iff.mp h
 obtain ⟨⟨kd, b, en, ns, ks, ok, s2, i2⟩, A2, h2⟩ := Option.bind_eq_some_iff.mp h1
 dsimp only at h2
 clear h h1
 replace A1 := Aside0.mk A1
 replace A2 := Aside0.mk A2
 replace h2 := Aside0.mk h2
 have P0 := Aside0.mk (Pl.start w a0)
 go_enter Tryz.func10, Tryz.ntmps10
 go_wp2_with (fail)
 refine (spec_reader_blanks.calls k _ _ _ s1 i1 w _ P0.out.hI P0.out.hB A1.out).mono ?_
 rintro e w1 ⟨rfl, g1, g2, g3⟩
 have P1 := Aside0.mk (P0.out.went g1 g2 g3)
 clear P0 g1 g2 g3
 go_wp2_with (fail)
 refine (spec_reader_value.calls k _ _ _ kd b en ns ks ok s2 i2 w _ P1.out.hI P1.out.hB A2.out).mono ?_
 rintro e w2 ⟨v3, v4, rfl, u3, u4, g1, g2, g3⟩
 have hsz : w.heap.size + 2 ≤ w1.heap.size := by have := P1.out.hI.lt; omega
 replace u3 := Kd.R_lower u3 hsz
 replace u4 := Kd.R_lower u4 hsz
 obtain ⟨a3, n3, rfl⟩ := Kd.R_slice u3
 obtain ⟨a4, n4, rfl⟩ := Kd.R_slice u4
 have P2 := Aside0.mk ((P1.out.went g1 g2 g3).alloc (.cells #[.int .i64 kd, .int .i64 b, .int .i64 en, .slice a3 ns.length n3, .slice a4 ks.length n4] 32))
 have kb := Aside0.mk (blk_new w2 (.cells #[.int .i64 kd, .int .i64 b, .int .i64 en, .slice a3 ns.length n3, .slice a4 ks.length n4] 32))
 replace u3 := Aside0.mk (Kd.R_alloc u3 (.cells #[.int .i64 kd, .int .i64 b, .int .i64 en, .slice a3 ns.length n3, .slice a4 ks.length n4] 32))
 replace u4 := Aside0.mk (Kd.R_alloc u4 (.cells #[.int .i64 kd, .int .i64 b, .int .i64 en, .slice a3 ns.length n3, .slice a4 ks.length n4] 32))
 clear P1 g1 g2 g3 hsz
 obtain ⟨⟨d0, d1, d2, d3, d4⟩, ⟨e0, e1, e2, e3, e4⟩, c1⟩ := P2.out.cells
 cases ok with
 | false =>
   have h3 := h2.out
   rw [if_neg (by decide)] at h3
   simp only [Option.some.injEq, Prod.mk.injEq] at h3
   obtain ⟨rfl, rfl, rfl, rfl, rfl, rfl⟩ := h3
   go_wp2_with (fail)
   exact P2.out.post (Kd.R_nil _ _ _ _ _) (Kd.R_nil _ _ _ _ _) rfl rfl
 | true =>
   have h3 := h2.out
   rw [if_pos rfl] at h3
   obtain ⟨⟨s3, i3⟩, A3, h4⟩ := Option.bind_eq_some_iff.mp h3
   dsimp only at h4
   clear h2 h3
   replace A3 := Aside0.mk A3
   replace h4 := Aside0.mk h4
   go_wp2_with (fail)
   refine (spec_reader_blanks.calls k _ _ _ s3 i3 w _ P2.out.hI P2.out.hB A3.out).mono ?_
   rintro e w3 ⟨rfl, g1, g2, g3⟩
   have P3 := P2.out.went g1 g2 g3
   have kc := g3.blk kb.out (by have := P2.out.hI.ne_blk kb.out (by decide); omega) (by simp)
   have x3 := Aside0.mk (Kd.R_mono (Kd.R_keep (IsS62.apart P2.out.hI u3.out (by decide)) g3 (fun _ h => h.2)) (fun _ h => h.1))
   have x4 := Aside0.mk (Kd.R_mono (Kd.R_keep (IsS62.apart P2.out.hI u4.out (by decide)) g3 (fun _ h => h.2)) (fun _ h => h.1))
   clear d0 d1 d2 d3 d4 e0 e1 e2 e3 e4 c1
   obtain ⟨⟨d0, d1, d2, d3, d4⟩, ⟨e0, e1, e2, e3, e4⟩, c1⟩ := P3.cells
   have y0 := (blk_cell kc 0).trans rfl
   have y1 := (blk_cell kc 1).trans rfl
   have y2 := (blk_cell kc 2).trans rfl
   have y3 := (blk_cell kc 3).trans rfl
   have y4 := (blk_cell kc 4).trans rfl
   replace P3 := Aside0.mk P3
   clear g1 g2 g3 kc
   by_cases hc : i3 = (a0.size : Int)
   ·have h5 := h4.out
    rw [if_pos hc] at h5
    simp only [Option.some.injEq, Prod.mk.injEq] at h5
    obtain ⟨rfl, rfl, rfl, rfl, rfl, rfl⟩ := h5
    have b1 : (i3 != (a0.size : Int)) = false := bne_eq_false_iff_eq.mpr hc
    clear hc
    go_wp2_with (fail)
    exact P3.out.post x3.out x4.out rfl rfl
   ·have h5 := h4.out
    rw [if_neg hc] at h5
    simp only [Option.some.injEq, Prod.mk.injEq] at h5
    obtain ⟨rfl, rfl, rfl, rfl, rfl, rfl⟩ := h5
    have b1 : (i3 != (a0.size : Int)) = true := bne_iff_ne.mpr hc
    clear hc
    go_wp2_with (fail)
    exact P3.out.post (Kd.R_nil _ _ _ _ _) (Kd.R_nil _ _ _ _ _) rfl rfl
end Go.Proofs.YtpgfjbimodnkeaaGreatDoor.Q
set_option linter.unusedVariables false
set_option linter.unusedSimpArgs false
namespace Go.Proofs.YtpgfjbimodnkeaaGreatDoor.Scan
open Go Go.RowKit Go.Proofs.YtpgfjbimodnkeaaGreatDoorW.PrintWords Go.Proofs.YtpgfjbimodnkeaaGreatDoor.Q Go.Proofs.YtpgfjbimodnkeaaGreatDoor.Dec
theorem Evt.succ {α : Type} {g : Nat → Option α} {r : α} (hh : Evt (fun k => g (k + 1)) r) : Evt g r := Evt.step (fun _ => rfl) hh
def blank (c : Int) : Prop := c = 32 ∨ c = 9 ∨ c = 10 ∨ c = 13
instance (c : Int) : Decidable (blank c) := by unfold blank; infer_instance
theorem blank_f (c : Int) : spec_Blank.f c = some (decide (blank c)) := by
 unfold spec_Blank.f
 by_cases h1 : c = 32
 ·rw [if_pos h1, decide_eq_true (show blank c from .inl h1)]
 by_cases h2 : c = 9
 ·rw [if_neg h1, if_pos h2, decide_eq_true (show blank c from .inr (.inl h2))]
 by_cases h3 : c = 10
 ·rw [if_neg h1, if_neg h2, if_pos h3, decide_eq_true (show blank c from .inr (.inr (.inl h3)))]
 rw [if_neg h1, if_neg h2, if_neg h3]
 by_cases h4 : c = 13
 ·rw [decide_eq_true (show blank c from .inr (.inr (.inr h4))), beq_iff_eq.mpr h4]
 ·rw [decide_eq_false (show ¬ blank c from fun h => by rcases h with h | h | h | h <;> contradiction), beq_eq_false_iff_ne.mpr h4]
structure Blanks (s : ByteArray) (i j : Nat) : Prop where
 le : i ≤ j
 all : ∀ m : Nat, i ≤ m → m < j → blank (bt s m)
theorem Blanks.refl (s : ByteArray) (i : Nat) : Blanks s i i := ⟨Nat.le_refl _, fun m h1 h2 => by omega⟩
theorem wrap_nat {i : Int} (n : Nat) (h : i = n) (hn : n ≤ 9000000) : wrap64 i = (n : Int) := by
 subst h
 exact wrap_id (by omega) (by omega)
theorem blanks_l0 (s : ByteArray) (hS : s.size ≤ 65536) (n : Nat) : ∀ i : Nat, s.size - i = n → i ≤ s.size →
 ∃ j : Nat, Blanks s i j ∧ j ≤ s.size ∧ (j < s.size → ¬ blank (bt s j)) ∧ Evt (fun k => spec_reader_blanks.l0 k s i) (s, (j : Int)) := by
 induction n with
 | zero =>
   intro i h0 h1
   refine ⟨i, Blanks.refl s i, h1, fun h => by omega, Evt.succ ?_⟩
   simp only [spec_reader_blanks.l0]
   exact Evt.neg (by omega) (Evt.pure _)
 | succ n ih =>
   intro i h0 h1
   by_cases hb : blank (bt s i)
   ·obtain ⟨j, h2, h3, h4, h5⟩ := ih (i + 1) (by omega) (by omega)
    refine ⟨j, ⟨by have := h2.le; omega, fun m h6 h7 => ?_⟩, h3, h4, Evt.succ ?_⟩
    ·by_cases hm : m = i
     ·subst hm; exact hb
     ·exact h2.all m (by omega) h7
    ·simp only [spec_reader_blanks.l0]
     refine Evt.pos (by omega) (Evt.pos (by omega) (Evt.bind_of (blank_f _) (Evt.pos (decide_eq_true hb) ?_)))
     rw [wrap_nat (i + 1) (by omega) (by omega)]
     exact h5
   ·refine ⟨i, Blanks.refl s i, h1, fun _ => hb, Evt.succ ?_⟩
    simp only [spec_reader_blanks.l0]
    exact Evt.pos (by omega) (Evt.pos (by omega) (Evt.bind_of (blank_f _) (Evt.neg (by rw [decide_eq_false hb]; decide) (Evt.pure _))))
theorem blanks_f (s : ByteArray) (hS : s.size ≤ 65536) (i : Nat) (h1 : i ≤ s.size) :
 ∃ j : Nat, Blanks s i j ∧ j ≤ s.size ∧ (j < s.size → ¬ blank (bt s j)) ∧ Evt (fun k => spec_reader_blanks.f k s i) (s, (j : Int)) :=
 blanks_l0 s hS _ i rfl h1
theorem here_f (s : ByteArray) (i : Nat) : spec_reader_here.f s i = some (bt s i, s, (i : Int)) := by
 unfold spec_reader_here.f
 by_cases h : i < s.size
 ·rw [if_pos (by omega), if_pos (by omega)]
 ·rw [if_neg (by omega), bt_out s i (by omega)]
theorem take_yes (s : ByteArray) (hS : s.size ≤ 65536) (i : Nat) (c : Int) (h : i < s.size) (hc : bt s i = c) : spec_reader_take.f s i c = some (true, s, ((i + 1 : Nat) : Int)) := by
 unfold spec_reader_take.f
 rw [if_pos (by omega), if_pos (by omega), if_pos hc, wrap_nat (i + 1) (by omega) (by omega)]
theorem take_no (s : ByteArray) (i : Nat) (c : Int) (h : ¬ (i < s.size ∧ bt s i = c)) : spec_reader_take.f s i c = some (false, s, (i : Int)) := by
 unfold spec_reader_take.f
 by_cases h1 : i < s.size
 ·rw [if_pos (by omega), if_pos (by omega), if_neg (fun hc => h ⟨h1, hc⟩)]
 ·rw [if_neg (by omega)]
structure Word (s : ByteArray) (i : Nat) (w : ByteArray) : Prop where
 le : i + w.size ≤ s.size
 eq : s.extract i (i + w.size) = w
theorem Word.at {s : ByteArray} {i : Nat} {w : ByteArray} (h : Word s i w) (m : Nat) (hm : m < w.size) : bt s ((i + m : Nat) : Int) = bt w m := by
 rw [← bt_extract s i (i + w.size) m (by omega) h.le, h.eq]
theorem word_f (s : ByteArray) (hS : s.size ≤ 65536) (i : Nat) (hi : i ≤ s.size) (w : ByteArray) (hw : w.size ≤ 10) :
 (Word s i w ∧ spec_reader_word.f s i w = some (true, s, ((i + w.size : Nat) : Int))) ∨ (¬ Word s i w ∧ spec_reader_word.f s i w = some (false, s, (i : Int))) := by
 unfold spec_reader_word.f
 rw [wrap_nat (s.size - i) (by omega) (by omega), wrap_nat (i + w.size) (by omega) (by omega)]
 by_cases h : i + w.size ≤ s.size
 ·rw [if_neg (by omega), if_pos (by omega), if_pos (by omega), if_pos (by omega)]
  simp only [Int.toNat_natCast]
  by_cases he : (s.extract i (i + w.size)).toList = w.toList
  ·rw [if_pos he]
   exact .inl ⟨⟨h, toList_inj he⟩, rfl⟩
  ·rw [if_neg he]
   exact .inr ⟨fun hW => he (by rw [hW.eq]), rfl⟩
 ·rw [if_pos (by omega)]
  exact .inr ⟨fun hW => h hW.le, rfl⟩
instance (c : Int) : Decidable (HexOk c) := by unfold HexOk; infer_instance
instance (c : Int) : Decidable (ShortOk c) := by unfold ShortOk; infer_instance
theorem hexDigit_f (c : Int) (h0 : 0 ≤ c ∧ c ≤ 255) : ∃ v, Evt (fun k => spec_hexDigit.f k c) (v, decide (HexOk c)) ∧ (HexOk c → v = hexv c) := by
 have hj1 : ∀ b, (b = decide (97 ≤ c ∧ c ≤ 102)) → ¬ (48 ≤ c ∧ c ≤ 57) → ∃ v, Evt (fun k => spec_hexDigit.j1 k c b) (v, decide (HexOk c)) ∧ (HexOk c → v = hexv c) := by
  intro b hb hd
  by_cases h1 : 97 ≤ c ∧ c ≤ 102
  ·refine ⟨c - 97 + 10, Evt.succ ?_, fun _ => ?_⟩
   ·simp only [spec_hexDigit.j1]
    refine Evt.pos (by rw [hb]; exact decide_eq_true h1) (Evt.of ?_)
    rw [decide_eq_true (show HexOk c from .inr (.inl h1))]
    congr 2; omega
   ·unfold hexv; rw [if_neg hd, if_pos h1]; omega
  ·by_cases h2 : 65 ≤ c ∧ c ≤ 70
   ·refine ⟨c - 65 + 10, Evt.succ ?_, fun _ => ?_⟩
    ·simp only [spec_hexDigit.j1]
     refine Evt.neg (by rw [hb, decide_eq_false h1]; decide) (Evt.pos h2.1 (Evt.pos h2.2 (Evt.of ?_)))
     rw [decide_eq_true (show HexOk c from .inr (.inr h2))]
     congr 2; omega
    ·unfold hexv; rw [if_neg hd, if_neg h1]; omega
   ·have hno : ¬ HexOk c := fun h => by rcases h with h | h | h <;> contradiction
    refine ⟨0, Evt.succ ?_, fun h => absurd h hno⟩
    simp only [spec_hexDigit.j1]
    refine Evt.neg (by rw [hb, decide_eq_false h1]; decide) ?_
    rw [decide_eq_false hno]
    by_cases h3 : 65 ≤ c
    ·exact Evt.pos h3 (Evt.neg (fun h => h2 ⟨h3, h⟩) (Evt.pure _))
    ·exact Evt.neg h3 (Evt.pure _)
 have hj0 : ∀ b, (b = decide (48 ≤ c ∧ c ≤ 57)) → ∃ v, Evt (fun k => spec_hexDigit.j0 k c b) (v, decide (HexOk c)) ∧ (HexOk c → v = hexv c) := by
  intro b hb
  by_cases h1 : 48 ≤ c ∧ c ≤ 57
  ·refine ⟨c - 48, Evt.succ ?_, fun _ => ?_⟩
   ·simp only [spec_hexDigit.j0]
    refine Evt.pos (by rw [hb]; exact decide_eq_true h1) (Evt.of ?_)
    rw [decide_eq_true (show HexOk c from .inl h1)]
    congr 2; omega
   ·unfold hexv; rw [if_pos h1]
  ·have hb' : ¬ (b = true) := by rw [hb, decide_eq_false h1]; decide
   by_cases h2 : 97 ≤ c
   ·obtain ⟨v, h3, h4⟩ := hj1 (decide (c ≤ 102)) (by simp [h2]) h1
    refine ⟨v, Evt.succ ?_, h4⟩
    simp only [spec_hexDigit.j0]
    exact Evt.neg hb' (Evt.pos h2 h3)
   ·obtain ⟨v, h3, h4⟩ := hj1 false (by simp [h2]) h1
    refine ⟨v, Evt.succ ?_, h4⟩
    simp only [spec_hexDigit.j0]
    exact Evt.neg hb' (Evt.neg h2 h3)
 unfold spec_hexDigit.f
 by_cases h1 : 48 ≤ c
 ·obtain ⟨v, h3, h4⟩ := hj0 (decide (c ≤ 57)) (by simp [h1])
  exact ⟨v, Evt.pos h1 h3, h4⟩
 ·obtain ⟨v, h3, h4⟩ := hj0 false (by simp [h1])
  exact ⟨v, Evt.neg h1 h3, h4⟩
end Go.Proofs.YtpgfjbimodnkeaaGreatDoor.Scan
set_option linter.unusedVariables false
set_option linter.unusedSimpArgs false
namespace Go.Proofs.YtpgfjbimodnkeaaGreatDoor.Scan
open Go Go.RowKit Go.Proofs.YtpgfjbimodnkeaaGreatDoorW.PrintWords Go.Proofs.YtpgfjbimodnkeaaGreatDoor.Q Go.Proofs.YtpgfjbimodnkeaaGreatDoor.Dec
inductive QStr (s : ByteArray) : Nat → Nat → Prop
 | close (p : Nat) : p < s.size → bt s p = 34 → QStr s p p
 | plain (p q : Nat) : p < s.size → 32 ≤ bt s p → bt s p ≠ 34 → bt s p ≠ 92 → QStr s (p + 1) q → QStr s p q
 | short (p q : Nat) : p + 1 < s.size → bt s p = 92 → ShortOk (bt s ((p : Int) + 1)) → QStr s (p + 2) q → QStr s p q
 | uni (p q : Nat) : p + 6 ≤ s.size → bt s p = 92 → bt s ((p : Int) + 1) = 117 → Hex4 s ((p : Int) + 2) → QStr s (p + 6) q → QStr s p q
theorem hexPlain {c : Int} (h : HexOk c) : c ≠ 34 ∧ c ≠ 92 ∧ c ≠ 0 ∧ 32 ≤ c := by unfold HexOk at h; omega
theorem QStr.str {s : ByteArray} {p q : Nat} (h : QStr s p q) : Str s p q := by
 induction h with
 | close p h0 h1 => exact .close p h0 h1
 | plain p q h0 h1 h2 h3 h4 ih => exact .plain p q h0 h2 h3 ih
 | short p q h0 h1 h2 h3 ih => exact .esc p q h0 h1 ih
 | uni p q h0 h1 h2 h3 h4 ih =>
   obtain ⟨d0, d1, d2, d3⟩ := h3
   have e0 := hexPlain d0
   have e1 := hexPlain d1
   have e2 := hexPlain d2
   have e3 := hexPlain d3
   rw [show ((p : Int) + 2) = ((p + 2 : Nat) : Int) by omega] at e0
   rw [show ((p : Int) + 2 + 1) = ((p + 2 + 1 : Nat) : Int) by omega] at e1
   rw [show ((p : Int) + 2 + 2) = ((p + 2 + 1 + 1 : Nat) : Int) by omega] at e2
   rw [show ((p : Int) + 2 + 3) = ((p + 2 + 1 + 1 + 1 : Nat) : Int) by omega] at e3
   exact .esc p q (by omega) h1 (.plain _ q (by omega) e0.1 e0.2.1 (.plain _ q (by omega) e1.1 e1.2.1 (.plain _ q (by omega) e2.1 e2.2.1 (.plain _ q (by omega) e3.1 e3.2.1 ih))))
theorem QStr.bound {s : ByteArray} {p q : Nat} (h : QStr s p q) : p ≤ q ∧ q < s.size ∧ bt s q = 34 := by
 induction h with
 | close p h0 h1 => exact ⟨Nat.le_refl _, h0, h1⟩
 | plain p q h0 h1 h2 h3 h4 ih => exact ⟨by omega, ih.2.1, ih.2.2⟩
 | short p q h0 h1 h2 h3 ih => exact ⟨by omega, ih.2.1, ih.2.2⟩
 | uni p q h0 h1 h2 h3 h4 ih => exact ⟨by omega, ih.2.1, ih.2.2⟩
theorem esc_l0 (s : ByteArray) (hS : s.size ≤ 65536) (n : Nat) : ∀ m p : Nat, m + n = 4 → p ≤ s.size →
 ∃ (b : Bool) (j : Nat), Evt (fun k => spec_reader_escape.l0 k m s p) (b, s, (j : Int)) ∧ j ≤ s.size ∧ p ≤ j ∧ (b = true → j = p + n ∧ ∀ t : Nat, t < n → HexOk (bt s ((p + t : Nat) : Int))) := by
 induction n with
 | zero =>
   intro m p hm hp
   refine ⟨true, p, Evt.succ ?_, hp, Nat.le_refl _, fun _ => ⟨rfl, fun t h => by omega⟩⟩
   simp only [spec_reader_escape.l0]
   exact Evt.neg (by omega) (Evt.pure _)
 | succ n ih =>
   intro m p hm hp
   obtain ⟨v, hv, _⟩ := hexDigit_f (bt s p) (bt_range s p)
   by_cases hx : HexOk (bt s p)
   ·have hlt : p < s.size := by
     rcases Nat.lt_or_ge p s.size with h | h
     ·exact h
     ·exact absurd (bt_out s p h) (hexPlain hx).2.2.1
    obtain ⟨b, j, h1, h2, h3, h4⟩ := ih (m + 1) (p + 1) (by omega) (by omega)
    refine ⟨b, j, Evt.succ ?_, h2, by omega, fun hb => ⟨by have := (h4 hb).1; omega, fun t ht => ?_⟩⟩
    ·simp only [spec_reader_escape.l0]
     refine Evt.pos (by omega) (Evt.bind_of (here_f s p) (Evt.bind hv (Evt.pos (decide_eq_true hx) ?_)))
     rw [wrap_nat (m + 1) (by omega) (by omega)]
     simp only [wrap_nat (i := (p : Int) + 1) (p + 1) (by omega) (by omega)]
     exact h1
    ·by_cases ht0 : t = 0
     ·subst ht0; exact hx
     ·have := (h4 hb).2 (t - 1) (by omega)
      rwa [show p + 1 + (t - 1) = p + t by omega] at this
   ·refine ⟨false, p, Evt.succ ?_, hp, Nat.le_refl _, fun h => by cases h⟩
    simp only [spec_reader_escape.l0]
    exact Evt.pos (by omega) (Evt.bind_of (here_f s p) (Evt.bind hv (Evt.neg (by simp [hx]) (Evt.pure _))))
structure EscAt (s : ByteArray) (a j : Nat) : Prop where
 way : (j = a + 1 ∧ a < s.size ∧ ShortOk (bt s a)) ∨ (j = a + 5 ∧ a + 5 ≤ s.size ∧ bt s a = 117 ∧ Hex4 s ((a : Int) + 1))
theorem esc_f (s : ByteArray) (hS : s.size ≤ 65536) (a : Nat) (ha : a ≤ s.size) :
 ∃ (b : Bool) (j : Nat), Evt (fun k => spec_reader_escape.f k s a) (b, s, (j : Int)) ∧ j ≤ s.size ∧ a ≤ j ∧ (b = true → EscAt s a j) := by
 have hin : ∀ c : Int, c ≠ 0 → bt s a = c → a < s.size := fun c h0 hc => by
  rcases Nat.lt_or_ge a s.size with h | h
  ·exact h
  ·exact absurd ((bt_out s a h).symm.trans hc) h0.symm
 have yes : ShortOk (bt s a) → ∀ g : Nat → Option (Bool × ByteArray × Int), (∀ k, g (k + 1) = spec_reader_escape.j0 (k + 1) (bt s a) true s a) → ∃ (b : Bool) (j : Nat), Evt g (b, s, (j : Int)) ∧ j ≤ s.size ∧ a ≤ j ∧ (b = true → EscAt s a j) := by
  intro hs g hg
  have hlt : a < s.size := by
   rcases Nat.lt_or_ge a s.size with h | h
   ·exact h
   ·have h1 := bt_out s a h
    unfold ShortOk at hs
    omega
  refine ⟨true, a + 1, Evt.succ (Evt.congr hg ?_), hlt, by omega, fun _ => ⟨.inl ⟨rfl, hlt, hs⟩⟩⟩
  simp only [spec_reader_escape.j0]
  refine Evt.pos (by simp) ?_
  rw [wrap_nat (a + 1) (by omega) (by omega)]
  exact Evt.pure _
 unfold spec_reader_escape.f
 by_cases c0 : bt s a = 34
 ·refine yes (by unfold ShortOk; omega) _ (fun k => ?_)
  rw [here_f]; simp only [Option.bind_some]
  rw [if_pos c0, beq_iff_eq.mpr c0]
 by_cases c1 : bt s a = 92
 ·refine yes (by unfold ShortOk; omega) _ (fun k => ?_)
  rw [here_f]; simp only [Option.bind_some]
  rw [if_neg c0, if_pos c1, beq_iff_eq.mpr c1]
 by_cases c2 : bt s a = 47
 ·refine yes (by unfold ShortOk; omega) _ (fun k => ?_)
  rw [here_f]; simp only [Option.bind_some]
  rw [if_neg c0, if_neg c1, if_pos c2, beq_iff_eq.mpr c2]
 by_cases c3 : bt s a = 98
 ·refine yes (by unfold ShortOk; omega) _ (fun k => ?_)
  rw [here_f]; simp only [Option.bind_some]
  rw [if_neg c0, if_neg c1, if_neg c2, if_pos c3, beq_iff_eq.mpr c3]
 by_cases c4 : bt s a = 102
 ·refine yes (by unfold ShortOk; omega) _ (fun k => ?_)
  rw [here_f]; simp only [Option.bind_some]
  rw [if_neg c0, if_neg c1, if_neg c2, if_neg c3, if_pos c4, beq_iff_eq.mpr c4]
 by_cases c5 : bt s a = 110
 ·refine yes (by unfold ShortOk; omega) _ (fun k => ?_)
  rw [here_f]; simp only [Option.bind_some]
  rw [if_neg c0, if_neg c1, if_neg c2, if_neg c3, if_neg c4, if_pos c5, beq_iff_eq.mpr c5]
 by_cases c6 : bt s a = 114
 ·refine yes (by unfold ShortOk; omega) _ (fun k => ?_)
  rw [here_f]; simp only [Option.bind_some]
  rw [if_neg c0, if_neg c1, if_neg c2, if_neg c3, if_neg c4, if_neg c5, if_pos c6, beq_iff_eq.mpr c6]
 by_cases c7 : bt s a = 116
 ·refine yes (by unfold ShortOk; omega) _ (fun k => ?_)
  rw [here_f]; simp only [Option.bind_some]
  rw [if_neg c0, if_neg c1, if_neg c2, if_neg c3, if_neg c4, if_neg c5, if_neg c6, beq_iff_eq.mpr c7]
 have e7 : (bt s a == 116) = false := beq_eq_false_iff_ne.mpr c7
 have hg : ∀ k, ((spec_reader_here.f s a).bind fun bt116 => (if bt116.1 = 34 then (spec_reader_escape.j0 k bt116.1 (bt116.1 == 34) bt116.2.1 bt116.2.2) else (if bt116.1 = 92 then (spec_reader_escape.j0 k bt116.1 (bt116.1 == 92) bt116.2.1 bt116.2.2) else (if bt116.1 = 47 then (spec_reader_escape.j0 k bt116.1 (bt116.1 == 47) bt116.2.1 bt116.2.2) else (if bt116.1 = 98 then (spec_reader_escape.j0 k bt116.1 (bt116.1 == 98) bt116.2.1 bt116.2.2) else (if bt116.1 = 102 then (spec_reader_escape.j0 k bt116.1 (bt116.1 == 102) bt116.2.1 bt116.2.2) else (if bt116.1 = 110 then (spec_reader_escape.j0 k bt116.1 (bt116.1 == 110) bt116.2.1 bt116.2.2) else (if bt116.1 = 114 then (spec_reader_escape.j0 k bt116.1 (bt116.1 == 114) bt116.2.1 bt116.2.2) else (spec_reader_escape.j0 k bt116.1 (bt116.1 == 116) bt116.2.1 bt116.2.2)))))))))
  = spec_reader_escape.j0 k (bt s a) false s a := fun k => by
  rw [here_f]; simp only [Option.bind_some]
  rw [if_neg c0, if_neg c1, if_neg c2, if_neg c3, if_neg c4, if_neg c5, if_neg c6, e7]
 by_cases c8 : bt s a = 117
 ·have hlt := hin 117 (by decide) c8
  obtain ⟨b, j, h1, h2, h3, h4⟩ := esc_l0 s hS 4 0 (a + 1) (by omega) (by omega)
  refine ⟨b, j, Evt.congr hg (Evt.succ ?_), h2, by omega, fun hb => ⟨.inr ⟨by have := (h4 hb).1; omega, by have := (h4 hb).1; omega, c8, ?_⟩⟩⟩
  ·simp only [spec_reader_escape.j0]
   refine Evt.neg (by simp) (Evt.pos c8 ?_)
   rw [wrap_nat (a + 1) (by omega) (by omega)]
   exact h1
  ·have hh := (h4 hb).2
   have k0 := hh 0 (by omega)
   have k1 := hh 1 (by omega)
   have k2 := hh 2 (by omega)
   have k3 := hh 3 (by omega)
   refine ⟨?_, ?_, ?_, ?_⟩
   ·rwa [show (a : Int) + 1 = ((a + 1 + 0 : Nat) : Int) by omega]
   ·rwa [show (a : Int) + 1 + 1 = ((a + 1 + 1 : Nat) : Int) by omega]
   ·rwa [show (a : Int) + 1 + 2 = ((a + 1 + 2 : Nat) : Int) by omega]
   ·rwa [show (a : Int) + 1 + 3 = ((a + 1 + 3 : Nat) : Int) by omega]
 ·refine ⟨false, a, Evt.congr hg (Evt.succ ?_), ha, Nat.le_refl _, fun h => by cases h⟩
  simp only [spec_reader_escape.j0]
  exact Evt.neg (by simp) (Evt.neg c8 (Evt.pure _))
theorem quoted_l0 (s : ByteArray) (hS : s.size ≤ 65536) (n : Nat) : ∀ p : Nat, s.size - p ≤ n → p ≤ s.size →
 ∃ (b : Bool) (j : Nat), Evt (fun k => spec_reader_quoted.l0 k s p) (b, s, (j : Int)) ∧ j ≤ s.size ∧ p ≤ j ∧ (b = true → ∃ q, j = q + 1 ∧ QStr s p q) := by
 induction n with
 | zero =>
   intro p h0 h1
   refine ⟨false, p, Evt.succ ?_, h1, Nat.le_refl _, fun h => by cases h⟩
   simp only [spec_reader_quoted.l0]
   exact Evt.neg (by omega) (Evt.pure _)
 | succ n ih =>
   intro p h0 h1
   by_cases hlt : p < s.size
   ·by_cases c0 : bt s p = 34
    ·refine ⟨true, p + 1, Evt.succ ?_, hlt, by omega, fun _ => ⟨p, rfl, .close p hlt c0⟩⟩
     simp only [spec_reader_quoted.l0]
     refine Evt.pos (by omega) (Evt.pos (by omega) (Evt.pos c0 ?_))
     rw [wrap_nat (p + 1) (by omega) (by omega)]
     exact Evt.pure _
    by_cases c1 : bt s p < 32
    ·refine ⟨false, p + 1, Evt.succ ?_, hlt, by omega, fun h => by cases h⟩
     simp only [spec_reader_quoted.l0]
     refine Evt.pos (by omega) (Evt.pos (by omega) (Evt.neg c0 (Evt.pos c1 ?_)))
     rw [wrap_nat (p + 1) (by omega) (by omega)]
     exact Evt.pure _
    by_cases c2 : bt s p = 92
    ·obtain ⟨b, j, h2, h3, h4, h5⟩ := esc_f s hS (p + 1) (by omega)
     cases b with
     | true =>
       have hE := (h5 rfl).way
       obtain ⟨b', j', h6, h7, h8, h9⟩ := ih j (by omega) h3
       refine ⟨b', j', Evt.succ ?_, h7, by omega, fun hb => ?_⟩
       ·simp only [spec_reader_quoted.l0]
        refine Evt.pos (by omega) (Evt.pos (by omega) (Evt.neg c0 (Evt.neg c1 (Evt.pos c2 ?_))))
        rw [wrap_nat (p + 1) (by omega) (by omega)]
        exact Evt.bind h2 (Evt.pos (by simp) h6)
       ·obtain ⟨q, hq, hs⟩ := h9 hb
        refine ⟨q, hq, ?_⟩
        rcases hE with ⟨e1, e2, e3⟩ | ⟨e1, e2, e3, e4⟩
        ·subst e1
         exact .short p q (by omega) c2 (by rwa [show (p : Int) + 1 = ((p + 1 : Nat) : Int) by omega]) hs
        ·subst e1
         exact .uni p q (by omega) c2 (by rwa [show (p : Int) + 1 = ((p + 1 : Nat) : Int) by omega]) (by rwa [show (p : Int) + 2 = ((p + 1 : Nat) : Int) + 1 by omega]) hs
     | false =>
       refine ⟨false, j, Evt.succ ?_, h3, by omega, fun h => by cases h⟩
       simp only [spec_reader_quoted.l0]
       refine Evt.pos (by omega) (Evt.pos (by omega) (Evt.neg c0 (Evt.neg c1 (Evt.pos c2 ?_))))
       rw [wrap_nat (p + 1) (by omega) (by omega)]
       exact Evt.bind h2 (Evt.neg (by simp) (Evt.pure _))
    ·obtain ⟨b', j', h6, h7, h8, h9⟩ := ih (p + 1) (by omega) (by omega)
     refine ⟨b', j', Evt.succ ?_, h7, by omega, fun hb => ?_⟩
     ·simp only [spec_reader_quoted.l0]
      refine Evt.pos (by omega) (Evt.pos (by omega) (Evt.neg c0 (Evt.neg c1 (Evt.neg c2 ?_))))
      rw [wrap_nat (p + 1) (by omega) (by omega)]
      exact h6
     ·obtain ⟨q, hq, hs⟩ := h9 hb
      exact ⟨q, hq, .plain p q hlt (by omega) c0 c2 hs⟩
   ·refine ⟨false, p, Evt.succ ?_, h1, Nat.le_refl _, fun h => by cases h⟩
    simp only [spec_reader_quoted.l0]
    exact Evt.neg (by omega) (Evt.pure _)
theorem quoted_f (s : ByteArray) (hS : s.size ≤ 65536) (p : Nat) (hp : p < s.size) :
 ∃ (b : Bool) (j : Nat), Evt (fun k => spec_reader_quoted.f k s p) (b, s, (j : Int)) ∧ j ≤ s.size ∧ p < j ∧ (b = true → ∃ q, j = q + 1 ∧ QStr s (p + 1) q) := by
 obtain ⟨b, j, h1, h2, h3, h4⟩ := quoted_l0 s hS s.size (p + 1) (by omega) (by omega)
 refine ⟨b, j, ?_, h2, by omega, h4⟩
 unfold spec_reader_quoted.f
 rw [wrap_nat (p + 1) (by omega) (by omega)]
 exact h1
def NumC (c : Int) : Prop := (48 ≤ c ∧ c ≤ 57) ∨ c = 45 ∨ c = 43 ∨ c = 46 ∨ c = 101 ∨ c = 69
structure Span (s : ByteArray) (P : Int → Prop) (i j : Nat) : Prop where
 le : i ≤ j
 all : ∀ m : Nat, i ≤ m → m < j → P (bt s m)
theorem Span.refl (s : ByteArray) (P : Int → Prop) (i : Nat) : Span s P i i := ⟨Nat.le_refl _, fun m h1 h2 => by omega⟩
theorem Span.trans {s : ByteArray} {P : Int → Prop} {i j k : Nat} (h : Span s P i j) (h' : Span s P j k) : Span s P i k :=
 ⟨Nat.le_trans h.le h'.le, fun m h1 h2 => if hm : m < j then h.all m h1 hm else h'.all m (by omega) h2⟩
theorem Span.mono {s : ByteArray} {P P' : Int → Prop} {i j : Nat} (h : Span s P i j) (hP : ∀ c, P c → P' c) : Span s P' i j := ⟨h.le, fun m h1 h2 => hP _ (h.all m h1 h2)⟩
theorem take_any (s : ByteArray) (hS : s.size ≤ 65536) (i : Nat) (hi : i ≤ s.size) (c : Int) :
 ∃ (b : Bool) (j : Nat), spec_reader_take.f s i c = some (b, s, (j : Int)) ∧ j ≤ s.size ∧ Span s (· = c) i j ∧ (b = true → j = i + 1) := by
 by_cases h : i < s.size ∧ bt s i = c
 ·refine ⟨true, i + 1, take_yes s hS i c h.1 h.2, h.1, ⟨by omega, fun m h1 h2 => ?_⟩, fun _ => rfl⟩
  have : m = i := by omega
  subst this; exact h.2
 ·exact ⟨false, i, take_no s i c h, hi, Span.refl s _ i, fun h => by cases h⟩
theorem digits_l0 (s : ByteArray) (hS : s.size ≤ 65536) (i n : Nat) : ∀ p : Nat, s.size - p = n → p ≤ s.size → i ≤ p →
 ∃ (b : Bool) (j : Nat), Evt (fun k => spec_reader_digits.l0 k i (bt s p) s p) (b, s, (j : Int)) ∧ j ≤ s.size ∧ Span s NumC p j ∧ (b = true → i < j) := by
 induction n with
 | zero =>
   intro p h0 h1 h2
   have hb := bt_out s p (by omega)
   refine ⟨decide ((p : Int) > i), p, Evt.succ ?_, h1, Span.refl s _ p, fun h => ?_⟩
   ·simp only [spec_reader_digits.l0]
    rw [hb]
    exact Evt.neg (by omega) (Evt.pure _)
   ·have := of_decide_eq_true h; omega
 | succ n ih =>
   intro p h0 h1 h2
   by_cases hd : 48 ≤ bt s p ∧ bt s p ≤ 57
   ·obtain ⟨b, j, h3, h4, h5, h6⟩ := ih (p + 1) (by omega) (by omega) (by omega)
    refine ⟨b, j, Evt.succ ?_, h4, ⟨by have := h5.le; omega, fun m h7 h8 => ?_⟩, h6⟩
    ·simp only [spec_reader_digits.l0]
     refine Evt.pos hd.1 (Evt.pos hd.2 ?_)
     rw [wrap_nat (p + 1) (by omega) (by omega)]
     exact Evt.bind_of (here_f s (p + 1)) h3
    ·by_cases hm : m = p
     ·subst hm; exact .inl hd
     ·exact h5.all m (by omega) h8
   ·refine ⟨decide ((p : Int) > i), p, Evt.succ ?_, h1, Span.refl s _ p, fun h => ?_⟩
    ·simp only [spec_reader_digits.l0]
     by_cases h3 : 48 ≤ bt s p
     ·exact Evt.pos h3 (Evt.neg (fun h => hd ⟨h3, h⟩) (Evt.pure _))
     ·exact Evt.neg h3 (Evt.pure _)
    ·have := of_decide_eq_true h; omega
theorem digits_f (s : ByteArray) (hS : s.size ≤ 65536) (p : Nat) (hp : p ≤ s.size) :
 ∃ (b : Bool) (j : Nat), Evt (fun k => spec_reader_digits.f k s p) (b, s, (j : Int)) ∧ j ≤ s.size ∧ Span s NumC p j ∧ (b = true → p < j) := by
 obtain ⟨b, j, h3, h4, h5, h6⟩ := digits_l0 s hS p _ p rfl hp (Nat.le_refl _)
 refine ⟨b, j, ?_, h4, h5, h6⟩
 unfold spec_reader_digits.f
 exact Evt.bind_of (here_f s p) h3
theorem number_j2 (s : ByteArray) (hS : s.size ≤ 65536) (x : Bool) (p : Nat) (hp : p ≤ s.size) :
 ∃ (b : Bool) (j : Nat), Evt (fun k => spec_reader_number.j2 k x s p) (b, s, (j : Int)) ∧ j ≤ s.size ∧ Span s NumC p j := by
 cases x with
 | false =>
   refine ⟨true, p, Evt.succ ?_, hp, Span.refl s _ p⟩
   simp only [spec_reader_number.j2]
   exact Evt.neg (by simp) (Evt.pure _)
 | true =>
   obtain ⟨b, j, h1, h2, h3, h4⟩ := take_any s hS p hp 43
   have h3' := h3.mono (P' := NumC) (fun c hc => by subst hc; exact .inr (.inr (.inl rfl)))
   cases b with
   | true =>
     obtain ⟨b', j', h5, h6, h7, _⟩ := digits_f s hS j h2
     refine ⟨b', j', Evt.succ ?_, h6, h3'.trans h7⟩
     simp only [spec_reader_number.j2]
     exact Evt.pos (by simp) (Evt.bind_of h1 (Evt.pos (by simp) (Evt.bind h5 (Evt.pure _))))
   | false =>
     obtain ⟨b1, j1, g1, g2, g3, g4⟩ := take_any s hS j h2 45
     obtain ⟨b', j', h5, h6, h7, _⟩ := digits_f s hS j1 g2
     refine ⟨b', j', Evt.succ ?_, h6, (h3'.trans (g3.mono (fun c hc => by subst hc; exact .inr (.inl rfl)))).trans h7⟩
     simp only [spec_reader_number.j2]
     exact Evt.pos (by simp) (Evt.bind_of h1 (Evt.neg (by simp) (Evt.bind_of g1 (Evt.bind h5 (Evt.pure _)))))
theorem number_j1 (s : ByteArray) (hS : s.size ≤ 65536) (x : Bool) (p : Nat) (hp : p ≤ s.size) :
 ∃ (b : Bool) (j : Nat), Evt (fun k => spec_reader_number.j1 k x s p) (b, s, (j : Int)) ∧ j ≤ s.size ∧ Span s NumC p j := by
 cases x with
 | true =>
   refine ⟨false, p, Evt.succ ?_, hp, Span.refl s _ p⟩
   simp only [spec_reader_number.j1]
   exact Evt.pos (by simp) (Evt.pure _)
 | false =>
   obtain ⟨b, j, h1, h2, h3, h4⟩ := take_any s hS p hp 101
   have h3' := h3.mono (P' := NumC) (fun c hc => by subst hc; exact .inr (.inr (.inr (.inr (.inl rfl)))))
   cases b with
   | true =>
     obtain ⟨b', j', h5, h6, h7⟩ := number_j2 s hS true j h2
     refine ⟨b', j', Evt.succ ?_, h6, h3'.trans h7⟩
     simp only [spec_reader_number.j1]
     exact Evt.neg (by simp) (Evt.bind_of h1 (Evt.pos (by simp) h5))
   | false =>
     obtain ⟨b1, j1, g1, g2, g3, g4⟩ := take_any s hS j h2 69
     obtain ⟨b', j', h5, h6, h7⟩ := number_j2 s hS b1 j1 g2
     refine ⟨b', j', Evt.succ ?_, h6, (h3'.trans (g3.mono (fun c hc => by subst hc; exact .inr (.inr (.inr (.inr (.inr rfl))))))).trans h7⟩
     simp only [spec_reader_number.j1]
     exact Evt.neg (by simp) (Evt.bind_of h1 (Evt.neg (by simp) (Evt.bind_of g1 h5)))
theorem number_j0 (s : ByteArray) (hS : s.size ≤ 65536) (x : Bool) (p : Nat) (hp : p ≤ s.size) :
 ∃ (b : Bool) (j : Nat), Evt (fun k => spec_reader_number.j0 k x s p) (b, s, (j : Int)) ∧ j ≤ s.size ∧ Span s NumC p j ∧ (b = true → x = false) := by
 cases x with
 | true =>
   refine ⟨false, p, Evt.succ ?_, hp, Span.refl s _ p, fun h => by cases h⟩
   simp only [spec_reader_number.j0]
   exact Evt.pos (by simp) (Evt.pure _)
 | false =>
   obtain ⟨b, j, h1, h2, h3, h4⟩ := take_any s hS p hp 46
   have h3' := h3.mono (P' := NumC) (fun c hc => by subst hc; exact .inr (.inr (.inr (.inl rfl))))
   cases b with
   | true =>
     obtain ⟨b1, j1, g1, g2, g3, _⟩ := digits_f s hS j h2
     obtain ⟨b', j', h5, h6, h7⟩ := number_j1 s hS (!b1) j1 g2
     refine ⟨b', j', Evt.succ ?_, h6, (h3'.trans g3).trans h7, fun _ => rfl⟩
     simp only [spec_reader_number.j0]
     exact Evt.neg (by simp) (Evt.bind_of h1 (Evt.pos (by simp) (Evt.bind g1 h5)))
   | false =>
     obtain ⟨b', j', h5, h6, h7⟩ := number_j1 s hS false j h2
     refine ⟨b', j', Evt.succ ?_, h6, h3'.trans h7, fun _ => rfl⟩
     simp only [spec_reader_number.j0]
     exact Evt.neg (by simp) (Evt.bind_of h1 (Evt.neg (by simp) h5))
theorem number_f (s : ByteArray) (hS : s.size ≤ 65536) (p : Nat) (hp : p ≤ s.size) :
 ∃ (b : Bool) (j : Nat), Evt (fun k => spec_reader_number.f k s p) (b, s, (j : Int)) ∧ j ≤ s.size ∧ Span s NumC p j ∧ (b = true → p < j) := by
 obtain ⟨b, j, h1, h2, h3, h4⟩ := take_any s hS p hp 45
 have h3' := h3.mono (P' := NumC) (fun c hc => by subst hc; exact .inr (.inl rfl))
 obtain ⟨b1, j1, g1, g2, g3, g4⟩ := take_any s hS j h2 48
 have g3' := g3.mono (P' := NumC) (fun c hc => by subst hc; exact .inl ⟨by omega, by omega⟩)
 unfold spec_reader_number.f
 cases b1 with
 | true =>
   obtain ⟨b', j', h5, h6, h7, h8⟩ := number_j0 s hS false j1 g2
   refine ⟨b', j', Evt.bind_of h1 (Evt.bind_of g1 (Evt.pos (by simp) h5)), h6, (h3'.trans g3').trans h7, fun _ => ?_⟩
   have := g4 rfl
   have := h3.le
   have := h7.le
   omega
 | false =>
   obtain ⟨b2, j2, f1, f2, f3, f4⟩ := digits_f s hS j1 g2
   obtain ⟨b', j', h5, h6, h7, h8⟩ := number_j0 s hS (!b2) j2 f2
   refine ⟨b', j', Evt.bind_of h1 (Evt.bind_of g1 (Evt.neg (by simp) (Evt.bind f1 h5))), h6, ((h3'.trans g3').trans f3).trans h7, fun hb => ?_⟩
   have h9 := h8 hb
   have := f4 (by cases b2 <;> simp_all)
   have := h3.le
   have := g3.le
   have := h7.le
   omega
end Go.Proofs.YtpgfjbimodnkeaaGreatDoor.Scan
set_option linter.unusedVariables false
set_option linter.unusedSimpArgs false
namespace Go.Proofs.YtpgfjbimodnkeaaGreatDoor.Scan
open Go Go.RowKit Go.Proofs.YtpgfjbimodnkeaaGreatDoorW.PrintWords Go.Proofs.YtpgfjbimodnkeaaGreatDoor.Q Go.Proofs.YtpgfjbimodnkeaaGreatDoor.Dec
def wNull : ByteArray := ⟨#[110, 117, 108, 108]⟩
def wFalse : ByteArray := ⟨#[102, 97, 108, 115, 101]⟩
def wTrue : ByteArray := ⟨#[116, 114, 117, 101]⟩
inductive Md | val | els | mems
inductive J (s : ByteArray) : Md → Nat → Nat → Int → List S44 → List S32 → Prop
 | null (i : Nat) : Word s i wNull → J s .val i (i + 4) 0 [] []
 | fals (i : Nat) : Word s i wFalse → J s .val i (i + 5) 1 [] []
 | tru (i : Nat) : Word s i wTrue → J s .val i (i + 4) 2 [] []
 | num (i e : Nat) : (bt s i = 45 ∨ (48 ≤ bt s i ∧ bt s i ≤ 57)) → i < e → e ≤ s.size → Span s NumC i e → J s .val i e 3 [] []
 | str (i q : Nat) : i < s.size → bt s i = 34 → QStr s (i + 1) q → J s .val i (q + 1) 4 [] []
 | arr0 (i j : Nat) : i < s.size → bt s i = 91 → Blanks s (i + 1) j → j < s.size → bt s j = 93 → J s .val i (j + 1) 5 [] []
 | arr (i j e : Nat) (ks : List S32) : i < s.size → bt s i = 91 → Blanks s (i + 1) j → J s .els j e 0 [] ks → J s .val i e 5 [] ks
 | obj0 (i j : Nat) : i < s.size → bt s i = 123 → Blanks s (i + 1) j → j < s.size → bt s j = 125 → J s .val i (j + 1) 6 [] []
 | obj (i j e : Nat) (ns : List S44) (ks : List S32) : i < s.size → bt s i = 123 → Blanks s (i + 1) j → J s .mems j e 0 ns ks → J s .val i e 6 ns ks
 | el1 (i m e : Nat) (kd : Int) (ns : List S44) (ks : List S32) : J s .val i m kd ns ks → Blanks s m e → e < s.size → bt s e = 93 → J s .els i (e + 1) 0 [] [⟨kd, (i : Nat), (m : Nat), ns, ks⟩]
 | els (i m c n e : Nat) (kd : Int) (ns : List S44) (ks l : List S32) : J s .val i m kd ns ks → Blanks s m c → c < s.size → bt s c = 44 → Blanks s (c + 1) n → J s .els n e 0 [] l → J s .els i e 0 [] (⟨kd, (i : Nat), (m : Nat), ns, ks⟩ :: l)
 | mem1 (i q c b m e : Nat) (kd : Int) (ns : List S44) (ks : List S32) : i < s.size → bt s i = 34 → QStr s (i + 1) q → Blanks s (q + 1) c → c < s.size → bt s c = 58 → Blanks s (c + 1) b → J s .val b m kd ns ks → Blanks s m e → e < s.size → bt s e = 125 →
    J s .mems i (e + 1) 0 [⟨(i : Nat), (q + 1 : Nat)⟩] [⟨kd, (b : Nat), (m : Nat), ns, ks⟩]
 | mems (i q c b m d n e : Nat) (kd : Int) (ns nl : List S44) (ks l : List S32) : i < s.size → bt s i = 34 → QStr s (i + 1) q → Blanks s (q + 1) c → c < s.size → bt s c = 58 → Blanks s (c + 1) b → J s .val b m kd ns ks → Blanks s m d → d < s.size → bt s d = 44 → Blanks s (d + 1) n →
    J s .mems n e 0 nl l → J s .mems i e 0 (⟨(i : Nat), (q + 1 : Nat)⟩ :: nl) (⟨kd, (b : Nat), (m : Nat), ns, ks⟩ :: l)
theorem J.bound {s : ByteArray} {md : Md} {i e : Nat} {kd : Int} {ns : List S44} {ks : List S32} (h : J s md i e kd ns ks) : i < e ∧ e ≤ s.size := by
 induction h with
 | null i h => have := h.le; have : wNull.size = 4 := rfl; omega
 | fals i h => have := h.le; have : wFalse.size = 5 := rfl; omega
 | tru i h => have := h.le; have : wTrue.size = 4 := rfl; omega
 | num i e h0 h1 h2 h3 => omega
 | str i q h0 h1 h2 => have := h2.bound; omega
 | arr0 i j h0 h1 h2 h3 h4 => have := h2.le; omega
 | arr i j e ks h0 h1 h2 h3 ih => have := h2.le; omega
 | obj0 i j h0 h1 h2 h3 h4 => have := h2.le; omega
 | obj i j e ns ks h0 h1 h2 h3 ih => have := h2.le; omega
 | el1 i m e kd ns ks h0 h1 h2 h3 ih => have := h1.le; omega
 | els i m c n e kd ns ks l h0 h1 h2 h3 h4 h5 ih ih2 => have := h1.le; have := h4.le; omega
 | mem1 i q c b m e kd ns ks h0 h1 h2 h3 h4 h5 h6 h7 h8 h9 h10 ih => have := h2.bound; have := h3.le; have := h6.le; have := h8.le; omega
 | mems i q c b m d n e kd ns nl ks l h0 h1 h2 h3 h4 h5 h6 h7 h8 h9 h10 h11 h12 ih ih2 => have := h2.bound; have := h3.le; have := h6.le; have := h8.le; have := h11.le; omega
def VL (s : ByteArray) (i : Nat) : Prop := ∃ (kd : Int) (e : Nat) (ns : List S44) (ks : List S32) (ok : Bool), Evt (fun k => spec_reader_value.f k s i) (kd, (i : Int), (e : Int), ns, ks, ok, s, (e : Int)) ∧ e ≤ s.size ∧ (ok = true → J s .val i e kd ns ks)
def EL (s : ByteArray) (i : Nat) (acc : List S32) : Prop := ∃ (r : List S32) (ok : Bool) (e : Nat), Evt (fun k => spec_reader_elements.l0 k acc s i) (r, ok, s, (e : Int)) ∧ e ≤ s.size ∧ (ok = true → ∃ l, r = acc ++ l ∧ J s .els i e 0 [] l)
def ML (s : ByteArray) (i : Nat) (nacc : List S44) (acc : List S32) : Prop := ∃ (rn : List S44) (r : List S32) (ok : Bool) (e : Nat), Evt (fun k => spec_reader_members.l0 k nacc acc s i) (rn, r, ok, s, (e : Int)) ∧ e ≤ s.size ∧
 (ok = true → ∃ nl l, rn = nacc ++ nl ∧ r = acc ++ l ∧ J s .mems i e 0 nl l)
theorem value_j0 (s : ByteArray) (hS : s.size ≤ 65536) (i : Nat) (hi : i ≤ s.size) (x : Bool) (hx : x = true → bt s i = 45 ∨ (48 ≤ bt s i ∧ bt s i ≤ 57)) :
 ∃ (kd : Int) (e : Nat) (ns : List S44) (ks : List S32) (ok : Bool), Evt (fun k => spec_reader_value.j0 k true x s i 0 i 0) (kd, (i : Int), (e : Int), ns, ks, ok, s, (e : Int)) ∧ e ≤ s.size ∧ (ok = true → J s .val i e kd ns ks) := by
 cases x with
 | true =>
   obtain ⟨b, j, h1, h2, h3, h4⟩ := number_f s hS i hi
   refine ⟨3, j, [], [], b, Evt.succ ?_, h2, fun hb => .num i j (hx rfl) (h4 hb) h2 h3⟩
   simp only [spec_reader_value.j0]
   exact Evt.pos (by simp) (Evt.bind h1 (Evt.pure _))
 | false =>
   rcases word_f s hS i hi wNull (by decide) with ⟨h1, h2⟩ | ⟨h1, h2⟩
   ·refine ⟨0, i + 4, [], [], true, Evt.succ ?_, h1.le, fun _ => .null i h1⟩
    simp only [spec_reader_value.j0]
    exact Evt.neg (by simp) (Evt.bind_of h2 (Evt.pos (by simp) (Evt.pure _)))
   rcases word_f s hS i hi wFalse (by decide) with ⟨h3, h4⟩ | ⟨h3, h4⟩
   ·refine ⟨1, i + 5, [], [], true, Evt.succ ?_, h3.le, fun _ => .fals i h3⟩
    simp only [spec_reader_value.j0]
    exact Evt.neg (by simp) (Evt.bind_of h2 (Evt.neg (by simp) (Evt.bind_of h4 (Evt.pos (by simp) (Evt.pure _)))))
   rcases word_f s hS i hi wTrue (by decide) with ⟨h5, h6⟩ | ⟨h5, h6⟩
   ·refine ⟨2, i + 4, [], [], true, Evt.succ ?_, h5.le, fun _ => .tru i h5⟩
    simp only [spec_reader_value.j0]
    exact Evt.neg (by simp) (Evt.bind_of h2 (Evt.neg (by simp) (Evt.bind_of h4 (Evt.neg (by simp) (Evt.bind_of h6 (Evt.pos (by simp) (Evt.pure _)))))))
   ·refine ⟨0, i, [], [], false, Evt.succ ?_, hi, fun h => by cases h⟩
    simp only [spec_reader_value.j0]
    exact Evt.neg (by simp) (Evt.bind_of h2 (Evt.neg (by simp) (Evt.bind_of h4 (Evt.neg (by simp) (Evt.bind_of h6 (Evt.neg (by simp) (Evt.pure _)))))))
theorem value_step (s : ByteArray) (hS : s.size ≤ 65536) (i : Nat) (hi : i ≤ s.size) (hE : ∀ j : Nat, i < j → j ≤ s.size → EL s j []) (hM : ∀ j : Nat, i < j → j ≤ s.size → ML s j [] []) : VL s i := by
 have hin : ∀ c : Int, c ≠ 0 → bt s i = c → i < s.size := fun c h0 hc => by
  rcases Nat.lt_or_ge i s.size with h | h
  ·exact h
  ·exact absurd ((bt_out s i h).symm.trans hc) h0.symm
 by_cases c0 : bt s i = 123
 ·have hlt := hin 123 (by decide) c0
  obtain ⟨j, h1, h2, h3, h4⟩ := blanks_f s hS (i + 1) (by omega)
  by_cases c : j < s.size ∧ bt s j = 125
  ·refine ⟨6, j + 1, [], [], true, Evt.succ ?_, c.1, fun _ => .obj0 i j hlt c0 h1 c.1 c.2⟩
   simp only [spec_reader_value.f]
   refine Evt.bind_of (here_f s i) (Evt.pos c0 (Evt.bind (x := ([], [], true, s, ((j + 1 : Nat) : Int))) (Evt.succ ?_) (Evt.pure _)))
   simp only [spec_reader_members.f]
   rw [wrap_nat (i + 1) (by omega) (by omega)]
   exact Evt.bind h4 (Evt.bind_of (take_yes s hS j 125 c.1 c.2) (Evt.pos (by simp) (Evt.pure _)))
  ·obtain ⟨rn, r, ok, e, g1, g2, g3⟩ := hM j (by have := h1.le; omega) h2
   refine ⟨6, e, rn, r, ok, Evt.succ ?_, g2, fun hok => ?_⟩
   ·simp only [spec_reader_value.f]
    refine Evt.bind_of (here_f s i) (Evt.pos c0 (Evt.bind (x := (rn, r, ok, s, (e : Int))) (Evt.succ ?_) (Evt.pure _)))
    simp only [spec_reader_members.f]
    rw [wrap_nat (i + 1) (by omega) (by omega)]
    exact Evt.bind h4 (Evt.bind_of (take_no s j 125 c) (Evt.neg (by simp) g1))
   ·obtain ⟨nl, l, rfl, rfl, hj⟩ := g3 hok
    exact .obj i j e _ _ hlt c0 h1 hj
 by_cases c1 : bt s i = 91
 ·have hlt := hin 91 (by decide) c1
  obtain ⟨j, h1, h2, h3, h4⟩ := blanks_f s hS (i + 1) (by omega)
  by_cases c : j < s.size ∧ bt s j = 93
  ·refine ⟨5, j + 1, [], [], true, Evt.succ ?_, c.1, fun _ => .arr0 i j hlt c1 h1 c.1 c.2⟩
   simp only [spec_reader_value.f]
   refine Evt.bind_of (here_f s i) (Evt.neg c0 (Evt.pos c1 (Evt.bind (x := ([], true, s, ((j + 1 : Nat) : Int))) (Evt.succ ?_) (Evt.pure _))))
   simp only [spec_reader_elements.f]
   rw [wrap_nat (i + 1) (by omega) (by omega)]
   exact Evt.bind h4 (Evt.bind_of (take_yes s hS j 93 c.1 c.2) (Evt.pos (by simp) (Evt.pure _)))
  ·obtain ⟨r, ok, e, g1, g2, g3⟩ := hE j (by have := h1.le; omega) h2
   refine ⟨5, e, [], r, ok, Evt.succ ?_, g2, fun hok => ?_⟩
   ·simp only [spec_reader_value.f]
    refine Evt.bind_of (here_f s i) (Evt.neg c0 (Evt.pos c1 (Evt.bind (x := (r, ok, s, (e : Int))) (Evt.succ ?_) (Evt.pure _))))
    simp only [spec_reader_elements.f]
    rw [wrap_nat (i + 1) (by omega) (by omega)]
    exact Evt.bind h4 (Evt.bind_of (take_no s j 93 c) (Evt.neg (by simp) g1))
   ·obtain ⟨l, rfl, hj⟩ := g3 hok
    exact .arr i j e _ hlt c1 h1 hj
 by_cases c2 : bt s i = 34
 ·have hlt := hin 34 (by decide) c2
  obtain ⟨b, j, h1, h2, h3, h4⟩ := quoted_f s hS i hlt
  refine ⟨4, j, [], [], b, Evt.succ ?_, h2, fun hb => ?_⟩
  ·simp only [spec_reader_value.f]
   exact Evt.bind_of (here_f s i) (Evt.neg c0 (Evt.neg c1 (Evt.pos c2 (Evt.bind h1 (Evt.pure _)))))
  ·obtain ⟨q, rfl, hq⟩ := h4 hb
   exact .str i q hlt c2 hq
 by_cases c3 : bt s i = 45
 ·obtain ⟨kd, e, ns, ks, ok, h1, h2, h3⟩ := value_j0 s hS i hi true (fun _ => .inl c3)
  refine ⟨kd, e, ns, ks, ok, Evt.succ ?_, h2, h3⟩
  simp only [spec_reader_value.f]
  exact Evt.bind_of (here_f s i) (Evt.neg c0 (Evt.neg c1 (Evt.neg c2 (Evt.pos c3 h1))))
 by_cases c4 : 48 ≤ bt s i
 ·obtain ⟨kd, e, ns, ks, ok, h1, h2, h3⟩ := value_j0 s hS i hi (decide (bt s i ≤ 57)) (fun h => .inr ⟨c4, of_decide_eq_true h⟩)
  refine ⟨kd, e, ns, ks, ok, Evt.succ ?_, h2, h3⟩
  simp only [spec_reader_value.f]
  exact Evt.bind_of (here_f s i) (Evt.neg c0 (Evt.neg c1 (Evt.neg c2 (Evt.neg c3 (Evt.pos c4 h1)))))
 ·obtain ⟨kd, e, ns, ks, ok, h1, h2, h3⟩ := value_j0 s hS i hi false (fun h => by cases h)
  refine ⟨kd, e, ns, ks, ok, Evt.succ ?_, h2, h3⟩
  simp only [spec_reader_value.f]
  exact Evt.bind_of (here_f s i) (Evt.neg c0 (Evt.neg c1 (Evt.neg c2 (Evt.neg c3 (Evt.neg c4 h1)))))
theorem elements_step (s : ByteArray) (hS : s.size ≤ 65536) (i : Nat) (hi : i ≤ s.size) (acc : List S32) (ha : acc.length ≤ i) (hV : VL s i) (hE : ∀ (j : Nat) (acc : List S32), i < j → j ≤ s.size → acc.length ≤ j → EL s j acc) : EL s i acc := by
 obtain ⟨kd, m, ns, ks, ok, h1, h2, h3⟩ := hV
 cases ok with
 | false =>
   refine ⟨[], false, m, Evt.succ ?_, h2, fun h => by cases h⟩
   simp only [spec_reader_elements.l0]
   exact Evt.bind h1 (Evt.neg (by simp) (Evt.pure _))
 | true =>
   have hJ := h3 rfl
   have hb := hJ.bound
   obtain ⟨c, b1, b2, b3, b4⟩ := blanks_f s hS m h2
   have hle := b1.le
   by_cases c0 : c < s.size ∧ bt s c = 93
   ·refine ⟨acc ++ [⟨kd, (i : Nat), (m : Nat), ns, ks⟩], true, c + 1, Evt.succ ?_, c0.1, fun _ => ⟨_, rfl, .el1 i m c kd ns ks hJ b1 c0.1 c0.2⟩⟩
    simp only [spec_reader_elements.l0]
    exact Evt.bind h1 (Evt.pos (by simp) (Evt.pos (by omega) (Evt.bind_of rfl (Evt.bind b4 (Evt.bind_of (take_yes s hS c 93 c0.1 c0.2) (Evt.pos (by simp) (Evt.pure _)))))))
   by_cases c1 : c < s.size ∧ bt s c = 44
   ·obtain ⟨n, d1, d2, d3, d4⟩ := blanks_f s hS (c + 1) (by omega)
    have hle2 := d1.le
    obtain ⟨r, ok, e, g1, g2, g3⟩ := hE n (acc ++ [⟨kd, (i : Nat), (m : Nat), ns, ks⟩]) (by omega) d2 (by simp; omega)
    refine ⟨r, ok, e, Evt.succ ?_, g2, fun hok => ?_⟩
    ·simp only [spec_reader_elements.l0]
     exact Evt.bind h1 (Evt.pos (by simp) (Evt.pos (by omega) (Evt.bind_of rfl (Evt.bind b4 (Evt.bind_of (take_no s c 93 c0) (Evt.neg (by simp) (Evt.bind_of (take_yes s hS c 44 c1.1 c1.2) (Evt.pos (by simp) (Evt.bind d4 g1)))))))))
    ·obtain ⟨l, rfl, hl⟩ := g3 hok
     exact ⟨⟨kd, (i : Nat), (m : Nat), ns, ks⟩ :: l, by simp, .els i m c n e kd ns ks l hJ b1 c1.1 c1.2 d1 hl⟩
   ·refine ⟨[], false, c, Evt.succ ?_, b2, fun h => by cases h⟩
    simp only [spec_reader_elements.l0]
    exact Evt.bind h1 (Evt.pos (by simp) (Evt.pos (by omega) (Evt.bind_of rfl (Evt.bind b4 (Evt.bind_of (take_no s c 93 c0) (Evt.neg (by simp) (Evt.bind_of (take_no s c 44 c1) (Evt.neg (by simp) (Evt.pure _)))))))))
theorem members_step (s : ByteArray) (hS : s.size ≤ 65536) (i : Nat) (hi : i ≤ s.size) (nacc : List S44) (acc : List S32) (hn : nacc.length ≤ i) (ha : acc.length ≤ i) (hV : ∀ j : Nat, i < j → j ≤ s.size → VL s j)
 (hM : ∀ (j : Nat) (nacc : List S44) (acc : List S32), i < j → j ≤ s.size → nacc.length ≤ j → acc.length ≤ j → ML s j nacc acc) : ML s i nacc acc := by
 have bad : ∀ (j : Nat) (g : Nat → Option ((List S44) × (List S32) × Bool × ByteArray × Int)), j ≤ s.size → Evt g ([], [], false, s, (j : Int)) → (∀ k, spec_reader_members.l0 (k + 1) nacc acc s i = g k) → ML s i nacc acc := fun j g hj hg he =>
  ⟨[], [], false, j, Evt.succ (Evt.congr he hg), hj, fun h => by cases h⟩
 by_cases c0 : bt s i = 34
 ·have hlt : i < s.size := by
   rcases Nat.lt_or_ge i s.size with h | h
   ·exact h
   ·have := bt_out s i h; omega
  obtain ⟨b, q', h1, h2, h3, h4⟩ := quoted_f s hS i hlt
  cases b with
  | false =>
    refine ⟨[], [], false, q', Evt.succ ?_, h2, fun h => by cases h⟩
    simp only [spec_reader_members.l0]
    refine Evt.bind_of (here_f s i) (Evt.pos c0 (Evt.bind h1 (Evt.succ ?_)))
    simp only [spec_reader_members.j1]
    exact Evt.pos (by simp) (Evt.pure _)
  | true =>
    obtain ⟨q, rfl, hq⟩ := h4 rfl
    obtain ⟨c, b1, b2, b3, b4⟩ := blanks_f s hS (q + 1) h2
    have hle := b1.le
    by_cases c1 : c < s.size ∧ bt s c = 58
    ·obtain ⟨v, d1, d2, d3, d4⟩ := blanks_f s hS (c + 1) (by omega)
     have hle2 := d1.le
     obtain ⟨kd, m, ns, ks, ok, e1, e2, e3⟩ := hV v (by omega) d2
     cases ok with
     | false =>
       refine ⟨[], [], false, m, Evt.succ ?_, e2, fun h => by cases h⟩
       simp only [spec_reader_members.l0]
       refine Evt.bind_of (here_f s i) (Evt.pos c0 (Evt.bind h1 (Evt.succ ?_)))
       simp only [spec_reader_members.j1]
       exact Evt.neg (by simp) (Evt.pos (by omega) (Evt.bind_of rfl (Evt.bind b4 (Evt.bind_of (take_yes s hS c 58 c1.1 c1.2) (Evt.pos (by simp) (Evt.bind d4 (Evt.bind e1 (Evt.neg (by simp) (Evt.pure _)))))))))
     | true =>
       have hJ := e3 rfl
       have hb := hJ.bound
       obtain ⟨d, f1, f2, f3, f4⟩ := blanks_f s hS m e2
       have hle3 := f1.le
       by_cases c2 : d < s.size ∧ bt s d = 125
       ·refine ⟨nacc ++ [⟨(i : Nat), (q + 1 : Nat)⟩], acc ++ [⟨kd, (v : Nat), (m : Nat), ns, ks⟩], true, d + 1, Evt.succ ?_, c2.1, fun _ => ⟨_, _, rfl, rfl, .mem1 i q c v m d kd ns ks hlt c0 hq b1 c1.1 c1.2 d1 hJ f1 c2.1 c2.2⟩⟩
        simp only [spec_reader_members.l0]
        refine Evt.bind_of (here_f s i) (Evt.pos c0 (Evt.bind h1 (Evt.succ ?_)))
        simp only [spec_reader_members.j1]
        exact Evt.neg (by simp) (Evt.pos (by omega) (Evt.bind_of rfl (Evt.bind b4 (Evt.bind_of (take_yes s hS c 58 c1.1 c1.2) (Evt.pos (by simp) (Evt.bind d4 (Evt.bind e1 (Evt.pos (by simp) (Evt.pos (by omega) (Evt.bind_of rfl (Evt.bind f4 (Evt.bind_of (take_yes s hS d 125 c2.1 c2.2) (Evt.pos (by simp) (Evt.pure _))))))))))))))
       by_cases c3 : d < s.size ∧ bt s d = 44
       ·obtain ⟨n, p1, p2, p3, p4⟩ := blanks_f s hS (d + 1) (by omega)
        have hle4 := p1.le
        obtain ⟨rn, r, ok, e, g1, g2, g3⟩ := hM n (nacc ++ [⟨(i : Nat), (q + 1 : Nat)⟩]) (acc ++ [⟨kd, (v : Nat), (m : Nat), ns, ks⟩]) (by omega) p2 (by simp; omega) (by simp; omega)
        refine ⟨rn, r, ok, e, Evt.succ ?_, g2, fun hok => ?_⟩
        ·simp only [spec_reader_members.l0]
         refine Evt.bind_of (here_f s i) (Evt.pos c0 (Evt.bind h1 (Evt.succ ?_)))
         simp only [spec_reader_members.j1]
         exact Evt.neg (by simp) (Evt.pos (by omega) (Evt.bind_of rfl (Evt.bind b4 (Evt.bind_of (take_yes s hS c 58 c1.1 c1.2) (Evt.pos (by simp) (Evt.bind d4 (Evt.bind e1 (Evt.pos (by simp) (Evt.pos (by omega) (Evt.bind_of rfl (Evt.bind f4 (Evt.bind_of (take_no s d 125 c2) (Evt.neg (by simp) (Evt.bind_of (take_yes s hS d 44 c3.1 c3.2) (Evt.pos (by simp) (Evt.bind p4 g1))))))))))))))))
        ·obtain ⟨nl, l, rfl, rfl, hl⟩ := g3 hok
         exact ⟨⟨(i : Nat), (q + 1 : Nat)⟩ :: nl, ⟨kd, (v : Nat), (m : Nat), ns, ks⟩ :: l, by simp, by simp, .mems i q c v m d n e kd ns nl ks l hlt c0 hq b1 c1.1 c1.2 d1 hJ f1 c3.1 c3.2 p1 hl⟩
       ·refine ⟨[], [], false, d, Evt.succ ?_, f2, fun h => by cases h⟩
        simp only [spec_reader_members.l0]
        refine Evt.bind_of (here_f s i) (Evt.pos c0 (Evt.bind h1 (Evt.succ ?_)))
        simp only [spec_reader_members.j1]
        exact Evt.neg (by simp) (Evt.pos (by omega) (Evt.bind_of rfl (Evt.bind b4 (Evt.bind_of (take_yes s hS c 58 c1.1 c1.2) (Evt.pos (by simp) (Evt.bind d4 (Evt.bind e1 (Evt.pos (by simp) (Evt.pos (by omega) (Evt.bind_of rfl (Evt.bind f4 (Evt.bind_of (take_no s d 125 c2) (Evt.neg (by simp) (Evt.bind_of (take_no s d 44 c3) (Evt.neg (by simp) (Evt.pure _))))))))))))))))
    ·refine ⟨[], [], false, c, Evt.succ ?_, b2, fun h => by cases h⟩
     simp only [spec_reader_members.l0]
     refine Evt.bind_of (here_f s i) (Evt.pos c0 (Evt.bind h1 (Evt.succ ?_)))
     simp only [spec_reader_members.j1]
     exact Evt.neg (by simp) (Evt.pos (by omega) (Evt.bind_of rfl (Evt.bind b4 (Evt.bind_of (take_no s c 58 c1) (Evt.neg (by simp) (Evt.pure _))))))
 ·refine ⟨[], [], false, i, Evt.succ ?_, hi, fun h => by cases h⟩
  simp only [spec_reader_members.l0]
  refine Evt.bind_of (here_f s i) (Evt.neg c0 (Evt.succ ?_))
  simp only [spec_reader_members.j1]
  exact Evt.pos (by simp) (Evt.pure _)
theorem reads_all (s : ByteArray) (hS : s.size ≤ 65536) (n : Nat) : ∀ i : Nat, s.size - i = n → i ≤ s.size →
 VL s i ∧ (∀ acc : List S32, acc.length ≤ i → EL s i acc) ∧ (∀ (nacc : List S44) (acc : List S32), nacc.length ≤ i → acc.length ≤ i → ML s i nacc acc) := by
 induction n using Nat.strongRecOn with
 | _ n ih =>
   intro i hn hi
   have lower : ∀ j : Nat, i < j → j ≤ s.size → VL s j ∧ (∀ acc : List S32, acc.length ≤ j → EL s j acc) ∧ (∀ (nacc : List S44) (acc : List S32), nacc.length ≤ j → acc.length ≤ j → ML s j nacc acc) := fun j h1 h2 => ih (s.size - j) (by omega) j rfl h2
   have hV := value_step s hS i hi (fun j h1 h2 => (lower j h1 h2).2.1 [] (by simp)) (fun j h1 h2 => (lower j h1 h2).2.2 [] [] (by simp) (by simp))
   exact ⟨hV, fun acc ha => elements_step s hS i hi acc ha hV (fun j acc h1 h2 h3 => (lower j h1 h2).2.1 acc h3), fun nacc acc h1 h2 => members_step s hS i hi nacc acc h1 h2 (fun j h3 h4 => (lower j h3 h4).1) (fun j nacc acc h3 h4 h5 h6 => (lower j h3 h4).2.2 nacc acc h5 h6)⟩
theorem places_f (s : ByteArray) (hS : s.size ≤ 65536) : ∃ (kd b e : Int) (ns : List S44) (ks : List S32) (ok : Bool), Evt (fun k => spec_Places.f k s) (kd, b, e, ns, ks, ok) ∧
 (ok = true → ∃ i m : Nat, b = i ∧ e = m ∧ Blanks s 0 i ∧ J s .val i m kd ns ks ∧ Blanks s m s.size) := by
 unfold spec_Places.f
 obtain ⟨i, b1, b2, b3, b4⟩ := blanks_f s hS 0 (by omega)
 obtain ⟨⟨kd, m, ns, ks, ok, h1, h2, h3⟩, _⟩ := reads_all s hS _ i rfl b2
 cases ok with
 | false => exact ⟨0, 0, 0, [], [], false, Evt.bind b4 (Evt.bind h1 (Evt.neg (by simp) (Evt.pure _))), fun h => by cases h⟩
 | true =>
   obtain ⟨c, d1, d2, d3, d4⟩ := blanks_f s hS m h2
   by_cases hc : c = s.size
   ·subst hc
    exact ⟨kd, i, m, ns, ks, true, Evt.bind b4 (Evt.bind h1 (Evt.pos (by simp) (Evt.bind d4 (Evt.pos rfl (Evt.pure _))))), fun _ => ⟨i, m, rfl, rfl, b1, h3 rfl, d1⟩⟩
   ·exact ⟨0, 0, 0, [], [], false, Evt.bind b4 (Evt.bind h1 (Evt.pos (by simp) (Evt.bind d4 (Evt.neg (by simp; omega) (Evt.pure _))))), fun h => by cases h⟩
end Go.Proofs.YtpgfjbimodnkeaaGreatDoor.Scan
namespace Go.Proofs.YtpgfjbimodnkeaaGreatDoor.Q
open Go.RowKit Go.Proofs.YtpgfjbimodnkeaaGreatDoorW.PrintWords Go.Proofs.YtpgfjbimodnkeaaGreatDoorW.PrintLast Go.Proofs.YtpgfjbimodnkeaaGreatDoorW.PrintMore
attribute [local go_sem] max2_int min2_int max_two min_two max_three min_three max_four min_four
set_option linter.unusedVariables false
set_option linter.unusedSimpArgs false
mutual
def spec_unit.j0 : Nat → ByteArray → Int → Bool → Option (Int × Bool)
 | 0, _, _, _ => none
 | k + 1, x0, x1, x27 => if x27 = true then (some (0, false)) else (spec_unit.l0 k x0 x1 0 (wrap64 (x1 + 2)))
def spec_unit.l0 : Nat → ByteArray → Int → Int → Int → Option (Int × Bool)
 | 0, _, _, _, _ => none
 | k + 1, x0, x1, x6, x7 => if x7 < (wrap64 (x1 + 6)) then (if 0 ≤ x7 then (if x7 < (x0.size : Int) then ((spec_hexDigit.f k (bt x0 x7)).bind fun bt106 => (if bt106.2 = true then (spec_unit.l0 k x0 x1 (wrap64 ((wrap64 (x6 * 16)) + bt106.1)) (wrap64 (x7 + 1))) else (some (0, false)))) else (none)) else (none)) else (some (x6, true))
end
def spec_unit.f (k : Nat) (a0 : ByteArray) (a1 : Int) : Option (Int × Bool) := if (wrap64 ((a0.size : Int) - a1)) < 6 then (spec_unit.j0 k a0 a1 true) else (if 0 ≤ a1 then (if a1 < (a0.size : Int) then (if (bt a0 a1) = 92 then (if 0 ≤ (wrap64 (a1 + 1)) then (if (wrap64 (a1 + 1)) < (a0.size : Int) then (spec_unit.j0 k a0 a1 ((bt a0 (wrap64 (a1 + 1))) != 117)) else (none)) else (none)) else (spec_unit.j0 k a0 a1 true)) else (none)) else (none))
theorem spec_unit.mono_l : ∀ k, (∀ y0 y1 y2, LeO (spec_unit.j0 k y0 y1 y2) (spec_unit.j0 (k + 1) y0 y1 y2)) ∧ (∀ y0 y1 y2 y3, LeO (spec_unit.l0 k y0 y1 y2 y3) (spec_unit.l0 (k + 1) y0 y1 y2 y3))
 | 0 => ⟨fun _ _ _ r h => by simp [spec_unit.j0] at h, fun _ _ _ _ r h => by simp [spec_unit.l0] at h⟩
 | k + 1 => by
   obtain ⟨ih0, ih1⟩ := spec_unit.mono_l k
   refine ⟨?_, ?_⟩
   case' refine_1 => intro y0 y1 y2; unfold spec_unit.j0
   case' refine_2 => intro y0 y1 y2 y3; unfold spec_unit.l0
   all_goals repeat' first
    | (with_reducible exact ih0 _ _ _)
    | (with_reducible exact ih1 _ _ _ _)
    | (with_reducible exact spec_hexDigit.mono _ _)
    | (with_reducible exact LeO.refl _)
    | (with_reducible exact LeO.none _)
    | (with_reducible refine LeO.ite ?_ ?_)
    | (with_reducible refine LeO.bind ?_ (fun _ => ?_))
    | exact ih0 _ _ _
    | exact ih1 _ _ _ _
    | exact spec_hexDigit.mono _ _
    | exact LeO.none _
    | refine LeO.ite ?_ ?_
    | refine LeO.bind ?_ (fun _ => ?_)
theorem spec_unit.mono : ∀ a0 a1 k, LeO (spec_unit.f k a0 a1) (spec_unit.f (k + 1) a0 a1) := by
 intro a0 a1 k
 obtain ⟨ih0, ih1⟩ := spec_unit.mono_l k
 unfold spec_unit.f
 repeat' first
  | (with_reducible exact ih0 _ _ _)
  | (with_reducible exact ih1 _ _ _ _)
  | (with_reducible exact spec_hexDigit.mono _ _)
  | (with_reducible exact LeO.refl _)
  | (with_reducible exact LeO.none _)
  | (with_reducible refine LeO.ite ?_ ?_)
  | (with_reducible refine LeO.bind ?_ (fun _ => ?_))
  | exact ih0 _ _ _
  | exact ih1 _ _ _ _
  | exact spec_hexDigit.mono _ _
  | exact LeO.none _
  | refine LeO.ite ?_ ?_
  | refine LeO.bind ?_ (fun _ => ?_)
set_option maxHeartbeats 8000000 in
set_option maxRecDepth 100000 in
theorem spec_unit.calls (k : Nat) (a0 : ByteArray) (a1 : Int) (r1 : Int) (r2 : Bool) (w : World) (h : spec_unit.f k a0 a1 = some (r1, r2)) :
 Calls Tryz.prog 49 #[.string a0, .int .i64 a1] w fun e w' => e = .returned (.tuple #[.int .i64 r1, .bool r2]) ∧ Drawn0 w w' := by
 have H : (if (wrap64 ((a0.size : Int) - a1)) < 6 then (spec_unit.j0 k a0 a1 true) else (if 0 ≤ a1 then (if a1 < (a0.size : Int) then (if (bt a0 a1) = 92 then (if 0 ≤ (wrap64 (a1 + 1)) then (if (wrap64 (a1 + 1)) < (a0.size : Int) then (spec_unit.j0 k a0 a1 ((bt a0 (wrap64 (a1 + 1))) != 117)) else (none)) else (none)) else (spec_unit.j0 k a0 a1 true)) else (none)) else (none))) = some (r1, r2) := h
 clear h
 have HC3 := Aside0.mk H
 clear H
 go_enter Tryz.func49, Tryz.ntmps49
 go_upto_region 1 with (fail)
 go_cut [27] (fun v27 wc => ∃ (kq : Nat) (x27_2 : Bool), v27 = .bool x27_2 ∧ Aside0 (spec_unit.j0 kq a0 a1 x27_2 = some (r1, r2)) ∧ Aside0 (kq ≤ k) ∧ Drawn0 w wc)
 case first =>
  have H := HC3.out
  clear HC3
  by_cases c4 : (wrap64 ((a0.size : Int) - a1)) < 6
  ·rw [if_pos c4] at H
   have c4b0 : decide ((wrap64 ((a0.size : Int) - a1)) < 6) = true := decide_eq_true c4
   clear c4
   (first | rw [c4b0] | (simp only [i64_w, i32_w]; rw [c4b0]) | skip)
   have H' := Aside0.mk H
   clear H
   go_wp2
   go_meet
   case rel => exact ⟨_, (true), (by first | rfl | (simp; done) | (simp [*]; done)), H', ⟨by first | omega | exact Nat.le_refl _⟩, by repeat (first | exact Drawn0.refl _ | apply Drawn0.step)⟩
  ·rw [if_neg c4] at H
   have c4b0 : decide ((wrap64 ((a0.size : Int) - a1)) < 6) = false := decide_eq_false c4
   clear c4
   (first | rw [c4b0] | (simp only [i64_w, i32_w]; rw [c4b0]) | skip)
   by_cases c5 : 0 ≤ a1
   ·rw [if_pos c5] at H
    have c5b0 : decide (0 ≤ a1) = true := decide_eq_true c5
    clear c5
    by_cases c6 : a1 < (a0.size : Int)
    ·rw [if_pos c6] at H
     have c6b0 : decide (a1 < (a0.size : Int)) = true := decide_eq_true c6
     clear c6
     by_cases c8 : (bt a0 a1) = 92
     ·rw [if_pos c8] at H
      have c8b0 : ((bt a0 a1) == 92) = true := beq_iff_eq.mpr c8
      have c8b1 : ((bt a0 a1) != 92) = false := bne_eq_false_iff_eq.mpr c8
      clear c8
      obtain ⟨ji9, hji9⟩ : ∃ j_ : Int, (wrap64 (a1 + 1)) = j_ := ⟨_, rfl⟩
      replace H : (if 0 ≤ (ji9) then (if (ji9) < (a0.size : Int) then (spec_unit.j0 k a0 a1 ((bt a0 (ji9)) != 117)) else (none)) else (none)) = some (r1, r2) := by first | (rw [hji9] at H; exact H) | (simp only [hji9] at H ⊢; exact H)
      have hji9w : (IntKind.i64.wrap (a1 + 1)) = ji9 := (i64_w _).trans hji9
      by_cases c10 : 0 ≤ (ji9)
      ·rw [if_pos c10] at H
       have c10b0 : decide (0 ≤ (ji9)) = true := decide_eq_true c10
       clear c10
       by_cases c11 : (ji9) < (a0.size : Int)
       ·rw [if_pos c11] at H
        have c11b0 : decide ((ji9) < (a0.size : Int)) = true := decide_eq_true c11
        clear c11
        have H' := Aside0.mk H
        clear H
        have p7 : 0 ≤ (a1 : Int) := of_decide_eq_true (by first | (with_reducible assumption) | assumption)
        have q7 : a1 < (a0.size : Int) := of_decide_eq_true (by first | (with_reducible assumption) | assumption)
        have hx7 := bt_at a0 a1
        replace p7 := eq_true p7
        replace q7 := eq_true q7
        have p12 : 0 ≤ ((ji9) : Int) := of_decide_eq_true (by first | (with_reducible assumption) | assumption)
        have q12 : (ji9) < (a0.size : Int) := of_decide_eq_true (by first | (with_reducible assumption) | assumption)
        have hx12 := bt_at a0 (ji9)
        replace p12 := eq_true p12
        replace q12 := eq_true q12
        go_wp2
        go_meet
        case rel => exact ⟨_, (((bt a0 (ji9)) != 117)), (by first | rfl | (simp; done) | (simp only [← hji9] <;> (first | rfl | simp)) | (simp [*]; done)), H', ⟨by first | omega | exact Nat.le_refl _⟩, by repeat (first | exact Drawn0.refl _ | apply Drawn0.step)⟩
       ·rw [if_neg c11] at H
        exact absurd H (by simp)
      ·rw [if_neg c10] at H
       exact absurd H (by simp)
     ·rw [if_neg c8] at H
      have c8b0 : ((bt a0 a1) == 92) = false := beq_eq_false_iff_ne.mpr c8
      have c8b1 : ((bt a0 a1) != 92) = true := bne_iff_ne.mpr c8
      have H' := Aside0.mk H
      clear H
      have p7 : 0 ≤ (a1 : Int) := of_decide_eq_true (by first | (with_reducible assumption) | assumption)
      have q7 : a1 < (a0.size : Int) := of_decide_eq_true (by first | (with_reducible assumption) | assumption)
      have hx7 := bt_at a0 a1
      replace p7 := eq_true p7
      replace q7 := eq_true q7
      go_wp2
      go_meet
      case rel => exact ⟨_, (true), (by first | rfl | (simp; done) | (simp [*]; done)), H', ⟨by first | omega | exact Nat.le_refl _⟩, by repeat (first | exact Drawn0.refl _ | apply Drawn0.step)⟩
    ·rw [if_neg c6] at H
     exact absurd H (by simp)
   ·rw [if_neg c5] at H
    exact absurd H (by simp)
 case rest =>
  clear HC3
  try clear c1
  try clear p1
  try clear q1
  try clear hx1
  try clear p2
  try clear c4
  try clear c4b0
  try clear c5
  try clear c5b0
  try clear c6
  try clear c6b0
  try clear p6
  try clear p7
  try clear q7
  try clear hx7
  try clear c8
  try clear c8b0
  try clear c8b1
  try clear c10
  try clear c10b0
  try clear c11
  try clear c11b0
  try clear p12
  try clear q12
  try clear hx12
  try clear p12
  try clear p7
  try clear q12
  try clear q7
  obtain ⟨kq, x27_2, rfl, HA, HJ2, ⟨mc2, rfl⟩⟩ := hcut
  cases kq with
  | zero => exact absurd HA.out (by simp [spec_unit.j0])
  | succ kj2 =>
    have H := HA.out
    clear HA
    simp only [spec_unit.j0] at H
    by_cases c13 : x27_2 = true
    ·subst c13
     have H1 : (some (0, false)) = some (r1, r2) := by rw [if_pos rfl] at H; exact H
     clear H
     have H := H1
     clear H1
     simp only [Option.some.injEq, Prod.mk.injEq] at H
     obtain ⟨rfl, rfl⟩ := H
     go_wp2
     go_ret2
     exact ⟨by first | rfl | (simp; done) | (simp [*]; done), by repeat (first | exact Drawn0.refl _ | apply Drawn0.step)⟩
    ·replace c13 := Bool.eq_false_iff.mpr c13
     subst c13
     have H1 : (spec_unit.l0 kj2 a0 a1 0 (wrap64 (a1 + 2))) = some (r1, r2) := by rw [if_neg (show ¬ (false = true) by decide)] at H; exact H
     clear H
     have H := H1
     clear H1
     have H' := Aside0.mk H
     clear H
     go_wp2
     go_loopg [6, 7] kj2 (fun kq v6 v7 w' => ∃ (x6_2 : Int) (x7_2 : Int), v6 = .int .i64 x6_2 ∧ v7 = .int .i64 x7_2 ∧ Aside0 (spec_unit.l0 kq a0 a1 x6_2 x7_2 = some (r1, r2)) ∧ Aside0 (kq ≤ kj2) ∧ Drawn0 w w')
     case atStart => exact ⟨(0), (wrap64 (a1 + 2)), (by first | rfl | (simp; done) | (simp [*]; done)), (by first | rfl | (simp; done) | (simp [*]; done)), H', ⟨Nat.le_refl _⟩, by repeat (first | exact Drawn0.refl _ | apply Drawn0.step)⟩
     case round =>
      clear H'
      try clear c1
      try clear p1
      try clear q1
      try clear hx1
      try clear c2
      try clear p2
      try clear c4
      try clear c4b0
      try clear c5
      try clear c5b0
      try clear c6
      try clear c6b0
      try clear p6
      try clear p7
      try clear q7
      try clear hx7
      try clear c8
      try clear c8b0
      try clear c8b1
      try clear c10
      try clear c10b0
      try clear c11
      try clear c11b0
      try clear p12
      try clear q12
      try clear hx12
      try clear c13
      try clear p1
      try clear p12
      try clear p2
      try clear p6
      try clear p7
      try clear q1
      try clear q12
      try clear q7
      obtain ⟨x6_2, x7_2, rfl, rfl, HA, HK2, ⟨m2, rfl⟩⟩ := hrel
      cases gk with
      | zero => exact absurd HA.out (by simp [spec_unit.l0])
      | succ k2 =>
        have H := HA.out
        clear HA
        simp only [spec_unit.l0] at H
        by_cases c14 : x7_2 < (wrap64 (a1 + 6))
        ·rw [if_pos c14] at H
         have c14b0 : decide (x7_2 < (wrap64 (a1 + 6))) = true := decide_eq_true c14
         clear c14
         by_cases c15 : 0 ≤ x7_2
         ·rw [if_pos c15] at H
          have c15b0 : decide (0 ≤ x7_2) = true := decide_eq_true c15
          clear c15
          by_cases c16 : x7_2 < (a0.size : Int)
          ·rw [if_pos c16] at H
           have c16b0 : decide (x7_2 < (a0.size : Int)) = true := decide_eq_true c16
           clear c16
           replace H := Option.bind_eq_some_iff.mp H
           obtain ⟨⟨t106, t107⟩, A180, H⟩ := H
           replace H : (if t107 = true then (spec_unit.l0 k2 a0 a1 (wrap64 ((wrap64 (x6_2 * 16)) + t106)) (wrap64 (x7_2 + 1))) else (some (0, false))) = some (r1, r2) := H
           have A18 := Aside0.mk A180
           clear A180
           by_cases c19 : t107 = true
           ·subst c19
            have H1 : (spec_unit.l0 k2 a0 a1 (wrap64 ((wrap64 (x6_2 * 16)) + t106)) (wrap64 (x7_2 + 1))) = some (r1, r2) := by rw [if_pos rfl] at H; exact H
            clear H
            have H := H1
            clear H1
            have H' := Aside0.mk H
            clear H
            have p17 : 0 ≤ (x7_2 : Int) := of_decide_eq_true (by first | (with_reducible assumption) | assumption)
            have q17 : x7_2 < (a0.size : Int) := of_decide_eq_true (by first | (with_reducible assumption) | assumption)
            have hx17 := bt_at a0 x7_2
            replace p17 := eq_true p17
            replace q17 := eq_true q17
            go_wp2_with (first | ((with_reducible refine gate_callee (f := 76) rfl ?_); refine goesL_ (some 40) rfl rfl Tryz.func76 (by kernel_rfl) rfl #[.int .u8 (bt a0 x7_2)] rfl (by (try simp only [List.map_toArray, List.map_cons, List.map_nil]); first | done | rfl | (simp only [List.length_drop, List.length_take]; rfl)) ?_; (with_reducible refine (spec_hexDigit.calls k2 (bt a0 x7_2) t106 true _ A18.out).mono ?_); rintro e w' ⟨rfl, ⟨nd, rfl⟩⟩; refine ⟨_, rfl, ?_⟩))
            go_roundg k2
            case measure => have := HJ2.out; have := HK2.out; omega
            case rel => exact ⟨(wrap64 ((wrap64 (x6_2 * 16)) + t106)), (wrap64 (x7_2 + 1)), (by first | rfl | (simp; done) | (simp [*]; done)), (by first | rfl | (simp; done) | (simp [*]; done)), H', ⟨by have := HJ2.out; have := HK2.out; omega⟩, by repeat (first | exact Drawn0.refl _ | apply Drawn0.step)⟩
           ·replace c19 := Bool.eq_false_iff.mpr c19
            subst c19
            have H1 : (some (0, false)) = some (r1, r2) := by rw [if_neg (show ¬ (false = true) by decide)] at H; exact H
            clear H
            have H := H1
            clear H1
            simp only [Option.some.injEq, Prod.mk.injEq] at H
            obtain ⟨rfl, rfl⟩ := H
            have p17 : 0 ≤ (x7_2 : Int) := of_decide_eq_true (by first | (with_reducible assumption) | assumption)
            have q17 : x7_2 < (a0.size : Int) := of_decide_eq_true (by first | (with_reducible assumption) | assumption)
            have hx17 := bt_at a0 x7_2
            replace p17 := eq_true p17
            replace q17 := eq_true q17
            go_wp2_with (first | ((with_reducible refine gate_callee (f := 76) rfl ?_); refine goesL_ (some 40) rfl rfl Tryz.func76 (by kernel_rfl) rfl #[.int .u8 (bt a0 x7_2)] rfl (by (try simp only [List.map_toArray, List.map_cons, List.map_nil]); first | done | rfl | (simp only [List.length_drop, List.length_take]; rfl)) ?_; (with_reducible refine (spec_hexDigit.calls k2 (bt a0 x7_2) t106 false _ A18.out).mono ?_); rintro e w' ⟨rfl, ⟨nd, rfl⟩⟩; refine ⟨_, rfl, ?_⟩))
            go_ret2
            exact ⟨by first | rfl | (simp; done) | (simp [*]; done), by repeat (first | exact Drawn0.refl _ | apply Drawn0.step)⟩
          ·rw [if_neg c16] at H
           exact absurd H (by simp)
         ·rw [if_neg c15] at H
          exact absurd H (by simp)
        ·rw [if_neg c14] at H
         have c14b0 : decide (x7_2 < (wrap64 (a1 + 6))) = false := decide_eq_false c14
         clear c14
         simp only [Option.some.injEq, Prod.mk.injEq] at H
         obtain ⟨rfl, rfl⟩ := H
         go_wp2
         go_ret2
         exact ⟨by first | rfl | (simp; done) | (simp [*]; done), by repeat (first | exact Drawn0.refl _ | apply Drawn0.step)⟩
end Go.Proofs.YtpgfjbimodnkeaaGreatDoor.Q
namespace Go.Proofs.YtpgfjbimodnkeaaGreatDoor.Q
open Go.RowKit Go.Proofs.YtpgfjbimodnkeaaGreatDoorW.PrintWords Go.Proofs.YtpgfjbimodnkeaaGreatDoorW.PrintLast Go.Proofs.YtpgfjbimodnkeaaGreatDoorW.PrintMore
attribute [local go_sem] max2_int min2_int max_two min_two max_three min_three max_four min_four
set_option linter.unusedVariables false
set_option linter.unusedSimpArgs false
def spec_high.f (a0 : Int) : Option (Bool) := if 55296 ≤ a0 then (some (decide (a0 ≤ 56319))) else (some false)
set_option maxHeartbeats 8000000 in
set_option maxRecDepth 100000 in
theorem spec_high.calls (a0 : Int) (r : Bool) (w : World) (h : spec_high.f a0 = some r) :
 Calls Tryz.prog 50 #[.int .i64 a0] w fun e w' => e = .returned (.bool r) ∧ Drawn0 w w' := by
 have H : (if 55296 ≤ a0 then (some (decide (a0 ≤ 56319))) else (some false)) = some r := h
 clear h
 by_cases c2 : 55296 ≤ a0
 ·rw [if_pos c2] at H
  have c2b0 : decide (55296 ≤ a0) = true := decide_eq_true c2
  clear c2
  obtain rfl := Option.some.inj H
  go_enter Tryz.func50, Tryz.ntmps50
  go_wp2
  go_ret
  exact ⟨by first | rfl | (simp; done) | (simp [*]; done), by repeat (first | exact Drawn0.refl _ | apply Drawn0.step)⟩
 ·rw [if_neg c2] at H
  have c2b0 : decide (55296 ≤ a0) = false := decide_eq_false c2
  clear c2
  obtain rfl := Option.some.inj H
  go_enter Tryz.func50, Tryz.ntmps50
  go_wp2
  go_ret
  exact ⟨by first | rfl | (simp; done) | (simp [*]; done), by repeat (first | exact Drawn0.refl _ | apply Drawn0.step)⟩
end Go.Proofs.YtpgfjbimodnkeaaGreatDoor.Q
namespace Go.Proofs.YtpgfjbimodnkeaaGreatDoor.Q
open Go.RowKit Go.Proofs.YtpgfjbimodnkeaaGreatDoorW.PrintWords Go.Proofs.YtpgfjbimodnkeaaGreatDoorW.PrintLast Go.Proofs.YtpgfjbimodnkeaaGreatDoorW.PrintMore
attribute [local go_sem] max2_int min2_int max_two min_two max_three min_three max_four min_four
set_option linter.unusedVariables false
set_option linter.unusedSimpArgs false
def spec_low.f (a0 : Int) : Option (Bool) := if 56320 ≤ a0 then (some (decide (a0 ≤ 57343))) else (some false)
set_option maxHeartbeats 8000000 in
set_option maxRecDepth 100000 in
theorem spec_low.calls (a0 : Int) (r : Bool) (w : World) (h : spec_low.f a0 = some r) :
 Calls Tryz.prog 51 #[.int .i64 a0] w fun e w' => e = .returned (.bool r) ∧ Drawn0 w w' := by
 have H : (if 56320 ≤ a0 then (some (decide (a0 ≤ 57343))) else (some false)) = some r := h
 clear h
 by_cases c2 : 56320 ≤ a0
 ·rw [if_pos c2] at H
  have c2b0 : decide (56320 ≤ a0) = true := decide_eq_true c2
  clear c2
  obtain rfl := Option.some.inj H
  go_enter Tryz.func51, Tryz.ntmps51
  go_wp2
  go_ret
  exact ⟨by first | rfl | (simp; done) | (simp [*]; done), by repeat (first | exact Drawn0.refl _ | apply Drawn0.step)⟩
 ·rw [if_neg c2] at H
  have c2b0 : decide (56320 ≤ a0) = false := decide_eq_false c2
  clear c2
  obtain rfl := Option.some.inj H
  go_enter Tryz.func51, Tryz.ntmps51
  go_wp2
  go_ret
  exact ⟨by first | rfl | (simp; done) | (simp [*]; done), by repeat (first | exact Drawn0.refl _ | apply Drawn0.step)⟩
end Go.Proofs.YtpgfjbimodnkeaaGreatDoor.Q
namespace Go.Proofs.YtpgfjbimodnkeaaGreatDoor.Q
open Go.RowKit Go.Proofs.YtpgfjbimodnkeaaGreatDoorW.PrintWords Go.Proofs.YtpgfjbimodnkeaaGreatDoorW.PrintLast Go.Proofs.YtpgfjbimodnkeaaGreatDoorW.PrintMore
attribute [local go_sem] max2_int min2_int max_two min_two max_three min_three max_four min_four
set_option linter.unusedVariables false
set_option linter.unusedSimpArgs false
def spec_short.f (a0 : Int) : Option (Int) := if a0 = 98 then (some 8) else (if a0 = 102 then (some 12) else (if a0 = 110 then (some 10) else (if a0 = 114 then (some 13) else (if a0 = 116 then (some 9) else (some a0)))))
set_option maxHeartbeats 8000000 in
set_option maxRecDepth 100000 in
theorem spec_short.calls (a0 : Int) (r : Int) (w : World) (h : spec_short.f a0 = some r) :
 Calls Tryz.prog 63 #[.int .u8 a0] w fun e w' => e = .returned (.int .u8 r) ∧ Drawn0 w w' := by
 have H : (if a0 = 98 then (some 8) else (if a0 = 102 then (some 12) else (if a0 = 110 then (some 10) else (if a0 = 114 then (some 13) else (if a0 = 116 then (some 9) else (some a0)))))) = some r := h
 clear h
 by_cases c2 : a0 = 98
 ·rw [if_pos c2] at H
  have c2b0 : (a0 == 98) = true := beq_iff_eq.mpr c2
  have c2b1 : (a0 != 98) = false := bne_eq_false_iff_eq.mpr c2
  clear c2
  obtain rfl := Option.some.inj H
  go_enter Tryz.func63, Tryz.ntmps63
  go_wp2
  go_ret
  exact ⟨by first | rfl | (simp; done) | (simp [*]; done), by repeat (first | exact Drawn0.refl _ | apply Drawn0.step)⟩
 ·rw [if_neg c2] at H
  have c2b0 : (a0 == 98) = false := beq_eq_false_iff_ne.mpr c2
  have c2b1 : (a0 != 98) = true := bne_iff_ne.mpr c2
  by_cases c3 : a0 = 102
  ·rw [if_pos c3] at H
   have c3b0 : (a0 == 102) = true := beq_iff_eq.mpr c3
   have c3b1 : (a0 != 102) = false := bne_eq_false_iff_eq.mpr c3
   clear c3
   obtain rfl := Option.some.inj H
   go_enter Tryz.func63, Tryz.ntmps63
   go_wp2
   go_ret
   exact ⟨by first | rfl | (simp; done) | (simp [*]; done), by repeat (first | exact Drawn0.refl _ | apply Drawn0.step)⟩
  ·rw [if_neg c3] at H
   have c3b0 : (a0 == 102) = false := beq_eq_false_iff_ne.mpr c3
   have c3b1 : (a0 != 102) = true := bne_iff_ne.mpr c3
   by_cases c4 : a0 = 110
   ·rw [if_pos c4] at H
    have c4b0 : (a0 == 110) = true := beq_iff_eq.mpr c4
    have c4b1 : (a0 != 110) = false := bne_eq_false_iff_eq.mpr c4
    clear c4
    obtain rfl := Option.some.inj H
    go_enter Tryz.func63, Tryz.ntmps63
    go_wp2
    go_ret
    exact ⟨by first | rfl | (simp; done) | (simp [*]; done), by repeat (first | exact Drawn0.refl _ | apply Drawn0.step)⟩
   ·rw [if_neg c4] at H
    have c4b0 : (a0 == 110) = false := beq_eq_false_iff_ne.mpr c4
    have c4b1 : (a0 != 110) = true := bne_iff_ne.mpr c4
    by_cases c5 : a0 = 114
    ·rw [if_pos c5] at H
     have c5b0 : (a0 == 114) = true := beq_iff_eq.mpr c5
     have c5b1 : (a0 != 114) = false := bne_eq_false_iff_eq.mpr c5
     clear c5
     obtain rfl := Option.some.inj H
     go_enter Tryz.func63, Tryz.ntmps63
     go_wp2
     go_ret
     exact ⟨by first | rfl | (simp; done) | (simp [*]; done), by repeat (first | exact Drawn0.refl _ | apply Drawn0.step)⟩
    ·rw [if_neg c5] at H
     have c5b0 : (a0 == 114) = false := beq_eq_false_iff_ne.mpr c5
     have c5b1 : (a0 != 114) = true := bne_iff_ne.mpr c5
     by_cases c6 : a0 = 116
     ·rw [if_pos c6] at H
      have c6b0 : (a0 == 116) = true := beq_iff_eq.mpr c6
      have c6b1 : (a0 != 116) = false := bne_eq_false_iff_eq.mpr c6
      clear c6
      obtain rfl := Option.some.inj H
      go_enter Tryz.func63, Tryz.ntmps63
      go_wp2
      go_ret
      exact ⟨by first | rfl | (simp; done) | (simp [*]; done), by repeat (first | exact Drawn0.refl _ | apply Drawn0.step)⟩
     ·rw [if_neg c6] at H
      have c6b0 : (a0 == 116) = false := beq_eq_false_iff_ne.mpr c6
      have c6b1 : (a0 != 116) = true := bne_iff_ne.mpr c6
      obtain rfl := Option.some.inj H
      go_enter Tryz.func63, Tryz.ntmps63
      go_wp2
      go_ret
      exact ⟨by first | rfl | (simp; done) | (simp [*]; done), by repeat (first | exact Drawn0.refl _ | apply Drawn0.step)⟩
end Go.Proofs.YtpgfjbimodnkeaaGreatDoor.Q
