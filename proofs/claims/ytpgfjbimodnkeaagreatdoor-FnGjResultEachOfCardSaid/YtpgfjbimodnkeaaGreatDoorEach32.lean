/- FnGjResultEachOf: whatever text and stop come in, the law returns true and both read afterwards as before; with the package-level variables that its row lists as the program's own text lays them (part 32 of 33: lemmas for its last part) -/
import Derived.ChangeArms
import Derived.OpenShut
import Derived.LaidLaws
import Derived.MakeChecks
import Derived.ChangeOld
import Derived.Test.YtpgfjbimodnkeaaGreatDoorRows
import Derived.Test.YtpgfjbimodnkeaaGreatDoorEach9
import Derived.Test.YtpgfjbimodnkeaaGreatDoorEach31
set_option linter.unusedVariables false
set_option linter.unusedSimpArgs false
namespace Go.Proofs.YtpgfjbimodnkeaaGreatDoor.Dec
open Go Go.RowKit Go.Proofs.YtpgfjbimodnkeaaGreatDoorW.PrintWords Go.Proofs.YtpgfjbimodnkeaaGreatDoorW.PrintLast Go.Proofs.YtpgfjbimodnkeaaGreatDoorW.PrintMore Go.Proofs.YtpgfjbimodnkeaaGreatDoor.Scan Go.Proofs.YtpgfjbimodnkeaaGreatDoor.Q
theorem law_calls (w : World) (B : Nat) (hT : Tabs B w) (s : ByteArray) (stop : Int) :
 Calls Tryz.prog 3 #[.string s, .int .i64 stop] w fun e w' => e = .returned (.bool true) ∧ Below w.heap.size w w' := by
 rcases Nat.lt_or_ge 2147483647 s.size with hbig | hsm
 ·exact law_big w s stop hbig
 obtain ⟨kd, txt, keys, ts, ok, hgt, hok⟩ := gjtext_f s
 obtain ⟨k, hk⟩ := hgt.at
 cases ok with
 | false => exact law_notok w s stop hsm kd txt keys ts k hk
 | true =>
   obtain ⟨i, m, ns, ks, hx⟩ := hok rfl
   by_cases h5 : kd = 5
   all_goals by_cases h6 : kd = 6
   all_goals first
    | exact law_kd w s stop hsm kd h5 h6 txt keys ts k hk
    | skip
   all_goals
    have hkd : kd = 5 ∨ kd = 6 := by omega
    have hbd := hx.val.bound
    have h0 : 0 < s.size := by omega
    obtain ⟨b1, hb1⟩ : ∃ b, decide (bt s 0 = 32 ∨ bt s 0 = 9 ∨ bt s 0 = 10 ∨ bt s 0 = 13) = b := ⟨_, rfl⟩
    obtain ⟨b2, hb2⟩ : ∃ b, decide (bt s ((s.size - 1 : Nat) : Int) = 32 ∨ bt s ((s.size - 1 : Nat) : Int) = 9 ∨ bt s ((s.size - 1 : Nat) : Int) = 10 ∨ bt s ((s.size - 1 : Nat) : Int) = 13) = b := ⟨_, rfl⟩
    by_cases hbb : b1 = true ∨ b2 = true
    ·exact law_blank w s stop hsm h0 kd hkd txt keys ts k hk ⟨b1, b2, hb1, hb2, hbb⟩
    ·have e1 : b1 = false := by cases b1 <;> simp at hbb ⊢
     have e2 : b2 = false := by cases b2 <;> simp at hbb ⊢
     subst e1
     subst e2
     have n1 := of_decide_eq_false hb1
     have n2 := of_decide_eq_false hb2
     have hi0 : i = 0 := by
      rcases Nat.eq_zero_or_pos i with h | h
      ·exact h
      ·exact absurd (hx.pre.all 0 (by omega) h) (by unfold Scan.blank; simpa using n1)
     have hm0 : m = s.size := by
      rcases Nat.lt_or_ge m s.size with h | h
      ·exact absurd (hx.post.all (s.size - 1) (by omega) (by omega)) (by unfold Scan.blank; exact n2)
      ·omega
     subst hi0
     subst hm0
     obtain ⟨k2, hk2⟩ := hx.places.at
     exact law_main w B hT s hx.size h0 stop kd hkd txt keys ts k hk ns ks k2 hk2 hx.val hx.prd hx.names hb1 hb2
#print axioms law_calls
end Go.Proofs.YtpgfjbimodnkeaaGreatDoor.Dec
set_option linter.unusedVariables false
set_option linter.unusedSimpArgs false
namespace Go.Proofs.YtpgfjbimodnkeaaGreatDoor.Laid
open Go
section
variable {P : Program} {w : World} {base : Nat} {sp : Nat → Bool} {held : Bool} {fuel : Nat} {t : TypeId} {cs : List Value} {p : List MemPlace}
abbrev en : TypeId × Value → Unit := fun _ => ()
theorem laid_at : ∀ {l : List (String × DataW Unit)} {ps : List MemPlace}, DataW.LaidVars P w l ps → ∀ (i : Nat) {n : String} {d : DataW Unit}, l[i]? = some (n, d) →
 ∃ g t cs fuel p, P.globalNamed n = some g ∧ (P.globals[g]?).map (·.type) = some t ∧ w.var? P n = some cs ∧ DataW.trod en P w 0 (fun _ => true) false fuel t cs.toList = some (d, p)
 | [], _, _, i, _, _, h => by simp at h
 | (n0, d0) :: r, ps, hl, i, n, d, h => by
  obtain ⟨g, t, cs, fuel, p, q, h1, h2, h3, h4, h5, _⟩ := hl
  cases i with
  | zero =>
    simp only [List.getElem?_cons_zero, Option.some.injEq, Prod.mk.injEq] at h
    obtain ⟨rfl, rfl⟩ := h
    exact ⟨g, t, cs, fuel, p, h1, h2, h3, h4⟩
  | succ i => exact laid_at h5 i (by simpa using h)
theorem laid_var {l : List (String × DataW Unit)} {ps : List MemPlace} (hl : DataW.LaidVars P w l ps) (i : Nat) {n : String} {d : DataW Unit} (h : l[i]? = some (n, d)) {g : Nat} {t : TypeId}
 (hg : P.globalNamed n = some g) (ht : (P.globals[g]?).map (·.type) = some t) :
 ∃ (cs : List Value) (fuel : Nat) (p : List MemPlace), (∀ j, w.cell? ⟨g, j, none⟩ = cs[j]?) ∧ g < w.heap.size ∧ DataW.trod en P w 0 (fun _ => true) false fuel t cs = some (d, p) := by
 obtain ⟨g', t', cs, fuel, p, h1, h2, h3, h4⟩ := laid_at hl i h
 obtain rfl := Option.some.inj (hg.symm.trans h1)
 obtain rfl := Option.some.inj (ht.symm.trans h2)
 refine ⟨cs.toList, fuel, p, fun j => by rw [World.var?_cell hg h3 j]; simp, ?_, h4⟩
 simp only [World.var?, hg, Option.bind_some] at h3
 rcases Nat.lt_or_ge g w.heap.size with hlt | hge
 ·exact hlt
 ·rw [Array.getElem?_eq_none hge] at h3
  simp at h3
theorem bool_cell {b : Bool} (ht : P.underlying t = some .bool) (h : DataW.trod en P w base sp held fuel t cs = some (.lit (.bool b), p)) : cs = [.bool b] := by
 obtain ⟨b', e1, e2⟩ := DataW.trod_bool ht h
 simp only [Prod.mk.injEq, DataW.lit.injEq, Lit.bool.injEq] at e2
 rw [e1, e2.1]
theorem int_cell {k : IntKind} {z : Int} (ht : P.underlying t = some (.int k)) (h : DataW.trod en P w base sp held fuel t cs = some (.lit (.int k z), p)) : cs = [.int k z] ∧ (Lit.int k z).wf = true := by
 obtain ⟨n, e1, e2, e3⟩ := DataW.trod_int ht h
 simp only [Prod.mk.injEq, DataW.lit.injEq, Lit.int.injEq, true_and] at e2
 rw [e1, e2.1]
 exact ⟨rfl, e3⟩
theorem int_any {k : IntKind} {d : DataW Unit} (ht : P.underlying t = some (.int k)) (h : DataW.trod en P w base sp held fuel t cs = some (d, p)) : ∃ z, cs = [.int k z] ∧ d = .lit (.int k z) ∧ (Lit.int k z).wf = true := by
 obtain ⟨n, e1, e2, e3⟩ := DataW.trod_int ht h
 simp only [Prod.mk.injEq] at e2
 exact ⟨n, e1, e2.1, e3⟩
theorem float_any {k : FloatKind} {d : DataW Unit} (ht : P.underlying t = some (.float k)) (h : DataW.trod en P w base sp held fuel t cs = some (d, p)) : ∃ z, cs = [.float k z] := by
 cases fuel with
 | zero => simp [DataW.trod] at h
 | succ n =>
   unfold DataW.trod at h
   rw [ht] at h
   split at h <;> simp_all
theorem string_cell {l : List UInt8} (ht : P.underlying t = some .string) (h : DataW.trod en P w base sp held fuel t cs = some (.lit (.string l), p)) : cs = [.string ⟨l.toArray⟩] := by
 obtain ⟨s, e1, e2, _⟩ := DataW.trod_string ht h
 simp only [Prod.mk.injEq, DataW.lit.injEq, Lit.string.injEq] at e2
 rw [e1, e2.1]
theorem struct_field {fs : Array Field} {ds : List (DataW Unit)} (ht : P.underlying t = some (.struct fs)) (h : DataW.trod en P w base sp held fuel t cs = some (.agg ds, p)) (i : Nat) {f : Field} (hf : fs[i]? = some f) :
 cs.length = P.cellsOf t ∧ ∃ n d q, ds[i]? = some d ∧ DataW.trod en P w base sp held n f.type ((cs.drop f.offset).take (P.cellsOf f.type)) = some (d, q) := by
 obtain ⟨xs, n, rfl, hx, hl, hn, hi⟩ := DataW.trod_struct ht h
 simp only [Prod.mk.injEq, DataW.agg.injEq] at hx
 refine ⟨hl, n, ?_⟩
 have h1 := hi i f hf
 have hlt : i < xs.length := by
  rw [hn]
  exact (Array.getElem?_eq_some_iff.1 hf).1
 rw [List.getElem?_eq_getElem hlt] at h1
 refine ⟨xs[i].1, xs[i].2, ?_, h1⟩
 rw [hx.1]
 simp [hlt]
theorem array_elem {m : Nat} {e : TypeId} {ds : List (DataW Unit)} (ht : P.underlying t = some (.array m e)) (h : DataW.trod en P w base sp held fuel t cs = some (.agg ds, p)) :
 cs.length = P.cellsOf t ∧ ds.length = m ∧ ∀ i, i < m → ∃ n d q, ds[i]? = some d ∧ DataW.trod en P w base sp held n e ((cs.drop (i * P.cellsOf e)).take (P.cellsOf e)) = some (d, q) := by
 obtain ⟨xs, n, rfl, hx, hl, hn, hi⟩ := DataW.trod_array ht h
 simp only [Prod.mk.injEq, DataW.agg.injEq] at hx
 refine ⟨hl, by rw [hx.1]; simp [hn], fun i hlt => ⟨n, ?_⟩⟩
 have h1 := hi i hlt
 have hlt' : i < xs.length := by omega
 rw [List.getElem?_eq_getElem hlt'] at h1
 refine ⟨xs[i].1, xs[i].2, ?_, h1⟩
 rw [hx.1]
 simp [hlt']
theorem slice_elem {e : TypeId} {ds rs : List (DataW Unit)} (ht : P.underlying t = some (.slice e)) (h : DataW.trod en P w base sp held fuel t cs = some (.slice ds rs, p)) :
 ∃ (a : Addr) (cap : Nat), cs = [.slice (some a) ds.length cap] ∧ ∀ i, i < ds.length → ∃ n d q vs, ds[i]? = some d ∧ vs.length = P.cellsOf e ∧ (∀ j, j < P.cellsOf e → w.cell? ((a.add (i * P.cellsOf e)).add j) = vs[j]?) ∧ DataW.trod en P w base sp held n e vs = some (d, q) := by
 rcases DataW.trod_slice ht h with ⟨_, hx⟩ | ⟨a, len, cap, elems, rest, n, rfl, hc, hx, hb, hl, hm, hn, hi, _, _⟩
 ·simp at hx
 ·simp only [Prod.mk.injEq, DataW.slice.injEq] at hx
  have hlen : ds.length = len := by rw [hx.1.1]; simp [hn]
  refine ⟨a, cap, by rw [hc, hlen], fun i hlt => ⟨n, ?_⟩⟩
  rw [hlen] at hlt
  have h1 := hi i hlt
  have hlt' : i < elems.length := by omega
  rw [List.getElem?_eq_getElem hlt'] at h1
  obtain ⟨vs, hv, ht'⟩ := Option.bind_eq_some_iff.1 h1
  obtain ⟨_, hvl, hvc⟩ := World.cells?_some hv
  refine ⟨elems[i].1, elems[i].2, vs, ?_, hvl, hvc, ht'⟩
  rw [hx.1.1]
  simp [hlt']
end
end Go.Proofs.YtpgfjbimodnkeaaGreatDoor.Laid
set_option linter.unusedVariables false
set_option linter.unusedSimpArgs false
namespace Go.Proofs.YtpgfjbimodnkeaaGreatDoor.Dec
open Go Go.RowKit Go.Proofs.YtpgfjbimodnkeaaGreatDoor.Laid Go.Proofs.YtpgfjbimodnkeaaGreatDoorW.PrintWords
theorem drop_one {cs : List Value} {i : Nat} {v : Value} (h : (cs.drop (i * 1)).take 1 = [v]) : cs[i]? = some v := by
 have := congrArg (·[0]?) h
 simpa using this
def isVch (ds : List (DataW Unit)) (i : Nat) : Bool := match ds[i]? with | some (.lit (.int .u8 z)) => z == (vchar i : Nat) | _ => false
def isPow (ds : List (DataW Unit)) (i : Nat) : Bool := match ds[i]? with | some (.lit (.int .i64 z)) => z == (powAt i : Nat) | _ => false
theorem vch_table : ∃ ds, (Rows.laid_pub_tetrapla_pub_gjson_vchars : DataW Unit) = .agg ds ∧ (List.range 256).all (isVch ds) = true := ⟨_, rfl, by kernel_rfl⟩
theorem pow_table : ∃ ds, (Rows.laid_internal_strconv_powtab : DataW Unit) = .slice ds [] ∧ ds.length = 9 ∧ (List.range 9).all (isPow ds) = true := ⟨_, rfl, rfl, by kernel_rfl⟩
theorem ten_table : ∃ ds, (Rows.laid_internal_strconv_float64pow10 : DataW Unit) = .slice ds [] ∧ ds.length = 23 := ⟨_, rfl, rfl⟩
theorem c5 : Tryz.prog.cellsOf 5 = 1 := by kernel_rfl
theorem c3 : Tryz.prog.cellsOf 3 = 1 := by kernel_rfl
theorem c37 : Tryz.prog.cellsOf 37 = 1 := by kernel_rfl
theorem c221 : Tryz.prog.cellsOf 221 = 2 := by kernel_rfl
theorem c232 : Tryz.prog.cellsOf 232 = 2 := by kernel_rfl
section
variable {W : World} {l : List (String × DataW Unit)} {ps : List MemPlace}
theorem tab_vch (hl : DataW.LaidVars Tryz.prog W l ps) (i : Nat) (h : l[i]? = some ("pub-tetrapla/pub/gjson.vchars", Rows.laid_pub_tetrapla_pub_gjson_vchars)) : ∀ i, i < 256 → W.cell? ⟨0, i, none⟩ = some (.int .u8 (vchar i : Nat)) := by
 obtain ⟨cs, fuel, p, hc, _, ht⟩ := laid_var hl i h (g := 0) (t := 138) (by kernel_rfl) (by kernel_rfl)
 intro j hj
 obtain ⟨ds, eds, htab⟩ := vch_table
 rw [eds] at ht
 obtain ⟨_, _, hel⟩ := array_elem Tryz.underlying138 ht
 obtain ⟨n, d, q, hd, hr⟩ := hel j hj
 rw [c5] at hr
 obtain ⟨z, hz, rfl, _⟩ := int_any Tryz.underlying5 hr
 rw [hc j, drop_one hz]
 have hv := List.all_eq_true.1 htab j (List.mem_range.2 hj)
 unfold isVch at hv
 simp only [hd] at hv
 rw [eq_of_beq hv]
theorem tab_err (hl : DataW.LaidVars Tryz.prog W l ps) (i : Nat) {g : Nat} {n : String} {s : List UInt8} (h : l[i]? = some (n, .iface "*errors.errorString" (.ptr (.agg [.lit (.string s)])))) (hg : Tryz.prog.globalNamed n = some g) (ht : (Tryz.prog.globals[g]?).map (·.type) = some 123) : ∃ t v, W.cell? ⟨g, 0, none⟩ = some (.iface t v) := by
 obtain ⟨cs, fuel, p, hc, _, hr⟩ := laid_var hl i h hg ht
 obtain ⟨f, u, v, e, _, _⟩ := iface_of_trod Tryz.underlying123 hr
 exact ⟨u, v, by rw [hc 0, e]; rfl⟩
theorem tab_opt (hl : DataW.LaidVars Tryz.prog W l ps) (i : Nat) (h : l[i]? = some ("internal/strconv.optimize", Rows.laid_internal_strconv_optimize)) : W.cell? ⟨4, 0, none⟩ = some (.bool true) := by
 obtain ⟨cs, fuel, p, hc, _, ht⟩ := laid_var hl i h (g := 4) (t := 4) (by kernel_rfl) (by kernel_rfl)
 rw [hc 0, bool_cell Tryz.underlying4 ht]
 rfl
theorem tab_info (hl : DataW.LaidVars Tryz.prog W l ps) (i : Nat) (h : l[i]? = some ("internal/strconv.float64info", Rows.laid_internal_strconv_float64info)) :
 W.cell? ⟨5, 0, none⟩ = some (.int .u64 52) ∧ W.cell? ⟨5, 1, none⟩ = some (.int .u64 11) ∧ W.cell? ⟨5, 2, none⟩ = some (.int .i64 (-1023)) := by
 obtain ⟨cs, fuel, p, hc, _, ht⟩ := laid_var hl i h (g := 5) (t := 181) (by kernel_rfl) (by kernel_rfl)
 unfold Rows.laid_internal_strconv_float64info at ht
 have c133 : Tryz.prog.cellsOf 133 = 1 := by kernel_rfl
 obtain ⟨_, n0, d0, q0, e0, h0⟩ := struct_field Tryz.underlying181 ht 0 rfl
 obtain ⟨_, n1, d1, q1, e1, h1⟩ := struct_field Tryz.underlying181 ht 1 rfl
 obtain ⟨_, n2, d2, q2, e2, h2⟩ := struct_field Tryz.underlying181 ht 2 rfl
 obtain rfl := Option.some.inj e0
 obtain rfl := Option.some.inj e1
 obtain rfl := Option.some.inj e2
 have h0' : (cs.drop (0 * 1)).take (Tryz.prog.cellsOf 133) = _ := (int_cell Tryz.underlying133 h0).1
 have h1' : (cs.drop (1 * 1)).take (Tryz.prog.cellsOf 133) = _ := (int_cell Tryz.underlying133 h1).1
 have h2' : (cs.drop (2 * 1)).take (Tryz.prog.cellsOf 3) = _ := (int_cell Tryz.underlying3 h2).1
 rw [c133] at h0' h1'
 rw [c3] at h2'
 exact ⟨by rw [hc 0]; exact drop_one h0', by rw [hc 1]; exact drop_one h1', by rw [hc 2]; exact drop_one h2'⟩
theorem tab_pow (hl : DataW.LaidVars Tryz.prog W l ps) (i : Nat) (h : l[i]? = some ("internal/strconv.powtab", Rows.laid_internal_strconv_powtab)) :
 ∃ (b : Addr) (cc : Nat), b.block < W.heap.size ∧ W.cell? ⟨7, 0, none⟩ = some (.slice (some b) 9 cc) ∧ ∀ i, i < 9 → W.cell? (b.add i) = some (.int .i64 (powAt i : Nat)) := by
 obtain ⟨cs, fuel, p, hc, _, ht⟩ := laid_var hl i h (g := 7) (t := 65) (by kernel_rfl) (by kernel_rfl)
 obtain ⟨ds, eds, hlen, hp⟩ := pow_table
 rw [eds] at ht
 obtain ⟨a, cap, e, hel⟩ := slice_elem Tryz.underlying65 ht
 rw [hlen] at e hel
 have key : ∀ j, j < 9 → W.cell? (a.add j) = some (.int .i64 (powAt j : Nat)) := fun j hj => by
  obtain ⟨n, d, q, vs, hd, hvl, hvc, hr⟩ := hel j hj
  obtain ⟨z, rfl, rfl, _⟩ := int_any Tryz.underlying3 hr
  have hx := hvc 0 (by rw [c3]; decide)
  rw [c3, Nat.mul_one] at hx
  have hv := List.all_eq_true.1 hp j (List.mem_range.2 hj)
  unfold isPow at hv
  simp only [hd] at hv
  rw [← eq_of_beq hv]
  exact hx
 refine ⟨a, cap, ?_, by rw [hc 0, e]; rfl, key⟩
 have := World.block_lt_of_cell? W _ (key 0 (by decide))
 exact this
theorem tab_ten (hl : DataW.LaidVars Tryz.prog W l ps) (i : Nat) (h : l[i]? = some ("internal/strconv.float64pow10", Rows.laid_internal_strconv_float64pow10)) :
 ∃ (b : Addr) (cc : Nat), b.block < W.heap.size ∧ W.cell? ⟨8, 0, none⟩ = some (.slice (some b) 23 cc) ∧ ∀ i, i < 23 → ∃ x, W.cell? (b.add i) = some (.float .f64 x) := by
 obtain ⟨cs, fuel, p, hc, _, ht⟩ := laid_var hl i h (g := 8) (t := 217) (by kernel_rfl) (by kernel_rfl)
 obtain ⟨ds, eds, hlen⟩ := ten_table
 rw [eds] at ht
 obtain ⟨a, cap, e, hel⟩ := slice_elem Tryz.underlying217 ht
 rw [hlen] at e hel
 have key : ∀ j, j < 23 → ∃ x, W.cell? (a.add j) = some (.float .f64 x) := fun j hj => by
  obtain ⟨n, d, q, vs, hd, hvl, hvc, hr⟩ := hel j hj
  obtain ⟨z, rfl⟩ := float_any Tryz.underlying37 hr
  have hx := hvc 0 (by rw [c37]; decide)
  rw [c37, Nat.mul_one] at hx
  exact ⟨z, hx⟩
 refine ⟨a, cap, ?_, by rw [hc 0, e]; rfl, key⟩
 obtain ⟨x, hx⟩ := key 0 (by decide)
 have := World.block_lt_of_cell? W _ hx
 exact this
theorem tab_tab (hl : DataW.LaidVars Tryz.prog W l ps) (i : Nat) (h : l[i]? = some ("internal/strconv.pow10Tab", Rows.laid_internal_strconv_pow10Tab)) :
 ∀ i, i < 1392 → ∃ x : Int, 0 ≤ x ∧ x < 18446744073709551616 ∧ W.cell? ⟨9, i, none⟩ = some (.int .u64 x) := by
 obtain ⟨cs, fuel, p, hc, _, ht⟩ := laid_var hl i h (g := 9) (t := 222) (by kernel_rfl) (by kernel_rfl)
 unfold Rows.laid_internal_strconv_pow10Tab Go.Pinned.pow10Tab at ht
 obtain ⟨_, _, hel⟩ := array_elem Tryz.underlying222 ht
 have wf : ∀ z : Int, (Lit.int .u64 z).wf = true → 0 ≤ z ∧ z < 18446744073709551616 := fun z hz => by
  simp [Lit.wf, IntKind.min, IntKind.max, IntKind.signed, IntKind.bits] at hz
  omega
 have c134 : Tryz.prog.cellsOf 134 = 1 := by kernel_rfl
 intro j hj
 obtain ⟨n, d, q, hd, hr⟩ := hel (j / 2) (by omega)
 rw [c221] at hr
 rw [List.getElem?_map, Option.map_eq_some_iff] at hd
 obtain ⟨x, _, rfl⟩ := hd
 obtain ⟨_, n0, d0, q0, e0, h0⟩ := struct_field Tryz.underlying221 hr 0 rfl
 obtain ⟨_, n1, d1, q1, e1, h1⟩ := struct_field Tryz.underlying221 hr 1 rfl
 obtain ⟨z0, h0a, _, w0⟩ := int_any Tryz.underlying134 h0
 obtain ⟨z1, h1a, _, w1⟩ := int_any Tryz.underlying134 h1
 have h0' : ((((cs.drop (j / 2 * 2)).take 2)).drop (0 * 1)).take (Tryz.prog.cellsOf 134) = _ := h0a
 have h1' : ((((cs.drop (j / 2 * 2)).take 2)).drop (1 * 1)).take (Tryz.prog.cellsOf 134) = _ := h1a
 rw [c134] at h0' h1'
 have k0 := drop_one h0'
 have k1 := drop_one h1'
 rw [List.getElem?_take, if_pos (by decide), List.getElem?_drop] at k0 k1
 rcases Nat.mod_two_eq_zero_or_one j with hm | hm
 ·rw [show j / 2 * 2 + 0 = j by omega] at k0
  exact ⟨z0, (wf z0 w0).1, (wf z0 w0).2, by rw [hc j, k0]⟩
 ·rw [show j / 2 * 2 + 1 = j by omega] at k1
  exact ⟨z1, (wf z1 w1).1, (wf z1 w1).2, by rw [hc j, k1]⟩
theorem tab_left (hl : DataW.LaidVars Tryz.prog W l ps) (i : Nat) (h : l[i]? = some ("internal/strconv.leftcheats", Rows.laid_internal_strconv_leftcheats)) :
 ∃ (b : Addr) (cc : Nat), b.block < W.heap.size ∧ W.cell? ⟨10, 0, none⟩ = some (.slice (some b) 61 cc) ∧ ∀ k, k < 61 →
  W.cell? (b.add (k * 2)) = some (.int .i64 ((cheatAt k).1 : Nat)) ∧ W.cell? ⟨(b.add (k * 2)).block, (b.add (k * 2)).off + 1, none⟩ = some (.string (cheatStr k)) := by
 obtain ⟨cs, fuel, p, hc, _, ht⟩ := laid_var hl i h (g := 10) (t := 233) (by kernel_rfl) (by kernel_rfl)
 unfold Rows.laid_internal_strconv_leftcheats Go.Pinned.leftcheats at ht
 obtain ⟨a, cap, e, hel⟩ := slice_elem Tryz.underlying233 ht
 have hlen : Go.Pinned.cheatRows.length = 61 := by decide +kernel
 rw [List.length_map, hlen] at e hel
 have key : ∀ k, k < 61 → W.cell? (a.add (k * 2)) = some (.int .i64 ((cheatAt k).1 : Nat)) ∧ W.cell? ⟨(a.add (k * 2)).block, (a.add (k * 2)).off + 1, none⟩ = some (.string (cheatStr k)) := fun k hk => by
  obtain ⟨n, d, q, vs, hd, hvl, hvc, hr⟩ := hel k hk
  rw [c232] at hvl hvc
  rw [List.getElem?_map, Option.map_eq_some_iff] at hd
  obtain ⟨x, hx, rfl⟩ := hd
  have hxa : cheatAt k = x := by unfold cheatAt; rw [List.getD_eq_getElem?_getD, hx]; rfl
  obtain ⟨_, n0, d0, q0, e0, h0⟩ := struct_field Tryz.underlying232 hr 0 rfl
  obtain ⟨_, n1, d1, q1, e1, h1⟩ := struct_field Tryz.underlying232 hr 1 rfl
  obtain rfl := Option.some.inj e0
  obtain rfl := Option.some.inj e1
  have h0' : (vs.drop (0 * 1)).take (Tryz.prog.cellsOf 3) = _ := (int_cell Tryz.underlying3 h0).1
  have h1' : (vs.drop (1 * 1)).take (Tryz.prog.cellsOf 9) = _ := string_cell Tryz.underlying9 h1
  have c9 : Tryz.prog.cellsOf 9 = 1 := by kernel_rfl
  rw [c3] at h0'
  rw [c9] at h1'
  have k0 := (hvc 0 (by decide)).trans (drop_one h0')
  have k1 := (hvc 1 (by decide)).trans (drop_one h1')
  rw [hxa]
  refine ⟨k0, ?_⟩
  unfold cheatStr
  rw [hxa]
  exact k1
 refine ⟨a, cap, ?_, by rw [hc 0, e]; rfl, key⟩
 have := World.block_lt_of_cell? W _ (key 0 (by decide)).1
 exact this
end
theorem tabs_laid {W : World} (h : laidMetH Tryz.prog Rows.fnGjResultEachOfRow.laid W) : Tabs W.heap.size W := by
 rw [MakeChecks.laidMetH_plain _ _ _ (by kernel_rfl)] at h
 obtain ⟨ps, hl, _, _⟩ := h
 obtain ⟨_, _, _, _, hlow, _⟩ := laid_var hl 1 (n := "math/bits.deBruijn64tab") (d := Rows.laid_math_bits_deBruijn64tab) rfl (g := 13) (t := 239) (by kernel_rfl) (by kernel_rfl)
 obtain ⟨i0, i1, i2⟩ := tab_info hl 3 rfl
 exact ⟨by omega, Nat.le_refl _, tab_vch hl 11 rfl, tab_err hl 10 (n := "strconv.ErrSyntax") rfl (by kernel_rfl) (by kernel_rfl), tab_err hl 9 (n := "strconv.ErrRange") rfl (by kernel_rfl) (by kernel_rfl), tab_opt hl 4 rfl, i0, i1, i2, tab_pow hl 5 rfl, tab_ten hl 6 rfl, tab_tab hl 13 rfl, tab_left hl 12 rfl⟩
end Go.Proofs.YtpgfjbimodnkeaaGreatDoor.Dec
