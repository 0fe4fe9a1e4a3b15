/- FnGjValuesSeq: whatever text and stop come in, the law returns true and both read afterwards as before; with the package-level variables that its row lists as the program's own text lays them (part 3 of 27: lemmas for its last part) -/
import Derived.Test.YtpgfjbimodnkeaaGreatDoorProg
import Derived.Below
import Derived.Deep.Draws
import Derived.Deep.AppendLies
import Derived.Maps.AppendAt
import Derived.OwnWalk
import Derived.Laws.BytesArg
import Derived.Laws.MakeOwn
import Derived.Laws.OwnMore
import Derived.Deep.OwnRows
import Derived.Tactics
import Derived.Lib.ConvBytes
import Derived.Laws.Slices
import Derived.WalkKit
import Derived.KernelRfl
import Derived.RowKit3
import Derived.Deep.LoopGhost
import Derived.Deep.QuietTactic
import Derived.BigQuiet
import Derived.WideLaws
import Derived.Deep.DeepCutAuto
import Derived.Deep.CutBlock
import Derived.Deep.RegionHeld3
import Derived.Laws.Rows
import Derived.Lib.AppendStr
import Derived.ArgAppend
import Derived.Laws.IdiomCopy
import Derived.OrdersHeld
import Derived.Laws.BitsLemmas
import Derived.RowKit
import Derived.WalkMore
import Derived.Test.YtpgfjbimodnkeaaGreatDoorVals1
import Derived.Test.YtpgfjbimodnkeaaGreatDoorVals2
namespace Go.Proofs.YtpgfjbimodnkeaaGreatDoorW.PrintMore
open Go.RowKit Go.Proofs.YtpgfjbimodnkeaaGreatDoorW.PrintWords
namespace Kd
open Go.Proofs.YtpgfjbimodnkeaaGreatDoorW.PrintWords.Kd
end Kd
namespace Kd
open Go.Proofs.YtpgfjbimodnkeaaGreatDoorW.PrintWords.Kd
section
variable {α : Type} {d : Kd α} {e base g N : Nat} {ok : Nat → Prop} {W w1 : World} {u v : Value} {xs : List α}
end
end Kd
theorem max2_int (k k' : IntKind) (x y : Int) : Builtin.max2 (.int k x) (.int k' y) = pure (.int k (if x < y then y else x)) := by simp only [Builtin.max2, gt_iff_lt]
theorem min2_int (k k' : IntKind) (x y : Int) : Builtin.min2 (.int k x) (.int k' y) = pure (.int k (if y < x then y else x)) := by simp only [Builtin.min2]
theorem max_two (ats : Array TypeId) (ty : TypeId) (a b : Value) : Builtin.max_ ats ty #[a, b] = (Builtin.max2 a b >>= fun s => pure s) := by simp only [Builtin.max_, List.foldlM_cons, List.foldlM_nil]
theorem min_two (ats : Array TypeId) (ty : TypeId) (a b : Value) : Builtin.min_ ats ty #[a, b] = (Builtin.min2 a b >>= fun s => pure s) := by simp only [Builtin.min_, List.foldlM_cons, List.foldlM_nil]
theorem max_three (ats : Array TypeId) (ty : TypeId) (a b c : Value) : Builtin.max_ ats ty #[a, b, c] = (Builtin.max2 a b >>= fun s => Builtin.max2 s c >>= fun s => pure s) := by simp only [Builtin.max_, List.foldlM_cons, List.foldlM_nil]
theorem min_three (ats : Array TypeId) (ty : TypeId) (a b c : Value) : Builtin.min_ ats ty #[a, b, c] = (Builtin.min2 a b >>= fun s => Builtin.min2 s c >>= fun s => pure s) := by simp only [Builtin.min_, List.foldlM_cons, List.foldlM_nil]
theorem max_four (ats : Array TypeId) (ty : TypeId) (a b c d : Value) : Builtin.max_ ats ty #[a, b, c, d] = (Builtin.max2 a b >>= fun s => Builtin.max2 s c >>= fun s => Builtin.max2 s d >>= fun s => pure s) := by simp only [Builtin.max_, List.foldlM_cons, List.foldlM_nil]
theorem min_four (ats : Array TypeId) (ty : TypeId) (a b c d : Value) : Builtin.min_ ats ty #[a, b, c, d] = (Builtin.min2 a b >>= fun s => Builtin.min2 s c >>= fun s => Builtin.min2 s d >>= fun s => pure s) := by simp only [Builtin.min_, List.foldlM_cons, List.foldlM_nil]
end Go.Proofs.YtpgfjbimodnkeaaGreatDoorW.PrintMore
namespace Go.Proofs.YtpgfjbimodnkeaaGreatDoorW.PrintWords
open Go.RowKit
section
variable {P : Program} {ops : Array Oper} {rest : List Oper} {o : Oper} {a : Act} {Q : Exit → Act → World → Prop} {W : World}
theorem gate_callee {f : FuncId} {az : Array Operand} {ts : Array TypeId} (_ho : o.op = .call { callee := .value (.func f), args := az, argTypes := ts }) (h : wpList P ops Q (o :: rest) a W) : wpList P ops Q (o :: rest) a W := h
theorem gate_builtin {b : Builtin} {xs : Array Operand} {ts : Array TypeId} (_ho : o.op = .call { callee := .builtin b, args := xs, argTypes := ts }) (h : wpList P ops Q (o :: rest) a W) : wpList P ops Q (o :: rest) a W := h
end
theorem drewN_self (w : World) (n : Nat) : w.drewN n = w.drewN n := rfl
namespace Kd
section
variable {α : Type} {d : Kd α} {e base : Nat} {ok : Nat → Prop} {W w1 : World} {v : Value} {xs : List α}
end
section
variable {α : Type} {d : Kd α} {e base g n cap : Nat} {ok oki okp : Nat → Prop} {W : World} {xs : List α} {i : Int} {c : List Value}
end
section
variable {α : Type} {d : Kd α} {e base b b' g N : Nat} {ok ok1 : Nat → Prop} {W W2 w1 : World} {u v : Value} {xs ys : List α} {S : Nat → Prop}
end
end Kd
end Go.Proofs.YtpgfjbimodnkeaaGreatDoorW.PrintWords
namespace Go.Proofs.YtpgfjbimodnkeaaGreatDoorW.PrintWords
open Go.RowKit
namespace Kd
def V {α : Type} (d : Kd α) (_e : Nat) (W : World) (_base : Nat) (ok : Nat → Prop) (v : Value) (xs : List α) : Prop := ∃ A c, v = .slice A xs.length c ∧ xs.length ≤ c ∧ F d W ok A xs.length xs
section
variable {α β : Type} {d : Kd α} {e base base' n m c g N' lo hi : Nat} {ok ok' S : Nat → Prop} {w W w1 : World} {A : Option Addr} {ad : Addr} {u v v1 : Value} {xs : List α}
theorem V_nil (d : Kd α) (e : Nat) (W : World) (base : Nat) (ok : Nat → Prop) : V d e W base ok (.slice none 0 0) [] := ⟨none, 0, rfl, Nat.le_refl _, F_nil d W ok⟩
theorem R_newM {M : Nat → Prop} (h : d.R e w1 W.heap.size ok v xs) (hle : w.heap.size ≤ W.heap.size) (hM : ∀ k, w.heap.size ≤ k → M k) : d.R e w1 W.heap.size (fun k => M k ∧ ok k) v xs := R_mono (R_bound h) (fun k hk => ⟨hM k (Nat.le_trans hle hk.2.1), hk.1⟩)
end
end Kd
end Go.Proofs.YtpgfjbimodnkeaaGreatDoorW.PrintWords
namespace Go.Proofs.YtpgfjbimodnkeaaGreatDoorW.PrintWords
open Go.RowKit
@[go_sem] theorem run_store_flt {P : Program} {w : World} {a : Addr} {m : Mode} (k : FloatKind) (b : Nat) : (store a (.float k b) m).run P w = stored P w a (.float k b) m := run_store P w a _ m rfl
section
variable {P : Program} {ops : Array Oper} {rest : List Oper} {o : Oper} {a : Act} {Q : Exit → Act → World → Prop}
end
namespace Kd
section
variable {α : Type} {P : Program} {ops : Array Oper} {Q : Exit → Act → World → Prop} {rest : List Oper} {o : Oper} {a : Act}
theorem R_makecap (d : Kd α) {w0 W : World} (base e : Nat) (hgd : o.guard = none) {N : Tmp} (_hd : o.dst = some N) (t : TypeId) (x y : Operand) (ho : o.op = .makeSlice t x y) (n : Int) (hx : a.eval x = .int .i64 0) (hy : a.eval y = .int .i64 n)
 (ht : P.underlying t = some (.slice e)) (z : Value) (bytes : Nat) (hinfo : (P.info? e).map (fun i => (i.zero, i.size, i.bytes)) = some (some z, d.sz, bytes)) (hb0 : 0 < bytes)
 {ok : Nat → Prop} (hfresh : ok W.heap.size) (h0 : 0 ≤ n) (hl : n.toNat * bytes ≤ 281474976710656) (HB : Below base w0 W) (hbase : base ≤ W.heap.size)
 (h : ∀ v1 w1, d.R e w1 base ok v1 [] → Below base w0 w1 → W.grownBy w1 none → (∃ b, v1.ownBlock = some b ∧ W.heap.size ≤ b) → wpList P ops Q rest (a.put o.dst v1) w1) : wpList P ops Q (o :: rest) a W := by
 obtain ⟨m, rfl⟩ := Int.eq_ofNat_of_zero_le h0
 simp only [Int.toNat_natCast] at hl
 obtain ⟨i0, hi, hzz⟩ := Option.map_eq_some_iff.1 hinfo
 simp only [Prod.mk.injEq] at hzz
 obtain ⟨hz0, hz1, hz2⟩ := hzz
 have hm : m ≤ 281474976710656 := Nat.le_trans (Nat.le_mul_of_pos_right _ hb0) hl
 have hr := run_make (P := P) W t e i0 z ht hi hz0 .i64 .i64 (0 : Int) (m : Int) (by omega) (by omega)
  (by
    have h3 : ((i0.bytes * m : Nat) : Int) ≤ 281474976710656 := by rw [hz2, Nat.mul_comm]; omega
    rwa [Int.natCast_mul] at h3) (by omega)
 rw [hz1] at hr
 have hrun : (execOp a.eval o).run P W = .ok (.value (.slice (some ⟨W.heap.size, 0, none⟩) 0 m)) (W.alloc (.cells (madeCells z.cells (m * d.sz)) e)) := by
  simp only [Int.toNat_natCast, Int.toNat_zero] at hr
  simp [execOp, ho, hx, hy, hr]
 have hsz : (madeCells z.cells (m * d.sz)).size = m * d.sz := by simp [size_madeCells]
 have hown : (W.alloc (.cells (madeCells z.cells (m * d.sz)) e)).ownsRow base e d.sz (.slice (some ⟨W.heap.size, 0, none⟩) 0 m) 0 [] := by
  have h2 := World.ownsRow_lit (base := base) (e := e) (size := d.sz) W (madeCells z.cells (m * d.sz)) m hbase (by simp [maxLen]; omega) hsz
  have h4 := own_take h2 (Nat.zero_le m)
  simpa using h4
 refine event_run hgd hrun (h _ _ ⟨fun k hk => ?_, [], hown, Reps.none _ _⟩ (HB.alloc hbase _) (World.grownBy_alloc W _ none) ⟨W.heap.size, by simp [Value.ownBlock], Nat.le_refl _⟩)
 have : W.heap.size = k := by simpa [Value.ownBlock] using hk
 subst this
 exact hfresh
end
end Kd
end Go.Proofs.YtpgfjbimodnkeaaGreatDoorW.PrintWords
namespace Go.Proofs.YtpgfjbimodnkeaaGreatDoor.Q
open Go.RowKit Go.Proofs.YtpgfjbimodnkeaaGreatDoorW.PrintWords Go.Proofs.YtpgfjbimodnkeaaGreatDoorW.PrintLast Go.Proofs.YtpgfjbimodnkeaaGreatDoorW.PrintMore
attribute [local go_sem] max2_int min2_int max_two min_two max_three min_three max_four min_four
set_option linter.unusedVariables false
set_option linter.unusedSimpArgs false
def errW : Option Int → Value
 | none => .nilIface
 | some c => .iface 152 (.int .i64 c)
theorem errW_none : errW none = .nilIface := rfl
theorem errW_some (c : Int) : errW (some c) = .iface 152 (.int .i64 c) := rfl
theorem info5 : (Tryz.prog.info? 5).map (fun i => (i.zero, i.size, i.bytes)) = some (some (.int .u8 0), 1, 1) := by kernel_rfl
theorem info9 : (Tryz.prog.info? 9).map (fun i => (i.zero, i.size, i.bytes)) = some (some (.string ⟨#[]⟩), 1, 16) := by kernel_rfl
theorem info25 : (Tryz.prog.info? 25).map (fun i => (i.zero, i.size, i.bytes)) = some (some (.agg #[(.int .i64 0), (.string ⟨#[]⟩), (.slice none 0 0), (.slice none 0 0)]), 4, 72) := by kernel_rfl
theorem info32 : (Tryz.prog.info? 32).map (fun i => (i.zero, i.size, i.bytes)) = some (some (.agg #[(.int .i64 0), (.int .i64 0), (.int .i64 0), (.slice none 0 0), (.slice none 0 0)]), 5, 72) := by kernel_rfl
theorem info44 : (Tryz.prog.info? 44).map (fun i => (i.zero, i.size, i.bytes)) = some (some (.agg #[(.int .i64 0), (.int .i64 0)]), 2, 16) := by kernel_rfl
structure S44 where
 f0 : Int
 f1 : Int
def z44 : S44 := ⟨(0 : Int), (0 : Int)⟩
def k44 : Kd S44 := Kd.iso (Kd.pair (Kd.int .i64) (Kd.int .i64)) (fun x : S44 => (x.f0, x.f1))
theorem k44_open {w : World} {x : S44} {cs : List Value} (h : k44.K w x cs) : cs = [.int .i64 x.f0, .int .i64 x.f1] := by
 obtain ⟨_, _, rfl, rfl, rfl⟩ := h
 exact rfl
theorem k44_mkM (w : World) (base : Nat) (ok : Nat → Prop) (x : S44)  : k44.M w base ok x [.int .i64 x.f0, .int .i64 x.f1] := ⟨[.int .i64 x.f0], [.int .i64 x.f1], rfl, rfl, rfl⟩
def rd_T44 (xs : List S44) (i : Int) : S44 := xs.getD i.toNat z44
theorem at_T44 {w : World} {A : Option Addr} {n : Nat} {xs : List S44} (h : Kd.C k44 w A n xs) (i : Int) (h0 : 0 ≤ i) (h1 : i < n) : ∃ ad , A = some ad ∧ w.cell? (ad.add (i.toNat * 2)) = some (.int .i64 (rd_T44 xs i).f0) ∧ w.cell? ⟨(ad.add (i.toNat * 2)).block, (ad.add (i.toNat * 2)).off + 1, none⟩ = some (.int .i64 (rd_T44 xs i).f1) := by
 obtain ⟨ad, c, e, _, hK, hc0⟩ := Kd.C_get h z44 i h0 h1
 have hc : ∀ j u, c[j]? = some u → w.cell? (ad.add (i.toNat * 2 + j)) = some u := hc0
 obtain rfl := k44_open hK
 exact ⟨ad, e, hc 0 _ rfl, by rw [← add_field _ _ 1 (by omega)]; exact hc 1 _ rfl⟩
structure S32 where
 f0 : Int
 f1 : Int
 f2 : Int
 f3 : (List S44)
 f4 : (List S32)
def z32 : S32 := ⟨(0 : Int), (0 : Int), (0 : Int), ([] : List S44), ([] : List S32)⟩
def F32 (d : Kd S32) : Kd S32 := Kd.iso (Kd.pair (Kd.int .i64) (Kd.pair (Kd.int .i64) (Kd.pair (Kd.int .i64) (Kd.pair (Kd.slice 44 k44) (Kd.slice 32 d))))) (fun x : S32 => (x.f0, x.f1, x.f2, x.f3, x.f4))
theorem mono32 : Kd.Mono F32 := Kd.mono_iso _ (Kd.mono_pair (Kd.mono_const _) (Kd.mono_pair (Kd.mono_const _) (Kd.mono_pair (Kd.mono_const _) (Kd.mono_pair (Kd.mono_const _) (Kd.mono_slice 32 Kd.mono_id)))))
theorem sub32 : Kd.Sub F32 [32, 44] := Kd.sub_iso _ (Kd.sub_pair (Kd.sub_const _ (by decide)) (Kd.sub_pair (Kd.sub_const _ (by decide)) (Kd.sub_pair (Kd.sub_const _ (by decide)) (Kd.sub_pair (Kd.sub_const _ (by decide)) (Kd.sub_slice 32 (by decide) Kd.sub_id)))))
theorem sz32 : ∀ n, (Kd.upto F32 5 [32, 44] n).sz = 5 := Kd.upto_sz (fun _ => rfl)
def k32 : Kd S32 := Kd.fix F32 5 [32, 44] sz32 (Kd.upto_E sub32)
theorem k32_open {w : World} {x : S32} {cs : List Value} (h : k32.K w x cs) : ∃ A3 c3 A4 c4, cs = [.int .i64 x.f0, .int .i64 x.f1, .int .i64 x.f2, .slice A3 x.f3.length c3, .slice A4 x.f4.length c4] ∧ x.f3.length ≤ c3 ∧ k44.C w A3 x.f3.length x.f3 ∧ x.f4.length ≤ c4 ∧ k32.C w A4 x.f4.length x.f4 := by
 obtain ⟨n, h⟩ := h
 cases n with
 | zero => exact h.elim
 | succ n =>
   obtain ⟨_, _, rfl, rfl, ⟨_, _, rfl, rfl, ⟨_, _, rfl, rfl, ⟨_, _, rfl, ⟨A3, c3, rfl, l3, g3⟩, ⟨A4, c4, rfl, l4, g4⟩⟩⟩⟩⟩ := h
   exact ⟨A3, c3, A4, c4, rfl, l3, g3, l4, Kd.fix_C g4⟩
theorem k32_mkM (w : World) (base : Nat) (ok : Nat → Prop) (x : S32) {v3 : Value} (g3 : k44.R 44 w base ok v3 x.f3) {v4 : Value} (g4 : k32.R 32 w base ok v4 x.f4) : k32.M w base ok x [.int .i64 x.f0, .int .i64 x.f1, .int .i64 x.f2, v3, v4] := by
 obtain ⟨n4, q4⟩ := Kd.fix_R_back mono32 g4
 have r4 := Kd.upto_R_le mono32 sz32 (show n4 ≤ n4 by omega) q4
 exact ⟨n4 + 1, ⟨[.int .i64 x.f0], [.int .i64 x.f1, .int .i64 x.f2, v3, v4], rfl, rfl, ⟨[.int .i64 x.f1], [.int .i64 x.f2, v3, v4], rfl, rfl, ⟨[.int .i64 x.f2], [v3, v4], rfl, rfl, ⟨[v3], [v4], rfl, ⟨v3, rfl, g3⟩, ⟨v4, rfl, r4⟩⟩⟩⟩⟩⟩
def rd_T32 (xs : List S32) (i : Int) : S32 := xs.getD i.toNat z32
theorem at_T32 {w : World} {A : Option Addr} {n : Nat} {xs : List S32} (h : Kd.C k32 w A n xs) (i : Int) (h0 : 0 ≤ i) (h1 : i < n) : ∃ ad A3 c3 A4 c4, A = some ad ∧ w.cell? (ad.add (i.toNat * 5)) = some (.int .i64 (rd_T32 xs i).f0) ∧ w.cell? ⟨(ad.add (i.toNat * 5)).block, (ad.add (i.toNat * 5)).off + 1, none⟩ = some (.int .i64 (rd_T32 xs i).f1) ∧ w.cell? ⟨(ad.add (i.toNat * 5)).block, (ad.add (i.toNat * 5)).off + 2, none⟩ = some (.int .i64 (rd_T32 xs i).f2) ∧ w.cell? ⟨(ad.add (i.toNat * 5)).block, (ad.add (i.toNat * 5)).off + 3, none⟩ = some (.slice A3 (rd_T32 xs i).f3.length c3) ∧ w.cell? ⟨(ad.add (i.toNat * 5)).block, (ad.add (i.toNat * 5)).off + 4, none⟩ = some (.slice A4 (rd_T32 xs i).f4.length c4) ∧ (rd_T32 xs i).f3.length ≤ c3 ∧ k44.C w A3 (rd_T32 xs i).f3.length (rd_T32 xs i).f3 ∧ (rd_T32 xs i).f4.length ≤ c4 ∧ k32.C w A4 (rd_T32 xs i).f4.length (rd_T32 xs i).f4 := by
 obtain ⟨ad, c, e, _, hK, hc0⟩ := Kd.C_get h z32 i h0 h1
 have hc : ∀ j u, c[j]? = some u → w.cell? (ad.add (i.toNat * 5 + j)) = some u := hc0
 obtain ⟨A3, c3, A4, c4, rfl, l3, g3, l4, g4⟩ := k32_open hK
 exact ⟨ad, A3, c3, A4, c4, e, hc 0 _ rfl, by rw [← add_field _ _ 1 (by omega)]; exact hc 1 _ rfl, by rw [← add_field _ _ 2 (by omega)]; exact hc 2 _ rfl, by rw [← add_field _ _ 3 (by omega)]; exact hc 3 _ rfl, by rw [← add_field _ _ 4 (by omega)]; exact hc 4 _ rfl, l3, g3, l4, g4⟩
structure S25 where
 f0 : Int
 f1 : ByteArray
 f2 : (List ByteArray)
 f3 : (List S25)
def F25 (d : Kd S25) : Kd S25 := Kd.iso (Kd.pair (Kd.int .i64) (Kd.pair Kd.string (Kd.pair (Kd.slice 9 Kd.string) (Kd.slice 25 d)))) (fun x : S25 => (x.f0, x.f1, x.f2, x.f3))
theorem mono25 : Kd.Mono F25 := Kd.mono_iso _ (Kd.mono_pair (Kd.mono_const _) (Kd.mono_pair (Kd.mono_const _) (Kd.mono_pair (Kd.mono_const _) (Kd.mono_slice 25 Kd.mono_id))))
theorem sub25 : Kd.Sub F25 [9, 25] := Kd.sub_iso _ (Kd.sub_pair (Kd.sub_const _ (by decide)) (Kd.sub_pair (Kd.sub_const _ (by decide)) (Kd.sub_pair (Kd.sub_const _ (by decide)) (Kd.sub_slice 25 (by decide) Kd.sub_id))))
theorem sz25 : ∀ n, (Kd.upto F25 4 [9, 25] n).sz = 4 := Kd.upto_sz (fun _ => rfl)
def k25 : Kd S25 := Kd.fix F25 4 [9, 25] sz25 (Kd.upto_E sub25)
theorem k25_mkM (w : World) (base : Nat) (ok : Nat → Prop) (x : S25) {v2 : Value} (g2 : Kd.string.R 9 w base ok v2 x.f2) {v3 : Value} (g3 : k25.R 25 w base ok v3 x.f3) : k25.M w base ok x [.int .i64 x.f0, .string x.f1, v2, v3] := by
 obtain ⟨n3, q3⟩ := Kd.fix_R_back mono25 g3
 have r3 := Kd.upto_R_le mono25 sz25 (show n3 ≤ n3 by omega) q3
 exact ⟨n3 + 1, ⟨[.int .i64 x.f0], [.string x.f1, v2, v3], rfl, rfl, ⟨[.string x.f1], [v2, v3], rfl, rfl, ⟨[v2], [v3], rfl, ⟨v2, rfl, g2⟩, ⟨v3, rfl, r3⟩⟩⟩⟩⟩
end Go.Proofs.YtpgfjbimodnkeaaGreatDoor.Q
set_option linter.unusedVariables false
set_option linter.unusedSimpArgs false
namespace Go.Proofs.YtpgfjbimodnkeaaGreatDoor.Dec
open Go Go.RowKit Go.Proofs.YtpgfjbimodnkeaaGreatDoorW.PrintWords Go.Proofs.YtpgfjbimodnkeaaGreatDoorW.PrintLast Go.Proofs.YtpgfjbimodnkeaaGreatDoorW.PrintMore
attribute [local go_sem] max2_int min2_int max_two min_two
set_option maxHeartbeats 8000000 in
set_option maxRecDepth 100000 in
theorem prefix_calls (w : World) (s t : ByteArray) (ht : t.size = 8) (h105 : bt t 0 = 105) (hs : s.size ≤ 1000000) (h : 0 < s.size → bt s 0 ≠ 73 ∧ bt s 0 ≠ 105) :
 Calls Tryz.prog 159 #[.string s, .string t] w fun e w' => e = .returned (.int .i64 0) ∧ Drawn0 w w' := by
 have h8 : 0 < t.size := by omega
 have hy : ((t[0]'h8).toNat : Int) = 105 := (bt_at t 0 (by simpa using h8)).trans h105
 clear h105
 by_cases h0 : s.size = 0
 ·go_enter Tryz.func159, Tryz.ntmps159
  go_wp2
  go_loopg [6, 7] 0 (fun kq v6 v7 w' => v6 = .int .i64 0 ∧ w' = w)
  case atStart => exact ⟨rfl, rfl⟩
  case round =>
   obtain ⟨rfl, rfl⟩ := hrel
   go_wp2
   go_ret
   exact ⟨rfl, Drawn0.refl _⟩
 ·have hp : 0 < s.size := by omega
  obtain ⟨ha, hb⟩ := h hp
  have hx : ((s[0]'hp).toNat : Int) = bt s 0 := bt_at s 0 (by simpa using hp)
  obtain ⟨r1, r2⟩ := bt_range s 0
  generalize bt s 0 = c at hx r1 r2 ha hb
  have f1 : (c != 105) = true := bne_iff_ne.mpr hb
  have f2 : (c + 32 != 105) = true := bne_iff_ne.mpr (by omega)
  go_enter Tryz.func159, Tryz.ntmps159
  go_wp2
  all_goals
   go_loopg [6, 7] 0 (fun kq v6 v7 w' => v6 = .int .i64 0 ∧ w' = w)
   case atStart => exact ⟨rfl, rfl⟩
   case round =>
    obtain ⟨rfl, rfl⟩ := hrel
    go_wp2
    all_goals go_ret
    all_goals exact ⟨rfl, Drawn0.refl _⟩
theorem bt_tail (s : ByteArray) (h : 1 < s.size) : bt (s.extract 1 s.size) 0 = bt s 1 := by
 have h1 : (0 : Int).toNat < (s.extract 1 s.size).size := by simp [ByteArray.size_extract]; omega
 have h2 : (1 : Int).toNat < s.size := by simpa using h
 rw [bt, dif_pos h1, bt, dif_pos h2]
 simp [ByteArray.getElem_extract]
set_option maxHeartbeats 8000000 in
set_option maxRecDepth 100000 in
theorem special_calls (w : World) (s : ByteArray) (hs : s.size ≤ 1000000) (h : 0 < s.size → bt s 0 ≠ 73 ∧ bt s 0 ≠ 105 ∧ bt s 0 ≠ 78 ∧ bt s 0 ≠ 110) (h2 : 1 < s.size → bt s 1 ≠ 73 ∧ bt s 1 ≠ 105) :
 Calls Tryz.prog 145 #[.string s] w fun e w' => e = .returned (.tuple #[.float .f64 0, .int .i64 0, .bool false]) ∧ Drawn0 w w' := by
 by_cases h0 : s.size = 0
 ·have c1 : ((s.size : Int) == 0) = true := beq_iff_eq.mpr (by omega)
  go_enter Tryz.func145, Tryz.ntmps145
  go_wp2
  all_goals refine bodyPost_ret (results_list (rs := [.tmp 2, .tmp 3, .tmp 4]) rfl (by simp) (.tmp (.tmp (.tmp .nil)))) rfl ?_
  all_goals exact ⟨rfl, Drawn0.refl _⟩
 ·have c1 : ((s.size : Int) == 0) = false := beq_eq_false_iff_ne.mpr (by omega)
  have hp : 0 < s.size := by omega
  obtain ⟨ha, hb, hc, hd⟩ := h hp
  have hpre := fun W => prefix_calls W (s.extract 1 s.size) { data := #[105, 110, 102, 105, 110, 105, 116, 121] } rfl rfl (by simp [ByteArray.size_extract]; omega) (fun h3 => by
   have h4 : 1 < s.size := by simp [ByteArray.size_extract] at h3; omega
   rw [bt_tail s h4]; exact h2 h4)
  have hx : ((s[0]'hp).toNat : Int) = bt s 0 := bt_at s 0 (by simpa using hp)
  generalize bt s 0 = c at hx ha hb hc hd
  have f1 : (c == 73) = false := beq_eq_false_iff_ne.mpr ha
  have f2 : (c == 105) = false := beq_eq_false_iff_ne.mpr hb
  have f3 : (c == 78) = false := beq_eq_false_iff_ne.mpr hc
  have f4 : (c == 110) = false := beq_eq_false_iff_ne.mpr hd
  go_enter Tryz.func145, Tryz.ntmps145
  go_wp2_with (first | (go_at_call 159; (with_reducible refine (hpre _).mono ?_); rintro e w4 ⟨rfl, ⟨m4, rfl⟩⟩))
  all_goals refine bodyPost_ret (results_list (rs := [.tmp 2, .tmp 3, .tmp 4]) rfl (by simp) (.tmp (.tmp (.tmp .nil)))) rfl ?_
  all_goals exact ⟨rfl, by repeat (first | exact Drawn0.refl _ | apply Drawn0.step)⟩
end Go.Proofs.YtpgfjbimodnkeaaGreatDoor.Dec
namespace Go.Proofs.YtpgfjbimodnkeaaGreatDoor.Q
open Go.RowKit Go.Proofs.YtpgfjbimodnkeaaGreatDoorW.PrintWords Go.Proofs.YtpgfjbimodnkeaaGreatDoorW.PrintLast Go.Proofs.YtpgfjbimodnkeaaGreatDoorW.PrintMore
attribute [local go_sem] max2_int min2_int max_two min_two max_three min_three max_four min_four
set_option linter.unusedVariables false
set_option linter.unusedSimpArgs false
def strconv_lower.f (a0 : Int) : Option (Int) := some (Go.bits .or .u8 a0 32)
set_option maxHeartbeats 8000000 in
set_option maxRecDepth 100000 in
theorem strconv_lower.calls (a0 : Int) (r : Int) (w : World) (h : strconv_lower.f a0 = some r) :
 Calls Tryz.prog 137 #[.int .u8 a0] w fun e w' => e = .returned (.int .u8 r) ∧ Drawn0 w w' := by
 have H : (some (Go.bits .or .u8 a0 32)) = some r := h
 clear h
 obtain rfl := Option.some.inj H
 go_enter Tryz.func137, Tryz.ntmps137
 go_wp2
 go_ret
 exact ⟨by first | rfl | (simp; done) | (simp [*]; done), by repeat (first | exact Drawn0.refl _ | apply Drawn0.step)⟩
end Go.Proofs.YtpgfjbimodnkeaaGreatDoor.Q
namespace Go.Proofs.YtpgfjbimodnkeaaGreatDoor.Dec
def val (a : Nat → Nat) : Nat → Nat → Nat
 | _, 0 => 0
 | i, n + 1 => (a i - 48) * 10 ^ n + val a (i + 1) n
def IsDig (c : Nat) : Prop := 48 ≤ c ∧ c ≤ 57
theorem val_lt {a : Nat → Nat} : ∀ n i, (∀ j, i ≤ j → j < i + n → IsDig (a j)) → val a i n < 10 ^ n
 | 0, _, _ => by simp [val]
 | n + 1, i, h => by
   have h1 := val_lt n (i + 1) (fun j h1 h2 => h j (by omega) (by omega))
   have h2 := h i (Nat.le_refl _) (by omega)
   unfold IsDig at h2
   have h3 : (a i - 48) * 10 ^ n ≤ 9 * 10 ^ n := Nat.mul_le_mul_right _ (by omega)
   have h4 : 10 ^ (n + 1) = 10 * 10 ^ n := by rw [Nat.pow_succ, Nat.mul_comm]
   simp only [val]
   omega
theorem le_val {a : Nat → Nat} {n i : Nat} (h : IsDig (a i)) (h0 : a i ≠ 48) : 10 ^ n ≤ val a i (n + 1) := by
 unfold IsDig at h
 have h3 : 1 * 10 ^ n ≤ (a i - 48) * 10 ^ n := Nat.mul_le_mul_right _ (by omega)
 simp only [val]
 omega
theorem shift_pre (a : Nat → Nat) (i m K : Nat) :
 (a i - 48) * K + val a (i + 1) m * K / 10 ^ m = val a i (m + 1) * K / 10 ^ m := by
 have hp : 0 < 10 ^ m := Nat.pow_pos (by decide)
 have : val a i (m + 1) * K = val a (i + 1) m * K + 10 ^ m * ((a i - 48) * K) := by
  simp only [val, Nat.add_mul]
  rw [Nat.mul_comm (10 ^ m), Nat.mul_assoc, Nat.mul_assoc, Nat.mul_comm K, Nat.add_comm]
 rw [this, Nat.add_mul_div_left _ _ hp, Nat.add_comm]
theorem shift_step (a : Nat → Nat) (i m K : Nat) :
 ((a i - 48) * K + val a (i + 1) m * K / 10 ^ m) / 10 = val a i (m + 1) * K / 10 ^ (m + 1) := by
 have hp : 0 < 10 ^ m := Nat.pow_pos (by decide)
 have h1 : (a i - 48) * K + val a (i + 1) m * K / 10 ^ m = val a i (m + 1) * K / 10 ^ m := by
  have : val a i (m + 1) * K = val a (i + 1) m * K + 10 ^ m * ((a i - 48) * K) := by
   simp only [val, Nat.add_mul]
   rw [Nat.mul_comm (10 ^ m), Nat.mul_assoc, Nat.mul_assoc, Nat.mul_comm K, Nat.add_comm]
  rw [this, Nat.add_mul_div_left _ _ hp, Nat.add_comm]
 rw [h1, Nat.div_div_eq_div_mul, Nat.pow_succ]
def less (a c : Nat → Nat) : Nat → Nat → Nat → Nat → Bool
 | _, _, _, 0 => false
 | _, 0, _, _ + 1 => true
 | i, n + 1, j, m + 1 => if a i = c j then less a c (i + 1) n (j + 1) m else decide (a i < c j)
theorem less_spec {a c : Nat → Nat} : ∀ m n i j, (∀ k, i ≤ k → k < i + n → IsDig (a k)) → (∀ k, j ≤ k → k < j + m → IsDig (c k)) → (0 < m → c (j + m - 1) ≠ 48) →
 (less a c i n j m = true → val a i n * 10 ^ m < val c j m * 10 ^ n) ∧ (less a c i n j m = false → val c j m * 10 ^ n ≤ val a i n * 10 ^ m)
 | 0, n, i, j, ha, hc, hl => by simp [less, val]
 | m + 1, 0, i, j, ha, hc, hl => by
   refine ⟨fun _ => ?_, fun h => by simp [less] at h⟩
   have hpos : ∀ m j, (∀ k, j ≤ k → k < j + (m + 1) → IsDig (c k)) → c (j + (m + 1) - 1) ≠ 48 → 0 < val c j (m + 1) := by
    intro m
    induction m with
    | zero =>
      intro j hc hl
      have h2 := hc j (by omega) (by omega)
      unfold IsDig at h2
      have : c j ≠ 48 := by simpa using hl
      simp [val]; omega
    | succ m ih =>
      intro j hc hl
      have := ih (j + 1) (fun k h1 h2 => hc k (by omega) (by omega)) (by
       have e : j + 1 + (m + 1) - 1 = j + (m + 1 + 1) - 1 := by omega
       rw [e]; exact hl)
      rw [val]
      omega
   have := hpos m j hc (hl (by omega))
   simpa [val] using this
 | m + 1, n + 1, i, j, ha, hc, hl => by
   have ih := less_spec m n (i + 1) (j + 1) (fun k h1 h2 => ha k (by omega) (by omega)) (fun k h1 h2 => hc k (by omega) (by omega)) (fun h => by
    have e : j + 1 + m - 1 = j + (m + 1) - 1 := by omega
    rw [e]; exact hl (by omega))
   have ha0 := ha i (by omega) (by omega)
   have hc0 := hc j (by omega) (by omega)
   have va := val_lt (a := a) n (i + 1) (fun k h1 h2 => ha k (by omega) (by omega))
   have vc := val_lt (a := c) m (j + 1) (fun k h1 h2 => hc k (by omega) (by omega))
   unfold IsDig at ha0 hc0
   have e1 : val a i (n + 1) * 10 ^ (m + 1) = (a i - 48) * (10 ^ n * 10 ^ m * 10) + val a (i + 1) n * 10 ^ m * 10 := by
    simp only [val, Nat.add_mul, Nat.pow_succ, Nat.mul_assoc]
   have e2 : val c j (m + 1) * 10 ^ (n + 1) = (c j - 48) * (10 ^ n * 10 ^ m * 10) + val c (j + 1) m * 10 ^ n * 10 := by
    simp only [val, Nat.add_mul, Nat.pow_succ, Nat.mul_assoc]
    rw [Nat.mul_left_comm (10 ^ m)]
   have b1 : val a (i + 1) n * 10 ^ m * 10 < 10 ^ n * 10 ^ m * 10 := by
    have := Nat.mul_lt_mul_of_pos_right va (show 0 < 10 ^ m from Nat.pow_pos (by decide))
    omega
   have b2 : val c (j + 1) m * 10 ^ n * 10 < 10 ^ n * 10 ^ m * 10 := by
    have := Nat.mul_lt_mul_of_pos_right vc (show 0 < 10 ^ n from Nat.pow_pos (by decide))
    have e : 10 ^ m * 10 ^ n = 10 ^ n * 10 ^ m := Nat.mul_comm _ _
    omega
   rw [e1, e2]
   by_cases heq : a i = c j
   ·simp only [less, heq, if_true]
    refine ⟨fun h => ?_, fun h => ?_⟩
    ·have := ih.1 h; omega
    ·have := ih.2 h; omega
   ·simp only [less, heq, if_false, decide_eq_true_eq, decide_eq_false_iff_not]
    refine ⟨fun h => ?_, fun h => ?_⟩
    ·have : (a i - 48 + 1) * (10 ^ n * 10 ^ m * 10) ≤ (c j - 48) * (10 ^ n * 10 ^ m * 10) := Nat.mul_le_mul_right _ (by omega)
     rw [Nat.add_mul] at this; omega
    ·have : (c j - 48 + 1) * (10 ^ n * 10 ^ m * 10) ≤ (a i - 48) * (10 ^ n * 10 ^ m * 10) := Nat.mul_le_mul_right _ (by omega)
     rw [Nat.add_mul] at this; omega
structure Cheat (k D L : Nat) (c : Nat → Nat) : Prop where
 dig : ∀ j, j < L → IsDig (c j)
 last : 0 < L → c (L - 1) ≠ 48
 low : 10 ^ (D - 1) ≤ 2 ^ k
 high : 2 ^ k < 10 ^ D
 cut : val c 0 L * 2 ^ k = 10 ^ (L + D - 1)
 pos : 0 < D
theorem shift_bounds {a c : Nat → Nat} {k D L nd : Nat} (hC : Cheat k D L c) (hnd : 0 < nd) (ha : ∀ j, j < nd → IsDig (a j)) (h0 : a 0 ≠ 48) :
 let delta := if less a c 0 nd 0 L then D - 1 else D
 val a 0 nd * 2 ^ k / 10 ^ nd < 10 ^ delta ∧ (0 < delta → 10 ^ (delta - 1) ≤ val a 0 nd * 2 ^ k / 10 ^ nd) := by
 intro delta
 have hp : ∀ n, 0 < 10 ^ n := fun n => Nat.pow_pos (by decide)
 have hs := less_spec (a := a) (c := c) L nd 0 0 (fun j _ h => ha j (by omega)) (fun j _ h => hC.dig j (by omega)) (fun h => by simpa using hC.last h)
 have hv : val a 0 nd < 10 ^ nd := val_lt nd 0 (fun j _ h => ha j (by omega))
 have hv1 : 10 ^ (nd - 1) ≤ val a 0 nd := by
  obtain ⟨n, rfl⟩ : ∃ n, nd = n + 1 := ⟨nd - 1, by omega⟩
  exact le_val (ha 0 (by omega)) h0
 have hD := hC.pos
 have e1 : 10 ^ (L + D - 1) = 10 ^ L * 10 ^ (D - 1) := by rw [← Nat.pow_add]; congr 1; omega
 cases hl : less a c 0 nd 0 L with
 | true =>
   have hd : delta = D - 1 := by simp [delta, hl]
   have h1 := hs.1 hl
   rw [hd]
   constructor
   ·rw [Nat.div_lt_iff_lt_mul (hp nd)]
    have h2 : val a 0 nd * 10 ^ L * 2 ^ k < val c 0 L * 10 ^ nd * 2 ^ k := Nat.mul_lt_mul_of_pos_right h1 (Nat.pow_pos (by decide))
    have h3 : val c 0 L * 10 ^ nd * 2 ^ k = 10 ^ L * (10 ^ (D - 1) * 10 ^ nd) := by
     rw [Nat.mul_right_comm, hC.cut, e1, Nat.mul_assoc]
    have h4 : val a 0 nd * 10 ^ L * 2 ^ k = 10 ^ L * (val a 0 nd * 2 ^ k) := by
     rw [Nat.mul_comm (val a 0 nd), Nat.mul_assoc]
    rw [h3, h4] at h2
    exact Nat.lt_of_mul_lt_mul_left h2
   ·intro hpos
    rw [Nat.le_div_iff_mul_le (hp nd)]
    have h2 : 10 ^ (nd - 1) * 10 ^ (D - 1) ≤ val a 0 nd * 2 ^ k := Nat.mul_le_mul hv1 hC.low
    have h3 : 10 ^ (nd - 1) * 10 ^ (D - 1) = 10 ^ (D - 1 - 1) * 10 ^ nd := by
     rw [← Nat.pow_add, ← Nat.pow_add]; congr 1; omega
    omega
 | false =>
   have hd : delta = D := by simp [delta, hl]
   have h1 := hs.2 hl
   rw [hd]
   constructor
   ·rw [Nat.div_lt_iff_lt_mul (hp nd)]
    have h2 : val a 0 nd * 2 ^ k < 10 ^ nd * 2 ^ k := Nat.mul_lt_mul_of_pos_right hv (Nat.pow_pos (by decide))
    have h3 : 10 ^ nd * 2 ^ k ≤ 10 ^ nd * 10 ^ D := Nat.mul_le_mul_left _ (Nat.le_of_lt hC.high)
    rw [Nat.mul_comm (10 ^ D)]
    omega
   ·intro _
    rw [Nat.le_div_iff_mul_le (hp nd)]
    have h2 : val c 0 L * 10 ^ nd * 2 ^ k ≤ val a 0 nd * 10 ^ L * 2 ^ k := Nat.mul_le_mul_right _ h1
    have h3 : val c 0 L * 10 ^ nd * 2 ^ k = 10 ^ L * (10 ^ (D - 1) * 10 ^ nd) := by
     rw [Nat.mul_right_comm, hC.cut, e1, Nat.mul_assoc]
    have h4 : val a 0 nd * 10 ^ L * 2 ^ k = 10 ^ L * (val a 0 nd * 2 ^ k) := by
     rw [Nat.mul_comm (val a 0 nd), Nat.mul_assoc]
    rw [h3, h4] at h2
    exact Nat.le_of_mul_le_mul_left h2 (hp L)
end Go.Proofs.YtpgfjbimodnkeaaGreatDoor.Dec
namespace Go.Proofs.YtpgfjbimodnkeaaGreatDoor.Dec
open Go Go.RowKit Go.Proofs.YtpgfjbimodnkeaaGreatDoorW.PrintWords
def IsDec (W : World) (g : Nat) (a : Nat → Int) (nd dp : Int) (neg tr : Bool) : Prop :=
 ∃ (cs : Array Value) (T : TypeId), W.heap[g]? = some (.cells cs T (0, 0)) ∧ cs.size = 804 ∧ (∀ i, i < 800 → cs[i]? = some (.int .u8 (a i))) ∧
  cs[800]? = some (.int .i64 nd) ∧ cs[801]? = some (.int .i64 dp) ∧ cs[802]? = some (.bool neg) ∧ cs[803]? = some (.bool tr)
section
variable {W W1 : World} {g : Nat} {a : Nat → Int} {nd dp : Int} {neg tr : Bool}
theorem IsDec.lt (h : IsDec W g a nd dp neg tr) : g < W.heap.size := by
 obtain ⟨cs, T, h, _⟩ := h
 exact blk_lt h
theorem IsDec.block (h : IsDec W g a nd dp neg tr) (hw : W1.heap[g]? = W.heap[g]?) : IsDec W1 g a nd dp neg tr := by
 obtain ⟨cs, T, h1, h2⟩ := h
 exact ⟨cs, T, hw.trans h1, h2⟩
theorem IsDec.drewN (h : IsDec W g a nd dp neg tr) (m : Nat) : IsDec (W.drewN m) g a nd dp neg tr := h
theorem IsDec.drew (h : IsDec W g a nd dp neg tr) : IsDec W.drew g a nd dp neg tr := h
theorem IsDec.below (h : IsDec W g a nd dp neg tr) (hw : Below W.heap.size W W1) : IsDec W1 g a nd dp neg tr := h.block (hw.block g h.lt)
theorem IsDec.alloc (h : IsDec W g a nd dp neg tr) (o : Obj) : IsDec (W.alloc o) g a nd dp neg tr := h.below (below_alloc (Below.refl _ _) o)
theorem IsDec.frozen (h : IsDec W g a nd dp neg tr) (i : Nat) : W.frozen? ⟨g, i, none⟩ = false := by
 obtain ⟨cs, T, h1, _⟩ := h
 exact blk_frozen h1 i
theorem IsDec.dig (h : IsDec W g a nd dp neg tr) {i : Nat} (hi : i < 800) : W.cell? ⟨g, i, none⟩ = some (.int .u8 (a i)) := by
 obtain ⟨cs, T, h1, _, h2, _⟩ := h
 exact (blk_cell h1 i).trans (h2 i hi)
theorem IsDec.at_nd (h : IsDec W g a nd dp neg tr) : W.cell? ⟨g, 800, none⟩ = some (.int .i64 nd) := by
 obtain ⟨cs, T, h1, _, _, h2, _⟩ := h
 exact (blk_cell h1 _).trans h2
theorem IsDec.at_dp (h : IsDec W g a nd dp neg tr) : W.cell? ⟨g, 801, none⟩ = some (.int .i64 dp) := by
 obtain ⟨cs, T, h1, _, _, _, h2, _⟩ := h
 exact (blk_cell h1 _).trans h2
theorem IsDec.at_neg (h : IsDec W g a nd dp neg tr) : W.cell? ⟨g, 802, none⟩ = some (.bool neg) := by
 obtain ⟨cs, T, h1, _, _, _, _, h2, _⟩ := h
 exact (blk_cell h1 _).trans h2
theorem IsDec.at_tr (h : IsDec W g a nd dp neg tr) : W.cell? ⟨g, 803, none⟩ = some (.bool tr) := by
 obtain ⟨cs, T, h1, _, _, _, _, _, h2⟩ := h
 exact (blk_cell h1 _).trans h2
theorem IsDec.set_nd (h : IsDec W g a nd dp neg tr) (x : Int) : IsDec (W.setCell ⟨g, 800, none⟩ (.int .i64 x)) g a x dp neg tr := by
 obtain ⟨cs, T, h1, hs, h2, h3, h4, h5, h6⟩ := h
 exact ⟨_, T, blk_set h1 800 _, by simpa using hs, fun i hi => by rw [Array.getElem?_setIfInBounds_ne (by omega)]; exact h2 i hi, by rw [Array.getElem?_setIfInBounds_self_of_lt (by omega)], by rw [Array.getElem?_setIfInBounds_ne (by omega)]; exact h4, by rw [Array.getElem?_setIfInBounds_ne (by omega)]; exact h5, by rw [Array.getElem?_setIfInBounds_ne (by omega)]; exact h6⟩
theorem IsDec.set_dp (h : IsDec W g a nd dp neg tr) (x : Int) : IsDec (W.setCell ⟨g, 801, none⟩ (.int .i64 x)) g a nd x neg tr := by
 obtain ⟨cs, T, h1, hs, h2, h3, h4, h5, h6⟩ := h
 exact ⟨_, T, blk_set h1 801 _, by simpa using hs, fun i hi => by rw [Array.getElem?_setIfInBounds_ne (by omega)]; exact h2 i hi, by rw [Array.getElem?_setIfInBounds_ne (by omega)]; exact h3, by rw [Array.getElem?_setIfInBounds_self_of_lt (by omega)], by rw [Array.getElem?_setIfInBounds_ne (by omega)]; exact h5, by rw [Array.getElem?_setIfInBounds_ne (by omega)]; exact h6⟩
theorem IsDec.set_neg (h : IsDec W g a nd dp neg tr) (x : Bool) : IsDec (W.setCell ⟨g, 802, none⟩ (.bool x)) g a nd dp x tr := by
 obtain ⟨cs, T, h1, hs, h2, h3, h4, h5, h6⟩ := h
 exact ⟨_, T, blk_set h1 802 _, by simpa using hs, fun i hi => by rw [Array.getElem?_setIfInBounds_ne (by omega)]; exact h2 i hi, by rw [Array.getElem?_setIfInBounds_ne (by omega)]; exact h3, by rw [Array.getElem?_setIfInBounds_ne (by omega)]; exact h4, by rw [Array.getElem?_setIfInBounds_self_of_lt (by omega)], by rw [Array.getElem?_setIfInBounds_ne (by omega)]; exact h6⟩
theorem IsDec.set_tr (h : IsDec W g a nd dp neg tr) (x : Bool) : IsDec (W.setCell ⟨g, 803, none⟩ (.bool x)) g a nd dp neg x := by
 obtain ⟨cs, T, h1, hs, h2, h3, h4, h5, h6⟩ := h
 exact ⟨_, T, blk_set h1 803 _, by simpa using hs, fun i hi => by rw [Array.getElem?_setIfInBounds_ne (by omega)]; exact h2 i hi, by rw [Array.getElem?_setIfInBounds_ne (by omega)]; exact h3, by rw [Array.getElem?_setIfInBounds_ne (by omega)]; exact h4, by rw [Array.getElem?_setIfInBounds_ne (by omega)]; exact h5, by rw [Array.getElem?_setIfInBounds_self_of_lt (by omega)]⟩
def upd (a : Nat → Int) (i : Nat) (x : Int) : Nat → Int := fun j => if j = i then x else a j
theorem IsDec.set_dig (h : IsDec W g a nd dp neg tr) {i : Nat} (hi : i < 800) (x : Int) : IsDec (W.setCell ⟨g, i, none⟩ (.int .u8 x)) g (upd a i x) nd dp neg tr := by
 obtain ⟨cs, T, h1, hs, h2, h3, h4, h5, h6⟩ := h
 refine ⟨_, T, blk_set h1 i _, by simpa using hs, fun j hj => ?_, by rw [Array.getElem?_setIfInBounds_ne (by omega)]; exact h3, by rw [Array.getElem?_setIfInBounds_ne (by omega)]; exact h4, by rw [Array.getElem?_setIfInBounds_ne (by omega)]; exact h5, by rw [Array.getElem?_setIfInBounds_ne (by omega)]; exact h6⟩
 by_cases hj2 : j = i
 ·subst hj2
  rw [Array.getElem?_setIfInBounds_self_of_lt (by omega)]
  simp [upd]
 ·rw [Array.getElem?_setIfInBounds_ne (by omega)]
  simp [upd, hj2, h2 j hj]
structure Good (a : Nat → Int) (nd : Int) : Prop where
 low : 0 ≤ nd
 high : nd ≤ 800
 dig : ∀ i : Nat, (i : Int) < nd → 48 ≤ a i ∧ a i ≤ 57
 first : 0 < nd → a 0 ≠ 48
end
theorem add0 (g m : Nat) : (⟨g, 0, none⟩ : Addr).add m = ⟨g, m, none⟩ := by
 unfold Addr.add
 split
 ·subst_vars; rfl
 ·simp
theorem Good.less {a : Nat → Int} {n n' : Int} (h : Good a n) (h0 : 0 ≤ n') (hl : n' ≤ n) : Good a n' :=
 ⟨h0, Int.le_trans hl h.high, fun i hi => h.dig i (by omega), fun hp => h.first (by omega)⟩
theorem IsDec.drewN' {W : World} {g : Nat} {a : Nat → Int} {nd dp : Int} {neg tr : Bool} (h : IsDec W g a nd dp neg tr) (m : Nat) : IsDec (W.drewN m) g a nd dp neg tr := h
structure RetBool (e : Ending) : Prop where mk :: (out : ∃ b, e = .returned (.bool b))
structure RetU64 (e : Ending) : Prop where mk :: (out : ∃ n : Int, e = .returned (.int .u64 n) ∧ 0 ≤ n ∧ n < 18446744073709551616)
end Go.Proofs.YtpgfjbimodnkeaaGreatDoor.Dec
