/- FnGjResultEachOf: whatever text and stop come in, the law returns true and both read afterwards as before; with the package-level variables that its row lists as the program's own text lays them (part 24 of 33: lemmas for its last part) -/
import Derived.Deep.RegionLaw
import Derived.Test.YtpgfjbimodnkeaaGreatDoorEach22
import Derived.Test.YtpgfjbimodnkeaaGreatDoorEach23
set_option linter.unusedVariables false
set_option linter.unusedSimpArgs false
namespace Go.Proofs.YtpgfjbimodnkeaaGreatDoor.Dec
open Go Go.RowKit Go.Proofs.YtpgfjbimodnkeaaGreatDoorW.PrintWords Go.Proofs.YtpgfjbimodnkeaaGreatDoorW.PrintLast Go.Proofs.YtpgfjbimodnkeaaGreatDoorW.PrintMore Go.Proofs.YtpgfjbimodnkeaaGreatDoor.Scan
structure Rs where
 k : Int
 raw : ByteArray
 str : ByteArray
 num : Nat
 idx : Int
def Rs.ex (r : Rs) : Bool := if r.k = 0 then ((r.raw.size : Int) != 0) else true
def Rs.cells (r : Rs) : List Value := [.int .i64 r.k, .string r.raw, .string r.str, .float .f64 r.num, .bool r.ex]
abbrev Rs.val (r : Rs) : Value := resV r.k r.raw r.str r.num r.idx
theorem gj_calls (w : World) (r : Rs) : Calls Tryz.prog 34 #[resV r.k r.raw r.str r.num r.idx] w fun e w' => e = .returned (.agg #[.int .i64 r.k, .string r.raw, .string r.str, .float .f64 r.num, .bool r.ex]) ∧ Below w.heap.size w w' := by
 refine Q.impl_gj.calls r.k r.raw r.str r.num r.idx none 0 [] r.k r.raw r.str r.num r.ex w ?_ (Nat.le_refl _) ?_
 ·exact Kd.C_nil _ _
 ·unfold Q.impl_gj.f Q.gjson_Result_Exists.f Rs.ex
  by_cases h : r.k = 0
  ·rw [if_pos h, if_pos h]; rfl
  ·rw [if_neg h, if_neg h]; rfl
theorem ones_ok (kr vr : Rs) : ∀ u ∈ ([.int .i64 kr.k, .string kr.raw, .string kr.str, .float .f64 kr.num, .bool kr.ex, .int .i64 vr.k, .string vr.raw, .string vr.str, .float .f64 vr.num, .bool vr.ex] : List Value), u.oneCell' = true := by
 intro u hu
 simp only [List.mem_cons, List.not_mem_nil, or_false] at hu
 rcases hu with rfl | rfl | rfl | rfl | rfl | rfl | rfl | rfl | rfl | rfl <;> rfl
theorem app_blk {w W w1 : World} {base n g : Nat} {e t : TypeId} {size : Nat} {v : Value} {xs : List Value} {cs : Array Value} (ho : w.ownsRow base e size v n xs) (hg : w.heap[g]? = some (.cells cs t (0, 0))) (hb : Below w.heap.size w W) (hgr : W.grownBy w1 v.ownBlock) (hne : e ≠ t) : w1.heap[g]? = some (.cells cs t (0, 0)) :=
 blk_grown (blk_below hg hb) hgr (own_ne ho hg hne)
theorem app_67 {w W w1 : World} {base n : Nat} {size : Nat} {v : Value} {xs : List Value} (ho : w.ownsRow base 42 size v n xs) (hb : Below w.heap.size w W) (hgr : W.grownBy w1 v.ownBlock) : ∀ (b : Nat) (cs : Array Value), w.heap[b]? = some (.cells cs 67 (0, 0)) → w1.heap[b]? = some (.cells cs 67 (0, 0)) :=
 fun b cs hg => app_blk ho hg hb hgr (by decide)
structure Outs (B0 : Nat) (Bo Bs : Nat) (stop : Int) (w0 : World) (ps : List (Rs × Rs)) (W : World) : Prop where
 bel : Below B0 w0 W
 out : ∃ v, W.heap[Bo]? = some (.cells #[v] 35 (0, 0)) ∧ W.ownsRow B0 42 10 v ps.length (ps.flatMap fun p => p.1.cells ++ p.2.cells)
 stp : W.heap[Bs]? = some (.cells #[.int .i64 stop] 3 (0, 0))
 loB : B0 ≤ W.heap.size
 loO : B0 ≤ Bo
theorem outs_done {B0 Bo Bs : Nat} {stop : Int} {w0 w w6 : World} {ps : List (Rs × Rs)} {kr vr : Rs} {v v1 : Value} (hbel : Below B0 w0 w) (hb6 : Below B0 w w6)
  (ho : w6.ownsRow B0 42 10 v1 (ps.length + 1) ((ps.flatMap fun p => p.1.cells ++ p.2.cells) ++ [.int .i64 kr.k, .string kr.raw, .string kr.str, .float .f64 kr.num, .bool kr.ex, .int .i64 vr.k, .string vr.raw, .string vr.str, .float .f64 vr.num, .bool vr.ex])) (kO6 : w6.heap[Bo]? = some (.cells #[v] 35 (0, 0))) (kS6 : w6.heap[Bs]? = some (.cells #[.int .i64 stop] 3 (0, 0))) (hSO : Bs ≠ Bo)
  (k67 : ∀ (b : Nat) (cs : Array Value), w.heap[b]? = some (.cells cs 67 (0, 0)) → w6.heap[b]? = some (.cells cs 67 (0, 0))) (hloO : B0 ≤ Bo) (hlo : B0 ≤ w.heap.size) :
  Outs B0 Bo Bs stop w0 (ps ++ [(kr, vr)]) (w6.setCell ⟨Bo, 0, none⟩ v1) ∧ Below B0 w (w6.setCell ⟨Bo, 0, none⟩ v1) ∧ ∀ (b : Nat) (cs : Array Value), w.heap[b]? = some (.cells cs 67 (0, 0)) → (w6.setCell ⟨Bo, 0, none⟩ v1).heap[b]? = some (.cells cs 67 (0, 0)) := by
 have hb7 : Below B0 w (w6.setCell ⟨Bo, 0, none⟩ v1) := hb6.setCell hloO v1
 refine ⟨⟨hbel.trans hb7, ⟨v1, blk_put kO6 0 v1 rfl, ?_⟩, blk_far kS6 hSO v1, Nat.le_trans hlo hb7.size, hloO⟩, hb7, fun b cs h => blk_far (k67 b cs h) (blk_ne (k67 b cs h) kO6 (by decide)) v1⟩
 have h1 := own_setCell ho (p := ⟨Bo, 0, none⟩) (own_ne ho kO6 (by decide)) v1
 rw [List.length_append, List.flatMap_append]
 simpa [Rs.cells] using h1
theorem info42 : (Tryz.prog.info? 42).map (fun i => (i.zero, i.size, i.bytes)) = some (some (.agg #[.int .i64 0, .string ⟨#[]⟩, .string ⟨#[]⟩, .float .f64 0, .bool false, .int .i64 0, .string ⟨#[]⟩, .string ⟨#[]⟩, .float .f64 0, .bool false]), 10, 112) := by kernel_rfl
set_option maxHeartbeats 8000000 in
set_option maxRecDepth 100000 in
theorem each_calls (B0 Bo Bs : Nat) (stop : Int) (w0 w : World) (ps : List (Rs × Rs)) (kr vr : Rs) (hO : Outs B0 Bo Bs stop w0 ps w) (hps : ps.length ≤ 100000) :
  Calls Tryz.prog 33 #[resV kr.k kr.raw kr.str kr.num kr.idx, resV vr.k vr.raw vr.str vr.num vr.idx, .pointer (some ⟨Bo, 0, none⟩), .pointer (some ⟨Bs, 0, none⟩)] w fun e w' =>
   e = .returned (.bool (((ps.length + 1 : Nat) : Int) != stop)) ∧ Outs B0 Bo Bs stop w0 (ps ++ [(kr, vr)]) w' ∧ Below B0 w w' ∧ ∀ (b : Nat) (cs : Array Value), w.heap[b]? = some (.cells cs 67 (0, 0)) → w'.heap[b]? = some (.cells cs 67 (0, 0)) := by
 obtain ⟨hbel, ⟨v, kBo, hown⟩, kBs, hlo, hloO⟩ := hO
 have hca := fun W => gj_calls W kr
 have hcb := fun W => gj_calls W vr
 have ky : ((w.alloc (.cells #[.int .i64 kr.k, .string kr.raw, .string kr.str, .float .f64 kr.num, .int .i64 kr.idx, .slice none 0 0] 67 (0, 0))).alloc (.cells #[.int .i64 vr.k, .string vr.raw, .string vr.str, .float .f64 vr.num, .int .i64 vr.idx, .slice none 0 0] 67 (0, 0))).heap[w.heap.size]? = some (.cells #[.int .i64 kr.k, .string kr.raw, .string kr.str, .float .f64 kr.num, .int .i64 kr.idx, .slice none 0 0] 67 (0, 0)) := blk_alloc (blk_new w _) _
 have vy : ((w.alloc (.cells #[.int .i64 kr.k, .string kr.raw, .string kr.str, .float .f64 kr.num, .int .i64 kr.idx, .slice none 0 0] 67 (0, 0))).alloc (.cells #[.int .i64 vr.k, .string vr.raw, .string vr.str, .float .f64 vr.num, .int .i64 vr.idx, .slice none 0 0] 67 (0, 0))).heap[w.heap.size + 1]? = some (.cells #[.int .i64 vr.k, .string vr.raw, .string vr.str, .float .f64 vr.num, .int .i64 vr.idx, .slice none 0 0] 67 (0, 0)) := by
  have := blk_new (w.alloc (.cells #[.int .i64 kr.k, .string kr.raw, .string kr.str, .float .f64 kr.num, .int .i64 kr.idx, .slice none 0 0] 67 (0, 0))) (.cells #[.int .i64 vr.k, .string vr.raw, .string vr.str, .float .f64 vr.num, .int .i64 vr.idx, .slice none 0 0] 67 (0, 0))
  simpa using this
 obtain ⟨W, hW⟩ : ∃ W, (w.alloc (.cells #[.int .i64 kr.k, .string kr.raw, .string kr.str, .float .f64 kr.num, .int .i64 kr.idx, .slice none 0 0] 67 (0, 0))).alloc (.cells #[.int .i64 vr.k, .string vr.raw, .string vr.str, .float .f64 vr.num, .int .i64 vr.idx, .slice none 0 0] 67 (0, 0)) = W := ⟨_, rfl⟩
 have hBW : Below w.heap.size w W := by rw [← hW]; exact below_alloc (below_alloc (Below.refl _ _) _) _
 rw [hW] at ky vy
 have kO := blk_below kBo hBW
 have kS := blk_below kBs hBW
 have hO2 := pw_own_below hown hBW
 have ck0 := (blk_cell ky 0).trans rfl
 have cv0 := (blk_cell vy 0).trans rfl
 have ck1 := (blk_cell ky 1).trans rfl
 have cv1 := (blk_cell vy 1).trans rfl
 have ck2 := (blk_cell ky 2).trans rfl
 have cv2 := (blk_cell vy 2).trans rfl
 have ck3 := (blk_cell ky 3).trans rfl
 have cv3 := (blk_cell vy 3).trans rfl
 have ck4 := (blk_cell ky 4).trans rfl
 have cv4 := (blk_cell vy 4).trans rfl
 have ck5 := (blk_cell ky 5).trans rfl
 have cv5 := (blk_cell vy 5).trans rfl
 have co := (blk_cell kO 0).trans rfl
 have fo := blk_frozen kO 0
 have lo := blk_lt kO
 have hBy := Aside0.mk (Below.refl W.heap.size W)
 have hSO : Bs ≠ Bo := blk_ne kBs kBo (by decide)
 replace ky := Aside0.mk ky
 replace vy := Aside0.mk vy
 replace kO := Aside0.mk kO
 replace kS := Aside0.mk kS
 replace kBo := Aside0.mk kBo
 replace kBs := Aside0.mk kBs
 replace hO2 := Aside0.mk hO2
 replace hown := Aside0.mk hown
 replace hBW := Aside0.mk hBW
 go_enter Tryz.func33, Tryz.ntmps33
 go_wp2
 go_region_law (first | (refine step_append_cells (w0 := w) B0 rfl (.tmp 7) (.tmp 13) 35 42 _ 10 112 rfl Tryz.underlying35 info42 rfl (by decide) (by decide) v ps.length (ps.flatMap fun p => p.1.cells ++ p.2.cells) [.int .i64 kr.k, .string kr.raw, .string kr.str, .float .f64 kr.num, .bool kr.ex, .int .i64 vr.k, .string vr.raw, .string vr.str, .float .f64 vr.num, .bool vr.ex] (by simp [Act.eval, Act.put]) (by simp [Act.eval, Act.put]) rfl ?a1 ?aO ?aB ?aS ?aL ?_; (case a1 => exact ones_ok kr vr); (case aO => exact pw_own_below hown.out (below_then hBW.out hBW.out.size (by repeat (with_reducible first | exact hBy.out | apply below_alloc | apply below_drew | apply pw_below_drewN)))); (case aB => exact below_mono (below_then hBW.out hBW.out.size (by repeat (with_reducible first | exact hBy.out | apply below_alloc | apply below_drew | apply pw_below_drewN))) hlo); (case aS => exact Nat.le_trans hlo (below_then hBW.out hBW.out.size (by repeat (with_reducible first | exact hBy.out | apply below_alloc | apply below_drew | apply pw_below_drewN))).size); (case aL => omega); intro v1 w6 ho hb6 hg6 hat6; have kO6 := app_blk hown.out kBo.out (below_then hBW.out hBW.out.size (by repeat (with_reducible first | exact hBy.out | apply below_alloc | apply below_drew | apply pw_below_drewN))) hg6 (by decide); have kS6 := app_blk hown.out kBs.out (below_then hBW.out hBW.out.size (by repeat (with_reducible first | exact hBy.out | apply below_alloc | apply below_drew | apply pw_below_drewN))) hg6 (by decide); have k67 := app_67 hown.out (below_then hBW.out hBW.out.size (by repeat (with_reducible first | exact hBy.out | apply below_alloc | apply below_drew | apply pw_below_drewN))) hg6; obtain ⟨g, cap, rfl, hbg, hncap⟩ := own_shape ho (by omega); have co6 := (blk_cell kO6 0).trans rfl; have fo6 := blk_frozen kO6 0; have cs6 := (blk_cell kS6 0).trans rfl; replace kO6 := Aside0.mk kO6; replace kS6 := Aside0.mk kS6; replace k67 := Aside0.mk k67; replace ho := Aside0.mk ho; replace hb6 := Aside0.mk hb6; clear hg6 hat6) | (go_simp; go_at_call 34; (with_reducible refine (hca _).mono ?_); rintro e w5 ⟨rfl, hb5⟩; replace hBy := Aside0.mk (below_step (by repeat (with_reducible first | exact hBy.out | apply below_alloc | apply below_drew | apply pw_below_drewN)) hb5); clear hb5; have ky5 := blk_below ky.out hBy.out; have vy5 := blk_below vy.out hBy.out; have kO5 := blk_below kO.out hBy.out; have ck0 := (blk_cell ky5 0).trans rfl; have cv0 := (blk_cell vy5 0).trans rfl; have ck1 := (blk_cell ky5 1).trans rfl; have cv1 := (blk_cell vy5 1).trans rfl; have ck2 := (blk_cell ky5 2).trans rfl; have cv2 := (blk_cell vy5 2).trans rfl; have ck3 := (blk_cell ky5 3).trans rfl; have cv3 := (blk_cell vy5 3).trans rfl; have ck4 := (blk_cell ky5 4).trans rfl; have cv4 := (blk_cell vy5 4).trans rfl; have ck5 := (blk_cell ky5 5).trans rfl; have cv5 := (blk_cell vy5 5).trans rfl; have co := (blk_cell kO5 0).trans rfl; have fo := blk_frozen kO5 0; have lo := blk_lt kO5; replace ky5 := Aside0.mk ky5; replace vy5 := Aside0.mk vy5; replace kO5 := Aside0.mk kO5) | (go_simp; go_at_call 34; (with_reducible refine (hcb _).mono ?_); rintro e w5 ⟨rfl, hb5⟩; replace hBy := Aside0.mk (below_step (by repeat (with_reducible first | exact hBy.out | apply below_alloc | apply below_drew | apply pw_below_drewN)) hb5); clear hb5; have ky5 := blk_below ky.out hBy.out; have vy5 := blk_below vy.out hBy.out; have kO5 := blk_below kO.out hBy.out; have ck0 := (blk_cell ky5 0).trans rfl; have cv0 := (blk_cell vy5 0).trans rfl; have ck1 := (blk_cell ky5 1).trans rfl; have cv1 := (blk_cell vy5 1).trans rfl; have ck2 := (blk_cell ky5 2).trans rfl; have cv2 := (blk_cell vy5 2).trans rfl; have ck3 := (blk_cell ky5 3).trans rfl; have cv3 := (blk_cell vy5 3).trans rfl; have ck4 := (blk_cell ky5 4).trans rfl; have cv4 := (blk_cell vy5 4).trans rfl; have ck5 := (blk_cell ky5 5).trans rfl; have cv5 := (blk_cell vy5 5).trans rfl; have co := (blk_cell kO5 0).trans rfl; have fo := blk_frozen kO5 0; have lo := blk_lt kO5; replace ky5 := Aside0.mk ky5; replace vy5 := Aside0.mk vy5; replace kO5 := Aside0.mk kO5))
 all_goals (try go_wp2)
 all_goals go_ret
 all_goals exact ⟨by first | rfl | simp, outs_done hbel hb6.out ho.out kO6.out kS6.out hSO k67.out hloO (by omega)⟩
end Go.Proofs.YtpgfjbimodnkeaaGreatDoor.Dec
