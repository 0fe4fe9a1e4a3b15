/- FnGjGroupText: whatever text comes in, the law returns true and the text reads afterwards as before; with the fourteen package-level variables that its row lists as the text of the program lays them (the tied card) (part 20 of 33: lemmas for its last part) -/
import Derived.Test.YtpgfjbimodnkeaaGreatDoorGrp18
import Derived.Test.YtpgfjbimodnkeaaGreatDoorGrp19
set_option maxHeartbeats 16000000
set_option maxRecDepth 100000
set_option linter.unusedVariables false
set_option linter.unusedSimpArgs false
namespace Go.Proofs.YtpgfjbimodnkeaaGreatDoor.Dec
open Go Go.RowKit Go.Proofs.YtpgfjbimodnkeaaGreatDoorW.PrintWords Go.Proofs.YtpgfjbimodnkeaaGreatDoorW.PrintLast Go.Proofs.YtpgfjbimodnkeaaGreatDoorW.PrintMore Go.Proofs.YtpgfjbimodnkeaaGreatDoor.Scan Go.Proofs.YtpgfjbimodnkeaaGreatDoor.Q
structure PV (w:World) (r:Rs) (W:World):Prop where
 z:W.heap[w.heap.size]?=some (.cells (jg ⟨0,⟨#[]⟩,⟨#[]⟩,0,0⟩) 67 (0,0))
 v:W.heap[w.heap.size+1]?=some (.cells (jg r) 67 (0,0))
 bel:Below w.heap.size w W
theorem PV.below {w W W':World} {r:Rs} (h:PV w r W) (hb:Below W.heap.size W W'):PV w r W':=⟨bU h.z hb,bU h.v hb,dB h.bel hb⟩
theorem PV.set {w W:World} {r:Rs} (h:PV w r W) (r':Rs) (j:Nat) (u:Value) (hr:(jg r).setIfInBounds j u=jg r'):PV w r' (W.setCell ⟨w.heap.size+1,j,none⟩ u) :=
 ⟨bW h.z (by simp) _,cu h.v j _ hr,h.bel.setCell (Nat.le_succ _) u⟩
theorem ED (w:World):PV w ⟨0,⟨#[]⟩,⟨#[]⟩,0,0⟩ ((w.alloc (.cells #[.int .i64 0,.string ⟨#[]⟩,.string ⟨#[]⟩,.float .f64 0,.int .i64 0,.slice none 0 0] 67)).alloc (.cells #[.int .i64 0,.string ⟨#[]⟩,.string ⟨#[]⟩,.float .f64 0,.int .i64 0,.slice none 0 0] 67)) :=
 ⟨(vS w _ _ 67 67).1,(vS w _ _ 67 67).2,ai (ai (Below.refl _ _) _) _⟩
structure GZ (w:World) (r:Rs) (W:World):Prop where
 c0:W.cell? ⟨w.heap.size+1,0,none⟩=some (.int .i64 r.k)
 c1:W.cell? ⟨w.heap.size+1,1,none⟩=some (.string r.raw)
 c2:W.cell? ⟨w.heap.size+1,2,none⟩=some (.string r.str)
 c3:W.cell? ⟨w.heap.size+1,3,none⟩=some (.float .f64 r.num)
 c4:W.cell? ⟨w.heap.size+1,4,none⟩=some (.int .i64 r.idx)
 c5:W.cell? ⟨w.heap.size+1,5,none⟩=some (.slice none 0 0)
 f:∀ j,W.frozen? ⟨w.heap.size+1,j,none⟩=false
theorem PV.cells {w W:World} {r:Rs} (h:PV w r W):GZ w r W :=
 ⟨(ah h.v 0).trans rfl,(ah h.v 1).trans rfl,(ah h.v 2).trans rfl,(ah h.v 3).trans rfl,(ah h.v 4).trans rfl,(ah h.v 5).trans rfl,fun j=>ak h.v j⟩
structure Hq (w W:World):Prop where
 c0:W.cell? ⟨w.heap.size,0,none⟩=some (.int .i64 0)
 c1:W.cell? ⟨w.heap.size,1,none⟩=some (.string ⟨#[]⟩)
 c2:W.cell? ⟨w.heap.size,2,none⟩=some (.string ⟨#[]⟩)
 c3:W.cell? ⟨w.heap.size,3,none⟩=some (.float .f64 0)
 c4:W.cell? ⟨w.heap.size,4,none⟩=some (.int .i64 0)
 c5:W.cell? ⟨w.heap.size,5,none⟩=some (.slice none 0 0)
 f:∀ j,W.frozen? ⟨w.heap.size,j,none⟩=false
theorem PV.H6 {w W:World} {r:Rs} (h:PV w r W):Hq w W :=
 ⟨(ah h.z 0).trans rfl,(ah h.z 1).trans rfl,(ah h.z 2).trans rfl,(ah h.z 3).trans rfl,(ah h.z 4).trans rfl,(ah h.z 5).trans rfl,fun j=>ak h.z j⟩
theorem wu (r:Rs) (h:r.k≠0∨r.raw.size≠0) (W:World):Calls Tryz.prog 59 #[resV r.k r.raw r.str r.num r.idx] W fun e w'=>e = .returned (.bool true)∧Below W.heap.size W w':=by
 refine Q.iV.calls r.k r.raw r.str r.num r.idx none 0 [] true W (Kd.IB _ _) (Nat.le_refl _) ?_
 unfold Q.iV.f
 by_cases h0:r.k=0
 ·rw [if_pos h0]
  have h1:=h.resolve_left (fun hh=>hh h0)
  rw [show ((r.raw.size:Int) != 0)=true from bne_iff_ne.mpr (by omega)]
 ·rw [if_neg h0]
theorem PV.put {w W:World} {r:Rs} (h:PV w r W):((((((W.setCell ⟨w.heap.size,0,none⟩ (.int .i64 r.k)).setCell ⟨w.heap.size,1,none⟩ (.string r.raw)).setCell ⟨w.heap.size,2,none⟩ (.string r.str)).setCell ⟨w.heap.size,3,none⟩ (.float .f64 r.num)).setCell ⟨w.heap.size,4,none⟩ (.int .i64 r.idx)).setCell ⟨w.heap.size,5,none⟩ (.slice none 0 0)).heap[w.heap.size]?=some (.cells (jg r) 67 (0,0)) :=
 cu (cu (cu (cu (cu (cu h.z 0 _ rfl) 1 _ rfl) 2 _ rfl) 3 _ rfl) 4 _ rfl) 5 _ rfl
theorem PV.F6 {w W:World} {r:Rs} (h:PV w r W) (a b c d e f:Value):Below w.heap.size w ((((((W.setCell ⟨w.heap.size,0,none⟩ a).setCell ⟨w.heap.size,1,none⟩ b).setCell ⟨w.heap.size,2,none⟩ c).setCell ⟨w.heap.size,3,none⟩ d).setCell ⟨w.heap.size,4,none⟩ e).setCell ⟨w.heap.size,5,none⟩ f):=by
 have hl:=Nat.le_refl w.heap.size
 exact (((((h.bel.setCell hl a).setCell hl b).setCell hl c).setCell hl d).setCell hl e).setCell hl f
end Go.Proofs.YtpgfjbimodnkeaaGreatDoor.Dec
