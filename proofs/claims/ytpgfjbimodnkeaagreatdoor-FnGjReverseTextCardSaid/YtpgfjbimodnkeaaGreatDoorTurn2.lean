/- FnGjReverseText: whatever text comes in, the law returns true and the text reads afterwards as before; with the fourteen package-level variables that its row lists as the text of the program lays them (the tied card) (part 2 of 25: lemmas for its last part) -/
import Derived.Laws.StructEq
import Derived.Test.YtpgfjbimodnkeaaGreatDoorProg
import Derived.Below
import Derived.Deep.Draws
import Derived.Deep.AppendLies
import Derived.Maps.AppendAt
import Derived.OwnWalk
import Derived.Laws.BytesArg
import Derived.Laws.MakeOwn
import Derived.Laws.OwnMore
import Derived.Deep.OwnRows
import Derived.Tactics
import Derived.Lib.ConvBytes
import Derived.Laws.Slices
import Derived.WalkKit
import Derived.KernelRfl
import Derived.RowKit3
import Derived.Deep.LoopGhost
import Derived.Deep.QuietTactic
import Derived.BigQuiet
import Derived.WideLaws
import Derived.Deep.DeepCutAuto
import Derived.Deep.CutBlock
import Derived.Deep.RegionHeld3
import Derived.Laws.Rows
import Derived.Lib.AppendStr
import Derived.ArgAppend
import Derived.Laws.IdiomCopy
import Derived.OrdersHeld
import Derived.Laws.BitsLemmas
import Derived.RowKit
import Derived.WalkMore
import Derived.Test.YtpgfjbimodnkeaaGreatDoorTurn1
set_option maxHeartbeats 16000000
set_option maxRecDepth 100000
set_option linter.unusedVariables false
set_option linter.unusedSimpArgs false
namespace Go.Proofs.YtpgfjbimodnkeaaGreatDoorW.PrintLast
open Go.Proofs.YtpgfjbimodnkeaaGreatDoorW.PrintWords (ae)
def nI (md : Region.Mode) (o : Oper) : List Nat := (o.after.toList.filter (fun e => Region.binds md e)).map (fun e => e.on)
def vT (md : Region.Mode) (ops : Array Oper) (i : Nat) (oi : Oper) : List Nat := (List.range ops.size).filter fun j => !(j == i) && match ops[j]? with
 | some oj => !(oj.after.any (fun e => Region.binds md e && e.on == i) || oi.apart ops oj)
 | none => false
def lH (md : Region.Mode) (ops : Array Oper) : Bool × List (List Nat × List Nat) := (Region.noSelect ops, (List.range ops.size).map fun i => match ops[i]? with
 | some o => (nI md o, vT md ops i o)
 | none => ([], []))
def kY (T : List (List Nat × List Nat)) (l : List Bool) (i : Nat) : Bool := !l.getD i true && match T[i]? with
 | some r => r.1.all (fun j => l.getD j false)
 | none => false
def rO (T : List (List Nat × List Nat)) (l : List Bool) : List Nat := (List.range T.length).filter (kY T l)
def xB (T : List (List Nat × List Nat)) (l : List Bool) (i : Nat) : Bool := match T[i]? with
 | some r => r.2.all (fun j => l.getD j true)
 | none => false
def qU (T : List (List Nat × List Nat)) (l : List Bool) : Bool := (List.range T.length).all fun j => !l.getD j false || match T[j]? with
 | some r => r.1.all (fun k => l.getD k false)
 | none => true
def qB (T : List (List Nat × List Nat)) (i : Nat) : Nat → Nat → Bool
 | 0, _ => false
 | fuel + 1, d => match T[d]? with
   | some r => r.1.any fun j => j == i || qB T i fuel j
   | none => false
def lastT (T : List (List Nat × List Nat)) (l : List Bool) (ds : List Nat) (i : Nat) : Bool := ds.all fun d => l.getD d true || qB T i T.length d
section
variable {md : Region.Mode} {ops : Array Oper} {T : Bool × List (List Nat × List Nat)} {l l' li lj lk : Array Bool} {ds : List Nat} {i j k : Nat}
theorem gd (l : Array Bool) (j : Nat) (b : Bool) : l.getD j b = l.toList.getD j b := by simp [Array.getD_eq_getD_getElem?, List.getD_eq_getElem?_getD]
theorem ut (o : Oper) (p : Nat → Bool) : o.after.all (fun e => !Region.binds md e || p e.on) = (nI md o).all p := by
 unfold nI
 rw [← Array.all_toList]
 induction o.after.toList with
 | nil => rfl
 | cons e r ih =>
   rw [List.all_cons, ih, List.filter_cons]
   cases h : Region.binds md e <;> simp
theorem zW (o : Oper) (p : Nat → Bool) : o.after.any (fun e => Region.binds md e && p e.on) = (nI md o).any p := by
 unfold nI
 rw [← Array.any_toList]
 induction o.after.toList with
 | nil => rfl
 | cons e r ih =>
   rw [List.any_cons, ih, List.filter_cons]
   cases h : Region.binds md e <;> simp
theorem kX : (lH md ops).2.length = ops.size := by simp [lH]
theorem nH {o : Oper} (h : ops[i]? = some o) : (lH md ops).2[i]? = some (nI md o, vT md ops i o) := by
 have hi := (Array.getElem?_eq_some_iff.1 h).1
 unfold lH
 rw [List.getElem?_map, List.getElem?_range hi, Option.map_some, h]
theorem nN (h : ops[i]? = none) : (lH md ops).2[i]? = none := by
 have hi : ops.size ≤ i := Array.getElem?_eq_none_iff.1 h
 exact List.getElem?_eq_none (by rw [kX]; exact hi)
theorem yA : kY (lH md ops).2 l.toList i = (!l.getD i true && ((ops[i]?).map (·.after.all fun e => !Region.binds md e || l.getD e.on false)).getD false) := by
 unfold kY
 rw [gd]
 cases h : ops[i]? with
 | none => rw [nN h]; rfl
 | some o =>
   rw [nH h]
   simp only [Option.map_some, Option.getD_some]
   rw [← ut]
   simp only [gd]
theorem ready_eq : Region.ready md ops l = rO (lH md ops).2 l.toList := by
 unfold Region.ready rO
 rw [kX]
 refine List.filter_congr (fun i _ => ?_)
 rw [yA]
theorem free_eq : Region.free md ops l i = xB (lH md ops).2 l.toList i := by
 unfold Region.free xB
 cases h : ops[i]? with
 | none => rw [nN h]
 | some oi =>
   rw [nH h]
   simp only [vT]
   rw [List.all_filter]
   congr 1
   funext j
   rw [gd]
   cases hj : ops[j]? with
   | none => cases (j == i) <;> cases (l.toList.getD j true) <;> simp
   | some oj =>
     cases (j == i) <;> cases (l.toList.getD j true) <;> cases (oj.after.any (fun e => Region.binds md e && e.on == i) || oi.apart ops oj) <;> simp_all
theorem Aj : Region.pJ md ops l = qU (lH md ops).2 l.toList := by
 unfold Region.pJ qU
 rw [kX]
 congr 1
 funext j
 rw [gd]
 cases h : ops[j]? with
 | none => rw [nN h]
 | some o =>
   rw [nH h]
   simp only
   rw [← ut]
   simp only [gd]
theorem reach_eq : ∀ (fuel d : Nat), Region.kK md ops i fuel d = qB (lH md ops).2 i fuel d
 | 0, _ => rfl
 | fuel + 1, d => by
   unfold Region.kK qB
   cases h : ops[d]? with
   | none => rw [nN h]
   | some o =>
     rw [nH h]
     simp only
     rw [← zW]
     congr 1
     funext e
     rw [reach_eq fuel]
theorem DN : Region.lastB md ops l ds i = lastT (lH md ops).2 l.toList ds i := by
 unfold Region.lastB lastT
 rw [kX]
 congr 1
 funext d
 rw [gd, reach_eq]
theorem qK (h : kY T.2 l.toList i = true) (hT : lH md ops = T) : (Region.ready md ops l).contains i = true := by
 subst hT
 rw [ready_eq]
 unfold rO
 rw [List.contains_iff_mem, List.mem_filter, List.mem_range]
 refine ⟨?_, h⟩
 unfold kY at h
 rw [Bool.and_eq_true] at h
 cases hq : (lH md ops).2[i]? with
 | none => rw [hq] at h; simp at h
 | some r => exact (List.getElem?_eq_some_iff.1 hq).1
theorem yI (h : (l.toList.set i true == l'.toList) = true) : (l.setIfInBounds i true == l') = true := by
 rw [beq_iff_eq] at h ⊢
 apply Array.ext'
 rw [Array.toList_setIfInBounds]
 exact h
def Gh (T : Bool × List (List Nat × List Nat)) (l l' : List Bool) (i : Nat) : Bool := T.1 && xB T.2 l i && kY T.2 l i && (l.set i true == l')
theorem dP (hT : lH md ops = T) (h : Gh T l.toList l'.toList i = true) : D8 md ops l l' i = true := by
 simp only [Gh, Bool.and_eq_true] at h
 obtain ⟨⟨⟨h1, h2⟩, h3⟩, h4⟩ := h
 have h5 := qK h3 hT
 have h6 := yI h4
 subst hT
 simp only [D8, Bool.and_eq_true]
 exact ⟨⟨⟨h1, by rw [free_eq]; exact h2⟩, h5⟩, h6⟩
def BV (T : Bool × List (List Nat × List Nat)) (ds : List Nat) (l l' : List Bool) (i : Nat) : Bool := T.1 && xB T.2 l i && kY T.2 l i && qU T.2 l && lastT T.2 l ds i && (l.set i true == l')
theorem Eg (hT : lH md ops = T) (h : BV T ds l.toList l'.toList i = true) : takeB md ops ds l l' i = true := by
 simp only [BV, Bool.and_eq_true] at h
 obtain ⟨⟨⟨⟨⟨h1, h2⟩, h3⟩, h4⟩, h5⟩, h6⟩ := h
 have h7 := qK h3 hT
 have h8 := yI h6
 subst hT
 simp only [takeB, Bool.and_eq_true]
 exact ⟨⟨⟨⟨⟨h1, by rw [free_eq]; exact h2⟩, h7⟩, by rw [Aj]; exact h4⟩, by rw [DN]; exact h5⟩, h8⟩
theorem lY (hT : lH md ops = T) (h : (rO T.2 l.toList == [i] && l.toList.set i true == l'.toList) = true) : vX md ops l l' i = true := by
 simp only [Bool.and_eq_true] at h
 obtain ⟨h1, h2⟩ := h
 subst hT
 simp only [vX, Bool.and_eq_true]
 exact ⟨by rw [ready_eq]; exact h1, yI h2⟩
theorem uY (hT : lH md ops = T) (h : (rO T.2 l.toList == []) = true) : (Region.ready md ops l == []) = true := by
 subst hT
 rw [ready_eq]
 exact h
def upM (B : List Nat) (d : Nat) : List Nat → Nat
 | [] => 0
 | n :: r => (2 ^ n ||| (if n < d then B.getD n 0 else 0)) ||| upM B d r
def o5 (T : List (List Nat × List Nat)) (B : List Nat) : Bool := (List.range T.length).all fun d => match T[d]? with
 | some r => (B.getD d 0 ||| upM B d r.1) == upM B d r.1
 | none => false
theorem zA {B : List Nat} {d i : Nat} : ∀ {ns : List Nat}, (upM B d ns).testBit i = true → ∃ n ∈ ns, n = i ∨ (n < d ∧ (B.getD n 0).testBit i = true)
 | [], h => by simp [upM] at h
 | n :: r, h => by
   unfold upM at h
   rw [Nat.testBit_or, Nat.testBit_or, Bool.or_eq_true, Bool.or_eq_true] at h
   rcases h with (h | h) | h
   ·rw [Nat.testBit_two_pow] at h
    exact ⟨n, List.mem_cons_self, .inl (by simpa using h)⟩
   ·by_cases hn : n < d
    ·rw [if_pos hn] at h
     exact ⟨n, List.mem_cons_self, .inr ⟨hn, h⟩⟩
    ·rw [if_neg hn] at h
     simp at h
   ·obtain ⟨m, hm, h2⟩ := zA h
    exact ⟨m, List.mem_cons_of_mem _ hm, h2⟩
theorem uw {T : List (List Nat × List Nat)} {B : List Nat} (hB : o5 T B = true) : ∀ (fuel d : Nat), d < fuel → d < T.length → (B.getD d 0).testBit i = true → qB T i fuel d = true
 | 0, d, h, _, _ => by omega
 | fuel + 1, d, h, hd, hb => by
   have h1 := List.all_eq_true.1 hB d (List.mem_range.2 hd)
   cases hr : T[d]? with
   | none => rw [hr] at h1; simp at h1
   | some r =>
     rw [hr] at h1
     simp only [beq_iff_eq] at h1
     have h2 : (upM B d r.1).testBit i = true := by rw [← h1, Nat.testBit_or, hb, Bool.true_or]
     obtain ⟨n, hn, h3⟩ := zA h2
     unfold qB
     rw [hr]
     simp only
     rw [List.any_eq_true]
     refine ⟨n, hn, ?_⟩
     rcases h3 with rfl | ⟨h4, h5⟩
     ·simp
     ·rw [uw hB fuel n (by omega) (by omega) h5, Bool.or_true]
def EJ (T : List (List Nat × List Nat)) (B : List Nat) (l : List Bool) (ds : List Nat) (i : Nat) : Bool := ds.all fun d => l.getD d true || (decide (d < T.length) && (B.getD d 0).testBit i)
def EI (T : Bool × List (List Nat × List Nat)) (B : List Nat) (ds : List Nat) (l l' : List Bool) (i : Nat) : Bool := T.1 && xB T.2 l i && kY T.2 l i && qU T.2 l && EJ T.2 B l ds i && (l.set i true == l')
theorem jR {B : List Nat} (hT : lH md ops = T) (hB : o5 T.2 B = true) (h : EI T B ds l.toList l'.toList i = true) : takeB md ops ds l l' i = true := by
 refine Eg hT ?_
 simp only [EI, BV, Bool.and_eq_true] at h ⊢
 obtain ⟨⟨⟨⟨⟨h1, h2⟩, h3⟩, h4⟩, h5⟩, h6⟩ := h
 refine ⟨⟨⟨⟨⟨h1, h2⟩, h3⟩, h4⟩, ?_⟩, h6⟩
 unfold EJ at h5
 unfold lastT
 rw [List.all_eq_true] at h5 ⊢
 intro d hd
 have h7 := h5 d hd
 rw [Bool.or_eq_true, Bool.and_eq_true, decide_eq_true_eq] at h7
 rcases h7 with h7 | ⟨h8, h9⟩
 ·rw [h7, Bool.true_or]
 ·rw [uw hB _ d h8 h8 h9, Bool.or_true]
theorem qc {P : Program} {Q : Exit → Act → World → Prop} {S : World → Prop} {n : Nat} {a : Act} {w : World} {B : List Nat} (hT : lH md ops = T) (hB : o5 T.2 B = true) (h : ae (lH md ops = T) → ae (o5 T.2 B = true) → dV P md ops Q S ds n l a w) : dV P md ops Q S ds n l a w := h ⟨hT⟩ ⟨hB⟩
end
def oq : Code → Nat → Option (Array Oper)
 | .region id ops _, k => if id == k then some ops else none
 | .seq a b, k => match oq a k with
   | some o => some o
   | none => oq b k
 | .cond _ a b, k => match oq a k with
   | some o => some o
   | none => oq b k
 | .block _ c, k => oq c k
 | .loop c, k => oq c k
 | .scope c, k => oq c k
 | .rangeFunc _ _ a b, k => match oq a k with
   | some o => some o
   | none => oq b k
 | _, _ => none
def opsOf (f : Func) (k : Nat) : Array Oper := ((f.body.bind fun c => oq c k)).getD #[]
end Go.Proofs.YtpgfjbimodnkeaaGreatDoorW.PrintLast
namespace Go.Proofs.YtpgfjbimodnkeaaGreatDoorW.PrintWords
open Go.RowKit
namespace Kd
def tag {α : Type} (f : Nat → Nat) (d : Kd α) : Kd (α × Nat) where
 sz := d.sz
 E := d.E
 K := fun w x cs => d.K w x.1 cs
 M := fun w base ok x cs => d.M w base (fun k => ok k ∧ f k = x.2) x.1 cs
 jJ := fun h => d.jJ h
 jD := fun h => d.jD h
 gY := fun hb h => d.gY hb h
 gI := fun h => d.gI h
 fQ := fun hok h => d.fQ (fun k hk => ⟨hok k hk.1, hk.2⟩) h
 fZ := fun h => d.fQ (fun _ hk => ⟨⟨hk.1.1, hk.2⟩, hk.1.2⟩) (d.fZ h)
 iG := fun hm h => d.iG (fun k hk => hm k hk.1) h
 iy := fun hb h => d.iy hb h
def raw (sz : Nat) : Kd (List Value) where
 sz := sz
 E := []
 K := fun _ x cs => cs = x ∧ cs.length = sz ∧ ∀ u ∈ cs, u.oneCell' = true
 M := fun _ _ _ x cs => cs = x ∧ cs.length = sz ∧ ∀ u ∈ cs, u.oneCell' = true
 jJ := fun h => h.2.1
 jD := fun h => h.2.2
 gY := fun _ h => h
 gI := fun h => h
 fQ := fun _ h => h
 fZ := fun h => h
 iG := fun _ h => h
 iy := fun _ h => h
def S {α : Type} (d : Kd α) (e : Nat) (w : World) (base : Nat) (ok : Nat → Prop) (v : Value) (xs : List α) : Prop := ∃ f, (tag f d).R e w base ok v xs.zipIdx
section
variable {α β : Type} {d : Kd α} {d' : Kd β} {e e' : Nat} {w w1 W : World} {base b : Nat} {ok ok' okv oku : Nat → Prop} {u v : Value} {xs : List α} {ys : List β}
theorem qY (hE : d.E = []) (h : d.R e w base ok v xs) : d.R e w base (fun k => some k = v.ownBlock) v xs := by
 obtain ⟨h0, inner, ho, hr⟩ := h
 refine ⟨fun k hk => hk.symm, inner, ho, hr.kR (fun p c hp => d.fQ (fun k hk => ?_) (d.fZ hp))⟩
 obtain ⟨_, _, _, q, hq, _⟩ := hk
 rw [hE] at hq
 cases hq
theorem pK (d : Kd α) (e : Nat) (w : World) (base : Nat) (ok : Nat → Prop) : S d e w base ok (.slice none 0 0) [] := ⟨fun _ => 0, iH _ _ _ _ _⟩
end
def gap {α : Type} (f : Nat → Nat) (d : Kd α) (i : Nat) (c : List Value) : Kd (α × Nat) where
 sz := d.sz
 E := d.E
 K := fun w x cs => (x.2 = i → cs = c ∧ cs.length = d.sz ∧ ∀ u ∈ cs, u.oneCell' = true) ∧ (x.2 ≠ i → d.K w x.1 cs)
 M := fun w base ok x cs => (x.2 = i → cs = c ∧ cs.length = d.sz ∧ ∀ u ∈ cs, u.oneCell' = true) ∧ (x.2 ≠ i → d.M w base (fun k => ok k ∧ f k = x.2) x.1 cs)
 jJ := fun {w x cs} h => by
  by_cases hx : x.2 = i
  ·exact (h.1 hx).2.1
  ·exact d.jJ (h.2 hx)
 jD := fun {w x cs} h => by
  by_cases hx : x.2 = i
  ·exact (h.1 hx).2.2
  ·exact d.jD (h.2 hx)
 gY := fun hb h => ⟨h.1, fun hx => d.gY hb (h.2 hx)⟩
 gI := fun h => ⟨h.1, fun hx => d.gI (h.2 hx)⟩
 fQ := fun hok h => ⟨h.1, fun hx => d.fQ (fun k hk => ⟨hok k hk.1, hk.2⟩) (h.2 hx)⟩
 fZ := fun h => ⟨h.1, fun hx => d.fQ (fun _ hk => ⟨⟨hk.1.1, hk.2⟩, hk.1.2⟩) (d.fZ (h.2 hx))⟩
 iG := fun hm h => ⟨h.1, fun hx => d.iG (fun k hk => hm k hk.1) (h.2 hx)⟩
 iy := fun hb h => ⟨h.1, fun hx => d.iy hb (h.2 hx)⟩
def H {α : Type} (d : Kd α) (e : Nat) (w : World) (base : Nat) (ok : Nat → Prop) (v : Value) (xs : List α) (i : Int) (oki : Nat → Prop) (c : List Value) : Prop :=
 (∀ k, oki k → ok k) ∧ ∃ f, (gap f d i.toNat c).R e w base (fun k => ok k ∧ ¬ oki k) v xs.zipIdx
end Kd
namespace Kd
theorem BU {α : Type} {R : α → List Value → Prop} {size : Nat} {ps : List α} {cs : List Value} (h : gu R size ps cs) (hs0 : 0 < size) (hR : ∀ p c, R p c → ∀ u ∈ c, u.oneCell' = true) : ∀ u ∈ cs, u.oneCell' = true := by
 intro u hu
 obtain ⟨q, hq, rfl⟩ := List.mem_iff_getElem.1 hu
 have hql : q / size < ps.length := by
  rw [Nat.div_lt_iff_lt_mul hs0, ← h.1]
  exact hq
 refine hR _ _ (h.2 (q / size) _ (List.getElem?_eq_getElem hql)) _ ?_
 rw [List.mem_iff_getElem?]
 refine ⟨q % size, ?_⟩
 rw [List.getElem?_take, if_pos (Nat.mod_lt _ hs0), List.getElem?_drop, Nat.mul_comm, Nat.div_add_mod, List.getElem?_eq_getElem hq]
def arr {α : Type} (n : Nat) (d : Kd α) (hs : 0 < d.sz) : Kd (List α) where
 sz := n * d.sz
 E := d.E
 K := fun w xs cs => xs.length = n ∧ gu (d.K w) d.sz xs cs
 M := fun w base ok xs cs => xs.length = n ∧ gu (d.M w base ok) d.sz xs cs
 jJ := fun h => by rw [← h.1]; exact h.2.1
 jD := fun h => BU h.2 hs (fun _ _ hk => d.jD hk)
 gY := fun hb h => ⟨h.1, h.2.kR (fun _ _ hk => d.gY hb hk)⟩
 gI := fun h => ⟨h.1, h.2.kR (fun _ _ hk => d.gI hk)⟩
 fQ := fun hok h => ⟨h.1, h.2.kR (fun _ _ hk => d.fQ hok hk)⟩
 fZ := fun h => ⟨h.1, h.2.kR (fun _ _ hk => d.fZ hk)⟩
 iG := fun hm h => ⟨h.1, h.2.kR (fun _ _ hk => d.iG hm hk)⟩
 iy := fun hb h => ⟨h.1, h.2.kR (fun _ _ hk => d.iy hb hk)⟩
end Kd
def Kept (w W : World) (S : Nat → Prop) : Prop := w.heap.size ≤ W.heap.size ∧ ∀ i, i < w.heap.size → ¬ S i → W.heap[i]? = w.heap[i]?
section
variable {w W W2 : World} {S S2 S' : Nat → Prop}
theorem Kept.refl (w : World) (S : Nat → Prop) : Kept w w S := ⟨Nat.le_refl _, fun _ _ _ => rfl⟩
theorem Kept.of_below (h : Below w.heap.size w W) (S : Nat → Prop) : Kept w W S := ⟨h.size, fun i hi _ => h.block i hi⟩
theorem Kept.EH (h : Kept w W S) (k : Kept W W2 S2) (hs : ∀ k, S2 k → S k ∨ w.heap.size ≤ k) : Kept w W2 S :=
 ⟨Nat.le_trans h.1 k.1, fun i hi hn => (k.2 i (Nat.lt_of_lt_of_le hi h.1) (fun h2 => (hs i h2).elim hn (fun h3 => by omega))).trans (h.2 i hi hn)⟩
theorem Kept.jM {row : Option Nat} (hg : W.grownBy W2 row) (h : Kept w W S) (hr : ∀ k, row = some k → S k ∨ w.heap.size ≤ k) : Kept w W2 S :=
 h.EH (S2 := fun k => row = some k) ⟨hg.size, fun i hi hn => hg.block i hi (fun he => hn he.symm)⟩ hr
theorem Kept.below (h : Kept w W S) (hb : Below W.heap.size W W2) : Kept w W2 S := h.EH (Kept.of_below hb (fun _ => False)) (fun _ hk => hk.elim)
theorem Kept.alloc (h : Kept w W S) (o : Obj) : Kept w (W.alloc o) S := h.below (ai (Below.refl _ _) o)
theorem Kept.drew (h : Kept w W S) : Kept w W.drew S := h
theorem Kept.drewN (h : Kept w W S) (m : Nat) : Kept w (W.drewN m) S := h
end
def tY (P : World → Prop) (W : World) (ok : Nat → Prop) : Prop := ∀ W' : World, (∀ k, ok k → k < W.heap.size → W'.heap[k]? = W.heap[k]?) → P W'
theorem Dz {W W1 : World} {k : Nat} (h : W1.heap[k]? = W.heap[k]?) (hlt : k < W.heap.size) : k < W1.heap.size := by
 rw [Array.getElem?_eq_getElem hlt] at h
 exact (Array.getElem?_eq_some_iff.1 h).1
namespace tY
variable {P Q : World → Prop} {W W1 : World} {ok ok' : Nat → Prop}
theorem mono (h : tY P W ok) (hok : ∀ k, ok k → ok' k) : tY P W ok' := fun W' hW => h W' (fun k hk hlt => hW k (hok k hk) hlt)
theorem bound (h : tY P W ok) : tY P W (fun k => ok k ∧ k < W.heap.size) := fun W' hW => h W' (fun k hk hlt => hW k ⟨hk, hlt⟩ hlt)
theorem step (h : tY P W ok) (hm : ∀ k, ok k → k < W.heap.size → W1.heap[k]? = W.heap[k]?) : tY P W1 ok := fun W' hW => h W' (fun k hk hlt => (hW k hk (Dz (hm k hk hlt) hlt)).trans (hm k hk hlt))
end tY
namespace Kd
def F {α : Type} (d : Kd α) (W : World) (ok : Nat → Prop) (A : Option Addr) (n : Nat) (xs : List α) : Prop := tY (fun W => d.C W A n xs) W ok
def FK {α : Type} (d : Kd α) (W : World) (ok : Nat → Prop) (x : α) (c : List Value) : Prop := tY (fun W => d.K W x c) W ok
section
variable {α β : Type} {d : Kd α} {e base n n' cc g N : Nat} {ok ok' okp S : Nat → Prop} {w w0 w1 W W1 : World} {A A' : Option Addr} {u v v1 : Value} {xs : List α} {xs' : List β} {d' : Kd β} {x : α} {c : List Value}
theorem Gl (d : Kd α) (W : World) (ok : Nat → Prop) : F d W ok none ([] : List α).length [] := fun W' _ => EE d W'
theorem Et (h : d.M W base ok x c) : FK d W ok x c := fun _ hW => d.gI (BG h hW)
end
end Kd
namespace Kd
def chunks (sz : Nat) (n : Nat) (inner : List Value) : List (List Value) := (List.range n).map fun j => (inner.drop (j * sz)).take sz
theorem jB (sz n : Nat) (inner : List Value) : (chunks sz n inner).length = n := by simp [chunks]
theorem zT {sz n : Nat} {inner : List Value} {j : Nat} (hj : j < n) : (chunks sz n inner)[j]? = some ((inner.drop (j * sz)).take sz) := by simp [chunks, hj]
theorem sG {sz n : Nat} {inner : List Value} {j : Nat} {c : List Value} (h : (chunks sz n inner)[j]? = some c) : c = (inner.drop (j * sz)).take sz := by
 have hj : j < n := by have := (List.getElem?_eq_some_iff.1 h).1; rwa [jB] at this
 rw [zT hj] at h
 injection h with h
 exact h.symm
theorem BR {α : Type} {Rr : α → List Value → Prop} {sz : Nat} {xs : List α} {inner : List Value} (h : gu Rr sz xs inner) (hR : ∀ x c, Rr x c → c.length = sz ∧ ∀ u ∈ c, u.oneCell' = true) : gu (fun x cs => cs = x ∧ cs.length = sz ∧ ∀ u ∈ cs, u.oneCell' = true) sz (chunks sz xs.length inner) inner := by
 refine ⟨by rw [jB]; exact h.1, fun j p hj => ?_⟩
 have hjl : j < xs.length := by have := (List.getElem?_eq_some_iff.1 hj).1; rwa [jB] at this
 have hp := sG hj
 exact ⟨hp.symm, hR _ _ (h.2 j _ (List.getElem?_eq_getElem hjl))⟩
section
variable {α : Type} {d : Kd α} {e base n cc g : Nat} {ok ok' okp S : Nat → Prop} {w w1 W W1 : World} {A : Option Addr} {u v v1 : Value} {xs : List α} {x : α} {c : List Value}
def N {α : Type} (d : Kd α) (e : Nat) (w : World) (base : Nat) (ok : Nat → Prop) (v : Value) (xs : List α) : Prop :=
 (∀ k, v.ownBlock = some k → ok k) ∧ ∃ rows : List (List Value), rows.length = xs.length ∧ (raw d.sz).R e w base (fun k => some k = v.ownBlock) v rows ∧ ∀ (j : Nat) (x : α) (c : List Value), xs[j]? = some x → rows[j]? = some c → FK d w (fun k => ok k ∧ some k ≠ v.ownBlock) x c
theorem R_N (h : d.R e w base ok v xs) : N d e w base ok v xs := by
 obtain ⟨h0, inner, ho, hr⟩ := h
 refine ⟨h0, chunks d.sz xs.length inner, jB _ _ _, ⟨fun k hk => hk.symm, inner, by rw [jB]; exact ho, BR hr (fun x c hp => ⟨d.jJ (d.gI hp), d.jD (d.gI hp)⟩)⟩, fun j x c hx hc => ?_⟩
 rw [sG hc]
 exact Et (hr.2 j x hx)
theorem o8 (d : Kd α) (e : Nat) (w : World) (base : Nat) (ok : Nat → Prop) : N d e w base ok (.slice none 0 0) [] := R_N (iH _ _ _ _ _)
end
end Kd
theorem gu.one {α : Type} {R : α → List Value → Prop} {ps : List α} {cs : List Value} {p : α} {v : Value} (hp : R p [v]) (h : gu R 1 ps cs) : gu R 1 (p :: ps) (v :: cs) := by
 refine ⟨by simp [h.1], fun j q hq => ?_⟩
 cases j with
 | zero =>
   simp only [List.getElem?_cons_zero, Option.some.injEq] at hq
   subst hq
   simpa using hp
 | succ j =>
   simp only [List.getElem?_cons_succ] at hq
   have h1 := h.2 j q hq
   simpa [Nat.mul_one] using h1
end Go.Proofs.YtpgfjbimodnkeaaGreatDoorW.PrintWords
namespace Go.Proofs.YtpgfjbimodnkeaaGreatDoorW.PrintWords
open Go.RowKit
section
variable {P : Program} {ops : Array Oper} {rest : List Oper} {o : Oper} {a : Act} {Q : Exit → Act → World → Prop} {W : World}
theorem ru (hw : Region.wanted o (yielded ops a.tmps) = true) (h : wpList P ops Q ({ o with guard := none } :: rest) a W) : wpList P ops Q (o :: rest) a W := by
 have h1 : Region.wanted { o with guard := none } (yielded ops a.tmps) = true := rfl
 unfold wpList at h ⊢
 rw [if_pos h1] at h
 rw [if_pos hw]
 exact h
end
end Go.Proofs.YtpgfjbimodnkeaaGreatDoorW.PrintWords
namespace Go.Proofs.YtpgfjbimodnkeaaGreatDoorW.PrintMore
open Go.RowKit Go.Proofs.YtpgfjbimodnkeaaGreatDoorW.PrintWords
theorem dH (k k' : IntKind) (x y : Int) : Builtin.max2 (.int k x) (.int k' y) = pure (.int k (if x < y then y else x)) := by simp only [Builtin.max2, gt_iff_lt]
theorem dI (k k' : IntKind) (x y : Int) : Builtin.min2 (.int k x) (.int k' y) = pure (.int k (if y < x then y else x)) := by simp only [Builtin.min2]
theorem dW (ats : Array TypeId) (ty : TypeId) (a b : Value) : Builtin.max_ ats ty #[a, b] = (Builtin.max2 a b >>= fun s => pure s) := by simp only [Builtin.max_, List.foldlM_cons, List.foldlM_nil]
theorem dY (ats : Array TypeId) (ty : TypeId) (a b : Value) : Builtin.min_ ats ty #[a, b] = (Builtin.min2 a b >>= fun s => pure s) := by simp only [Builtin.min_, List.foldlM_cons, List.foldlM_nil]
theorem dm (ats : Array TypeId) (ty : TypeId) (a b c : Value) : Builtin.max_ ats ty #[a, b, c] = (Builtin.max2 a b >>= fun s => Builtin.max2 s c >>= fun s => pure s) := by simp only [Builtin.max_, List.foldlM_cons, List.foldlM_nil]
theorem dw (ats : Array TypeId) (ty : TypeId) (a b c : Value) : Builtin.min_ ats ty #[a, b, c] = (Builtin.min2 a b >>= fun s => Builtin.min2 s c >>= fun s => pure s) := by simp only [Builtin.min_, List.foldlM_cons, List.foldlM_nil]
theorem dK (ats : Array TypeId) (ty : TypeId) (a b c d : Value) : Builtin.max_ ats ty #[a, b, c, d] = (Builtin.max2 a b >>= fun s => Builtin.max2 s c >>= fun s => Builtin.max2 s d >>= fun s => pure s) := by simp only [Builtin.max_, List.foldlM_cons, List.foldlM_nil]
theorem dL (ats : Array TypeId) (ty : TypeId) (a b c d : Value) : Builtin.min_ ats ty #[a, b, c, d] = (Builtin.min2 a b >>= fun s => Builtin.min2 s c >>= fun s => Builtin.min2 s d >>= fun s => pure s) := by simp only [Builtin.min_, List.foldlM_cons, List.foldlM_nil]
end Go.Proofs.YtpgfjbimodnkeaaGreatDoorW.PrintMore
namespace Go.Proofs.YtpgfjbimodnkeaaGreatDoorW.PrintWords
open Go.RowKit
section
variable {P : Program} {ops : Array Oper} {rest : List Oper} {o : Oper} {a : Act} {Q : Exit → Act → World → Prop} {W : World}
theorem bC {f : FuncId} {az : Array Operand} {ts : Array TypeId} (_ho : o.op = .call { callee := .value (.func f), args := az, argTypes := ts }) (h : wpList P ops Q (o :: rest) a W) : wpList P ops Q (o :: rest) a W := h
theorem bQ {b : Builtin} {xs : Array Operand} {ts : Array TypeId} (_ho : o.op = .call { callee := .builtin b, args := xs, argTypes := ts }) (h : wpList P ops Q (o :: rest) a W) : wpList P ops Q (o :: rest) a W := h
end
theorem jU (w : World) (n : Nat) : w.drewN n = w.drewN n := rfl
end Go.Proofs.YtpgfjbimodnkeaaGreatDoorW.PrintWords
namespace Go.Proofs.YtpgfjbimodnkeaaGreatDoorW.PrintWords
open Go.RowKit
namespace Kd
def V {α : Type} (d : Kd α) (_e : Nat) (W : World) (_base : Nat) (ok : Nat → Prop) (v : Value) (xs : List α) : Prop := ∃ A c, v = .slice A xs.length c ∧ xs.length ≤ c ∧ F d W ok A xs.length xs
section
variable {α β : Type} {d : Kd α} {e base base' n m c g N' lo hi : Nat} {ok ok' S : Nat → Prop} {w W w1 : World} {A : Option Addr} {ad : Addr} {u v v1 : Value} {xs : List α}
theorem oZ (d : Kd α) (e : Nat) (W : World) (base : Nat) (ok : Nat → Prop) : V d e W base ok (.slice none 0 0) [] := ⟨none, 0, rfl, Nat.le_refl _, Gl d W ok⟩
theorem ww {M : Nat → Prop} (h : d.R e w1 W.heap.size ok v xs) (hle : w.heap.size ≤ W.heap.size) (hM : ∀ k, w.heap.size ≤ k → M k) : d.R e w1 W.heap.size (fun k => M k ∧ ok k) v xs := dM (jF h) (fun k hk => ⟨hM k (Nat.le_trans hle hk.2.1), hk.1⟩)
end
end Kd
end Go.Proofs.YtpgfjbimodnkeaaGreatDoorW.PrintWords
namespace Go.Proofs.YtpgfjbimodnkeaaGreatDoorW.PrintWords
open Go.RowKit
@[go_sem] theorem Dp {P : Program} {w : World} {a : Addr} {m : Mode} (k : FloatKind) (b : Nat) : (store a (.float k b) m).run P w = stored P w a (.float k b) m := run_store P w a _ m rfl
namespace Kd
section
variable {α : Type} {P : Program} {ops : Array Oper} {Q : Exit → Act → World → Prop} {rest : List Oper} {o : Oper} {a : Act}
theorem qw (d : Kd α) {w0 W : World} (base e : Nat) (hgd : o.guard = none) {N : Tmp} (_hd : o.dst = some N) (t : TypeId) (x y : Operand) (ho : o.op = .makeSlice t x y) (n : Int) (hx : a.eval x = .int .i64 0) (hy : a.eval y = .int .i64 n)
 (ht : P.underlying t = some (.slice e)) (z : Value) (bytes : Nat) (hinfo : (P.info? e).map (fun i => (i.zero, i.size, i.bytes)) = some (some z, d.sz, bytes)) (hb0 : 0 < bytes)
 {ok : Nat → Prop} (hfresh : ok W.heap.size) (h0 : 0 ≤ n) (hl : n.toNat * bytes ≤ 281474976710656) (HB : Below base w0 W) (hbase : base ≤ W.heap.size)
 (h : ∀ v1 w1, d.R e w1 base ok v1 [] → Below base w0 w1 → W.grownBy w1 none → (∃ b, v1.ownBlock = some b ∧ W.heap.size ≤ b) → wpList P ops Q rest (a.put o.dst v1) w1) : wpList P ops Q (o :: rest) a W := by
 obtain ⟨m, rfl⟩ := Int.eq_ofNat_of_zero_le h0
 simp only [Int.toNat_natCast] at hl
 obtain ⟨i0, hi, hzz⟩ := Option.map_eq_some_iff.1 hinfo
 simp only [Prod.mk.injEq] at hzz
 obtain ⟨hz0, hz1, hz2⟩ := hzz
 have hm : m ≤ 281474976710656 := Nat.le_trans (Nat.le_mul_of_pos_right _ hb0) hl
 have hr := run_make (P := P) W t e i0 z ht hi hz0 .i64 .i64 (0 : Int) (m : Int) (by omega) (by omega)
  (by
    have h3 : ((i0.bytes * m : Nat) : Int) ≤ 281474976710656 := by rw [hz2, Nat.mul_comm]; omega
    rwa [Int.natCast_mul] at h3) (by omega)
 rw [hz1] at hr
 have hrun : (execOp a.eval o).run P W = .ok (.value (.slice (some ⟨W.heap.size, 0, none⟩) 0 m)) (W.alloc (.cells (madeCells z.cells (m * d.sz)) e)) := by
  simp only [Int.toNat_natCast, Int.toNat_zero] at hr
  simp [execOp, ho, hx, hy, hr]
 have hsz : (madeCells z.cells (m * d.sz)).size = m * d.sz := by simp [size_madeCells]
 have hown : (W.alloc (.cells (madeCells z.cells (m * d.sz)) e)).ownsRow base e d.sz (.slice (some ⟨W.heap.size, 0, none⟩) 0 m) 0 [] := by
  have h2 := World.ownsRow_lit (base := base) (e := e) (size := d.sz) W (madeCells z.cells (m * d.sz)) m hbase (by simp [maxLen]; omega) hsz
  have h4 := xq h2 (Nat.zero_le m)
  simpa using h4
 refine qf hgd hrun (h _ _ ⟨fun k hk => ?_, [], hown, gu.none _ _⟩ (HB.alloc hbase _) (World.grownBy_alloc W _ none) ⟨W.heap.size, by simp [Value.ownBlock], Nat.le_refl _⟩)
 have : W.heap.size = k := by simpa [Value.ownBlock] using hk
 subst this
 exact hfresh
end
end Kd
end Go.Proofs.YtpgfjbimodnkeaaGreatDoorW.PrintWords
namespace Go.Proofs.YtpgfjbimodnkeaaGreatDoor.Q
open Go.RowKit Go.Proofs.YtpgfjbimodnkeaaGreatDoorW.PrintWords Go.Proofs.YtpgfjbimodnkeaaGreatDoorW.PrintLast Go.Proofs.YtpgfjbimodnkeaaGreatDoorW.PrintMore
attribute [local go_sem] dH dI dW dY dm dw dK dL
def F6 : Option Int → Value
 | none => .nilIface
 | some c => .iface 152 (.int .i64 c)
theorem bg : F6 none = .nilIface := rfl
theorem bn (c : Int) : F6 (some c) = .iface 152 (.int .i64 c) := rfl
theorem info5 : (Tryz.prog.info? 5).map (fun i => (i.zero, i.size, i.bytes)) = some (some (.int .u8 0), 1, 1) := by kernel_rfl
theorem info9 : (Tryz.prog.info? 9).map (fun i => (i.zero, i.size, i.bytes)) = some (some (.string ⟨#[]⟩), 1, 16) := by kernel_rfl
theorem info25 : (Tryz.prog.info? 25).map (fun i => (i.zero, i.size, i.bytes)) = some (some (.agg #[(.int .i64 0), (.string ⟨#[]⟩), (.slice none 0 0), (.slice none 0 0)]), 4, 72) := by kernel_rfl
theorem Bd : (Tryz.prog.info? 32).map (fun i => (i.zero, i.size, i.bytes)) = some (some (.agg #[(.int .i64 0), (.int .i64 0), (.int .i64 0), (.slice none 0 0), (.slice none 0 0)]), 5, 72) := by kernel_rfl
theorem EU : (Tryz.prog.info? 44).map (fun i => (i.zero, i.size, i.bytes)) = some (some (.agg #[(.int .i64 0), (.int .i64 0)]), 2, 16) := by kernel_rfl
structure S44 where
 f0 : Int
 f1 : Int
def z44 : S44 := ⟨(0 : Int), (0 : Int)⟩
def k44 : Kd S44 := Kd.iso (Kd.pair (Kd.int .i64) (Kd.int .i64)) (fun x : S44 => (x.f0, x.f1))
theorem AZ {w : World} {x : S44} {cs : List Value} (h : k44.K w x cs) : cs = [.int .i64 x.f0, .int .i64 x.f1] := by
 obtain ⟨_, _, rfl, rfl, rfl⟩ := h
 exact rfl
theorem DY (w : World) (base : Nat) (ok : Nat → Prop) (x : S44)  : k44.M w base ok x [.int .i64 x.f0, .int .i64 x.f1] := ⟨[.int .i64 x.f0], [.int .i64 x.f1], rfl, rfl, rfl⟩
def kM (xs : List S44) (i : Int) : S44 := xs.getD i.toNat z44
theorem EX {w : World} {A : Option Addr} {n : Nat} {xs : List S44} (h : Kd.C k44 w A n xs) (i : Int) (h0 : 0 ≤ i) (h1 : i < n) : ∃ ad , A = some ad ∧ w.cell? (ad.add (i.toNat * 2)) = some (.int .i64 (kM xs i).f0) ∧ w.cell? ⟨(ad.add (i.toNat * 2)).block, (ad.add (i.toNat * 2)).off + 1, none⟩ = some (.int .i64 (kM xs i).f1) := by
 obtain ⟨ad, c, e, _, hK, hc0⟩ := Kd.C9 h z44 i h0 h1
 have hc : ∀ j u, c[j]? = some u → w.cell? (ad.add (i.toNat * 2 + j)) = some u := hc0
 obtain rfl := AZ hK
 exact ⟨ad, e, hc 0 _ rfl, by rw [← jq _ _ 1 (by omega)]; exact hc 1 _ rfl⟩
structure S32 where
 f0 : Int
 f1 : Int
 f2 : Int
 f3 : (List S44)
 f4 : (List S32)
def z32 : S32 := ⟨(0 : Int), (0 : Int), (0 : Int), ([] : List S44), ([] : List S32)⟩
def F32 (d : Kd S32) : Kd S32 := Kd.iso (Kd.pair (Kd.int .i64) (Kd.pair (Kd.int .i64) (Kd.pair (Kd.int .i64) (Kd.pair (Kd.slice 44 k44) (Kd.slice 32 d))))) (fun x : S32 => (x.f0, x.f1, x.f2, x.f3, x.f4))
theorem Dh : Kd.mr F32 := Kd.wJ _ (Kd.jV (Kd.jG _) (Kd.jV (Kd.jG _) (Kd.jV (Kd.jG _) (Kd.jV (Kd.jG _) (Kd.tq 32 Kd.zG)))))
theorem Gj : Kd.Sub F32 [32, 44] := Kd.zC _ (Kd.kV (Kd.jY _ (by decide)) (Kd.kV (Kd.jY _ (by decide)) (Kd.kV (Kd.jY _ (by decide)) (Kd.kV (Kd.jY _ (by decide)) (Kd.uI 32 (by decide) Kd.Dk)))))
theorem FW : ∀ n, (Kd.upto F32 5 [32, 44] n).sz = 5 := Kd.yV (fun _ => rfl)
def k32 : Kd S32 := Kd.fix F32 5 [32, 44] FW (Kd.yF Gj)
theorem Cm {w : World} {x : S32} {cs : List Value} (h : k32.K w x cs) : ∃ A3 c3 A4 c4, cs = [.int .i64 x.f0, .int .i64 x.f1, .int .i64 x.f2, .slice A3 x.f3.length c3, .slice A4 x.f4.length c4] ∧ x.f3.length ≤ c3 ∧ k44.C w A3 x.f3.length x.f3 ∧ x.f4.length ≤ c4 ∧ k32.C w A4 x.f4.length x.f4 := by
 obtain ⟨n, h⟩ := h
 cases n with
 | zero => exact h.elim
 | succ n =>
   obtain ⟨_, _, rfl, rfl, ⟨_, _, rfl, rfl, ⟨_, _, rfl, rfl, ⟨_, _, rfl, ⟨A3, c3, rfl, l3, g3⟩, ⟨A4, c4, rfl, l4, g4⟩⟩⟩⟩⟩ := h
   exact ⟨A3, c3, A4, c4, rfl, l3, g3, l4, Kd.EK g4⟩
theorem yY (w : World) (base : Nat) (ok : Nat → Prop) (x : S32) {v3 : Value} (g3 : k44.R 44 w base ok v3 x.f3) {v4 : Value} (g4 : k32.R 32 w base ok v4 x.f4) : k32.M w base ok x [.int .i64 x.f0, .int .i64 x.f1, .int .i64 x.f2, v3, v4] := by
 obtain ⟨n4, q4⟩ := Kd.rG Dh g4
 have r4 := Kd.uj Dh FW (show n4 ≤ n4 by omega) q4
 exact ⟨n4 + 1, ⟨[.int .i64 x.f0], [.int .i64 x.f1, .int .i64 x.f2, v3, v4], rfl, rfl, ⟨[.int .i64 x.f1], [.int .i64 x.f2, v3, v4], rfl, rfl, ⟨[.int .i64 x.f2], [v3, v4], rfl, rfl, ⟨[v3], [v4], rfl, ⟨v3, rfl, g3⟩, ⟨v4, rfl, r4⟩⟩⟩⟩⟩⟩
def iM (xs : List S32) (i : Int) : S32 := xs.getD i.toNat z32
theorem Ff {w : World} {A : Option Addr} {n : Nat} {xs : List S32} (h : Kd.C k32 w A n xs) (i : Int) (h0 : 0 ≤ i) (h1 : i < n) : ∃ ad A3 c3 A4 c4, A = some ad ∧ w.cell? (ad.add (i.toNat * 5)) = some (.int .i64 (iM xs i).f0) ∧ w.cell? ⟨(ad.add (i.toNat * 5)).block, (ad.add (i.toNat * 5)).off + 1, none⟩ = some (.int .i64 (iM xs i).f1) ∧ w.cell? ⟨(ad.add (i.toNat * 5)).block, (ad.add (i.toNat * 5)).off + 2, none⟩ = some (.int .i64 (iM xs i).f2) ∧ w.cell? ⟨(ad.add (i.toNat * 5)).block, (ad.add (i.toNat * 5)).off + 3, none⟩ = some (.slice A3 (iM xs i).f3.length c3) ∧ w.cell? ⟨(ad.add (i.toNat * 5)).block, (ad.add (i.toNat * 5)).off + 4, none⟩ = some (.slice A4 (iM xs i).f4.length c4) ∧ (iM xs i).f3.length ≤ c3 ∧ k44.C w A3 (iM xs i).f3.length (iM xs i).f3 ∧ (iM xs i).f4.length ≤ c4 ∧ k32.C w A4 (iM xs i).f4.length (iM xs i).f4 := by
 obtain ⟨ad, c, e, _, hK, hc0⟩ := Kd.C9 h z32 i h0 h1
 have hc : ∀ j u, c[j]? = some u → w.cell? (ad.add (i.toNat * 5 + j)) = some u := hc0
 obtain ⟨A3, c3, A4, c4, rfl, l3, g3, l4, g4⟩ := Cm hK
 exact ⟨ad, A3, c3, A4, c4, e, hc 0 _ rfl, by rw [← jq _ _ 1 (by omega)]; exact hc 1 _ rfl, by rw [← jq _ _ 2 (by omega)]; exact hc 2 _ rfl, by rw [← jq _ _ 3 (by omega)]; exact hc 3 _ rfl, by rw [← jq _ _ 4 (by omega)]; exact hc 4 _ rfl, l3, g3, l4, g4⟩
structure S25 where
 f0 : Int
 f1 : ByteArray
 f2 : (List ByteArray)
 f3 : (List S25)
def z25 : S25 := ⟨(0 : Int), (⟨#[]⟩ : ByteArray), ([] : List ByteArray), ([] : List S25)⟩
def F25 (d : Kd S25) : Kd S25 := Kd.iso (Kd.pair (Kd.int .i64) (Kd.pair Kd.string (Kd.pair (Kd.slice 9 Kd.string) (Kd.slice 25 d)))) (fun x : S25 => (x.f0, x.f1, x.f2, x.f3))
theorem uU : Kd.mr F25 := Kd.wJ _ (Kd.jV (Kd.jG _) (Kd.jV (Kd.jG _) (Kd.jV (Kd.jG _) (Kd.tq 25 Kd.zG))))
theorem Gf : Kd.Sub F25 [9, 25] := Kd.zC _ (Kd.kV (Kd.jY _ (by decide)) (Kd.kV (Kd.jY _ (by decide)) (Kd.kV (Kd.jY _ (by decide)) (Kd.uI 25 (by decide) Kd.Dk))))
theorem Fb : ∀ n, (Kd.upto F25 4 [9, 25] n).sz = 4 := Kd.yV (fun _ => rfl)
def k25 : Kd S25 := Kd.fix F25 4 [9, 25] Fb (Kd.yF Gf)
theorem BD {w : World} {x : S25} {cs : List Value} (h : k25.K w x cs) : ∃ A2 c2 A3 c3, cs = [.int .i64 x.f0, .string x.f1, .slice A2 x.f2.length c2, .slice A3 x.f3.length c3] ∧ x.f2.length ≤ c2 ∧ Kd.string.C w A2 x.f2.length x.f2 ∧ x.f3.length ≤ c3 ∧ k25.C w A3 x.f3.length x.f3 := by
 obtain ⟨n, h⟩ := h
 cases n with
 | zero => exact h.elim
 | succ n =>
   obtain ⟨_, _, rfl, rfl, ⟨_, _, rfl, rfl, ⟨_, _, rfl, ⟨A2, c2, rfl, l2, g2⟩, ⟨A3, c3, rfl, l3, g3⟩⟩⟩⟩ := h
   exact ⟨A2, c2, A3, c3, rfl, l2, g2, l3, Kd.EK g3⟩
theorem ER (w : World) (x : S25) {A2 : Option Addr} {c2 : Nat} (l2 : x.f2.length ≤ c2) (g2 : Kd.string.C w A2 x.f2.length x.f2) {A3 : Option Addr} {c3 : Nat} (l3 : x.f3.length ≤ c3) (g3 : k25.C w A3 x.f3.length x.f3) : k25.K w x [.int .i64 x.f0, .string x.f1, .slice A2 x.f2.length c2, .slice A3 x.f3.length c3] := by
 obtain ⟨n3, q3⟩ := Kd.yj uU g3
 have r3 := Kd.zM uU Fb (show n3 ≤ n3 by omega) q3
 exact ⟨n3 + 1, ⟨[.int .i64 x.f0], [.string x.f1, .slice A2 x.f2.length c2, .slice A3 x.f3.length c3], rfl, rfl, ⟨[.string x.f1], [.slice A2 x.f2.length c2, .slice A3 x.f3.length c3], rfl, rfl, ⟨[.slice A2 x.f2.length c2], [.slice A3 x.f3.length c3], rfl, ⟨A2, c2, rfl, l2, g2⟩, ⟨A3, c3, rfl, l3, r3⟩⟩⟩⟩⟩
theorem Dq (w : World) (base : Nat) (ok : Nat → Prop) (x : S25) {v2 : Value} (g2 : Kd.string.R 9 w base ok v2 x.f2) {v3 : Value} (g3 : k25.R 25 w base ok v3 x.f3) : k25.M w base ok x [.int .i64 x.f0, .string x.f1, v2, v3] := by
 obtain ⟨n3, q3⟩ := Kd.rG uU g3
 have r3 := Kd.uj uU Fb (show n3 ≤ n3 by omega) q3
 exact ⟨n3 + 1, ⟨[.int .i64 x.f0], [.string x.f1, v2, v3], rfl, rfl, ⟨[.string x.f1], [v2, v3], rfl, rfl, ⟨[v2], [v3], rfl, ⟨v2, rfl, g2⟩, ⟨v3, rfl, r3⟩⟩⟩⟩⟩
def iE (xs : List S25) (i : Int) : S25 := xs.getD i.toNat z25
theorem vZ {w : World} {A : Option Addr} {n : Nat} {xs : List S25} (h : Kd.C k25 w A n xs) (i : Int) (h0 : 0 ≤ i) (h1 : i < n) : ∃ ad A2 c2 A3 c3, A = some ad ∧ w.cell? (ad.add (i.toNat * 4)) = some (.int .i64 (iE xs i).f0) ∧ w.cell? ⟨(ad.add (i.toNat * 4)).block, (ad.add (i.toNat * 4)).off + 1, none⟩ = some (.string (iE xs i).f1) ∧ w.cell? ⟨(ad.add (i.toNat * 4)).block, (ad.add (i.toNat * 4)).off + 2, none⟩ = some (.slice A2 (iE xs i).f2.length c2) ∧ w.cell? ⟨(ad.add (i.toNat * 4)).block, (ad.add (i.toNat * 4)).off + 3, none⟩ = some (.slice A3 (iE xs i).f3.length c3) ∧ (iE xs i).f2.length ≤ c2 ∧ Kd.string.C w A2 (iE xs i).f2.length (iE xs i).f2 ∧ (iE xs i).f3.length ≤ c3 ∧ k25.C w A3 (iE xs i).f3.length (iE xs i).f3 := by
 obtain ⟨ad, c, e, _, hK, hc0⟩ := Kd.C9 h z25 i h0 h1
 have hc : ∀ j u, c[j]? = some u → w.cell? (ad.add (i.toNat * 4 + j)) = some u := hc0
 obtain ⟨A2, c2, A3, c3, rfl, l2, g2, l3, g3⟩ := BD hK
 exact ⟨ad, A2, c2, A3, c3, e, hc 0 _ rfl, by rw [← jq _ _ 1 (by omega)]; exact hc 1 _ rfl, by rw [← jq _ _ 2 (by omega)]; exact hc 2 _ rfl, by rw [← jq _ _ 3 (by omega)]; exact hc 3 _ rfl, l2, g2, l3, g3⟩
end Go.Proofs.YtpgfjbimodnkeaaGreatDoor.Q
namespace Go.Proofs.YtpgfjbimodnkeaaGreatDoor.Dec
open Go Go.RowKit Go.Proofs.YtpgfjbimodnkeaaGreatDoorW.PrintWords Go.Proofs.YtpgfjbimodnkeaaGreatDoorW.PrintLast Go.Proofs.YtpgfjbimodnkeaaGreatDoorW.PrintMore
attribute [local go_sem] dH dI dW dY
theorem vV (w : World) (s t : ByteArray) (ht : t.size = 8) (h105 : bt t 0 = 105) (hs : s.size ≤ 1000000) (h : 0 < s.size → bt s 0 ≠ 73 ∧ bt s 0 ≠ 105) :
 Calls Tryz.prog 159 #[.string s, .string t] w fun e w' => e = .returned (.int .i64 0) ∧ aj w w' := by
 have h8 : 0 < t.size := by omega
 have hy : ((t[0]'h8).toNat : Int) = 105 := (bU t 0 (by simpa using h8)).trans h105
 clear h105
 by_cases h0 : s.size = 0
 ·go_enter Tryz.func159, Tryz.ntmps159
  go_wp2
  go_loopg [6, 7] 0 (fun kq v6 v7 w' => v6 = .int .i64 0 ∧ w' = w)
  case atStart => exact ⟨rfl, rfl⟩
  case round =>
   obtain ⟨rfl, rfl⟩ := hrel
   go_wp2
   go_ret
   exact ⟨rfl, aj.refl _⟩
 ·have hp : 0 < s.size := by omega
  obtain ⟨ha, hb⟩ := h hp
  have hx : ((s[0]'hp).toNat : Int) = bt s 0 := bU s 0 (by simpa using hp)
  obtain ⟨r1, r2⟩ := eu s 0
  generalize bt s 0 = c at hx r1 r2 ha hb
  have f1 : (c != 105) = true := bne_iff_ne.mpr hb
  have f2 : (c + 32 != 105) = true := bne_iff_ne.mpr (by omega)
  go_enter Tryz.func159, Tryz.ntmps159
  go_wp2
  all_goals
   go_loopg [6, 7] 0 (fun kq v6 v7 w' => v6 = .int .i64 0 ∧ w' = w)
   case atStart => exact ⟨rfl, rfl⟩
   case round =>
    obtain ⟨rfl, rfl⟩ := hrel
    go_wp2
    all_goals go_ret
    all_goals exact ⟨rfl, aj.refl _⟩
theorem DU (s : ByteArray) (h : 1 < s.size) : bt (s.extract 1 s.size) 0 = bt s 1 := by
 have h1 : (0 : Int).toNat < (s.extract 1 s.size).size := by simp [ByteArray.size_extract]; omega
 have h2 : (1 : Int).toNat < s.size := by simpa using h
 rw [bt, dif_pos h1, bt, dif_pos h2]
 simp [ByteArray.getElem_extract]
theorem tV (w : World) (s : ByteArray) (hs : s.size ≤ 1000000) (h : 0 < s.size → bt s 0 ≠ 73 ∧ bt s 0 ≠ 105 ∧ bt s 0 ≠ 78 ∧ bt s 0 ≠ 110) (h2 : 1 < s.size → bt s 1 ≠ 73 ∧ bt s 1 ≠ 105) :
 Calls Tryz.prog 145 #[.string s] w fun e w' => e = .returned (.tuple #[.float .f64 0, .int .i64 0, .bool false]) ∧ aj w w' := by
 by_cases h0 : s.size = 0
 ·have c1 : ((s.size : Int) == 0) = true := beq_iff_eq.mpr (by omega)
  go_enter Tryz.func145, Tryz.ntmps145
  go_wp2
  all_goals refine bodyPost_ret (ed (rs := [.tmp 2, .tmp 3, .tmp 4]) rfl (by simp) (.tmp (.tmp (.tmp .nil)))) rfl ?_
  all_goals exact ⟨rfl, aj.refl _⟩
 ·have c1 : ((s.size : Int) == 0) = false := beq_eq_false_iff_ne.mpr (by omega)
  have hp : 0 < s.size := by omega
  obtain ⟨ha, hb, hc, hd⟩ := h hp
  have hpre := fun W => vV W (s.extract 1 s.size) { data := #[105, 110, 102, 105, 110, 105, 116, 121] } rfl rfl (by simp [ByteArray.size_extract]; omega) (fun h3 => by
   have h4 : 1 < s.size := by simp [ByteArray.size_extract] at h3; omega
   rw [DU s h4]; exact h2 h4)
  have hx : ((s[0]'hp).toNat : Int) = bt s 0 := bU s 0 (by simpa using hp)
  generalize bt s 0 = c at hx ha hb hc hd
  have f1 : (c == 73) = false := beq_eq_false_iff_ne.mpr ha
  have f2 : (c == 105) = false := beq_eq_false_iff_ne.mpr hb
  have f3 : (c == 78) = false := beq_eq_false_iff_ne.mpr hc
  have f4 : (c == 110) = false := beq_eq_false_iff_ne.mpr hd
  go_enter Tryz.func145, Tryz.ntmps145
  go_wp2_with (first | (go_at_call 159; (with_reducible refine (hpre _).mono ?_); rintro e w4 ⟨rfl, ⟨m4, rfl⟩⟩))
  all_goals refine bodyPost_ret (ed (rs := [.tmp 2, .tmp 3, .tmp 4]) rfl (by simp) (.tmp (.tmp (.tmp .nil)))) rfl ?_
  all_goals exact ⟨rfl, by repeat (first | exact aj.refl _ | apply aj.step)⟩
end Go.Proofs.YtpgfjbimodnkeaaGreatDoor.Dec
namespace Go.Proofs.YtpgfjbimodnkeaaGreatDoor.Q
open Go.RowKit Go.Proofs.YtpgfjbimodnkeaaGreatDoorW.PrintWords Go.Proofs.YtpgfjbimodnkeaaGreatDoorW.PrintLast Go.Proofs.YtpgfjbimodnkeaaGreatDoorW.PrintMore
attribute [local go_sem] dH dI dW dY dm dw dK dL
def gZ.f (a0 : Int) : Option (Int) := some (Go.bits .or .u8 a0 32)
theorem gZ.calls (a0 : Int) (r : Int) (w : World) (h : gZ.f a0 = some r) :
 Calls Tryz.prog 137 #[.int .u8 a0] w fun e w' => e = .returned (.int .u8 r) ∧ aj w w' := by
 have H : (some (Go.bits .or .u8 a0 32)) = some r := h
 clear h
 obtain rfl := Option.some.inj H
 go_enter Tryz.func137, Tryz.ntmps137
 go_wp2
 go_ret
 exact ⟨by first | rfl | (simp; done) | (simp [*]; done), by repeat (first | exact aj.refl _ | apply aj.step)⟩
end Go.Proofs.YtpgfjbimodnkeaaGreatDoor.Q
namespace Go.Proofs.YtpgfjbimodnkeaaGreatDoor.Dec
def val (a : Nat → Nat) : Nat → Nat → Nat
 | _, 0 => 0
 | i, n + 1 => (a i - 48) * 10 ^ n + val a (i + 1) n
def kQ (c : Nat) : Prop := 48 ≤ c ∧ c ≤ 57
theorem rX {a : Nat → Nat} : ∀ n i, (∀ j, i ≤ j → j < i + n → kQ (a j)) → val a i n < 10 ^ n
 | 0, _, _ => by simp [val]
 | n + 1, i, h => by
   have h1 := rX n (i + 1) (fun j h1 h2 => h j (by omega) (by omega))
   have h2 := h i (Nat.le_refl _) (by omega)
   unfold kQ at h2
   have h3 : (a i - 48) * 10 ^ n ≤ 9 * 10 ^ n := Nat.mul_le_mul_right _ (by omega)
   have h4 : 10 ^ (n + 1) = 10 * 10 ^ n := by rw [Nat.pow_succ, Nat.mul_comm]
   simp only [val]
   omega
theorem Fv {a : Nat → Nat} {n i : Nat} (h : kQ (a i)) (h0 : a i ≠ 48) : 10 ^ n ≤ val a i (n + 1) := by
 unfold kQ at h
 have h3 : 1 * 10 ^ n ≤ (a i - 48) * 10 ^ n := Nat.mul_le_mul_right _ (by omega)
 simp only [val]
 omega
theorem uu (a : Nat → Nat) (i m K : Nat) :
 (a i - 48) * K + val a (i + 1) m * K / 10 ^ m = val a i (m + 1) * K / 10 ^ m := by
 have hp : 0 < 10 ^ m := Nat.pow_pos (by decide)
 have : val a i (m + 1) * K = val a (i + 1) m * K + 10 ^ m * ((a i - 48) * K) := by
  simp only [val, Nat.add_mul]
  rw [Nat.mul_comm (10 ^ m), Nat.mul_assoc, Nat.mul_assoc, Nat.mul_comm K, Nat.add_comm]
 rw [this, Nat.add_mul_div_left _ _ hp, Nat.add_comm]
theorem yG (a : Nat → Nat) (i m K : Nat) :
 ((a i - 48) * K + val a (i + 1) m * K / 10 ^ m) / 10 = val a i (m + 1) * K / 10 ^ (m + 1) := by
 have hp : 0 < 10 ^ m := Nat.pow_pos (by decide)
 have h1 : (a i - 48) * K + val a (i + 1) m * K / 10 ^ m = val a i (m + 1) * K / 10 ^ m := by
  have : val a i (m + 1) * K = val a (i + 1) m * K + 10 ^ m * ((a i - 48) * K) := by
   simp only [val, Nat.add_mul]
   rw [Nat.mul_comm (10 ^ m), Nat.mul_assoc, Nat.mul_assoc, Nat.mul_comm K, Nat.add_comm]
  rw [this, Nat.add_mul_div_left _ _ hp, Nat.add_comm]
 rw [h1, Nat.div_div_eq_div_mul, Nat.pow_succ]
def less (a c : Nat → Nat) : Nat → Nat → Nat → Nat → Bool
 | _, _, _, 0 => false
 | _, 0, _, _ + 1 => true
 | i, n + 1, j, m + 1 => if a i = c j then less a c (i + 1) n (j + 1) m else decide (a i < c j)
theorem uA {a c : Nat → Nat} : ∀ m n i j, (∀ k, i ≤ k → k < i + n → kQ (a k)) → (∀ k, j ≤ k → k < j + m → kQ (c k)) → (0 < m → c (j + m - 1) ≠ 48) →
 (less a c i n j m = true → val a i n * 10 ^ m < val c j m * 10 ^ n) ∧ (less a c i n j m = false → val c j m * 10 ^ n ≤ val a i n * 10 ^ m)
 | 0, n, i, j, ha, hc, hl => by simp [less, val]
 | m + 1, 0, i, j, ha, hc, hl => by
   refine ⟨fun _ => ?_, fun h => by simp [less] at h⟩
   have hpos : ∀ m j, (∀ k, j ≤ k → k < j + (m + 1) → kQ (c k)) → c (j + (m + 1) - 1) ≠ 48 → 0 < val c j (m + 1) := by
    intro m
    induction m with
    | zero =>
      intro j hc hl
      have h2 := hc j (by omega) (by omega)
      unfold kQ at h2
      have : c j ≠ 48 := by simpa using hl
      simp [val]; omega
    | succ m ih =>
      intro j hc hl
      have := ih (j + 1) (fun k h1 h2 => hc k (by omega) (by omega)) (by
       have e : j + 1 + (m + 1) - 1 = j + (m + 1 + 1) - 1 := by omega
       rw [e]; exact hl)
      rw [val]
      omega
   have := hpos m j hc (hl (by omega))
   simpa [val] using this
 | m + 1, n + 1, i, j, ha, hc, hl => by
   have ih := uA m n (i + 1) (j + 1) (fun k h1 h2 => ha k (by omega) (by omega)) (fun k h1 h2 => hc k (by omega) (by omega)) (fun h => by
    have e : j + 1 + m - 1 = j + (m + 1) - 1 := by omega
    rw [e]; exact hl (by omega))
   have ha0 := ha i (by omega) (by omega)
   have hc0 := hc j (by omega) (by omega)
   have va := rX (a := a) n (i + 1) (fun k h1 h2 => ha k (by omega) (by omega))
   have vc := rX (a := c) m (j + 1) (fun k h1 h2 => hc k (by omega) (by omega))
   unfold kQ at ha0 hc0
   have e1 : val a i (n + 1) * 10 ^ (m + 1) = (a i - 48) * (10 ^ n * 10 ^ m * 10) + val a (i + 1) n * 10 ^ m * 10 := by
    simp only [val, Nat.add_mul, Nat.pow_succ, Nat.mul_assoc]
   have e2 : val c j (m + 1) * 10 ^ (n + 1) = (c j - 48) * (10 ^ n * 10 ^ m * 10) + val c (j + 1) m * 10 ^ n * 10 := by
    simp only [val, Nat.add_mul, Nat.pow_succ, Nat.mul_assoc]
    rw [Nat.mul_left_comm (10 ^ m)]
   have b1 : val a (i + 1) n * 10 ^ m * 10 < 10 ^ n * 10 ^ m * 10 := by
    have := Nat.mul_lt_mul_of_pos_right va (show 0 < 10 ^ m from Nat.pow_pos (by decide))
    omega
   have b2 : val c (j + 1) m * 10 ^ n * 10 < 10 ^ n * 10 ^ m * 10 := by
    have := Nat.mul_lt_mul_of_pos_right vc (show 0 < 10 ^ n from Nat.pow_pos (by decide))
    have e : 10 ^ m * 10 ^ n = 10 ^ n * 10 ^ m := Nat.mul_comm _ _
    omega
   rw [e1, e2]
   by_cases heq : a i = c j
   ·simp only [less, heq, if_true]
    refine ⟨fun h => ?_, fun h => ?_⟩
    ·have := ih.1 h; omega
    ·have := ih.2 h; omega
   ·simp only [less, heq, if_false, decide_eq_true_eq, decide_eq_false_iff_not]
    refine ⟨fun h => ?_, fun h => ?_⟩
    ·have : (a i - 48 + 1) * (10 ^ n * 10 ^ m * 10) ≤ (c j - 48) * (10 ^ n * 10 ^ m * 10) := Nat.mul_le_mul_right _ (by omega)
     rw [Nat.add_mul] at this; omega
    ·have : (c j - 48 + 1) * (10 ^ n * 10 ^ m * 10) ≤ (a i - 48) * (10 ^ n * 10 ^ m * 10) := Nat.mul_le_mul_right _ (by omega)
     rw [Nat.add_mul] at this; omega
structure EP (k D L : Nat) (c : Nat → Nat) : Prop where
 dig : ∀ j, j < L → kQ (c j)
 last : 0 < L → c (L - 1) ≠ 48
 low : 10 ^ (D - 1) ≤ 2 ^ k
 high : 2 ^ k < 10 ^ D
 cut : val c 0 L * 2 ^ k = 10 ^ (L + D - 1)
 pos : 0 < D
theorem vJ {a c : Nat → Nat} {k D L nd : Nat} (hC : EP k D L c) (hnd : 0 < nd) (ha : ∀ j, j < nd → kQ (a j)) (h0 : a 0 ≠ 48) :
 let delta := if less a c 0 nd 0 L then D - 1 else D
 val a 0 nd * 2 ^ k / 10 ^ nd < 10 ^ delta ∧ (0 < delta → 10 ^ (delta - 1) ≤ val a 0 nd * 2 ^ k / 10 ^ nd) := by
 intro delta
 have hp : ∀ n, 0 < 10 ^ n := fun n => Nat.pow_pos (by decide)
 have hs := uA (a := a) (c := c) L nd 0 0 (fun j _ h => ha j (by omega)) (fun j _ h => hC.dig j (by omega)) (fun h => by simpa using hC.last h)
 have hv : val a 0 nd < 10 ^ nd := rX nd 0 (fun j _ h => ha j (by omega))
 have hv1 : 10 ^ (nd - 1) ≤ val a 0 nd := by
  obtain ⟨n, rfl⟩ : ∃ n, nd = n + 1 := ⟨nd - 1, by omega⟩
  exact Fv (ha 0 (by omega)) h0
 have hD := hC.pos
 have e1 : 10 ^ (L + D - 1) = 10 ^ L * 10 ^ (D - 1) := by rw [← Nat.pow_add]; congr 1; omega
 cases hl : less a c 0 nd 0 L with
 | true =>
   have hd : delta = D - 1 := by simp [delta, hl]
   have h1 := hs.1 hl
   rw [hd]
   constructor
   ·rw [Nat.div_lt_iff_lt_mul (hp nd)]
    have h2 : val a 0 nd * 10 ^ L * 2 ^ k < val c 0 L * 10 ^ nd * 2 ^ k := Nat.mul_lt_mul_of_pos_right h1 (Nat.pow_pos (by decide))
    have h3 : val c 0 L * 10 ^ nd * 2 ^ k = 10 ^ L * (10 ^ (D - 1) * 10 ^ nd) := by
     rw [Nat.mul_right_comm, hC.cut, e1, Nat.mul_assoc]
    have h4 : val a 0 nd * 10 ^ L * 2 ^ k = 10 ^ L * (val a 0 nd * 2 ^ k) := by
     rw [Nat.mul_comm (val a 0 nd), Nat.mul_assoc]
    rw [h3, h4] at h2
    exact Nat.lt_of_mul_lt_mul_left h2
   ·intro hpos
    rw [Nat.le_div_iff_mul_le (hp nd)]
    have h2 : 10 ^ (nd - 1) * 10 ^ (D - 1) ≤ val a 0 nd * 2 ^ k := Nat.mul_le_mul hv1 hC.low
    have h3 : 10 ^ (nd - 1) * 10 ^ (D - 1) = 10 ^ (D - 1 - 1) * 10 ^ nd := by
     rw [← Nat.pow_add, ← Nat.pow_add]; congr 1; omega
    omega
 | false =>
   have hd : delta = D := by simp [delta, hl]
   have h1 := hs.2 hl
   rw [hd]
   constructor
   ·rw [Nat.div_lt_iff_lt_mul (hp nd)]
    have h2 : val a 0 nd * 2 ^ k < 10 ^ nd * 2 ^ k := Nat.mul_lt_mul_of_pos_right hv (Nat.pow_pos (by decide))
    have h3 : 10 ^ nd * 2 ^ k ≤ 10 ^ nd * 10 ^ D := Nat.mul_le_mul_left _ (Nat.le_of_lt hC.high)
    rw [Nat.mul_comm (10 ^ D)]
    omega
   ·intro _
    rw [Nat.le_div_iff_mul_le (hp nd)]
    have h2 : val c 0 L * 10 ^ nd * 2 ^ k ≤ val a 0 nd * 10 ^ L * 2 ^ k := Nat.mul_le_mul_right _ h1
    have h3 : val c 0 L * 10 ^ nd * 2 ^ k = 10 ^ L * (10 ^ (D - 1) * 10 ^ nd) := by
     rw [Nat.mul_right_comm, hC.cut, e1, Nat.mul_assoc]
    have h4 : val a 0 nd * 10 ^ L * 2 ^ k = 10 ^ L * (val a 0 nd * 2 ^ k) := by
     rw [Nat.mul_comm (val a 0 nd), Nat.mul_assoc]
    rw [h3, h4] at h2
    exact Nat.le_of_mul_le_mul_left h2 (hp L)
open Go Go.RowKit Go.Proofs.YtpgfjbimodnkeaaGreatDoorW.PrintWords
def dG (W : World) (g : Nat) (a : Nat → Int) (nd dp : Int) (neg tr : Bool) : Prop :=
 ∃ (cs : Array Value) (T : TypeId), W.heap[g]? = some (.cells cs T (0, 0)) ∧ cs.size = 804 ∧ (∀ i, i < 800 → cs[i]? = some (.int .u8 (a i))) ∧
  cs[800]? = some (.int .i64 nd) ∧ cs[801]? = some (.int .i64 dp) ∧ cs[802]? = some (.bool neg) ∧ cs[803]? = some (.bool tr)
section
variable {W W1 : World} {g : Nat} {a : Nat → Int} {nd dp : Int} {neg tr : Bool}
theorem dG.drewN (h : dG W g a nd dp neg tr) (m : Nat) : dG (W.drewN m) g a nd dp neg tr := h
theorem dG.frozen (h : dG W g a nd dp neg tr) (i : Nat) : W.frozen? ⟨g, i, none⟩ = false := by
 obtain ⟨cs, T, h1, _⟩ := h
 exact ak h1 i
theorem dG.dig (h : dG W g a nd dp neg tr) {i : Nat} (hi : i < 800) : W.cell? ⟨g, i, none⟩ = some (.int .u8 (a i)) := by
 obtain ⟨cs, T, h1, _, h2, _⟩ := h
 exact (ah h1 i).trans (h2 i hi)
theorem dG.jm (h : dG W g a nd dp neg tr) : W.cell? ⟨g, 800, none⟩ = some (.int .i64 nd) := by
 obtain ⟨cs, T, h1, _, _, h2, _⟩ := h
 exact (ah h1 _).trans h2
theorem dG.jI (h : dG W g a nd dp neg tr) : W.cell? ⟨g, 801, none⟩ = some (.int .i64 dp) := by
 obtain ⟨cs, T, h1, _, _, _, h2, _⟩ := h
 exact (ah h1 _).trans h2
theorem dG.at_neg (h : dG W g a nd dp neg tr) : W.cell? ⟨g, 802, none⟩ = some (.bool neg) := by
 obtain ⟨cs, T, h1, _, _, _, _, h2, _⟩ := h
 exact (ah h1 _).trans h2
theorem dG.kF (h : dG W g a nd dp neg tr) : W.cell? ⟨g, 803, none⟩ = some (.bool tr) := by
 obtain ⟨cs, T, h1, _, _, _, _, _, h2⟩ := h
 exact (ah h1 _).trans h2
theorem dG.oz (h : dG W g a nd dp neg tr) (x : Int) : dG (W.setCell ⟨g, 800, none⟩ (.int .i64 x)) g a x dp neg tr := by
 obtain ⟨cs, T, h1, hs, h2, h3, h4, h5, h6⟩ := h
 exact ⟨_, T, dS h1 800 _, by simpa using hs, fun i hi => by rw [Array.getElem?_setIfInBounds_ne (by omega)]; exact h2 i hi, by rw [Array.getElem?_setIfInBounds_self_of_lt (by omega)], by rw [Array.getElem?_setIfInBounds_ne (by omega)]; exact h4, by rw [Array.getElem?_setIfInBounds_ne (by omega)]; exact h5, by rw [Array.getElem?_setIfInBounds_ne (by omega)]; exact h6⟩
theorem dG.qo (h : dG W g a nd dp neg tr) (x : Int) : dG (W.setCell ⟨g, 801, none⟩ (.int .i64 x)) g a nd x neg tr := by
 obtain ⟨cs, T, h1, hs, h2, h3, h4, h5, h6⟩ := h
 exact ⟨_, T, dS h1 801 _, by simpa using hs, fun i hi => by rw [Array.getElem?_setIfInBounds_ne (by omega)]; exact h2 i hi, by rw [Array.getElem?_setIfInBounds_ne (by omega)]; exact h3, by rw [Array.getElem?_setIfInBounds_self_of_lt (by omega)], by rw [Array.getElem?_setIfInBounds_ne (by omega)]; exact h5, by rw [Array.getElem?_setIfInBounds_ne (by omega)]; exact h6⟩
theorem dG.Ea (h : dG W g a nd dp neg tr) (x : Bool) : dG (W.setCell ⟨g, 802, none⟩ (.bool x)) g a nd dp x tr := by
 obtain ⟨cs, T, h1, hs, h2, h3, h4, h5, h6⟩ := h
 exact ⟨_, T, dS h1 802 _, by simpa using hs, fun i hi => by rw [Array.getElem?_setIfInBounds_ne (by omega)]; exact h2 i hi, by rw [Array.getElem?_setIfInBounds_ne (by omega)]; exact h3, by rw [Array.getElem?_setIfInBounds_ne (by omega)]; exact h4, by rw [Array.getElem?_setIfInBounds_self_of_lt (by omega)], by rw [Array.getElem?_setIfInBounds_ne (by omega)]; exact h6⟩
theorem dG.wF (h : dG W g a nd dp neg tr) (x : Bool) : dG (W.setCell ⟨g, 803, none⟩ (.bool x)) g a nd dp neg x := by
 obtain ⟨cs, T, h1, hs, h2, h3, h4, h5, h6⟩ := h
 exact ⟨_, T, dS h1 803 _, by simpa using hs, fun i hi => by rw [Array.getElem?_setIfInBounds_ne (by omega)]; exact h2 i hi, by rw [Array.getElem?_setIfInBounds_ne (by omega)]; exact h3, by rw [Array.getElem?_setIfInBounds_ne (by omega)]; exact h4, by rw [Array.getElem?_setIfInBounds_ne (by omega)]; exact h5, by rw [Array.getElem?_setIfInBounds_self_of_lt (by omega)]⟩
def upd (a : Nat → Int) (i : Nat) (x : Int) : Nat → Int := fun j => if j = i then x else a j
theorem dG.mi (h : dG W g a nd dp neg tr) {i : Nat} (hi : i < 800) (x : Int) : dG (W.setCell ⟨g, i, none⟩ (.int .u8 x)) g (upd a i x) nd dp neg tr := by
 obtain ⟨cs, T, h1, hs, h2, h3, h4, h5, h6⟩ := h
 refine ⟨_, T, dS h1 i _, by simpa using hs, fun j hj => ?_, by rw [Array.getElem?_setIfInBounds_ne (by omega)]; exact h3, by rw [Array.getElem?_setIfInBounds_ne (by omega)]; exact h4, by rw [Array.getElem?_setIfInBounds_ne (by omega)]; exact h5, by rw [Array.getElem?_setIfInBounds_ne (by omega)]; exact h6⟩
 by_cases hj2 : j = i
 ·subst hj2
  rw [Array.getElem?_setIfInBounds_self_of_lt (by omega)]
  simp [upd]
 ·rw [Array.getElem?_setIfInBounds_ne (by omega)]
  simp [upd, hj2, h2 j hj]
structure Good (a : Nat → Int) (nd : Int) : Prop where
 low : 0 ≤ nd
 high : nd ≤ 800
 dig : ∀ i : Nat, (i : Int) < nd → 48 ≤ a i ∧ a i ≤ 57
 first : 0 < nd → a 0 ≠ 48
end
theorem add0 (g m : Nat) : (⟨g, 0, none⟩ : Addr).add m = ⟨g, m, none⟩ := by
 unfold Addr.add
 split
 ·subst_vars; rfl
 ·simp
theorem Good.less {a : Nat → Int} {n n' : Int} (h : Good a n) (h0 : 0 ≤ n') (hl : n' ≤ n) : Good a n' :=
 ⟨h0, Int.le_trans hl h.high, fun i hi => h.dig i (by omega), fun hp => h.first (by omega)⟩
theorem dG.drewN' {W : World} {g : Nat} {a : Nat → Int} {nd dp : Int} {neg tr : Bool} (h : dG W g a nd dp neg tr) (m : Nat) : dG (W.drewN m) g a nd dp neg tr := h
structure uX (e : Ending) : Prop where mk :: (out : ∃ b, e = .returned (.bool b))
structure Fe (e : Ending) : Prop where mk :: (out : ∃ n : Int, e = .returned (.int .u64 n) ∧ 0 ≤ n ∧ n < 18446744073709551616)
end Go.Proofs.YtpgfjbimodnkeaaGreatDoor.Dec
