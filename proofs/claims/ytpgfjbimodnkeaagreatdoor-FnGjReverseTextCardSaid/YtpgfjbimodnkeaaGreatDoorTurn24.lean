/- FnGjReverseText: whatever text comes in, the law returns true and the text reads afterwards as before; with the fourteen package-level variables that its row lists as the text of the program lays them (the tied card) (part 24 of 25: lemmas for its last part) -/
import Derived.StillTailTactics
import Derived.WalkSpells
import Derived.IntWalk
import Derived.Deep.Cut
import Derived.Deep.RegionWith
import Derived.Test.YtpgfjbimodnkeaaGreatDoorTurn2
import Derived.Test.YtpgfjbimodnkeaaGreatDoorTurn18
import Derived.Test.YtpgfjbimodnkeaaGreatDoorTurn20
import Derived.Test.YtpgfjbimodnkeaaGreatDoorTurn21
import Derived.Test.YtpgfjbimodnkeaaGreatDoorTurn23
set_option maxHeartbeats 16000000
set_option maxRecDepth 100000
set_option linter.unusedVariables false
set_option linter.unusedSimpArgs false
namespace Go.Proofs.YtpgfjbimodnkeaaGreatDoor.Scan
open Go Go.RowKit Go.Proofs.YtpgfjbimodnkeaaGreatDoorW.PrintWords Go.Proofs.YtpgfjbimodnkeaaGreatDoor.Q Go.Proofs.YtpgfjbimodnkeaaGreatDoor.Dec
structure Part (s r : ByteArray) (c d n : Nat) : Prop where
 hs : c + n ≤ s.size
 hr : d + n ≤ r.size
 at_ : ∀ m : Nat, m < n → bt r ((d + m : Nat) : Int) = bt s ((c + m : Nat) : Int)
theorem EY {x y : ByteArray} (h : x.size = y.size) (hb : ∀ m : Nat, m < x.size → bt x m = bt y m) : x = y := by
 refine ByteArray.ext_getElem h fun m h1 h2 => ?_
 have e1 := bU x m (by simpa using h1)
 have e2 := bU y m (by simpa using h2)
 have := hb m h1
 rw [← e1, ← e2] at this
 simp only [Int.toNat_natCast] at this
 exact UInt8.toNat_inj.1 (by omega)
variable {s r : ByteArray} {c d n : Nat}
theorem Part.at (P : Part s r c d n) (p : Nat) (h1 : c ≤ p) (h2 : p < c + n) : bt r ((p - c + d : Nat) : Int) = bt s p := by
 rw [show p - c + d = d + (p - c) by omega, P.at_ _ (by omega), show c + (p - c) = p by omega]
theorem Part.int (P : Part s r c d n) (z : Int) (h1 : (c : Int) ≤ z) (h2 : z < (c + n : Nat)) : bt r (z - c + d) = bt s z := by
 have := P.at z.toNat (by omega) (by omega)
 rwa [show ((z.toNat - c + d : Nat) : Int) = z - c + d by omega, show ((z.toNat : Nat) : Int) = z by omega] at this
theorem Part.cut (P : Part s r c d n) (a b : Nat) (h1 : c ≤ a) (h2 : a ≤ b) (h3 : b ≤ c + n) : r.extract (a - c + d) (b - c + d) = s.extract a b := by
 have := P.hs
 have := P.hr
 refine EY (by rw [ByteArray.size_extract, ByteArray.size_extract]; omega) fun m hm => ?_
 rw [ByteArray.size_extract] at hm
 rw [jo _ _ _ _ (by omega) (by omega), jo _ _ _ _ (by omega) (by omega), ← P.at (a + m) (by omega) (by omega), show a - c + d + m = a + m - c + d by omega]
theorem Part.span (P : Part s r c d n) {Q : Int → Prop} {a b : Nat} (h : gB s Q a b) (h1 : c ≤ a) (h2 : b ≤ c + n) : gB r Q (a - c + d) (b - c + d) := by
 have hle := h.le
 refine ⟨by omega, fun m h3 h4 => ?_⟩
 have := h.all (m + c - d) (by omega) (by omega)
 rwa [← P.at (m + c - d) (by omega) (by omega), show m + c - d - c + d = m by omega] at this
theorem Part.blanks (P : Part s r c d n) {a b : Nat} (h : Blanks s a b) (h1 : c ≤ a) (h2 : b ≤ c + n) : Blanks r (a - c + d) (b - c + d) := by
 have := P.span (Q := blank) ⟨h.le, h.all⟩ h1 h2
 exact ⟨this.le, this.all⟩
theorem Part.word (P : Part s r c d n) {a : Nat} {w : ByteArray} (h : Word s a w) (h1 : c ≤ a) (h2 : a + w.size ≤ c + n) : Word r (a - c + d) w := by
 have := P.hr
 refine ⟨by omega, ?_⟩
 rw [show a - c + d + w.size = a + w.size - c + d by omega, P.cut a (a + w.size) h1 (by omega) h2]
 exact h.eq
theorem Part.Gv (P : Part s r c d n) (p : Nat) (h1 : c ≤ p) (h2 : p + 6 ≤ c + n) (h : qy s ((p : Int) + 2)) : qy r (((p - c + d : Nat) : Int) + 2) := by
 unfold Dec.qy at h ⊢
 rw [← P.int _ (by omega) (by omega), ← P.int ((p : Int) + 2 + 1) (by omega) (by omega), ← P.int ((p : Int) + 2 + 2) (by omega) (by omega), ← P.int ((p : Int) + 2 + 3) (by omega) (by omega)] at h
 rw [show ((p - c + d : Nat) : Int) + 2 = (p : Int) + 2 - c + d by omega, show (p : Int) + 2 - c + d + 1 = (p : Int) + 2 + 1 - c + d by omega, show (p : Int) + 2 - c + d + 2 = (p : Int) + 2 + 2 - c + d by omega, show (p : Int) + 2 - c + d + 3 = (p : Int) + 2 + 3 - c + d by omega]
 exact h
theorem Part.one (P : Part s r c d n) (p : Nat) (h1 : c ≤ p) (h2 : p + 1 < c + n) : bt r (((p - c + d : Nat) : Int) + 1) = bt s ((p : Int) + 1) := by
 rw [← P.int _ (by omega) (by omega), show ((p - c + d : Nat) : Int) + 1 = (p : Int) + 1 - c + d by omega]
theorem Part.D6 (P : Part s r c d n) {p q : Nat} (h : gG s p q) : c ≤ p → q < c + n → gG r (p - c + d) (q - c + d) := by
 have hr := P.hr
 induction h with
 | close p h0 h1 => exact fun h2 h3 => .close _ (by omega) (by rw [P.at p h2 h3]; exact h1)
 | plain p q h0 h1 h2 h3 h4 ih =>
   intro h5 h6
   have hb := h4.bound
   have := ih (by omega) h6
   rw [show p + 1 - c + d = p - c + d + 1 by omega] at this
   have e := P.at p h5 (by omega)
   exact .plain _ _ (by omega) (by omega) (by omega) (by omega) this
 | short p q h0 h1 h2 h3 ih =>
   intro h5 h6
   have hb := h3.bound
   have := ih (by omega) h6
   rw [show p + 2 - c + d = p - c + d + 2 by omega] at this
   exact .short _ _ (by omega) (by rw [P.at p h5 (by omega)]; exact h1) (by rw [P.one p h5 (by omega)]; exact h2) this
 | uni p q h0 h1 h2 h3 h4 ih =>
   intro h5 h6
   have hb := h4.bound
   have := ih (by omega) h6
   rw [show p + 6 - c + d = p - c + d + 6 by omega] at this
   exact .uni _ _ (by omega) (by rw [P.at p h5 (by omega)]; exact h1) (by rw [P.one p h5 (by omega)]; exact h2) (P.Gv p h5 (by omega) h3) this
theorem Part.Gu (P : Part s r c d n) {i e : Nat} (h : yu s i e) (h1 : c ≤ i) (h2 : e ≤ c + n) : yu r (i - c + d) (e - c + d) := by
 obtain ⟨a, b, g1, g2, f, g3, g4⟩ := h
 have hle := g4.le
 have k2 : a < b := by omega
 have k3 : b ≤ f := by omega
 have hE : xh r (f - c + d) (e - c + d) := by
  rcases g4 with rfl | ⟨g5, x, g6, g7, g8⟩
  ·exact .inl rfl
  ·refine .inr ⟨by rw [P.at f (by omega) (by omega)]; exact g5, x - c + d, ?_, by omega, P.span g8 (by omega) h2⟩
   rcases g6 with rfl | ⟨rfl, g6⟩
   ·exact .inl (by omega)
   ·refine .inr ⟨by omega, ?_⟩
    have := P.at (f + 1) (by omega) (by omega)
    rw [show f + 1 - c + d = f - c + d + 1 by omega] at this
    rw [this]
    exact g6
 refine ⟨a - c + d, b - c + d, ?_, ?_, f - c + d, ?_, hE⟩
 ·rcases g1 with rfl | ⟨rfl, g1⟩
  ·exact .inl rfl
  ·exact .inr ⟨by omega, by rw [P.at i (by omega) (by omega)]; exact g1⟩
 ·rw [P.at a (by omega) (by omega)]
  rcases g2 with ⟨rfl, g2⟩ | ⟨g2, g5, g6⟩
  ·exact .inl ⟨by omega, g2⟩
  ·exact .inr ⟨g2, by omega, P.span g6 (by omega) (by omega)⟩
 ·rcases g3 with rfl | ⟨g3, g5, g6⟩
  ·exact .inl rfl
  ·have := P.span g6 (by omega) (by omega)
   rw [show b + 1 - c + d = b - c + d + 1 by omega] at this
   exact .inr ⟨by rw [P.at b (by omega) (by omega)]; exact g3, by omega, this⟩
def mvN (z : Int) (n : S44) : S44 := ⟨n.f0 + z, n.f1 + z⟩
mutual
def mv (z : Int) : S32 → S32
 | ⟨k, b, e, ns, ks⟩ => ⟨k, b + z, e + z, ns.map (mvN z), mvs z ks⟩
def mvs (z : Int) : List S32 → List S32
 | [] => []
 | p :: ps => mv z p :: mvs z ps
end
theorem zo (z : Int) (k : Int) (b e b' e' : Nat) (ns : List S44) (ks : List S32) (hb : (b : Int) + z = b') (he : (e : Int) + z = e') : mv z ⟨k, (b : Int), (e : Int), ns, ks⟩ = ⟨k, (b' : Int), (e' : Int), ns.map (mvN z), mvs z ks⟩ := by
 rw [mv, hb, he]
theorem yl (z : Int) (b e b' e' : Nat) (hb : (b : Int) + z = b') (he : (e : Int) + z = e') : mvN z ⟨(b : Int), (e : Int)⟩ = ⟨(b' : Int), (e' : Int)⟩ := by
 rw [mvN, ← hb, ← he]
theorem J.move (P : Part s r c d n) {md : Md} {a e : Nat} {kd : Int} {ns : List S44} {ks : List S32} (h : J s md a e kd ns ks) : c ≤ a → e ≤ c + n → J r md (a - c + d) (e - c + d) kd (ns.map (mvN ((d : Int) - c))) (mvs ((d : Int) - c) ks) := by
 have hr := P.hr
 induction h with
 | null a h => exact fun h1 h2 => by rw [show a + 4 - c + d = a - c + d + 4 by omega]; exact .null _ (P.word h h1 h2)
 | fals a h => exact fun h1 h2 => by rw [show a + 5 - c + d = a - c + d + 5 by omega]; exact .fals _ (P.word h h1 h2)
 | tru a h => exact fun h1 h2 => by rw [show a + 4 - c + d = a - c + d + 4 by omega]; exact .tru _ (P.word h h1 h2)
 | num a e h0 h1 h2 h3 h4 => exact fun h5 h6 => .num _ _ (by rw [P.at a h5 (by omega)]; exact h0) (by omega) (by omega) (P.span h3 h5 h6) (P.Gu h4 h5 h6)
 | str a q h0 h1 h2 =>
   intro h5 h6
   have hb := h2.bound
   have h3 := P.D6 h2 (by omega) (by omega)
   rw [show a + 1 - c + d = a - c + d + 1 by omega] at h3
   rw [show q + 1 - c + d = q - c + d + 1 by omega]
   exact .str _ _ (by omega) (by rw [P.at a h5 (by omega)]; exact h1) h3
 | arr0 a j h0 h1 h2 h3 h4 =>
   intro h5 h6
   have hb := h2.le
   have h7 := P.blanks h2 (by omega) (by omega)
   rw [show a + 1 - c + d = a - c + d + 1 by omega] at h7
   rw [show j + 1 - c + d = j - c + d + 1 by omega]
   exact .arr0 _ _ (by omega) (by rw [P.at a h5 (by omega)]; exact h1) h7 (by omega) (by rw [P.at j (by omega) (by omega)]; exact h4)
 | arr a j e ks h0 h1 h2 h3 ih =>
   intro h5 h6
   have hb := h2.le
   have hc := h3.bound
   have h7 := P.blanks h2 (by omega) (by omega)
   rw [show a + 1 - c + d = a - c + d + 1 by omega] at h7
   exact .arr _ _ _ _ (by omega) (by rw [P.at a h5 (by omega)]; exact h1) h7 (ih (by omega) h6)
 | obj0 a j h0 h1 h2 h3 h4 =>
   intro h5 h6
   have hb := h2.le
   have h7 := P.blanks h2 (by omega) (by omega)
   rw [show a + 1 - c + d = a - c + d + 1 by omega] at h7
   rw [show j + 1 - c + d = j - c + d + 1 by omega]
   exact .obj0 _ _ (by omega) (by rw [P.at a h5 (by omega)]; exact h1) h7 (by omega) (by rw [P.at j (by omega) (by omega)]; exact h4)
 | obj a j e ns ks h0 h1 h2 h3 ih =>
   intro h5 h6
   have hb := h2.le
   have hc := h3.bound
   have h7 := P.blanks h2 (by omega) (by omega)
   rw [show a + 1 - c + d = a - c + d + 1 by omega] at h7
   exact .obj _ _ _ _ _ (by omega) (by rw [P.at a h5 (by omega)]; exact h1) h7 (ih (by omega) h6)
 | el1 a m e kd ns ks h0 h1 h2 h3 ih =>
   intro h5 h6
   have hb := h0.bound
   have hc := h1.le
   rw [mvs, mvs, zo _ kd a m (a - c + d) (m - c + d) ns ks (by omega) (by omega), show e + 1 - c + d = e - c + d + 1 by omega]
   exact .el1 _ _ _ _ _ _ (ih h5 (by omega)) (P.blanks h1 (by omega) (by omega)) (by omega) (by rw [P.at e (by omega) (by omega)]; exact h3)
 | els a m f q e kd ns ks l h0 h1 h2 h3 h4 h5 ih ih2 =>
   intro h6 h7
   have hb := h0.bound
   have hc := h1.le
   have hd := h4.le
   have he := h5.bound
   have h8 := P.blanks h4 (by omega) (by omega)
   rw [show f + 1 - c + d = f - c + d + 1 by omega] at h8
   rw [mvs, zo _ kd a m (a - c + d) (m - c + d) ns ks (by omega) (by omega)]
   exact .els _ _ _ _ _ _ _ _ _ (ih h6 (by omega)) (P.blanks h1 (by omega) (by omega)) (by omega) (by rw [P.at f (by omega) (by omega)]; exact h3) h8 (ih2 (by omega) h7)
 | mem1 a q f b m e kd ns ks h0 h1 h2 h3 h4 h5 h6 h7 h8 h9 h10 ih =>
   intro g1 g2
   have hq := h2.bound
   have hc := h3.le
   have hb := h6.le
   have hv := h7.bound
   have hd := h8.le
   have h11 := P.D6 h2 (by omega) (by omega)
   have h12 := P.blanks h3 (by omega) (by omega)
   have h13 := P.blanks h6 (by omega) (by omega)
   rw [show a + 1 - c + d = a - c + d + 1 by omega] at h11
   rw [show q + 1 - c + d = q - c + d + 1 by omega] at h12
   rw [show f + 1 - c + d = f - c + d + 1 by omega] at h13
   rw [List.map_cons, List.map_nil, mvs, mvs, zo _ kd b m (b - c + d) (m - c + d) ns ks (by omega) (by omega), yl _ a (q + 1) (a - c + d) (q - c + d + 1) (by omega) (by omega), show e + 1 - c + d = e - c + d + 1 by omega]
   exact .mem1 _ _ _ _ _ _ _ _ _ (by omega) (by rw [P.at a g1 (by omega)]; exact h1) h11 h12 (by omega) (by rw [P.at f (by omega) (by omega)]; exact h5) h13 (ih (by omega) (by omega)) (P.blanks h8 (by omega) (by omega)) (by omega) (by rw [P.at e (by omega) (by omega)]; exact h10)
 | mems a q f b m g x e kd ns nl ks l h0 h1 h2 h3 h4 h5 h6 h7 h8 h9 h10 h11 h12 ih ih2 =>
   intro g1 g2
   have hq := h2.bound
   have hc := h3.le
   have hb := h6.le
   have hv := h7.bound
   have hd := h8.le
   have hn := h11.le
   have he := h12.bound
   have h13 := P.D6 h2 (by omega) (by omega)
   have h14 := P.blanks h3 (by omega) (by omega)
   have h15 := P.blanks h6 (by omega) (by omega)
   have h16 := P.blanks h11 (by omega) (by omega)
   rw [show a + 1 - c + d = a - c + d + 1 by omega] at h13
   rw [show q + 1 - c + d = q - c + d + 1 by omega] at h14
   rw [show f + 1 - c + d = f - c + d + 1 by omega] at h15
   rw [show g + 1 - c + d = g - c + d + 1 by omega] at h16
   rw [List.map_cons, mvs, zo _ kd b m (b - c + d) (m - c + d) ns ks (by omega) (by omega), yl _ a (q + 1) (a - c + d) (q - c + d + 1) (by omega) (by omega)]
   exact .mems _ _ _ _ _ _ _ _ _ _ _ _ _ (by omega) (by rw [P.at a g1 (by omega)]; exact h1) h13 h14 (by omega) (by rw [P.at f (by omega) (by omega)]; exact h5) h15 (ih (by omega) (by omega)) (P.blanks h8 (by omega) (by omega)) (by omega) (by rw [P.at g (by omega) (by omega)]; exact h10) h16 (ih2 (by omega) g2)
theorem Part.says (P : Part s r c d n) {a q : Nat} {v : ByteArray} (h : Says s a q v) (h1 : c ≤ a) (h2 : a ≤ q) (h3 : q ≤ c + n) : Says r (a - c + d) (q - c + d) v := by
 obtain ⟨l, g1, g2⟩ := h.unq
 exact ⟨l, by rw [P.cut a q h1 h2 h3]; exact g1, g2⟩
theorem Part.name (P : Part s r c d n) {a q : Nat} {v : ByteArray} (h : Says s (a + 1) q v) (h1 : c ≤ a) (h2 : a < q) (h3 : q + 1 ≤ c + n) : sJ s ⟨(a : Nat), (q + 1 : Nat)⟩ v ∧ sJ r (mvN ((d : Int) - c) ⟨(a : Nat), (q + 1 : Nat)⟩) v := by
 have := P.hs
 have := P.hr
 have h4 := P.says h (by omega) (by omega) (by omega)
 rw [show a + 1 - c + d = a - c + d + 1 by omega] at h4
 refine ⟨⟨a, q, rfl, rfl, h2, by omega, h⟩, ⟨a - c + d, q - c + d, ?_, ?_, by omega, by omega, h4⟩⟩
 ·show (a : Int) + _ = _; omega
 ·show ((q + 1 : Nat) : Int) + _ = _; omega
theorem jW {s : ByteArray} (hS : s.size ≤ 65536) (i e kd : Int) (h3 : kd ≠ 3) (h4 : kd ≠ 4) {ns : List S44} {ks : List S32} (hn : ns.length ≤ 65536) (hk : ks.length ≤ 65536) {keys : List ByteArray} {ts : List S25} (h1 : fH s ns keys) (h2 : fG s ks ts) : Evt (fun k => bG.f k s kd i e ns ks) (kd, ⟨#[]⟩, keys, ts) := by
 refine Evt.succ ?_
 simp only [bG.f]
 exact Evt.neg h3 (Evt.neg h4 (nJ s hS kd i e hn hk _ h1 h2))
theorem wV {s : ByteArray} (hS : s.size ≤ 65536) (i e : Nat) (h1 : i ≤ e) (h2 : e ≤ s.size) : Evt (fun k => bG.f k s 3 i e [] []) (3, s.extract i e, [], []) := by
 refine Evt.succ ?_
 simp only [bG.f]
 rw [Int.toNat_natCast, Int.toNat_natCast]
 exact Evt.pos (by simp) (Evt.pos (by omega) (Evt.pos (by omega) (Evt.pos (by omega) (nJ s hS 3 i e (ns := []) (ks := []) (by simp) (by simp) _ (keys := []) (ts := []) trivial trivial))))
theorem xA {s : ByteArray} (hS : s.size ≤ 65536) (i q : Nat) (h1 : i < q) (h2 : q < s.size) {v : ByteArray} (hv : Says s (i + 1) q v) : Evt (fun k => bG.f k s 4 i (q + 1 : Nat) [] []) (4, v, [], []) := by
 have hu := hv.wo hS (show 1 ≤ i + 1 by omega) (by omega) (by omega)
 rw [Nat.add_sub_cancel] at hu
 refine Evt.succ ?_
 simp only [bG.f]
 rw [Int.toNat_natCast, Int.toNat_natCast]
 exact Evt.neg (by simp) (Evt.pos (by simp) (Evt.pos (by omega) (Evt.pos (by omega) (Evt.pos (by omega) (Evt.bind hu (nJ s hS 4 i _ (ns := []) (ks := []) (by simp) (by simp) _ (keys := []) (ts := []) trivial trivial))))))
theorem sS (z : Int) : ∀ ks : List S32, (mvs z ks).length = ks.length
 | [] => by rw [mvs]
 | p :: ps => by rw [mvs, List.length_cons, List.length_cons, sS z ps]
def Alike (s r : ByteArray) (c d : Nat) (md : Md) (a e : Nat) (kd : Int) (ns : List S44) (ks : List S32) : Prop :=
 ∃ (keys : List ByteArray) (ts : List S25), fH s ns keys ∧ fH r (ns.map (mvN ((d : Int) - c))) keys ∧ fG s ks ts ∧ fG r (mvs ((d : Int) - c) ks) ts ∧
  (md = .val → ∃ txt, Evt (fun k => bG.f k s kd (a : Int) (e : Int) ns ks) (kd, txt, keys, ts) ∧ Evt (fun k => bG.f k r kd ((a : Int) + ((d : Int) - c)) ((e : Int) + ((d : Int) - c)) (ns.map (mvN ((d : Int) - c))) (mvs ((d : Int) - c) ks)) (kd, txt, keys, ts))
theorem J.trees (P : Part s r c d n) (hS : s.size ≤ 65536) (hR : r.size ≤ 65536) {md : Md} {a e : Nat} {kd : Int} {ns : List S44} {ks : List S32} (h : J s md a e kd ns ks) : Prd s a → c ≤ a → e ≤ c + n → Alike s r c d md a e kd ns ks := by
 have hs := P.hs
 have hr := P.hr
 have flat : ∀ (a e : Nat) (kd : Int) (ns : List S44) (ks : List S32) (keys : List ByteArray) (ts : List S25), kd ≠ 3 → kd ≠ 4 → ns.length ≤ 65536 → ks.length ≤ 65536 → fH s ns keys → fH r (ns.map (mvN ((d : Int) - c))) keys → fG s ks ts → fG r (mvs ((d : Int) - c) ks) ts → Alike s r c d .val a e kd ns ks :=
  fun a e kd ns ks keys ts h3 h4 hn hk g1 g2 g3 g4 => ⟨keys, ts, g1, g2, g3, g4, fun _ => ⟨_, jW hS _ _ _ h3 h4 hn hk g1 g3, jW hR _ _ _ h3 h4 (by rw [List.length_map]; exact hn) (by rw [sS]; exact hk) g2 g4⟩⟩
 have none : ∀ (a e : Nat) (kd : Int), kd ≠ 3 → kd ≠ 4 → Alike s r c d .val a e kd [] [] := fun a e kd h3 h4 => flat a e kd [] [] [] [] h3 h4 (by simp) (by simp) trivial trivial trivial (by rw [mvs]; trivial)
 induction h with
 | null a h => exact fun _ _ _ => none _ _ _ (by decide) (by decide)
 | fals a h => exact fun _ _ _ => none _ _ _ (by decide) (by decide)
 | tru a h => exact fun _ _ _ => none _ _ _ (by decide) (by decide)
 | num a e h0 h1 h2 h3 =>
   intro _ g1 g2
   refine ⟨[], [], trivial, trivial, trivial, by rw [mvs]; trivial, fun _ => ⟨s.extract a e, wV hS a e (by omega) h2, ?_⟩⟩
   have := wV hR (a - c + d) (e - c + d) (by omega) (by omega)
   rw [P.cut a e g1 (by omega) g2] at this
   rw [List.map_nil, mvs, show (a : Int) + ((d : Int) - c) = ((a - c + d : Nat) : Int) by omega, show (e : Int) + ((d : Int) - c) = ((e - c + d : Nat) : Int) by omega]
   exact this
 | str a q h0 h1 h2 =>
   intro hp g1 g2
   obtain ⟨_, v, hv⟩ := jd hS h2 (gG.prd hS h0 h1 h2 hp).1
   have hb := h2.bound
   refine ⟨[], [], trivial, trivial, trivial, by rw [mvs]; trivial, fun _ => ⟨v, xA hS a q (by omega) (by omega) hv, ?_⟩⟩
   have h3 := P.says hv (by omega) (by omega) (by omega)
   rw [show a + 1 - c + d = a - c + d + 1 by omega] at h3
   have := xA hR (a - c + d) (q - c + d) (by omega) (by omega) h3
   rw [List.map_nil, mvs, show (a : Int) + ((d : Int) - c) = ((a - c + d : Nat) : Int) by omega, show ((q + 1 : Nat) : Int) + ((d : Int) - c) = ((q - c + d + 1 : Nat) : Int) by omega]
   exact this
 | arr0 a j h0 h1 h2 h3 h4 => exact fun _ _ _ => none _ _ _ (by decide) (by decide)
 | arr a j e ks h0 h1 h2 h3 ih =>
   intro hp g1 g2
   have hb := h3.bound
   have hl := h3.lens
   have hle := h2.le
   obtain ⟨keys, ts, k1, k2, k3, k4, _⟩ := ih (h2.prd hS (by omega) (Prd.plain hS hp h0 (by omega))) (by omega) g2
   exact flat a e 5 [] ks keys ts (by decide) (by decide) (by simp) (by omega) k1 k2 k3 k4
 | obj0 a j h0 h1 h2 h3 h4 => exact fun _ _ _ => none _ _ _ (by decide) (by decide)
 | obj a j e ns ks h0 h1 h2 h3 ih =>
   intro hp g1 g2
   have hb := h3.bound
   have hl := h3.lens
   have hle := h2.le
   obtain ⟨keys, ts, k1, k2, k3, k4, _⟩ := ih (h2.prd hS (by omega) (Prd.plain hS hp h0 (by omega))) (by omega) g2
   exact flat a e 6 ns ks keys ts (by decide) (by decide) (by omega) (by omega) k1 k2 k3 k4
 | el1 a m e kd ns ks h0 h1 h2 h3 ih =>
   intro hp g1 g2
   have hle := h1.le
   obtain ⟨keys, ts, _, _, _, _, k5⟩ := ih hp g1 (by omega)
   obtain ⟨txt, k6, k7⟩ := k5 rfl
   refine ⟨[], [⟨kd, txt, keys, ts⟩], trivial, trivial, ⟨k6, trivial⟩, ?_, fun h => by cases h⟩
   rw [mvs, mvs, mv]
   exact ⟨k7, trivial⟩
 | els a m f q e kd ns ks l h0 h1 h2 h3 h4 h5 ih ih2 =>
   intro hp g1 g2
   have hle := h1.le
   have hle2 := h4.le
   have hb := h5.bound
   have hb0 := h0.bound
   obtain ⟨keys, ts, _, _, _, _, k5⟩ := ih hp g1 (by omega)
   obtain ⟨txt, k6, k7⟩ := k5 rfl
   obtain ⟨keys2, ts2, _, _, m3, m4, _⟩ := ih2 (h4.prd hS (by omega) (Prd.plain hS (h1.prd hS (by omega) (h0.prd hS hp)) h2 (by omega))) (by omega) g2
   refine ⟨[], ⟨kd, txt, keys, ts⟩ :: ts2, trivial, trivial, ⟨k6, m3⟩, ?_, fun h => by cases h⟩
   rw [mvs, mv]
   exact ⟨k7, m4⟩
 | mem1 a q f b m e kd ns ks h0 h1 h2 h3 h4 h5 h6 h7 h8 h9 h10 ih =>
   intro hp g1 g2
   have hb := h7.bound
   have hq := h2.bound
   have e1 := h3.le
   have e2 := h6.le
   have e3 := h8.le
   have hpb := h6.prd hS (by omega) (Prd.plain hS (h3.prd hS (by omega) (gG.prd hS h0 h1 h2 hp).2) h4 (by omega))
   obtain ⟨_, v, hv⟩ := jd hS h2 (gG.prd hS h0 h1 h2 hp).1
   obtain ⟨keys, ts, _, _, _, _, k5⟩ := ih hpb (by omega) (by omega)
   obtain ⟨txt, k6, k7⟩ := k5 rfl
   have hn := P.name hv g1 (by omega) (by omega)
   refine ⟨[v], [⟨kd, txt, keys, ts⟩], ⟨hn.1, trivial⟩, ⟨hn.2, trivial⟩, ⟨k6, trivial⟩, ?_, fun h => by cases h⟩
   rw [mvs, mvs, mv]
   exact ⟨k7, trivial⟩
 | mems a q f b m g x e kd ns nl ks l h0 h1 h2 h3 h4 h5 h6 h7 h8 h9 h10 h11 h12 ih ih2 =>
   intro hp g1 g2
   have hb := h7.bound
   have hq := h2.bound
   have hx := h12.bound
   have e1 := h3.le
   have e2 := h6.le
   have e3 := h8.le
   have e4 := h11.le
   have hpb := h6.prd hS (by omega) (Prd.plain hS (h3.prd hS (by omega) (gG.prd hS h0 h1 h2 hp).2) h4 (by omega))
   obtain ⟨_, v, hv⟩ := jd hS h2 (gG.prd hS h0 h1 h2 hp).1
   obtain ⟨keys, ts, _, _, _, _, k5⟩ := ih hpb (by omega) (by omega)
   obtain ⟨txt, k6, k7⟩ := k5 rfl
   obtain ⟨keys2, ts2, m1, m2, m3, m4, _⟩ := ih2 (h11.prd hS (by omega) (Prd.plain hS (h8.prd hS (by omega) (h7.prd hS hpb)) h9 (by omega))) (by omega) g2
   have hn := P.name hv g1 (by omega) (by omega)
   refine ⟨v :: keys2, ⟨kd, txt, keys, ts⟩ :: ts2, ⟨hn.1, m1⟩, ⟨hn.2, m2⟩, ⟨k6, m3⟩, ?_, fun h => by cases h⟩
   rw [mvs, mv]
   exact ⟨k7, m4⟩
structure Put (r : ByteArray) (i : Nat) (bs : List Int) : Prop where
 le : i + bs.length ≤ r.size
 at_ : ∀ m : Nat, m < bs.length → bt r ((i + m : Nat) : Int) = bs.getD m 0
theorem Put.left {r : ByteArray} {i : Nat} {a b : List Int} (h : Put r i (a ++ b)) : Put r i a := by
 have hl := h.le
 rw [List.length_append] at hl
 refine ⟨by omega, fun m hm => ?_⟩
 rw [h.at_ m (by rw [List.length_append]; omega), List.getD_eq_getElem?_getD, List.getD_eq_getElem?_getD, List.getElem?_append_left hm]
theorem Put.right {r : ByteArray} {i : Nat} {a b : List Int} (h : Put r i (a ++ b)) : Put r (i + a.length) b := by
 have hl := h.le
 rw [List.length_append] at hl
 refine ⟨by omega, fun m hm => ?_⟩
 have := h.at_ (a.length + m) (by rw [List.length_append]; omega)
 rw [← Nat.add_assoc] at this
 rw [this, List.getD_eq_getElem?_getD, List.getD_eq_getElem?_getD, List.getElem?_append_right (by omega), Nat.add_sub_cancel_left]
theorem Put.head {r : ByteArray} {i : Nat} {x : Int} {b : List Int} (h : Put r i (x :: b)) : i < r.size ∧ bt r i = x := by
 have hl := h.le
 rw [List.length_cons] at hl
 exact ⟨by omega, by simpa using h.at_ 0 (by simp)⟩
theorem Put.tail {r : ByteArray} {i : Nat} {x : Int} {b : List Int} (h : Put r i (x :: b)) : Put r (i + 1) b := Put.right (a := [x]) h
theorem sO (s : ByteArray) (m : Nat) : (bytesOf s).getD m 0 = bt s m := by
 have := xX s (m : Int)
 unfold rd at this
 simpa using this
def Byt (l : List Int) : Prop := ∀ x ∈ l, 0 ≤ x ∧ x ≤ 255
theorem qi (s : ByteArray) : Byt (bytesOf s) := by
 intro x hx
 obtain ⟨b, _, rfl⟩ := List.mem_map.1 hx
 have := b.toNat_lt
 omega
theorem Byt.app {a b : List Int} (h : Byt a) (h' : Byt b) : Byt (a ++ b) := fun x hx => (List.mem_append.1 hx).elim (h x) (h' x)
theorem Byt.cons {x : Int} {b : List Int} (h0 : 0 ≤ x) (h1 : x ≤ 255) (h' : Byt b) : Byt (x :: b) := fun y hy => by
 rcases List.mem_cons.1 hy with rfl | hy
 ·exact ⟨h0, h1⟩
 ·exact h' y hy
theorem Byt.nil : Byt [] := fun x hx => by simp at hx
theorem uN (l : List Int) : (strOfNums l).size = l.length := by
 show (strOfNums l).data.size = _
 rw [← Array.length_toList, strOfNums_data, List.length_map]
theorem Bv {l : List Int} (h : Byt l) : Put (strOfNums l) 0 l := by
 refine ⟨by rw [uN]; omega, fun m hm => ?_⟩
 rw [Nat.zero_add, ← sO, bytesOf, strOfNums_data, List.getD_eq_getElem?_getD, List.getD_eq_getElem?_getD, List.getElem?_map, List.getElem?_map, List.getElem?_eq_getElem hm]
 have := h _ (List.getElem_mem hm)
 simp only [Option.map_some, Option.getD_some]
 generalize l[m] = x at *
 rw [UInt8.toNat_ofNat']
 omega
def jn : List (List Int) → List Int
 | [] => []
 | [x] => x
 | x :: y :: l => x ++ 44 :: jn (y :: l)
theorem vY (x : List Int) : ∀ l : List (List Int), l ≠ [] → jn (l ++ [x]) = jn l ++ 44 :: x
 | [], h => absurd rfl h
 | [a], _ => rfl
 | a :: b :: l, _ => by
   have := vY x (b :: l) (by simp)
   simp only [List.cons_append, jn] at this ⊢
   rw [this, List.append_assoc]
   rfl
theorem yw : ∀ {l : List (List Int)}, (∀ x ∈ l, Byt x) → Byt (jn l)
 | [], _ => Byt.nil
 | [x], h => h x (by simp)
 | x :: y :: l, h => (h x (by simp)).app (Byt.cons (by decide) (by decide) (yw (l := y :: l) (fun z hz => h z (List.mem_cons_of_mem _ hz))))
def ul (bs : List Int) (t : S25) : Prop := ∀ (r : ByteArray) (i : Nat), r.size ≤ 65536 → Put r i bs →
 ∃ (ns : List S44) (ks : List S32), J r .val i (i + bs.length) t.f0 ns ks ∧ Evt (fun k => bG.f k r t.f0 (i : Int) ((i + bs.length : Nat) : Int) ns ks) (t.f0, t.f1, t.f2, t.f3)
def Bj (bs : List Int) (v : ByteArray) : Prop := ∀ (r : ByteArray) (i : Nat), r.size ≤ 65536 → Put r i bs →
 ∃ q : Nat, i + bs.length = q + 1 ∧ i < r.size ∧ bt r i = 34 ∧ gG r (i + 1) q ∧ sJ r ⟨(i : Nat), (q + 1 : Nat)⟩ v
def kC : List (List Int) → List S25 → Prop
 | [], [] => True
 | b :: bs, t :: ts => ul b t ∧ kC bs ts
 | _, _ => False
def Names : List (List Int) → List ByteArray → Prop
 | [], [] => True
 | b :: bs, t :: ts => Bj b t ∧ Names bs ts
 | _, _ => False
theorem kC.length : ∀ {bs : List (List Int)} {ts : List S25}, kC bs ts → bs.length = ts.length
 | [], [], _ => rfl
 | _ :: _, _ :: _, h => by simp [kC.length h.2]
 | [], _ :: _, h => h.elim
 | _ :: _, [], h => h.elim
theorem Names.length : ∀ {bs : List (List Int)} {ts : List ByteArray}, Names bs ts → bs.length = ts.length
 | [], [], _ => rfl
 | _ :: _, _ :: _, h => by simp [Names.length h.2]
 | [], _ :: _, h => h.elim
 | _ :: _, [], h => h.elim
theorem kC.app : ∀ {a : List (List Int)} {x : List S25} {b : List (List Int)} {y : List S25}, kC a x → kC b y → kC (a ++ b) (x ++ y)
 | [], [], _, _, _, h => h
 | _ :: _, _ :: _, _, _, h, h' => ⟨h.1, kC.app h.2 h'⟩
 | [], _ :: _, _, _, h, _ => h.elim
 | _ :: _, [], _, _, h, _ => h.elim
theorem Names.app : ∀ {a : List (List Int)} {x : List ByteArray} {b : List (List Int)} {y : List ByteArray}, Names a x → Names b y → Names (a ++ b) (x ++ y)
 | [], [], _, _, _, h => h
 | _ :: _, _ :: _, _, _, h, h' => ⟨h.1, Names.app h.2 h'⟩
 | [], _ :: _, _, _, h, _ => h.elim
 | _ :: _, [], _, _, h, _ => h.elim
theorem kC.rev : ∀ {bs : List (List Int)} {ts : List S25}, kC bs ts → kC bs.reverse ts.reverse
 | [], [], _ => trivial
 | _ :: _, _ :: _, h => by rw [List.reverse_cons, List.reverse_cons]; exact (kC.rev h.2).app ⟨h.1, trivial⟩
 | [], _ :: _, h => h.elim
 | _ :: _, [], h => h.elim
theorem Names.rev : ∀ {bs : List (List Int)} {ts : List ByteArray}, Names bs ts → Names bs.reverse ts.reverse
 | [], [], _ => trivial
 | _ :: _, _ :: _, h => by rw [List.reverse_cons, List.reverse_cons]; exact (Names.rev h.2).app ⟨h.1, trivial⟩
 | [], _ :: _, h => h.elim
 | _ :: _, [], h => h.elim
theorem zt {r : ByteArray} (hR : r.size ≤ 65536) : ∀ (bs : List (List Int)) (ts : List S25) (i : Nat), bs ≠ [] → kC bs ts → Put r i (jn bs ++ [93]) → ∃ ks, J r .els i (i + (jn bs).length + 1) 0 [] ks ∧ fG r ks ts
 | [], _, _, h, _, _ => absurd rfl h
 | [x], [t], i, _, hv, hp => by
   have hp' : Put r i (x ++ [93]) := hp
   obtain ⟨ns, ks, hJ, hT⟩ := hv.1 r i hR hp'.left
   obtain ⟨h1, h2⟩ := hp'.right.head
   exact ⟨_, .el1 i _ (i + x.length) t.f0 ns ks hJ (Blanks.refl _ _) h1 h2, hT, trivial⟩
 | x :: y :: l, t :: ts, i, _, hv, hp => by
   have hp' : Put r i (x ++ 44 :: (jn (y :: l) ++ [93])) := by simpa [jn] using hp
   obtain ⟨ns, ks, hJ, hT⟩ := hv.1 r i hR hp'.left
   obtain ⟨h1, h2⟩ := hp'.right.head
   obtain ⟨ks2, hJ2, hT2⟩ := zt hR (y :: l) ts _ (by simp) hv.2 hp'.right.tail
   refine ⟨⟨t.f0, (i : Nat), (i + x.length : Nat), ns, ks⟩ :: ks2, ?_, hT, hT2⟩
   have := J.els i _ (i + x.length) (i + x.length + 1) _ t.f0 ns ks ks2 hJ (Blanks.refl _ _) h1 h2 (Blanks.refl _ _) hJ2
   rwa [show i + x.length + 1 + (jn (y :: l)).length + 1 = i + (jn (x :: y :: l)).length + 1 by simp [jn]; omega] at this
 | [_], [], _, _, h, _ => h.elim
 | [_], _ :: _ :: _, _, _, h, _ => h.2.elim
 | _ :: _ :: _, [], _, _, h, _ => h.elim
theorem DT {bs : List (List Int)} {ts : List S25} (h : kC bs ts) : ul (91 :: (jn bs ++ [93])) ⟨5, ⟨#[]⟩, [], ts⟩ := by
 intro r i hR hp
 obtain ⟨h1, h2⟩ := hp.head
 cases bs with
 | nil =>
   cases ts with
   | cons => exact h.elim
   | nil =>
   obtain ⟨h3, h4⟩ := (show Put r (i + 1) [93] from hp.tail).head
   exact ⟨[], [], .arr0 i (i + 1) h1 h2 (Blanks.refl _ _) h3 h4, jW hR _ _ 5 (by decide) (by decide) (by simp) (by simp) trivial trivial⟩
 | cons x l =>
   obtain ⟨ks, hJ, hT⟩ := zt hR (x :: l) ts (i + 1) (by simp) h hp.tail
   have hl := hJ.lens
   have hb := hJ.bound
   have hv : J r .val i (i + (91 :: (jn (x :: l) ++ [93])).length) 5 [] ks := by
    have := J.arr i (i + 1) _ ks h1 h2 (Blanks.refl _ _) hJ
    rwa [show i + 1 + (jn (x :: l)).length + 1 = i + (91 :: (jn (x :: l) ++ [93])).length by simp; omega] at this
   exact ⟨[], ks, hv, jW hR _ _ 5 (by decide) (by decide) (by simp) (by omega) trivial hT⟩
def mb (n v : List Int) : List Int := n ++ 58 :: v
theorem xH {r : ByteArray} (hR : r.size ≤ 65536) : ∀ (nl bs : List (List Int)) (vs : List ByteArray) (ts : List S25) (i : Nat), bs ≠ [] → nl.length = bs.length → Names nl vs → kC bs ts → Put r i (jn (List.zipWith mb nl bs) ++ [125]) →
 ∃ ns ks, J r .mems i (i + (jn (List.zipWith mb nl bs)).length + 1) 0 ns ks ∧ fH r ns vs ∧ fG r ks ts
 | _, [], _, _, _, h, _, _, _, _ => absurd rfl h
 | [], _ :: _, _, _, _, _, h, _, _, _ => by simp at h
 | [n], [x], [v], [t], i, _, _, hn, hv, hp => by
   have hp' : Put r i (n ++ 58 :: (x ++ [125])) := by simpa [jn, mb] using hp
   obtain ⟨q, q1, q2, q3, q4, q5⟩ := hn.1 r i hR hp'.left
   have hp2 := hp'.right
   rw [q1] at hp2
   obtain ⟨h1, h2⟩ := hp2.head
   obtain ⟨ns, ks, hJ, hT⟩ := hv.1 r _ hR hp2.tail.left
   obtain ⟨h3, h4⟩ := hp2.tail.right.head
   refine ⟨[⟨(i : Nat), (q + 1 : Nat)⟩], [⟨t.f0, (q + 1 + 1 : Nat), (q + 1 + 1 + x.length : Nat), ns, ks⟩], ?_, ⟨q5, trivial⟩, hT, trivial⟩
   have := J.mem1 i q (q + 1) (q + 1 + 1) _ _ t.f0 ns ks q2 q3 q4 (Blanks.refl _ _) h1 h2 (Blanks.refl _ _) hJ (Blanks.refl _ _) h3 h4
   rwa [show q + 1 + 1 + x.length + 1 = i + (jn (List.zipWith mb [n] [x])).length + 1 by simp [jn, mb]; omega] at this
 | n :: n2 :: nl, x :: y :: l, v :: vs, t :: ts, i, _, hlen, hn, hv, hp => by
   have hp' : Put r i (n ++ 58 :: (x ++ 44 :: (jn (List.zipWith mb (n2 :: nl) (y :: l)) ++ [125]))) := by simpa [jn, mb] using hp
   obtain ⟨q, q1, q2, q3, q4, q5⟩ := hn.1 r i hR hp'.left
   have hp2 := hp'.right
   rw [q1] at hp2
   obtain ⟨h1, h2⟩ := hp2.head
   obtain ⟨ns, ks, hJ, hT⟩ := hv.1 r _ hR hp2.tail.left
   obtain ⟨h3, h4⟩ := hp2.tail.right.head
   obtain ⟨ns2, ks2, hJ2, hN2, hT2⟩ := xH hR (n2 :: nl) (y :: l) vs ts _ (by simp) (by simpa using hlen) hn.2 hv.2 hp2.tail.right.tail
   refine ⟨⟨(i : Nat), (q + 1 : Nat)⟩ :: ns2, ⟨t.f0, (q + 1 + 1 : Nat), (q + 1 + 1 + x.length : Nat), ns, ks⟩ :: ks2, ?_, ⟨q5, hN2⟩, hT, hT2⟩
   have := J.mems i q (q + 1) (q + 1 + 1) _ _ _ _ t.f0 ns ns2 ks ks2 q2 q3 q4 (Blanks.refl _ _) h1 h2 (Blanks.refl _ _) hJ (Blanks.refl _ _) h3 h4 (Blanks.refl _ _) hJ2
   rwa [show q + 1 + 1 + x.length + 1 + (jn (List.zipWith mb (n2 :: nl) (y :: l))).length + 1 = i + (jn (List.zipWith mb (n :: n2 :: nl) (x :: y :: l))).length + 1 by simp [jn, mb]; omega] at this
 | _ :: _ :: _, [_], _, _, _, _, h, _, _, _ => by simp at h
 | [_], _ :: _ :: _, _, _, _, _, h, _, _, _ => by simp at h
 | _ :: _, _ :: _, [], _, _, _, _, h, _, _ => h.elim
 | _ :: _, _ :: _, _ :: _, [], _, _, _, _, h, _ => h.elim
 | [_], [_], _ :: _ :: _, _, _, _, _, h, _, _ => h.2.elim
 | [_], [_], [_], _ :: _ :: _, _, _, _, _, h, _ => h.2.elim
theorem DR {nl bs : List (List Int)} {vs : List ByteArray} {ts : List S25} (hlen : nl.length = bs.length) (hn : Names nl vs) (h : kC bs ts) : ul (123 :: (jn (List.zipWith mb nl bs) ++ [125])) ⟨6, ⟨#[]⟩, vs, ts⟩ := by
 intro r i hR hp
 obtain ⟨h1, h2⟩ := hp.head
 cases bs with
 | nil =>
   obtain rfl := List.eq_nil_of_length_eq_zero hlen
   cases ts with
   | cons => exact h.elim
   | nil =>
   cases vs with
   | cons => exact hn.elim
   | nil =>
   obtain ⟨h3, h4⟩ := (show Put r (i + 1) [125] from hp.tail).head
   exact ⟨[], [], .obj0 i (i + 1) h1 h2 (Blanks.refl _ _) h3 h4, jW hR _ _ 6 (by decide) (by decide) (by simp) (by simp) trivial trivial⟩
 | cons x l =>
   obtain ⟨ns, ks, hJ, hN, hT⟩ := xH hR nl (x :: l) vs ts (i + 1) (by simp) hlen hn h hp.tail
   have hl := hJ.lens
   have hb := hJ.bound
   have hv : J r .val i (i + (123 :: (jn (List.zipWith mb nl (x :: l)) ++ [125])).length) 6 ns ks := by
    have := J.obj i (i + 1) _ ns ks h1 h2 (Blanks.refl _ _) hJ
    rwa [show i + 1 + (jn (List.zipWith mb nl (x :: l))).length + 1 = i + (123 :: (jn (List.zipWith mb nl (x :: l)) ++ [125])).length by simp; omega] at this
   exact ⟨ns, ks, hv, jW hR _ _ 6 (by decide) (by decide) (by omega) (by omega) hN hT⟩
theorem ul.read {bs : List Int} {t : S25} (h : ul bs t) (hb : Byt bs) (hl : bs.length ≤ 65536) : Evt (fun k => fO.f k (strOfNums bs)) (t.f0, t.f1, t.f2, t.f3, true) := by
 have hz := uN bs
 obtain ⟨ns, ks, hJ, hT⟩ := h (strOfNums bs) 0 (by omega) (Bv hb)
 rw [Nat.zero_add] at hJ hT
 unfold fO.f
 exact Evt.bind (AX (by omega) (Blanks.refl _ _) hJ (by rw [hz]; exact Blanks.refl _ _)) (Evt.pos (by simp) (Evt.bind hT (Evt.pure _)))
def mX (s : ByteArray) (a e : Nat) : List Int := bytesOf (s.extract a e)
theorem jE {s : ByteArray} {a e : Nat} (h : e ≤ s.size) : (mX s a e).length = e - a := by rw [mX, bytesOf_length, ByteArray.size_extract]; omega
theorem wK {s r : ByteArray} {a e i : Nat} (h1 : a ≤ e) (h : e ≤ s.size) (hp : Put r i (mX s a e)) : Part s r a i (e - a) := by
 have hl := hp.le
 rw [jE h] at hl
 refine ⟨by omega, hl, fun m hm => ?_⟩
 rw [hp.at_ m (by rw [jE h]; exact hm), mX, sO, jo s a e m (by omega) h]
theorem vU {s : ByteArray} (hS : s.size ≤ 65536) {a e : Nat} {kd : Int} {ns : List S44} {ks : List S32} (h : J s .val a e kd ns ks) (hp : Prd s a) {t : S25} (hk : t.f0 = kd) (ht : Evt (fun k => bG.f k s kd (a : Int) (e : Int) ns ks) (t.f0, t.f1, t.f2, t.f3)) : ul (mX s a e) t := by
 intro r i hR hput
 have hb := h.bound
 have P := wK (by omega) hb.2 hput
 have hJ := h.move P (Nat.le_refl _) (by omega)
 obtain ⟨keys, ts, _, _, _, _, h5⟩ := h.trees P hS hR hp (Nat.le_refl _) (by omega)
 obtain ⟨txt, h6, h7⟩ := h5 rfl
 have hu := ht.uniq h6
 rw [jE hb.2, hk]
 rw [show a - a + i = i by omega, show e - a + i = i + (e - a) by omega] at hJ
 refine ⟨_, _, hJ, ?_⟩
 rw [show (a : Int) + ((i : Int) - a) = (i : Int) by omega, show (e : Int) + ((i : Int) - a) = ((i + (e - a) : Nat) : Int) by omega] at h7
 rw [hk] at hu
 rw [hu]
 exact h7
theorem zl {s : ByteArray} {a q : Nat} (h0 : a < s.size) (h1 : bt s a = 34) (h2 : gG s (a + 1) q) {v : ByteArray} (hv : sJ s ⟨(a : Nat), (q + 1 : Nat)⟩ v) : Bj (mX s a (q + 1)) v := by
 intro r i hR hput
 have hb := h2.bound
 have P := wK (by omega) (show q + 1 ≤ s.size by omega) hput
 obtain ⟨a', q', e1, e2, e3, e4, hs⟩ := hv.at_
 have ea : a' = a := by have : (a : Int) = a' := e1; omega
 have eq : q' = q := by have : ((q + 1 : Nat) : Int) = ((q' + 1 : Nat) : Int) := e2; omega
 subst ea; subst eq
 have hN := (P.name hs (Nat.le_refl _) (by omega) (by omega)).2
 have hQ := P.D6 h2 (by omega) (by omega)
 have hr := P.hr
 rw [yl _ a' (q' + 1) i (i + (q' - a') + 1) (by omega) (by omega)] at hN
 rw [show a' + 1 - a' + i = i + 1 by omega, show q' - a' + i = i + (q' - a') by omega] at hQ
 have hat := P.at a' (Nat.le_refl _) (by omega)
 rw [show a' - a' + i = i by omega] at hat
 refine ⟨i + (q' - a'), by rw [jE (by omega)]; omega, by omega, by rw [hat]; exact h1, hQ, hN⟩
def kL (s : ByteArray) (p : S32) : List Int := mX s p.f1.toNat p.f2.toNat
def nT (s : ByteArray) (n : S44) : List Int := mX s n.f0.toNat n.f1.toNat
theorem nM {s : ByteArray} (hS : s.size ≤ 65536) {a e : Nat} {kd : Int} {ns : List S44} {ks : List S32} (h : J s .val a e kd ns ks) (hp : Prd s a) {t : S25} (ht : Evt (fun k => bG.f k s kd (a : Int) (e : Int) ns ks) (t.f0, t.f1, t.f2, t.f3)) : t.f0 = kd := by
 obtain ⟨_, _, h⟩ := vS hS h hp
 obtain ⟨txt, keys, ts, g, _⟩ := h rfl
 exact (Prod.mk.inj (ht.uniq g)).1
def Md.room : Md → Int → Nat → Nat
 | .val, kd, n => if kd = 5 ∨ kd = 6 then n - 1 else n
 | _, _, n => n
structure Pcs (s : ByteArray) (z : Nat) (ns : List S44) (ks : List S32) (vs : List ByteArray) (ts : List S25) : Prop where
 vals : kC (ks.map (kL s)) ts
 names : Names (ns.map (nT s)) vs
 Gy : (jn (ks.map (kL s))).length < z
 Gw : (jn (List.zipWith mb (ns.map (nT s)) (ks.map (kL s)))).length < z
theorem wB (x : List Int) (l : List (List Int)) : (jn (x :: l)).length ≤ x.length + 1 + (jn l).length := by
 cases l with
 | nil => simp [jn]
 | cons y l => simp [jn]; omega
theorem Pcs.zero {s : ByteArray} {z : Nat} (h : 0 < z) : ∀ (vs : List ByteArray) (ts : List S25), fH s [] vs → fG s [] ts → Pcs s z [] [] vs ts := by
 intro vs ts h1 h2
 cases vs with
 | cons => exact h1.elim
 | nil =>
 cases ts with
 | cons => exact h2.elim
 | nil => exact ⟨trivial, trivial, h, h⟩
theorem kw (s : ByteArray) (kd : Int) (b e : Nat) (ns : List S44) (ks : List S32) : kL s ⟨kd, (b : Int), (e : Int), ns, ks⟩ = mX s b e := by simp [kL]
theorem qX (s : ByteArray) (b e : Nat) : nT s ⟨(b : Int), (e : Int)⟩ = mX s b e := by simp [nT]
theorem J.pieces {s : ByteArray} (hS : s.size ≤ 65536) {md : Md} {a e : Nat} {kd : Int} {ns : List S44} {ks : List S32} (h : J s md a e kd ns ks) : Prd s a → ∀ (vs : List ByteArray) (ts : List S25), fH s ns vs → fG s ks ts → Pcs s (md.room kd (e - a)) ns ks vs ts := by
 induction h with
 | null a h => exact fun _ => Pcs.zero (by simp [Md.room])
 | fals a h => exact fun _ => Pcs.zero (by simp [Md.room])
 | tru a h => exact fun _ => Pcs.zero (by simp [Md.room])
 | num a e h0 h1 h2 h3 => exact fun _ => Pcs.zero (by simp [Md.room]; omega)
 | str a q h0 h1 h2 => exact fun _ => Pcs.zero (by have := h2.bound; simp [Md.room]; omega)
 | arr0 a j h0 h1 h2 h3 h4 => exact fun _ => Pcs.zero (by have := h2.le; simp [Md.room]; omega)
 | arr a j e ks h0 h1 h2 h3 ih =>
   intro hp vs ts hn ht
   have hle := h2.le
   have hb := h3.bound
   obtain ⟨g1, g2, g3, g4⟩ := ih (h2.prd hS (by omega) (Prd.plain hS hp h0 (by omega))) vs ts hn ht
   simp [Md.room] at g3 g4
   exact ⟨g1, g2, by simp [Md.room]; omega, by simp [Md.room]; omega⟩
 | obj0 a j h0 h1 h2 h3 h4 => exact fun _ => Pcs.zero (by have := h2.le; simp [Md.room]; omega)
 | obj a j e ns ks h0 h1 h2 h3 ih =>
   intro hp vs ts hn ht
   have hle := h2.le
   have hb := h3.bound
   obtain ⟨g1, g2, g3, g4⟩ := ih (h2.prd hS (by omega) (Prd.plain hS hp h0 (by omega))) vs ts hn ht
   simp [Md.room] at g3 g4
   exact ⟨g1, g2, by simp [Md.room]; omega, by simp [Md.room]; omega⟩
 | el1 a m e kd ns ks h0 h1 h2 h3 ih =>
   intro hp vs ts hn ht
   have hle := h1.le
   have hb := h0.bound
   cases vs with
   | cons => exact hn.elim
   | nil =>
   match ts, ht with
   | [t], ht =>
   have hk := nM hS h0 hp ht.1
   refine ⟨⟨?_, trivial⟩, trivial, ?_, ?_⟩
   ·rw [kw]
    exact vU hS h0 hp hk ht.1
   ·simp [jn, kw, jE hb.2, Md.room]; omega
   ·simp [jn, Md.room]; omega
 | els a m f q e kd ns ks l h0 h1 h2 h3 h4 h5 ih ih2 =>
   intro hp vs ts hn ht
   have hle := h1.le
   have hle2 := h4.le
   have hb := h5.bound
   have hb0 := h0.bound
   cases vs with
   | cons => exact hn.elim
   | nil =>
   match ts, ht with
   | t :: ts, ht =>
   have hk := nM hS h0 hp ht.1
   obtain ⟨g1, g2, g3, g4⟩ := ih2 (h4.prd hS (by omega) (Prd.plain hS (h1.prd hS (by omega) (h0.prd hS hp)) h2 (by omega))) [] ts trivial ht.2
   simp [Md.room] at g3
   refine ⟨⟨?_, g1⟩, trivial, ?_, ?_⟩
   ·rw [kw]
    exact vU hS h0 hp hk ht.1
   ·rw [List.map_cons, kw]
    have := wB (mX s a m) (l.map (kL s))
    rw [jE hb0.2] at this
    simp [Md.room]; omega
   ·simp [jn, Md.room]; omega
 | mem1 a q f b m e kd ns ks h0 h1 h2 h3 h4 h5 h6 h7 h8 h9 h10 ih =>
   intro hp vs ts hn ht
   have hb := h7.bound
   have hq := h2.bound
   have e1 := h3.le
   have e2 := h6.le
   have e3 := h8.le
   have hpb := h6.prd hS (by omega) (Prd.plain hS (h3.prd hS (by omega) (gG.prd hS h0 h1 h2 hp).2) h4 (by omega))
   match vs, ts, hn, ht with
   | [v], [t], hn, ht =>
   have hk := nM hS h7 hpb ht.1
   have l1 := jE (s := s) (a := a) (show q + 1 ≤ s.size by omega)
   have l2 := jE (s := s) (a := b) hb.2
   refine ⟨⟨?_, trivial⟩, ⟨?_, trivial⟩, ?_, ?_⟩
   ·rw [kw]
    exact vU hS h7 hpb hk ht.1
   ·rw [qX]
    exact zl h0 h1 h2 hn.1
   ·simp only [List.map_cons, List.map_nil, kw, jn, l2]; simp [Md.room]; omega
   ·simp only [List.map_cons, List.map_nil, kw, qX, List.zipWith_cons_cons, List.zipWith_nil_left, jn, mb, List.length_append, List.length_cons, l1, l2]; simp [Md.room]; omega
 | mems a q f b m g x e kd ns nl ks l h0 h1 h2 h3 h4 h5 h6 h7 h8 h9 h10 h11 h12 ih ih2 =>
   intro hp vs ts hn ht
   have hb := h7.bound
   have hq := h2.bound
   have hx := h12.bound
   have e1 := h3.le
   have e2 := h6.le
   have e3 := h8.le
   have e4 := h11.le
   have hpb := h6.prd hS (by omega) (Prd.plain hS (h3.prd hS (by omega) (gG.prd hS h0 h1 h2 hp).2) h4 (by omega))
   match vs, ts, hn, ht with
   | v :: vs, t :: ts, hn, ht =>
   have hk := nM hS h7 hpb ht.1
   obtain ⟨g1, g2, g3, g4⟩ := ih2 (h11.prd hS (by omega) (Prd.plain hS (h8.prd hS (by omega) (h7.prd hS hpb)) h9 (by omega))) vs ts hn.2 ht.2
   replace g3 : (jn (l.map (kL s))).length < e - x := g3
   replace g4 : (jn (List.zipWith mb (nl.map (nT s)) (l.map (kL s)))).length < e - x := g4
   have l1 := jE (s := s) (a := a) (show q + 1 ≤ s.size by omega)
   have l2 := jE (s := s) (a := b) hb.2
   refine ⟨⟨?_, g1⟩, ⟨?_, g2⟩, ?_, ?_⟩
   ·rw [kw]
    exact vU hS h7 hpb hk ht.1
   ·rw [qX]
    exact zl h0 h1 h2 hn.1
   ·rw [List.map_cons, kw]
    have := wB (mX s b m) (l.map (kL s))
    rw [l2] at this
    simp [Md.room]; omega
   ·rw [List.map_cons, List.map_cons, kw, qX, List.zipWith_cons_cons]
    have := wB (mb (mX s a (q + 1)) (mX s b m)) (List.zipWith mb (nl.map (nT s)) (l.map (kL s)))
    rw [mb, List.length_append, List.length_cons, l1, l2] at this
    rw [mb]
    simp only [Md.room]
    omega
end Go.Proofs.YtpgfjbimodnkeaaGreatDoor.Scan
namespace Go.Proofs.YtpgfjbimodnkeaaGreatDoor.Dec
open Go Go.RowKit Go.Proofs.YtpgfjbimodnkeaaGreatDoorW.PrintWords Go.Proofs.YtpgfjbimodnkeaaGreatDoorW.PrintLast Go.Proofs.YtpgfjbimodnkeaaGreatDoorW.PrintMore Go.Proofs.YtpgfjbimodnkeaaGreatDoor.Scan Go.Proofs.YtpgfjbimodnkeaaGreatDoor.Q
def R6 (p : Rs) (cs : List Value) : Prop := cs = p.c6
theorem zh (ps : List Rs) : gu R6 6 ps (ps.flatMap Rs.c6) := by
 have key : ∀ (l acc : List Rs), gu R6 6 acc (acc.flatMap Rs.c6) → gu R6 6 (acc ++ l) ((acc ++ l).flatMap Rs.c6) := by
  intro l
  induction l with
  | nil => intro acc h; simpa using h
  | cons p l ih =>
    intro acc h
    have h4 : gu R6 6 (acc ++ [p]) ((acc ++ [p]).flatMap Rs.c6) := by
     rw [List.flatMap_append]
     simpa using h.snoc (p := p) (c := p.c6) rfl rfl
    have h2 := ih (acc ++ [p]) h4
    rwa [List.append_assoc] at h2
 exact key ps [] (gu.none _ _)
theorem yP {w : World} {A : Option Addr} {n : Nat} {ps : List Rs} (h : gV R6 6 w A n ps) (i : Nat) (hi : i < ps.length) : ∃ ad, A = some ad ∧ w.cell? ⟨(ad.add (i * 6)).block, (ad.add (i * 6)).off + 1, none⟩ = some (.string ps[i].raw) := by
 obtain ⟨ad, e, hc⟩ := h.2.2 (by have := h.1; omega)
 obtain ⟨c, hs, hr, hcell⟩ := hc i _ (List.getElem?_eq_getElem hi)
 unfold R6 at hr
 subst hr
 exact ⟨ad, e, by rw [← jq _ _ 1 (by omega)]; exact hcell 1 _ rfl⟩
theorem BH (c : Nat) : ∀ l : List (List Int), (∀ x ∈ l, x.length ≤ c) → (jn l).length ≤ l.length * (c + 1)
 | [], _ => by simp [jn]
 | [x], h => by have := h x (by simp); simp [jn]; omega
 | x :: y :: l, h => by
   have h1 := h x (by simp)
   have h2 := BH c (y :: l) (fun z hz => h z (List.mem_cons_of_mem _ hz))
   rw [jn, List.length_append, List.length_cons, List.length_cons, Nat.succ_mul]
   omega
theorem Ep {l : List (List Int)} {j : Nat} (h : j < l.length) : jn (l.take (j + 1)) = if j = 0 then l[j] else jn (l.take j) ++ 44 :: l[j] := by
 rw [List.take_succ_eq_append_getElem h]
 by_cases h0 : j = 0
 ·subst h0
  rw [if_pos rfl]
  rfl
 ·rw [if_neg h0, vY _ _ (fun he => h0 (by have := congrArg List.length he; rw [List.length_take, List.length_nil] at this; omega))]
theorem yZ {l : List (List Int)} {n k : Nat} {x : List Int} (hl : l.length = n) (hk : k < n) (h : l[n - (k + 1)]? = some x) (b : Int) {bs : List Int} (hbs : bs = b :: jn (l.take (n - (k + 1)))) :
 (n = k + 1 → bs ++ x = b :: jn (l.take (n - k))) ∧ (n ≠ k + 1 → bs ++ [44] ++ x = b :: jn (l.take (n - k))) := by
 obtain ⟨h1, h2⟩ := List.getElem?_eq_some_iff.1 h
 have h3 := Ep h1
 rw [h2, show n - (k + 1) + 1 = n - k by omega] at h3
 subst hbs
 refine ⟨fun hn => ?_, fun hn => ?_⟩
 ·rw [if_pos (by omega)] at h3
  rw [h3, show n - (k + 1) = 0 by omega]
  rfl
 ·rw [if_neg (by omega)] at h3
  rw [h3]
  simp
theorem J.same {s : ByteArray} {md : Md} {a e : Nat} {kd : Int} {ns : List S44} {ks : List S32} (h : J s md a e kd ns ks) : md = .mems ∨ md = .val ∧ kd = 6 → ns.length = ks.length := by
 induction h with
 | null | fals | tru | num | str | arr0 | obj0 => intro _; rfl
 | arr a j e ks h0 h1 h2 h3 ih => rintro (h | ⟨_, h⟩) <;> simp at h
 | obj a j e ns ks h0 h1 h2 h3 ih => exact fun _ => ih (.inl rfl)
 | el1 | els => rintro (h | ⟨h, _⟩) <;> cases h
 | mem1 => intro _; rfl
 | mems a q f b m g x e kd ns nl ks l h0 h1 h2 h3 h4 h5 h6 h7 h8 h9 h10 h11 h12 ih ih2 => intro _; rw [List.length_cons, List.length_cons, ih2 (.inl rfl)]
theorem wL {α : Type} : ∀ (ps : List (α × α)) (k : Nat) (p : α × α), ps[k]? = some p → (ps.flatMap fun p => [p.1, p.2])[2 * k]? = some p.1 ∧ (ps.flatMap fun p => [p.1, p.2])[2 * k + 1]? = some p.2
 | [], k, p, h => by simp at h
 | q :: ps, 0, p, h => by
   obtain rfl : q = p := by simpa using h
   exact ⟨rfl, rfl⟩
 | q :: ps, k + 1, p, h => by
   have := wL ps k p (by simpa using h)
   rw [show 2 * (k + 1) = 2 * k + 1 + 1 by omega]
   exact this
theorem qx {α : Type} : ∀ ps : List (α × α), (ps.flatMap fun p => [p.1, p.2]).length = ps.length * 2
 | [] => rfl
 | p :: ps => by rw [List.flatMap_cons, List.length_append, qx ps, List.length_cons]; simp; omega
theorem xn {α : Type} (f g : α → List Int) : ∀ ps : List α, List.zipWith mb (ps.map f) (ps.map g) = ps.map fun p => mb (f p) (g p)
 | [] => rfl
 | p :: ps => by simp [xn f g ps]
structure MR (w4 : World) (o : Value) (bs : List Int) (W : World) : Prop where
 bel : Below w4.heap.size w4 W
 own : W.ownsRow w4.heap.size 5 1 o bs.length (nums .u8 bs)
theorem sU {s : ByteArray} : ∀ {ks : List S32} {ps : List (Rs × Rs)}, iw s ks ps → (ps.map Prod.snd).map (fun r => bytesOf r.raw) = ks.map (kL s)
 | [], [], _ => rfl
 | p :: ks, r :: ps, h => by
   obtain ⟨b, e, h1, h2, _, _, h3, _⟩ := h.1.at_
   rw [List.map_cons, List.map_cons, List.map_cons, sU h.2, kL, h1, h2, h3, Int.toNat_natCast, Int.toNat_natCast]
   rfl
 | [], _ :: _, h => h.elim
 | _ :: _, [], h => h.elim
theorem uQ {s : ByteArray} : ∀ {ns : List S44} {ps : List (Rs × Rs)}, iC s ns ps → (ps.map Prod.fst).map (fun r => bytesOf r.raw) = ns.map (nT s)
 | [], [], _ => rfl
 | p :: ks, r :: ps, h => by
   obtain ⟨b, q, h1, h2, _, _, h3, _⟩ := h.1.at_
   rw [List.map_cons, List.map_cons, List.map_cons, uQ h.2, nT, h1, h2, h3, Int.toNat_natCast, Int.toNat_natCast]
   rfl
 | [], _ :: _, h => h.elim
 | _ :: _, [], h => h.elim
theorem rC {w w3 : World} {Bo m : Nat} {f : Rs × Rs → List Value} (hb : Below w.heap.size w w3) (hO : w3.heap[Bo]? = some (.cells #[.slice none 0 0] 103 (0, 0))) (hlo : w.heap.size ≤ Bo) : Kept w.heap.size (w3.heap.size + 4) Bo m f w [] w3 :=
 ⟨hb, ⟨_, hO, by simpa using rq w3 (w3.heap.size + 4) 67 6⟩, hb.size, hlo, by have := jA hO; omega⟩
theorem wG (w : World) (B : Nat) (s : ByteArray) (hs : s.size ≤ 65536) (ks : List S32) (hJ : J s .val 0 s.size 5 [] ks) (hP : Prd s 0) (hT : Tabs B w) :
 Calls Tryz.prog 66 #[.string s, .string ⟨#[]⟩] w fun e w' => e = .returned (.string (strOfNums (91 :: (jn (ks.map (kL s)).reverse ++ [93])))) ∧ Below w.heap.size w w' := by
 have hb := hJ.bound
 have h0 : 0 < s.size := by omega
 have h91 : bt s (0 : Nat) = 91 := (uM hJ (Blanks.refl _ _)).1
 have hkl := lU hJ
 have hin := fun args W => qQ (P := Tryz.prog) (f := 92) Tryz.func92 (by kernel_rfl) rfl args W
 have hpo := fun W => sN W s h0 (.inr h91)
 obtain ⟨Bl, hBl⟩ : ∃ Bl, (ks.map (kL s)).reverse = Bl := ⟨_, rfl⟩
 rw [hBl]
 replace hBl := ae.mk hBl
 have hia := fun W => sQ s h0 true (by rw [h91]; rfl) ⟨#[]⟩ 0 0 W
 replace hJ := ae.mk hJ
 replace hP := ae.mk hP
 replace hT := ae.mk hT
 replace h91 := ae.mk h91
 replace hin := ae.mk hin
 go_enter Tryz.func66, Tryz.ntmps66
 go_wp2_with (fail)
 with_reducible refine (hpo _).mono ?_
 rintro e w1 ⟨rfl, hB1⟩
 go_wp2_with (fail)
 with_reducible refine (hia _).mono ?_
 rintro e w2 ⟨rfl, hB2⟩
 have kr := bI (dX w1 (.cells (jh ⟨5, s, ⟨#[]⟩, 0, 0⟩) 67)) hB2
 have hb2 : Below w.heap.size w w2 := bZ (bZ hB1 (ai (Below.refl _ _) _)) hB2
 have kr3 := aN kr (.cells #[.slice none 0 0] 103)
 have hb3 : Below w.heap.size w (w2.alloc (.cells #[.slice none 0 0] 103)) := bZ hb2 (ai (Below.refl _ _) _)
 have kO3 := dX w2 (.cells #[.slice none 0 0] 103)
 have d0 := (ah kr3 0).trans rfl
 have d1 := (ah kr3 1).trans rfl
 have d2 := (ah kr3 2).trans rfl
 have d3 := (ah kr3 3).trans rfl
 have d4 := (ah kr3 4).trans rfl
 have d5 := (ah kr3 5).trans rfl
 have hlo : w.heap.size ≤ w2.heap.size := hb2.size
 have hK3 := rC (m := 1) (f := fun p => p.2.c6) hb3 kO3 hlo
 replace kr3 := ae.mk kr3
 replace hb3 := ae.mk hb3
 replace hb2 := ae.mk hb2
 replace kO3 := ae.mk kO3
 replace hK3 := ae.mk hK3
 replace hlo := ae.mk hlo
 have hmf : ∀ (fn : Fn) (first cap : Array Value) (w : World), (Instr.makeFunc fn first cap).run Tryz.prog w = .ok (.func fn first cap) w := fun _ _ _ _ => rfl
 clear hB1 hB2 kr hpo hia
 go_wp2_with (fail)
 with_reducible refine (xe w _ B w.heap.size _ 0 (Kept w.heap.size _ w2.heap.size 1 (fun p => p.2.c6) w) 92 ⟨w2.heap.size, 0, none⟩ s hs ks s.size hJ.out (Blanks.refl _ _) hP.out ⟨#[]⟩ 0 hT.out hT.out.size (uf _ _ _ _ _ _) (yM _ _ _ _ s [] ks) hin.out rfl hK3.out).mono ?_
 rintro e w4 ⟨rfl, ps, hK4, hok, hle, hend, -⟩
 have hlen : ps.length = ks.length := hend.resolve_right (fun h => by omega)
 rw [hlen, List.take_length] at hok
 have hraw := sU hok
 obtain ⟨v, kO, hown⟩ := hK4.out
 have hown2 := hown
 rw [Nat.mul_one, hlen, show (ps.flatMap fun p => p.2.c6) = (ps.map Prod.snd).flatMap Rs.c6 by rw [List.flatMap_map]] at hown2
 obtain ⟨A, c, rfl, hR⟩ := jC hown2 (zh _) (by rw [List.length_map, hlen])
 have hL : (ps.map Prod.snd).length = ks.length := by rw [List.length_map, hlen]
 have hB4 := ae.mk hK4.bel
 generalize ps.map Prod.snd = L at hraw hR hL
 obtain ⟨bl, hbs0⟩ : ∃ bl, ks.map (kL s) = bl := ⟨_, rfl⟩
 have hBl2 := hBl.out
 rw [hbs0] at hraw hBl2
 have hbl : bl.length = ks.length := by rw [← hbs0, List.length_map]
 have hsmall : ∀ x ∈ bl.reverse, x.length ≤ 65536 := by
  intro x hx
  rw [List.mem_reverse, ← hbs0] at hx
  obtain ⟨p, _, rfl⟩ := List.mem_map.1 hx
  rw [kL, mX, bytesOf_length, ByteArray.size_extract]
  omega
 have hjn : ∀ j, (jn (bl.reverse.take j)).length ≤ 4295032832 := fun j => by
  have h1 := BH 65536 (bl.reverse.take j) (fun x hx => hsmall x (List.mem_of_mem_take hx))
  have h2 : (bl.reverse.take j).length ≤ 65536 := by rw [List.length_take, List.length_reverse]; omega
  have h3 := Nat.mul_le_mul_right (65536 + 1) h2
  omega
 have hat : ∀ (k : Nat) (r : Rs), L[k]? = some r → bl.reverse[ks.length - (k + 1)]? = some (bytesOf r.raw) ∧ r.raw.size ≤ 65536 := by
  intro k r hr
  have hk : k < ks.length := by have := (List.getElem?_eq_some_iff.1 hr).1; omega
  have h := congrArg (fun l => l[k]?) hraw
  simp only [List.getElem?_map, hr] at h
  have h2 : bl.reverse[ks.length - (k + 1)]? = some (bytesOf r.raw) := by
   rw [List.getElem?_reverse (by omega), show bl.length - 1 - (ks.length - (k + 1)) = k by omega]
   exact h.symm
  have h3 := hsmall _ (List.mem_of_getElem? h2)
  rw [bytesOf_length] at h3
  exact ⟨h2, h3⟩
 have hrs : bl.reverse.length = ks.length := by rw [List.length_reverse, hbl]
 rw [hBl2] at hsmall hjn hat hrs
 have kc := (ah kO 0).trans rfl
 replace kO := ae.mk kO
 replace hR := ae.mk hR
 replace hjn := ae.mk hjn
 replace hat := ae.mk hat
 replace hrs := ae.mk hrs
 replace hL := ae.mk hL
 have hbl0 := ae.mk hbl
 have hlen0 := ae.mk hlen
 replace hbl := ae.mk (show ([] : List Int).length ≤ 8589934592 by simp)
 clear hraw hown hown2 hK4 hBl2 hbs0 hok hle hend hlen hsmall hb3 kO3 hK3 kr3 d0 d1 d2 d3 d4 d5 hkl hb hin
 have hkl : ks.length ≤ 65536 := by have := lU hJ.out; omega
 go_wp2_with (first | ((with_reducible refine gJ (N := 23) rfl ?_); refine Kd.qw (Kd.int .u8) (w0 := w4) w4.heap.size 5 rfl (N := 23) rfl 99 _ _ rfl s.size rfl rfl Tryz.underlying99 (.int .u8 0) 1 Q.info5 (by decide) (ok := fun _ => True) trivial (by omega) (by omega) (Below.refl _ _) (Nat.le_refl _) ?_; intro v1 w1 ho hb hg hat; have hM := ae.mk (MR.mk (bs := []) hb (Kd.pz ho)); clear ho hb hg hat) | ((with_reducible refine bQ (b := .append) (xs := #[.tmp 24, .tmp 25]) rfl ?_); at_builtin; refine dB (w0 := w4) w4.heap.size rfl (.tmp 24) (.tmp 25) 99 5 .u8 1 rfl Tryz.underlying99 Q.info5 (by decide) _ [] 91 rfl rfl ?aO ?aB ?aS ?aL ?_; (case aO => exact hM.out.own); (case aB => exact hM.out.bel); (case aS => exact hM.out.bel.size); (case aL => have := hbl.out; (try simp only [List.length_append, List.length_cons, List.length_nil, bytesOf_length]); omega); intro v1 w1 ho hb hg hat; replace hM := ae.mk (MR.mk hb ho); clear ho hb hg hat; replace kc := (ah (bI kO.out hM.out.bel) 0).trans rfl))
 replace hM : ae (MR w4 _ [91] _) := hM
 go_loopg [7, 8, 9] ks.length (fun kq v7 v8 v9 W => ∃ (i j : Int) (bs : List Int), v8 = .int .i64 i ∧ v9 = .int .i64 j ∧ ae (i = (kq : Int) - 1 ∧ j = (ks.length : Int) - kq ∧ kq ≤ ks.length) ∧ ae (bs = 91 :: jn (Bl.take (ks.length - kq))) ∧ ae (MR w4 v7 bs W))
 case atStart => exact ⟨(ks.length : Int) - 1, 0, [91], by congr 1, rfl, ⟨rfl, by omega, Nat.le_refl _⟩, ⟨by rw [Nat.sub_self]; rfl⟩, hM⟩
 case round =>
  clear hM
  obtain ⟨i, j, bs, rfl, rfl, hi, hbs, hM⟩ := hrel
  obtain ⟨hi1, hi2, hi3⟩ := hi.out
  replace kc := (ah (bI kO.out hM.out.bel) 0).trans rfl
  replace hbl : ae (bs.length ≤ 4295032840) := ⟨by rw [hbs.out, List.length_cons]; have := hjn.out (ks.length - gk); omega⟩
  cases gk with
  | zero =>
    have e0 : decide (0 ≤ i) = false := decide_eq_false (by omega)
    clear hi1 hi2 hi3
    go_wp2_with (first | ((with_reducible refine bQ (b := .append) (xs := #[.tmp 48, .tmp 49]) rfl ?_); at_builtin; refine dB (w0 := w4) w4.heap.size rfl (.tmp 48) (.tmp 49) 99 5 .u8 1 rfl Tryz.underlying99 Q.info5 (by decide) _ bs 93 rfl rfl ?aO ?aB ?aS ?aL ?_; (case aO => exact hM.out.own); (case aB => exact hM.out.bel); (case aS => exact hM.out.bel.size); (case aL => have := hbl.out; (try simp only [List.length_append, List.length_cons, List.length_nil, bytesOf_length]); omega); intro v1 w1 ho hb hg hat; replace hM := ae.mk (MR.mk hb ho); clear ho hb hg hat; replace kc := (ah (bI kO.out hM.out.bel) 0).trans rfl) | (go_at_call 93; (with_reducible refine (uP _ _ _ _ _ hM.out.own).mono ?_); rintro e w5 ⟨rfl, rfl⟩))
    go_ret
    refine ⟨?_, hB4.out.trans (Below.mono hM.out.bel hB4.out.size)⟩
    have h := hbs.out
    rw [Nat.sub_zero, ← hrs.out, List.take_length] at h
    rw [h]
    rfl
  | succ gk =>
    have e0 : decide (0 ≤ i) = true := decide_eq_true (by omega)
    obtain rfl : i = (gk : Int) := by omega
    have hlt : gk < L.length := by have := hL.out; omega
    obtain ⟨ad, rfl, hx⟩ := yP hR.out gk hlt
    have hx0 := ae.mk hx
    obtain ⟨hA1, hA2⟩ := hat.out gk _ (List.getElem?_eq_getElem hlt)
    replace hA1 := ae.mk hA1
    have p1 : (0 ≤ (gk : Int)) = True := eq_true (by omega)
    have p2 : ((gk : Int) < (ks.length : Int)) = True := eq_true (by omega)
    replace hx := (hM.out.bel.cell (World.block_lt_of_cell? w4 _ hx0.out)).trans hx0.out
    have hw1 : wrap64 ((gk : Int) - 1) = (gk : Int) - 1 := by unfold wrap64; omega
    have hw2 : wrap64 (j + 1) = j + 1 := by unfold wrap64; omega
    generalize L[gk].raw = y at *
    have hstep := ae.mk (yZ hrs.out (by omega) hA1.out 91 hbs.out)
    by_cases hj : j = 0
    ·have e1 : decide (0 < j) = false := decide_eq_false (by omega)
     clear hi1 hi2 hi3
     go_wp2_with (first | ((with_reducible refine bQ (b := .append) (xs := #[.tmp 41, .tmp 46]) rfl ?_); at_builtin; refine iq (w0 := w4) w4.heap.size rfl (.tmp 41) (.tmp 46) 99 9 5 rfl Tryz.underlying99 Tryz.underlying9 Q.info5 _ bs y rfl rfl ?aO ?aB ?aS ?aL ?_; (case aO => exact hM.out.own); (case aB => exact hM.out.bel); (case aS => exact hM.out.bel.size); (case aL => have := hbl.out; (try simp only [List.length_append, List.length_cons, List.length_nil, bytesOf_length]); omega); intro v1 w1 ho hb hg; replace hM := ae.mk (MR.mk hb ho); clear ho hb hg; replace kc := (ah (bI kO.out hM.out.bel) 0).trans rfl))
     go_roundg gk
     case measure => omega
     case rel => exact ⟨(gk : Int) - 1, 1, bs ++ bytesOf y, by first | rfl | rw [hw1], rfl, ⟨rfl, by have := hi.out; omega, by have := hi.out; omega⟩, ⟨hstep.out.1 (by have := hi.out; omega)⟩, hM⟩
    ·have e1 : decide (0 < j) = true := decide_eq_true (by omega)
     clear hi1 hi2 hi3
     go_wp2_with (first | ((with_reducible refine bQ (b := .append) (xs := #[.tmp 38, .tmp 39]) rfl ?_); at_builtin; refine dB (w0 := w4) w4.heap.size rfl (.tmp 38) (.tmp 39) 99 5 .u8 1 rfl Tryz.underlying99 Q.info5 (by decide) _ bs 44 rfl rfl ?aO ?aB ?aS ?aL ?_; (case aO => exact hM.out.own); (case aB => exact hM.out.bel); (case aS => exact hM.out.bel.size); (case aL => have := hbl.out; (try simp only [List.length_append, List.length_cons, List.length_nil, bytesOf_length]); omega); intro v1 w1 ho hb hg hat; replace hM := ae.mk (MR.mk hb ho); clear ho hb hg hat; replace kc := (ah (bI kO.out hM.out.bel) 0).trans rfl; replace hx := (hM.out.bel.cell (World.block_lt_of_cell? w4 _ hx0.out)).trans hx0.out) | ((with_reducible refine bQ (b := .append) (xs := #[.tmp 41, .tmp 46]) rfl ?_); at_builtin; refine iq (w0 := w4) w4.heap.size rfl (.tmp 41) (.tmp 46) 99 9 5 rfl Tryz.underlying99 Tryz.underlying9 Q.info5 _ (bs ++ [44]) y rfl rfl ?aO ?aB ?aS ?aL ?_; (case aO => exact hM.out.own); (case aB => exact hM.out.bel); (case aS => exact hM.out.bel.size); (case aL => have := hbl.out; (try simp only [List.length_append, List.length_cons, List.length_nil, bytesOf_length]); omega); intro v1 w1 ho hb hg; replace hM := ae.mk (MR.mk hb ho); clear ho hb hg; replace kc := (ah (bI kO.out hM.out.bel) 0).trans rfl))
     go_roundg gk
     case measure => omega
     case rel => exact ⟨(gk : Int) - 1, j + 1, bs ++ [44] ++ bytesOf y, by first | rfl | rw [hw1], by first | rfl | rw [hw2], ⟨rfl, by have := hi.out; omega, by have := hi.out; omega⟩, ⟨hstep.out.2 (by have := hi.out; omega)⟩, hM⟩
theorem xy (w : World) (B : Nat) (s : ByteArray) (hs : s.size ≤ 65536) (ns : List S44) (ks : List S32) (hJ : J s .val 0 s.size 6 ns ks) (hP : Prd s 0) (hT : Tabs B w) :
 Calls Tryz.prog 66 #[.string s, .string ⟨#[]⟩] w fun e w' => e = .returned (.string (strOfNums (123 :: (jn (List.zipWith mb (ns.map (nT s)) (ks.map (kL s))).reverse ++ [125])))) ∧ Below w.heap.size w w' := by
 have hb := hJ.bound
 have h0 : 0 < s.size := by omega
 have h123 : bt s (0 : Nat) = 123 := (ug hJ (Blanks.refl _ _)).1
 have hkl := lU hJ
 have hnk := J.same hJ (.inr ⟨rfl, rfl⟩)
 have hin := fun args W => qQ (P := Tryz.prog) (f := 94) Tryz.func94 (by kernel_rfl) rfl args W
 have hpo := fun W => sN W s h0 (.inl h123)
 obtain ⟨Bl, hBl⟩ : ∃ Bl, (List.zipWith mb (ns.map (nT s)) (ks.map (kL s))).reverse = Bl := ⟨_, rfl⟩
 rw [hBl]
 replace hBl := ae.mk hBl
 have hia := fun W => sQ s h0 false (by rw [h123]; rfl) ⟨#[]⟩ 0 0 W
 have hio := fun W => yL s h0 true (by rw [h123]; rfl) ⟨#[]⟩ 0 0 W
 replace hJ := ae.mk hJ
 replace hP := ae.mk hP
 replace hT := ae.mk hT
 replace h123 := ae.mk h123
 replace hin := ae.mk hin
 replace hnk := ae.mk hnk
 go_enter Tryz.func66, Tryz.ntmps66
 go_wp2_with (fail)
 with_reducible refine (hpo _).mono ?_
 rintro e w1 ⟨rfl, hB1⟩
 go_wp2_with (fail)
 with_reducible refine (hia _).mono ?_
 rintro e w2a ⟨rfl, hB2a⟩
 have kra := bI (dX w1 (.cells (jh ⟨5, s, ⟨#[]⟩, 0, 0⟩) 67)) hB2a
 have hb2a : Below w.heap.size w w2a := bZ (bZ hB1 (ai (Below.refl _ _) _)) hB2a
 have d0 := (ah kra 0).trans rfl
 have d1 := (ah kra 1).trans rfl
 have d2 := (ah kra 2).trans rfl
 have d3 := (ah kra 3).trans rfl
 have d4 := (ah kra 4).trans rfl
 have d5 := (ah kra 5).trans rfl
 replace kra := ae.mk kra
 go_wp2_with (fail)
 with_reducible refine (hio _).mono ?_
 rintro e w2 ⟨rfl, hB2⟩
 have kr := bI kra.out hB2
 have hb2 : Below w.heap.size w w2 := bZ hb2a hB2
 clear d0 d1 d2 d3 d4 d5 hB2a kra hb2a
 have kr3 := aN kr (.cells #[.slice none 0 0] 103)
 have hb3 : Below w.heap.size w (w2.alloc (.cells #[.slice none 0 0] 103)) := bZ hb2 (ai (Below.refl _ _) _)
 have kO3 := dX w2 (.cells #[.slice none 0 0] 103)
 have d0 := (ah kr3 0).trans rfl
 have d1 := (ah kr3 1).trans rfl
 have d2 := (ah kr3 2).trans rfl
 have d3 := (ah kr3 3).trans rfl
 have d4 := (ah kr3 4).trans rfl
 have d5 := (ah kr3 5).trans rfl
 have hlo : w.heap.size ≤ w2.heap.size := hb2.size
 have hK3 := rC (m := 2) (f := fun p => p.1.c6 ++ p.2.c6) hb3 kO3 hlo
 replace kr3 := ae.mk kr3
 replace hb3 := ae.mk hb3
 replace hb2 := ae.mk hb2
 replace kO3 := ae.mk kO3
 replace hK3 := ae.mk hK3
 replace hlo := ae.mk hlo
 have hmf : ∀ (fn : Fn) (first cap : Array Value) (w : World), (Instr.makeFunc fn first cap).run Tryz.prog w = .ok (.func fn first cap) w := fun _ _ _ _ => rfl
 clear hB1 hB2 kr hpo hia hio
 go_wp2_with (fail)
 with_reducible refine (wW w _ B w.heap.size _ 0 (Kept w.heap.size _ w2.heap.size 2 (fun p => p.1.c6 ++ p.2.c6) w) 94 ⟨w2.heap.size, 0, none⟩ s hs ns ks s.size hJ.out (Blanks.refl _ _) hP.out ⟨#[]⟩ 0 hT.out hT.out.size (uf _ _ _ _ _ _) (yK _ _ _ _ s ns ks) hin.out rfl hK3.out).mono ?_
 rintro e w4 ⟨rfl, ps, hK4, hok, hnok, hle, hend, -⟩
 have hlen : ps.length = ks.length := hend.resolve_right (fun h => by omega)
 rw [hlen, List.take_length] at hok
 rw [hlen, ← hnk.out, List.take_length] at hnok
 have hvl := sU hok
 have hnl := uQ hnok
 rw [List.map_map] at hvl hnl
 have hBl2 := hBl.out
 rw [← hvl, ← hnl, xn] at hBl2
 obtain ⟨v, kO, hown⟩ := hK4.out
 have hown2 := hown
 rw [show (ps.flatMap fun p => p.1.c6 ++ p.2.c6) = (ps.flatMap fun p => [p.1, p.2]).flatMap Rs.c6 by rw [List.flatMap_assoc]; simp] at hown2
 obtain ⟨A, c, rfl, hR⟩ := jC hown2 (zh _) (qx ps)
 have hB4 := ae.mk hK4.bel
 have hLat := wL ps
 have hL : (ps.flatMap fun p => [p.1, p.2]).length = ps.length * 2 := qx ps
 generalize (ps.flatMap fun p => [p.1, p.2]) = L at hR hLat hL
 have hbl : (ps.map fun p => mb (((fun r => bytesOf r.raw) ∘ Prod.fst) p) (((fun r => bytesOf r.raw) ∘ Prod.snd) p)).length = ks.length := by rw [List.length_map, hlen]
 have hsz : ∀ p ∈ ps, p.1.raw.size ≤ 65536 ∧ p.2.raw.size ≤ 65536 := by
  intro p hp
  have h1 : bytesOf p.1.raw ∈ ns.map (nT s) := by rw [← hnl]; exact List.mem_map.2 ⟨p, hp, rfl⟩
  have h2 : bytesOf p.2.raw ∈ ks.map (kL s) := by rw [← hvl]; exact List.mem_map.2 ⟨p, hp, rfl⟩
  obtain ⟨a, _, ha⟩ := List.mem_map.1 h1
  obtain ⟨b, _, hb⟩ := List.mem_map.1 h2
  have h3 := congrArg List.length ha
  have h4 := congrArg List.length hb
  rw [nT, mX, bytesOf_length, bytesOf_length, ByteArray.size_extract] at h3
  rw [kL, mX, bytesOf_length, bytesOf_length, ByteArray.size_extract] at h4
  omega
 have hsmall : ∀ x ∈ Bl, x.length ≤ 131073 := by
  intro x hx
  rw [← hBl2, List.mem_reverse] at hx
  obtain ⟨p, hp, rfl⟩ := List.mem_map.1 hx
  have := hsz p hp
  simp only [mb, Function.comp, List.length_append, List.length_cons, bytesOf_length]
  omega
 have hrs : Bl.length = ks.length := by rw [← hBl2, List.length_reverse, hbl]
 have hjn : ∀ j, (jn (Bl.take j)).length ≤ 8590065664 := fun j => by
  have h1 := BH 131073 (Bl.take j) (fun x hx => hsmall x (List.mem_of_mem_take hx))
  have h2 : (Bl.take j).length ≤ 65536 := by rw [List.length_take]; omega
  have h3 := Nat.mul_le_mul_right (131073 + 1) h2
  omega
 have hat : ∀ (k : Nat) (p : Rs × Rs), ps[k]? = some p → Bl[ks.length - (k + 1)]? = some (mb (bytesOf p.1.raw) (bytesOf p.2.raw)) ∧ p.1.raw.size ≤ 65536 ∧ p.2.raw.size ≤ 65536 := by
  intro k p hp
  have hk : k < ks.length := by have := (List.getElem?_eq_some_iff.1 hp).1; omega
  refine ⟨?_, hsz p (List.mem_of_getElem? hp)⟩
  rw [← hBl2, List.getElem?_reverse (by omega), hbl, show ks.length - 1 - (ks.length - (k + 1)) = k by omega, List.getElem?_map, hp]
  rfl
 have kc := (ah kO 0).trans rfl
 obtain ⟨n2, hn2⟩ : ∃ n2, n2 = ps.length * 2 := ⟨_, rfl⟩
 rw [← hn2] at kO hR hL kc
 have hn3 : n2 = ks.length * 2 := by rw [hn2, hlen]
 replace hn3 := ae.mk hn3
 replace kO := ae.mk kO
 replace hR := ae.mk hR
 replace hjn := ae.mk hjn
 replace hat := ae.mk hat
 replace hrs := ae.mk hrs
 replace hL := ae.mk hL
 replace hLat := ae.mk hLat
 have hlen0 := ae.mk hlen
 clear hbl
 have hbl := ae.mk (show ([] : List Int).length ≤ 8590065680 by simp)
 clear hown hown2 hK4 hBl2 hok hnok hnl hvl hle hend hsmall hsz hb3 kO3 hK3 kr3 d0 d1 d2 d3 d4 d5 hkl hb hin hn2
 clear hlen
 have hkl : ks.length ≤ 65536 := by have := lU hJ.out; omega
 have hn4 : n2 ≤ 131072 := by have := hn3.out; omega
 go_wp2_with (first | ((with_reducible refine gJ (N := 60) rfl ?_); refine Kd.qw (Kd.int .u8) (w0 := w4) w4.heap.size 5 rfl (N := 60) rfl 99 _ _ rfl s.size rfl rfl Tryz.underlying99 (.int .u8 0) 1 Q.info5 (by decide) (ok := fun _ => True) trivial (by omega) (by omega) (Below.refl _ _) (Nat.le_refl _) ?_; intro v1 w1 ho hb hg hat; have hM := ae.mk (MR.mk (bs := []) hb (Kd.pz ho)); clear ho hb hg hat) | ((with_reducible refine bQ (b := .append) (xs := #[.tmp 61, .tmp 62]) rfl ?_); at_builtin; refine dB (w0 := w4) w4.heap.size rfl (.tmp 61) (.tmp 62) 99 5 .u8 1 rfl Tryz.underlying99 Q.info5 (by decide) _ [] 123 rfl rfl ?aO ?aB ?aS ?aL ?_; (case aO => exact hM.out.own); (case aB => exact hM.out.bel); (case aS => exact hM.out.bel.size); (case aL => have := hbl.out; (try simp only [List.length_append, List.length_cons, List.length_nil, bytesOf_length]); omega); intro v1 w1 ho hb hg hat; replace hM := ae.mk (MR.mk hb ho); clear ho hb hg hat; replace kc := (ah (bI kO.out hM.out.bel) 0).trans rfl))
 go_loopg [11, 12, 13] ks.length (fun kq v11 v12 v13 W => ∃ (i j : Int) (bs : List Int), v12 = .int .i64 i ∧ v13 = .int .i64 j ∧ ae (i = (kq : Int) * 2 - 2 ∧ j = (ks.length : Int) - kq ∧ kq ≤ ks.length) ∧ ae (bs = 123 :: jn (Bl.take (ks.length - kq))) ∧ ae (MR w4 v11 bs W))
 case atStart => exact ⟨(n2 : Int) - 2, 0, [123], by congr 1, rfl, ⟨by have := hn3.out; omega, by omega, Nat.le_refl _⟩, ⟨by rw [Nat.sub_self]; rfl⟩, hM⟩
 case round =>
  clear hM
  obtain ⟨i, j, bs, rfl, rfl, hi, hbs, hM⟩ := hrel
  obtain ⟨hi1, hi2, hi3⟩ := hi.out
  replace kc := (ah (bI kO.out hM.out.bel) 0).trans rfl
  replace hbl : ae (bs.length ≤ 8590065680) := ⟨by rw [hbs.out, List.length_cons]; have := hjn.out (ks.length - gk); omega⟩
  cases gk with
  | zero =>
    have e0 : decide (0 ≤ i) = false := decide_eq_false (by omega)
    clear hi1 hi2 hi3
    go_wp2_with (first | ((with_reducible refine bQ (b := .append) (xs := #[.tmp 97, .tmp 98]) rfl ?_); at_builtin; refine dB (w0 := w4) w4.heap.size rfl (.tmp 97) (.tmp 98) 99 5 .u8 1 rfl Tryz.underlying99 Q.info5 (by decide) _ bs 125 rfl rfl ?aO ?aB ?aS ?aL ?_; (case aO => exact hM.out.own); (case aB => exact hM.out.bel); (case aS => exact hM.out.bel.size); (case aL => have := hbl.out; (try simp only [List.length_append, List.length_cons, List.length_nil, bytesOf_length]); omega); intro v1 w1 ho hb hg hat; replace hM := ae.mk (MR.mk hb ho); clear ho hb hg hat; replace kc := (ah (bI kO.out hM.out.bel) 0).trans rfl) | (go_at_call 93; (with_reducible refine (uP _ _ _ _ _ hM.out.own).mono ?_); rintro e w5 ⟨rfl, rfl⟩))
    go_ret
    refine ⟨?_, hB4.out.trans (Below.mono hM.out.bel hB4.out.size)⟩
    have h := hbs.out
    rw [Nat.sub_zero, ← hrs.out, List.take_length] at h
    rw [h]
    rfl
  | succ gk =>
    have e0 : decide (0 ≤ i) = true := decide_eq_true (by omega)
    have hn3' := hn3.out
    have hL' := hL.out
    have hlt : gk < ps.length := by have := hlen0.out; omega
    obtain ⟨hA1, hA2, hA3⟩ := hat.out gk _ (List.getElem?_eq_getElem hlt)
    obtain ⟨g1, g2⟩ := hLat.out gk _ (List.getElem?_eq_getElem hlt)
    generalize ps[gk] = pp at hA1 hA2 hA3 g1 g2
    obtain ⟨a, ha⟩ : ∃ a, a = 2 * gk := ⟨_, rfl⟩
    obtain ⟨b, hb⟩ : ∃ b, b = a + 1 := ⟨_, rfl⟩
    rw [← ha] at g1 g2
    rw [← hb] at g2
    obtain rfl : i = (a : Int) := by omega
    obtain ⟨u1, u2⟩ := List.getElem?_eq_some_iff.1 g1
    obtain ⟨t1, t2⟩ := List.getElem?_eq_some_iff.1 g2
    obtain ⟨ad, rfl, hx⟩ := yP hR.out a u1
    obtain ⟨ad', he, hz⟩ := yP hR.out b t1
    cases he
    rw [u2] at hx
    rw [t2] at hz
    have p1 : (0 ≤ (a : Int)) = True := eq_true (by omega)
    have p2 : ((a : Int) < (n2 : Int)) = True := eq_true (by omega)
    have p3 : (0 ≤ (b : Int)) = True := eq_true (by omega)
    have p4 : ((b : Int) < (n2 : Int)) = True := eq_true (by omega)
    have hx0 := ae.mk hx
    have hz0 := ae.mk hz
    replace hA1 := ae.mk hA1
    have hw1 : wrap64 ((a : Int) - 2) = (a : Int) - 2 := by unfold wrap64; omega
    have hw2 : wrap64 (j + 1) = j + 1 := by unfold wrap64; omega
    have hw0 : wrap64 (a : Int) = (a : Int) := by unfold wrap64; omega
    have hw3 : wrap64 ((a : Int) + 1) = (b : Int) := by unfold wrap64; omega
    have hstep := ae.mk (yZ hrs.out (by omega) hA1.out 123 hbs.out)
    generalize pp.1.raw = y at *
    generalize pp.2.raw = z at *
    have hab := ae.mk (And.intro ha hb)
    clear ha hb g1 g2 u1 t1 u2 t2 hL' hn3' hlt
    replace hx := (hM.out.bel.cell (World.block_lt_of_cell? w4 _ hx0.out)).trans hx0.out
    by_cases hj : j = 0
    ·have e1 : decide (0 < j) = false := decide_eq_false (by omega)
     clear hi1 hi2 hi3
     go_wp2_with (first | ((with_reducible refine bQ (b := .append) (xs := #[.tmp 78, .tmp 84]) rfl ?_); at_builtin; refine iq (w0 := w4) w4.heap.size rfl (.tmp 78) (.tmp 84) 99 9 5 rfl Tryz.underlying99 Tryz.underlying9 Q.info5 _ bs y rfl rfl ?aO ?aB ?aS ?aL ?_; (case aO => exact hM.out.own); (case aB => exact hM.out.bel); (case aS => exact hM.out.bel.size); (case aL => have := hbl.out; (try simp only [List.length_append, List.length_cons, List.length_nil, bytesOf_length]); omega); intro v1 w1 ho hb hg; replace hM := ae.mk (MR.mk hb ho); clear ho hb hg; replace kc := (ah (bI kO.out hM.out.bel) 0).trans rfl) | ((with_reducible refine bQ (b := .append) (xs := #[.tmp 86, .tmp 87]) rfl ?_); at_builtin; refine dB (w0 := w4) w4.heap.size rfl (.tmp 86) (.tmp 87) 99 5 .u8 1 rfl Tryz.underlying99 Q.info5 (by decide) _ (bs ++ bytesOf y) 58 rfl rfl ?aO ?aB ?aS ?aL ?_; (case aO => exact hM.out.own); (case aB => exact hM.out.bel); (case aS => exact hM.out.bel.size); (case aL => have := hbl.out; (try simp only [List.length_append, List.length_cons, List.length_nil, bytesOf_length]); omega); intro v1 w1 ho hb hg hat; replace hM := ae.mk (MR.mk hb ho); clear ho hb hg hat; replace kc := (ah (bI kO.out hM.out.bel) 0).trans rfl; have hz := (hM.out.bel.cell (World.block_lt_of_cell? w4 _ hz0.out)).trans hz0.out) | ((with_reducible refine bQ (b := .append) (xs := #[.tmp 89, .tmp 95]) rfl ?_); at_builtin; refine iq (w0 := w4) w4.heap.size rfl (.tmp 89) (.tmp 95) 99 9 5 rfl Tryz.underlying99 Tryz.underlying9 Q.info5 _ (bs ++ bytesOf y ++ [58]) z rfl rfl ?aO ?aB ?aS ?aL ?_; (case aO => exact hM.out.own); (case aB => exact hM.out.bel); (case aS => exact hM.out.bel.size); (case aL => have := hbl.out; (try simp only [List.length_append, List.length_cons, List.length_nil, bytesOf_length]); omega); intro v1 w1 ho hb hg; replace hM := ae.mk (MR.mk hb ho); clear ho hb hg; replace kc := (ah (bI kO.out hM.out.bel) 0).trans rfl))
     go_roundg gk
     case measure => omega
     case rel => exact ⟨(a : Int) - 2, 1, bs ++ bytesOf y ++ [58] ++ bytesOf z, by first | rfl | rw [hw1], rfl, ⟨by have := hab.out; omega, by have := hi.out; omega, by have := hi.out; omega⟩, ⟨by rw [← hstep.out.1 (by have := hi.out; omega), mb]; simp⟩, hM⟩
    ·have e1 : decide (0 < j) = true := decide_eq_true (by omega)
     clear hi1 hi2 hi3
     go_wp2_with (first | ((with_reducible refine bQ (b := .append) (xs := #[.tmp 75, .tmp 76]) rfl ?_); at_builtin; refine dB (w0 := w4) w4.heap.size rfl (.tmp 75) (.tmp 76) 99 5 .u8 1 rfl Tryz.underlying99 Q.info5 (by decide) _ bs 44 rfl rfl ?aO ?aB ?aS ?aL ?_; (case aO => exact hM.out.own); (case aB => exact hM.out.bel); (case aS => exact hM.out.bel.size); (case aL => have := hbl.out; (try simp only [List.length_append, List.length_cons, List.length_nil, bytesOf_length]); omega); intro v1 w1 ho hb hg hat; replace hM := ae.mk (MR.mk hb ho); clear ho hb hg hat; replace kc := (ah (bI kO.out hM.out.bel) 0).trans rfl; replace hx := (hM.out.bel.cell (World.block_lt_of_cell? w4 _ hx0.out)).trans hx0.out) | ((with_reducible refine bQ (b := .append) (xs := #[.tmp 78, .tmp 84]) rfl ?_); at_builtin; refine iq (w0 := w4) w4.heap.size rfl (.tmp 78) (.tmp 84) 99 9 5 rfl Tryz.underlying99 Tryz.underlying9 Q.info5 _ (bs ++ [44]) y rfl rfl ?aO ?aB ?aS ?aL ?_; (case aO => exact hM.out.own); (case aB => exact hM.out.bel); (case aS => exact hM.out.bel.size); (case aL => have := hbl.out; (try simp only [List.length_append, List.length_cons, List.length_nil, bytesOf_length]); omega); intro v1 w1 ho hb hg; replace hM := ae.mk (MR.mk hb ho); clear ho hb hg; replace kc := (ah (bI kO.out hM.out.bel) 0).trans rfl) | ((with_reducible refine bQ (b := .append) (xs := #[.tmp 86, .tmp 87]) rfl ?_); at_builtin; refine dB (w0 := w4) w4.heap.size rfl (.tmp 86) (.tmp 87) 99 5 .u8 1 rfl Tryz.underlying99 Q.info5 (by decide) _ (bs ++ [44] ++ bytesOf y) 58 rfl rfl ?aO ?aB ?aS ?aL ?_; (case aO => exact hM.out.own); (case aB => exact hM.out.bel); (case aS => exact hM.out.bel.size); (case aL => have := hbl.out; (try simp only [List.length_append, List.length_cons, List.length_nil, bytesOf_length]); omega); intro v1 w1 ho hb hg hat; replace hM := ae.mk (MR.mk hb ho); clear ho hb hg hat; replace kc := (ah (bI kO.out hM.out.bel) 0).trans rfl; have hz := (hM.out.bel.cell (World.block_lt_of_cell? w4 _ hz0.out)).trans hz0.out) | ((with_reducible refine bQ (b := .append) (xs := #[.tmp 89, .tmp 95]) rfl ?_); at_builtin; refine iq (w0 := w4) w4.heap.size rfl (.tmp 89) (.tmp 95) 99 9 5 rfl Tryz.underlying99 Tryz.underlying9 Q.info5 _ (bs ++ [44] ++ bytesOf y ++ [58]) z rfl rfl ?aO ?aB ?aS ?aL ?_; (case aO => exact hM.out.own); (case aB => exact hM.out.bel); (case aS => exact hM.out.bel.size); (case aL => have := hbl.out; (try simp only [List.length_append, List.length_cons, List.length_nil, bytesOf_length]); omega); intro v1 w1 ho hb hg; replace hM := ae.mk (MR.mk hb ho); clear ho hb hg; replace kc := (ah (bI kO.out hM.out.bel) 0).trans rfl))
     go_roundg gk
     case measure => omega
     case rel => exact ⟨(a : Int) - 2, j + 1, bs ++ [44] ++ bytesOf y ++ [58] ++ bytesOf z, by first | rfl | rw [hw1], by first | rfl | rw [hw2], ⟨by have := hab.out; omega, by have := hi.out; omega, by have := hi.out; omega⟩, ⟨by rw [← hstep.out.2 (by have := hi.out; omega), mb]; simp⟩, hM⟩
theorem jT {s w : ByteArray} (h : Word s 0 w) (j : Nat) (hj : j < w.size) : bt s (j : Nat) = bt w j := by
 have := h.at j hj
 rwa [Nat.zero_add] at this
theorem xU (w : World) (B : Nat) (s : ByteArray) (hs : s.size ≤ 65536) (kd : Int) (h5 : kd ≠ 5) (h6 : kd ≠ 6) (ns : List S44) (ks : List S32) (hJ : J s .val 0 s.size kd ns ks) (hP : Prd s 0) (hT : Tabs B w) :
 Calls Tryz.prog 44 #[.string s] w fun e w' => ∃ r : Rs, e = .returned (resV r.k r.raw r.str r.num r.idx) ∧ r.k ≠ 5 ∧ Below w.heap.size w w' := by
 have hb := hJ.bound
 have h0 : 0 < s.size := by omega
 generalize ha : (0 : Nat) = a at hJ
 generalize he : s.size = e at hJ
 cases hJ with
 | null _ h =>
   subst ha
   have hz : s.size = 4 := he
   refine xZ w s hs h0 ((jT h 0 (by decide)).trans (by decide)) (by omega) ((jT h 1 (by decide)).trans (by decide)) fun j h1 h2 => ?_
   rw [jT h j (by have : lJ.size = 4 := rfl; omega)]
   have hj : j = 1 ∨ j = 2 ∨ j = 3 := by omega
   rcases hj with rfl | rfl | rfl <;> decide
 | fals _ h =>
   subst ha
   have hz : s.size = 5 := he
   refine xK w s hs h0 ((jT h 0 (by decide)).trans (by decide)) fun j h1 h2 => ?_
   rw [jT h j (by have : kJ.size = 5 := rfl; omega)]
   have hj : j = 1 ∨ j = 2 ∨ j = 3 ∨ j = 4 := by omega
   rcases hj with rfl | rfl | rfl | rfl <;> decide
 | tru _ h =>
   subst ha
   have hz : s.size = 4 := he
   refine yN w s hs h0 ((jT h 0 (by decide)).trans (by decide)) fun j h1 h2 => ?_
   rw [jT h j (by have : nC.size = 4 := rfl; omega)]
   have hj : j = 1 ∨ j = 2 ∨ j = 3 := by omega
   rcases hj with rfl | rfl | rfl <;> decide
 | num _ _ g0 g1 g2 g3 g4 =>
   subst ha; subst he
   exact Ak w s hs h0 g0 B g3 hT
 | str _ q g0 g1 g2 =>
   subst ha
   obtain ⟨_, v, hv⟩ := jd hs g2 (gG.prd hs g0 g1 g2 hP).1
   exact zN w s hs h0 g1 q g2 v hv
 | arr0 => exact absurd rfl h5
 | arr => exact absurd rfl h5
 | obj0 => exact absurd rfl h6
 | obj => exact absurd rfl h6
theorem vK (w : World) (B : Nat) (s : ByteArray) (hs : s.size ≤ 65536) (kd : Int) (h5 : kd ≠ 5) (h6 : kd ≠ 6) (ns : List S44) (ks : List S32) (hJ : J s .val 0 s.size kd ns ks) (hP : Prd s 0) (hT : Tabs B w) :
 Calls Tryz.prog 66 #[.string s, .string ⟨#[]⟩] w fun e w' => e = .returned (.string s) ∧ Below w.heap.size w w' := by
 have hpa := xU w B s hs kd h5 h6 ns ks hJ hP hT
 clear hJ hP hT
 go_enter Tryz.func66, Tryz.ntmps66
 go_wp2_with (fail)
 with_reducible refine hpa.mono ?_
 rintro e w1 ⟨r, rfl, hk, hB1⟩
 have hia := fun W => Dj r hk W
 have hio := fun W => BK r hk W
 clear hpa
 replace hk := ae.mk hk
 go_wp2_with (fail)
 with_reducible refine (hia _).mono ?_
 rintro e w2 ⟨rfl, hB2⟩
 have kr := bI (dX w1 (.cells (jh r) 67)) hB2
 have hb2 : Below w.heap.size w w2 := bZ (bZ hB1 (ai (Below.refl _ _) _)) hB2
 have d0 := (ah kr 0).trans rfl
 have d1 := (ah kr 1).trans rfl
 have d2 := (ah kr 2).trans rfl
 have d3 := (ah kr 3).trans rfl
 have d4 := (ah kr 4).trans rfl
 have d5 := (ah kr 5).trans rfl
 replace kr := ae.mk kr
 replace hb2 := ae.mk hb2
 clear hB1 hB2
 go_wp2_with (fail)
 with_reducible refine (hio _).mono ?_
 rintro e w3 ⟨rfl, hB3⟩
 replace hB3 := ae.mk hB3
 go_wp2
 go_ret
 exact ⟨rfl, bZ hb2.out hB3.out⟩
theorem rE (w : World) (s out : ByteArray) (h : Calls Tryz.prog 66 #[.string s, .string ⟨#[]⟩] w fun e w' => e = .returned (.string out) ∧ Below w.heap.size w w') :
 Calls Tryz.prog 17 #[.string s] w fun e w' => e = .returned (.string out) ∧ Below w.heap.size w w' := by
 have h40 : Calls Tryz.prog 40 #[.string s] w fun e w' => e = .returned (.string out) ∧ Below w.heap.size w w' := by
  replace h := ae.mk h
  go_enter Tryz.func40, Tryz.ntmps40
  go_wp2_with (fail)
  with_reducible refine h.out.mono ?_
  rintro e w1 ⟨rfl, hB1⟩
  replace hB1 := ae.mk hB1
  go_wp2
  go_ret
  exact ⟨rfl, hB1.out⟩
 clear h
 replace h40 := ae.mk h40
 go_enter Tryz.func17, Tryz.ntmps17
 go_wp2_with (fail)
 with_reducible refine h40.out.mono ?_
 rintro e w1 ⟨rfl, hB1⟩
 replace hB1 := ae.mk hB1
 go_wp2
 go_ret
 exact ⟨rfl, hB1.out⟩
end Go.Proofs.YtpgfjbimodnkeaaGreatDoor.Dec
namespace Go.Proofs.YtpgfjbimodnkeaaGreatDoor.Scan
open Go Go.RowKit Go.Proofs.YtpgfjbimodnkeaaGreatDoorW.PrintWords Go.Proofs.YtpgfjbimodnkeaaGreatDoor.Q Go.Proofs.YtpgfjbimodnkeaaGreatDoor.Dec
theorem xx (x : List Int) (l : List (List Int)) (h : l ≠ []) : (jn (l ++ [x])).length = (jn l).length + 1 + x.length := by
 rw [vY x l h, List.length_append, List.length_cons]
 omega
theorem oM : ∀ l : List (List Int), (jn l.reverse).length = (jn l).length
 | [] => rfl
 | [x] => rfl
 | x :: y :: l => by
   rw [List.reverse_cons, xx _ _ (by simp), oM (y :: l), jn, List.length_append, List.length_cons]
   omega
theorem CO {s : ByteArray} {a e : Nat} {ns : List S44} {ks : List S32} (h : J s .val a e 5 ns ks) : ns = [] := by
 generalize hk : (5 : Int) = kd at h
 cases h with
 | obj => exact absurd hk (by decide)
 | _ => rfl
theorem uD {s : ByteArray} (hS : s.size ≤ 65536) {a e : Nat} {kd : Int} (hkd : kd = 5 ∨ kd = 6) {ns : List S44} {ks : List S32} (h : J s .val a e kd ns ks) (hp : Prd s a) {keys : List ByteArray} (hn : fH s ns keys) {t : Int × ByteArray × List ByteArray × List S25} (ht : Evt (fun k => bG.f k s kd (a : Int) (e : Int) ns ks) t) :
 ∃ ts, t = (kd, ⟨#[]⟩, keys, ts) ∧ fG s ks ts := by
 obtain ⟨_, ⟨ts, h2⟩, _⟩ := vS hS h hp
 have hl := h.lens
 have hb := h.bound
 exact ⟨ts, ht.uniq (jW hS _ _ kd (by omega) (by omega) (by omega) (by omega) hn h2), h2⟩
theorem yh {s : ByteArray} (hS : s.size ≤ 65536) {ks : List S32} (h : J s .val 0 s.size 5 [] ks) (hp : Prd s 0) {ts : List S25} (ht : fG s ks ts) :
 Evt (fun k => fO.f k (strOfNums (91 :: (jn (ks.map (kL s)).reverse ++ [93])))) (5, ⟨#[]⟩, [], ts.reverse, true) := by
 have hb := h.bound
 obtain ⟨g1, g2, g3, g4⟩ := h.pieces hS hp [] ts trivial ht
 rw [show Md.room .val 5 (s.size - 0) = s.size - 0 - 1 by simp [Md.room]] at g3
 refine (DT g1.rev).read ?_ ?_
 ·refine Byt.cons (by decide) (by decide) ((yw fun x hx => ?_).app (Byt.cons (by decide) (by decide) Byt.nil))
  obtain ⟨p, _, rfl⟩ := List.mem_map.1 (List.mem_reverse.1 hx)
  exact qi _
 ·rw [List.length_cons, List.length_append, oM, List.length_singleton]
  omega
theorem yt {s : ByteArray} (hS : s.size ≤ 65536) {ns : List S44} {ks : List S32} (h : J s .val 0 s.size 6 ns ks) (hp : Prd s 0) {keys : List ByteArray} (hn : fH s ns keys) {ts : List S25} (ht : fG s ks ts) (hnk : ns.length = ks.length) :
 Evt (fun k => fO.f k (strOfNums (123 :: (jn (List.zipWith mb (ns.map (nT s)) (ks.map (kL s))).reverse ++ [125])))) (6, ⟨#[]⟩, keys.reverse, ts.reverse, true) := by
 have hb := h.bound
 obtain ⟨g1, g2, g3, g4⟩ := h.pieces hS hp keys ts hn ht
 rw [show Md.room .val 6 (s.size - 0) = s.size - 0 - 1 by simp [Md.room]] at g4
 have hlen : (ns.map (nT s)).length = (ks.map (kL s)).length := by rw [List.length_map, List.length_map, hnk]
 have hv := DR (nl := (ns.map (nT s)).reverse) (bs := (ks.map (kL s)).reverse) (by rw [List.length_reverse, List.length_reverse, hlen]) g2.rev g1.rev
 rw [← List.reverse_zipWith hlen] at hv
 refine hv.read ?_ ?_
 ·refine Byt.cons (by decide) (by decide) ((yw fun x hx => ?_).app (Byt.cons (by decide) (by decide) Byt.nil))
  rw [List.mem_reverse] at hx
  obtain ⟨j, hj⟩ := List.mem_iff_getElem?.1 hx
  rw [List.getElem?_zipWith] at hj
  cases h1 : (ns.map (nT s))[j]? with
  | none => rw [h1] at hj; simp at hj
  | some a =>
    cases h2 : (ks.map (kL s))[j]? with
    | none => rw [h1, h2] at hj; simp at hj
    | some b =>
      rw [h1, h2] at hj
      obtain rfl : mb a b = x := by simpa using hj
      obtain ⟨p, _, rfl⟩ := List.mem_map.1 (List.mem_of_getElem? h1)
      obtain ⟨q, _, rfl⟩ := List.mem_map.1 (List.mem_of_getElem? h2)
      exact (qi _).app (Byt.cons (by decide) (by decide) (qi _))
 ·rw [List.length_cons, List.length_append, oM, List.length_singleton]
  omega
end Go.Proofs.YtpgfjbimodnkeaaGreatDoor.Scan
namespace Go.Proofs.YtpgfjbimodnkeaaGreatDoor.Q
open Go.RowKit Go.Proofs.YtpgfjbimodnkeaaGreatDoorW.PrintWords Go.Proofs.YtpgfjbimodnkeaaGreatDoorW.PrintLast Go.Proofs.YtpgfjbimodnkeaaGreatDoorW.PrintMore
def oH (ks : List ByteArray) (nm : ByteArray) : Nat → Int
 | 0 => -1
 | k + 1 => if ((tJ ByteArray.empty ks (k : Int)).toList == nm.toList) = true then (k : Int) else oH ks nm k
def oJ (ks : List ByteArray) : Nat → Bool
 | 0 => true
 | r + 1 => if (oH ks (tJ ByteArray.empty ks ((ks.length - (r + 1) : Nat) : Int)) ks.length != ((ks.length - (r + 1) : Nat) : Int)) = true then false else oJ ks r
def qg (f : S25 → Bool) (ts : List S25) : Nat → Bool
 | 0 => true
 | r + 1 => if f (iE ts ((ts.length - (r + 1) : Nat) : Int)) = true then qg f ts r else false
def uq : Nat → S25 → Bool
 | 0, _ => true
 | n + 1, t => if oJ t.f2 t.f2.length = true then qg (uq n) t.f3 t.f3.length else false
theorem Bz (kd : Int) (txt : ByteArray) (A2 : Option Addr) (c2 : Nat) (ks : List ByteArray) (A3 : Option Addr) (n3 c3 : Nat) (nm : ByteArray) (w : World) (h2 : Kd.string.C w A2 ks.length ks) :
 Calls Tryz.prog 41 #[.agg #[.int .i64 kd, .string txt, .slice A2 ks.length c2, .slice A3 n3 c3], .string nm] w fun e w' => e = .returned (.int .i64 (oH ks nm ks.length)) ∧ Below w.heap.size w w' := by
 have hm := Kd.xG h2
 replace h2 := ae.mk h2
 go_enter Tryz.func41, Tryz.ntmps41
 go_wp2_with (fail)
 go_loopg [5] ks.length (fun kq v5 w' => ∃ i : Int, v5 = .int .i64 i ∧ ae (i = (kq : Int) - 1 ∧ kq ≤ ks.length ∧ oH ks nm ks.length = oH ks nm kq) ∧ w' = w.alloc (.cells #[.int .i64 kd, .string txt, .slice A2 ks.length c2, .slice A3 n3 c3] 25))
 case atStart => exact ⟨(ks.length : Int) - 1, by congr 1, ⟨rfl, Nat.le_refl _, rfl⟩, rfl⟩
 case round =>
  obtain ⟨i, rfl, hi, rfl⟩ := hrel
  obtain ⟨he, hle, hla⟩ := hi.out
  replace hla := ae.mk hla
  cases gk with
  | zero =>
    have e0 : decide (0 ≤ i) = false := decide_eq_false (by omega)
    clear he hle
    go_wp2
    go_ret
    exact ⟨by rw [hla.out]; rfl, ai (Below.refl _ _) _⟩
  | succ gk =>
    have e0 : decide (0 ≤ i) = true := decide_eq_true (by omega)
    obtain ⟨ad, rfl, hx⟩ := Kd.lV h2.out i (by omega) (by omega)
    have p1 : (0 ≤ i) = True := eq_true (by omega)
    have p2 : (i < (ks.length : Int)) = True := eq_true (by omega)
    have hx2 : (w.alloc (.cells #[.int .i64 kd, .string txt, .slice (some ad) ks.length c2, .slice A3 n3 c3] 25)).cell? (ad.add i.toNat) = _ := ((ai (Below.refl _ _) _).cell (World.block_lt_of_cell? w _ hx)).trans hx
    clear hx
    clear he hle
    obtain rfl : i = (gk : Int) := by have := hi.out.1; omega
    rw [Int.toNat_natCast] at hx2
    have hl2 := hla.out
    rw [oH] at hl2
    generalize tJ ByteArray.empty ks (gk : Int) = y at *
    cases hy : (y.toList == nm.toList)
    ·rw [if_neg (by rw [hy]; decide)] at hl2
     replace hl2 := ae.mk hl2
     go_wp2
     go_roundg gk
     case measure => omega
     case rel => exact ⟨(gk : Int) - 1, by have := hi.out.2.1; congr 1; unfold wrap64; omega, ⟨rfl, by have := hi.out.2.1; omega, hl2.out⟩, rfl⟩
    ·rw [if_pos hy] at hl2
     replace hl2 := ae.mk hl2
     go_wp2
     go_ret
     exact ⟨by rw [hl2.out]; rfl, ai (Below.refl _ _) _⟩
theorem xu (xs : List S25) (i : Int) (h0 : 0 ≤ i) (h1 : i < (xs.length : Int)) : iE xs i ∈ xs := by
 unfold iE
 rw [List.getD_eq_getElem?_getD, List.getElem?_eq_getElem (by omega : i.toNat < xs.length)]
 exact List.getElem_mem _
theorem zH (t x : S25) (h : x ∈ t.f3) : SizeOf.sizeOf x < SizeOf.sizeOf t := by
 cases t with
 | mk a b c d =>
   have := List.sizeOf_lt_of_mem h
   simp only [S25.mk.sizeOf_spec]
   simp only at this
   omega
theorem uZ (n : Nat) : ∀ (t : S25), SizeOf.sizeOf t < n → ∀ (A2 : Option Addr) (c2 : Nat) (A3 : Option Addr) (c3 : Nat) (w : World) (h2 : Kd.string.C w A2 t.f2.length t.f2) (h3 : k25.C w A3 t.f3.length t.f3),
 Calls Tryz.prog 19 #[.agg #[.int .i64 t.f0, .string t.f1, .slice A2 t.f2.length c2, .slice A3 t.f3.length c3]] w fun e w' => e = .returned (.bool (uq n t)) ∧ Below w.heap.size w w' := by
 induction n with
 | zero => exact fun t h => absurd h (by omega)
 | succ n ih =>
 intro t ht A2 c2 A3 c3 w h2 h3
 have hm := Kd.xG h2
 have hm3 := Kd.xG h3
 have hsub : ∀ x ∈ t.f3, SizeOf.sizeOf x < n := fun x hx => by have := zH t x hx; omega
 rw [uq]
 generalize t.f0 = kd at *
 generalize t.f1 = txt at *
 generalize t.f2 = ks at *
 generalize t.f3 = ts at *
 obtain ⟨R, hRes⟩ : ∃ R, (if oJ ks ks.length = true then qg (uq n) ts ts.length else false) = R := ⟨_, rfl⟩
 rw [hRes]
 replace hRes := ae.mk hRes
 replace h2 := ae.mk h2
 replace h3 := ae.mk h3
 replace hsub := ae.mk hsub
 replace ih := ae.mk ih
 clear ht
 obtain ⟨W0, hW0⟩ : ∃ W0, w.alloc (.cells #[.int .i64 kd, .string txt, .slice A2 ks.length c2, .slice A3 ts.length c3] 25) = W0 := ⟨_, rfl⟩
 have hb0 := ae.mk (show Below w.heap.size w W0 by rw [← hW0]; exact ai (Below.refl _ _) _)
 have kb0 := ae.mk (show W0.heap[w.heap.size]? = some (.cells #[.int .i64 kd, .string txt, .slice A2 ks.length c2, .slice A3 ts.length c3] 25 (0, 0)) by rw [← hW0]; exact dX w _)
 replace hW0 := ae.mk hW0
 go_enter Tryz.func19, Tryz.ntmps19
 go_wp2_with (fail)
 go_loopg [3] ks.length (fun kq v3 w' => ∃ i : Nat, v3 = .int .i64 i ∧ ae (i + kq = ks.length ∧ oJ ks ks.length = oJ ks kq) ∧ ae (Below W0.heap.size W0 w'))
 case atStart => exact ⟨0, rfl, ⟨by omega, rfl⟩, ⟨by rw [← hW0.out]; exact Below.refl _ _⟩⟩
 case round =>
  obtain ⟨i, rfl, hi, hB⟩ := hrel
  have kb := bI kb0.out hB.out
  have c0 := (ah kb 0).trans rfl
  have c1 := (ah kb 1).trans rfl
  have c2' := (ah kb 2).trans rfl
  have c3' := (ah kb 3).trans rfl
  have hBw := ae.mk (dR hb0.out hb0.out.size hB.out)
  replace kb := ae.mk kb
  cases gk with
  | zero =>
    have hi' := hi.out.1
    have e0 : decide (i < ks.length) = false := decide_eq_false (by omega)
    clear hi'
    replace hm := ae.mk hm
    have hgoal := ae.mk (show oJ ks ks.length = true from hi.out.2)
    go_wp2_with (fail)
    go_loopg [4] ts.length (fun kq v4 w' => ∃ i : Nat, v4 = .int .i64 i ∧ ae (i + kq = ts.length ∧ qg (uq n) ts ts.length = qg (uq n) ts kq) ∧ ae (Below W0.heap.size W0 w'))
    case atStart => exact ⟨0, rfl, ⟨by omega, rfl⟩, hB⟩
    case round =>
     clear c0 c1 c2' c3' hBw kb hB hi
     obtain ⟨i, rfl, hi, hB⟩ := hrel
     have kb := bI kb0.out hB.out
     have c0 := (ah kb 0).trans rfl
     have c1 := (ah kb 1).trans rfl
     have c2' := (ah kb 2).trans rfl
     have c3' := (ah kb 3).trans rfl
     have hBw := ae.mk (dR hb0.out hb0.out.size hB.out)
     replace kb := ae.mk kb
     cases gk with
     | zero =>
       have hi' := hi.out.1
       have e0 : decide (i < ts.length) = false := decide_eq_false (by omega)
       clear hi'
       go_wp2
       go_ret
       exact ⟨by rw [← hRes.out, hgoal.out, if_pos rfl, hi.out.2]; rfl, hBw.out⟩
     | succ gk =>
       have hi' := hi.out.1
       have e0 : decide (i < ts.length) = true := decide_eq_true (by omega)
       obtain ⟨ad, B2, d2, B3, d3, rfl, q0, q1, q2, q3, l2, g2, l3, g3⟩ := vZ (Kd.fC h3.out (dR hb0.out hb0.out.size hB.out)) (i : Int) (by omega) (by omega)
       have p1 : (0 ≤ (i : Int)) = True := eq_true (by omega)
       have p2 : ((i : Int) < (ts.length : Int)) = True := eq_true (by omega)
       have hstep := hi.out.2
       rw [qg, show ts.length - (gk + 1) = i by omega] at hstep
       have hcall := ih.out (iE ts i) (hsub.out _ (xu ts i (by omega) (by omega))) B2 d2 B3 d3 wr g2 g3
       replace g2 := ae.mk g2
       replace g3 := ae.mk g3
       rw [Int.toNat_natCast] at q0 q1 q2 q3
       generalize iE ts (i : Int) = x at *
       clear hi'
       replace hstep := ae.mk hstep
       go_wp2_with (fail)
       refine hcall.mono ?_
       rintro e w5 ⟨rfl, hb5⟩
       have hB5 := ae.mk (dR hB.out (by have := hB.out.size; omega) hb5)
       replace hstep := hstep.out
       cases hb : uq n x
       ·rw [if_neg (by rw [hb]; decide)] at hstep
        replace hstep := ae.mk hstep
        replace hb := ae.mk hb
        go_wp2
        go_ret
        exact ⟨by rw [← hRes.out, hgoal.out, if_pos rfl, hstep.out]; rfl, dR hb0.out hb0.out.size hB5.out⟩
       ·rw [if_pos hb] at hstep
        replace hstep := ae.mk hstep
        replace hb := ae.mk hb
        go_wp2
        go_roundg gk
        case measure => omega
        case rel => exact ⟨i + 1, by have := hi.out.1; congr 1; unfold wrap64; omega, ⟨by have := hi.out.1; omega, hstep.out⟩, hB5⟩
  | succ gk =>
    have hi' := hi.out.1
    have e0 : decide (i < ks.length) = true := decide_eq_true (by omega)
    obtain ⟨ad, rfl, hx⟩ := Kd.lV (Kd.fC h2.out hBw.out) (i : Int) (by omega) (by omega)
    have p1 : (0 ≤ (i : Int)) = True := eq_true (by omega)
    have p2 : ((i : Int) < (ks.length : Int)) = True := eq_true (by omega)
    rw [Int.toNat_natCast] at hx
    have hstep := hi.out.2
    rw [oJ, show ks.length - (gk + 1) = i by omega] at hstep
    generalize tJ ByteArray.empty ks (i : Int) = y at *
    have hat := fun W (hW : Below w.heap.size w W) => Bz kd txt (some ad) c2 ks A3 ts.length c3 y W (Kd.fC h2.out hW)
    clear hi'
    replace hstep := ae.mk hstep
    go_wp2_with (fail)
    go_region_with (first | (go_at_call 41; refine (hat _ ?_).mono ?_; (repeat (with_reducible first | exact hBw.out | apply ai | apply ag | apply dC)); rintro e w5 ⟨rfl, hb5⟩; replace hb5 := ae.mk hb5))
    all_goals
     have hB5 := ae.mk (dR (dC hB.out) (by have := hB.out.size; exact this) hb5.out)
     replace hstep := hstep.out
     cases hb : (oH ks y ks.length != (i : Int))
     ·rw [if_neg (by rw [hb]; decide)] at hstep
      replace hstep := ae.mk hstep
      go_wp2
      go_roundg gk
      case measure => omega
      case rel => exact ⟨i + 1, by have := hi.out.1; congr 1; unfold wrap64; omega, ⟨by have := hi.out.1; omega, hstep.out⟩, hB5⟩
     ·rw [if_pos hb] at hstep
      replace hstep := ae.mk hstep
      go_wp2
      go_ret
      exact ⟨by rw [← hRes.out, hstep.out, if_neg (by decide)]; rfl, dR hb0.out hb0.out.size hB5.out⟩
end Go.Proofs.YtpgfjbimodnkeaaGreatDoor.Q
