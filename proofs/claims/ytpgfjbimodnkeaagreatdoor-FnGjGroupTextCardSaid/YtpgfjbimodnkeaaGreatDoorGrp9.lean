/- FnGjGroupText: whatever text comes in, the law returns true and the text reads afterwards as before; with the fourteen package-level variables that its row lists as the text of the program lays them (the tied card) (part 9 of 33: lemmas for its last part) -/
import Derived.Lib.IfaceEq
import Derived.Shelf.Strings.BuilderK
import Derived.Lib.RuneBytes
import Derived.Laws.IdiomCopy
import Derived.Test.YtpgfjbimodnkeaaGreatDoorGrp1
import Derived.Test.YtpgfjbimodnkeaaGreatDoorGrp2
import Derived.Test.YtpgfjbimodnkeaaGreatDoorGrp8
set_option maxHeartbeats 16000000
set_option maxRecDepth 100000
set_option linter.unusedVariables false
set_option linter.unusedSimpArgs false
namespace Go.Proofs.YtpgfjbimodnkeaaGreatDoor.Dec
open Go Go.RowKit Go.Proofs.YtpgfjbimodnkeaaGreatDoorW.PrintWords Go.Proofs.YtpgfjbimodnkeaaGreatDoorW.PrintLast Go.Proofs.YtpgfjbimodnkeaaGreatDoorW.PrintMore
structure DV (e:Ending):Prop where mk :: (out:∃ (t:TypeId) (v:Value),e = .returned (.iface t v))
theorem uD (w:World) (B:Nat) (fn s:ByteArray) (x y:Int) (v:Value) (hs:s.size≤1000000) (hT:Tabs B w) (hv:v = .iface 152 (.int .i64 1)∨v = .iface 152 (.int .i64 2)) :
 Calls Tryz.prog 103 #[.string fn,.string s,.int .i64 x,.int .i64 y,v] w fun e w'=>DV e∧Below w.heap.size w w':=by
 obtain ⟨ts,vs,hes⟩:=hT.Ia
 obtain ⟨tr,vr,her⟩:=hT.Hl
 have h1:=Tryz.strconv_syntaxError fn s _ w (by omega) hes (.inr ⟨_,_,rfl⟩)
 have h2:=Tryz.strconv_rangeError fn s _ w (by omega) her (.inr ⟨_,_,rfl⟩)
 have hq11:∀ W,(binOp .eql 123 (.iface 152 (.int .i64 1)) (.iface 152 (.int .i64 1))).run Tryz.prog W = .ok (.bool true) W:=fun W=>Lib.run_eql_iface_int W 1 1 Tryz.underlying123 (by kernel_rfl) Tryz.underlying152
 have hq12:∀ W,(binOp .eql 123 (.iface 152 (.int .i64 1)) (.iface 152 (.int .i64 2))).run Tryz.prog W = .ok (.bool false) W:=fun W=>Lib.run_eql_iface_int W 1 2 Tryz.underlying123 (by kernel_rfl) Tryz.underlying152
 have hq22:∀ W,(binOp .eql 123 (.iface 152 (.int .i64 2)) (.iface 152 (.int .i64 2))).run Tryz.prog W = .ok (.bool true) W:=fun W=>Lib.run_eql_iface_int W 2 2 Tryz.underlying123 (by kernel_rfl) Tryz.underlying152
 rcases hv with rfl | rfl
 all_goals
  go_enter Tryz.func103,Tryz.ntmps103
  go_wp2_with (first | (go_at_call 124;(with_reducible refine h1.mono ?_);rintro e w4 ⟨N,rfl,hN,hh,hB⟩) | (go_at_call 125;(with_reducible refine h2.mono ?_);rintro e w4 ⟨N,rfl,hN,hh,hB⟩))
  all_goals go_ret
  all_goals exact ⟨⟨_,_,rfl⟩,hB⟩
structure Gq (e:Ending):Prop where mk :: (out:∃ (b:Nat) (v:Value),e = .returned (.tuple #[.float .f64 b,v]))
theorem zD (w:World) (B:Nat) (s:ByteArray) (hs:s.size≤1000000) (hN:oq s) (hT:Tabs B w) :
 Calls Tryz.prog 87 #[.string s,.int .i64 64] w fun e w'=>Gq e∧Below w.heap.size w w':=by
 have ha:=xI w B s hs hN hT
 have hte:∀ (fn:ByteArray) (x y:Int) (v:Value) (W:World),Below w.heap.size w W→(v = .iface 152 (.int .i64 1)∨v = .iface 152 (.int .i64 2))→Calls Tryz.prog 103 #[.string fn,.string s,.int .i64 x,.int .i64 y,v] W fun e w'=>DV e∧Below w.heap.size w w':=by
  intro fn x y v W hW hv
  refine (uD W B fn s x y v hs (hT.below (eX hW hT.size)) hv).mono ?_
  rintro e w' ⟨h1,h2⟩
  exact ⟨h1,hW.trans (eX h2 hW.size)⟩
 go_enter Tryz.func87,Tryz.ntmps87
 go_wp2_with (first | (go_at_call 102;(with_reducible refine ha.mono ?_);rintro e w4 ⟨⟨b,v,rfl,hv⟩,hB⟩;rcases hv with rfl | rfl | rfl) | (go_at_call 103;(with_reducible refine (hte _ _ _ _ _ hB (by first | exact .inl rfl | exact .inr rfl)).mono ?_);rintro e w5 ⟨⟨t,v,rfl⟩,hB5⟩))
 all_goals go_ret2
 all_goals first | exact ⟨⟨_,_,rfl⟩,hB5⟩ | exact ⟨⟨_,_,rfl⟩,hB⟩
end Go.Proofs.YtpgfjbimodnkeaaGreatDoor.Dec
namespace Go.Proofs.YtpgfjbimodnkeaaGreatDoor.Scan
open Go Go.RowKit Go.Proofs.YtpgfjbimodnkeaaGreatDoorW.PrintWords
theorem lb {n:Nat} (h:n≤65536):n≤1099511627776:=Nat.le_trans h (by decide)
inductive Str (s:ByteArray):Nat→Nat→Prop
 | close (p:Nat):p < s.size→bt s p=34→Str s p p
 | plain (p q:Nat):p < s.size→bt s p≠34→bt s p≠92→Str s (p+1) q→Str s p q
 | esc (p q:Nat):p+1 < s.size→bt s p=92→Str s (p+2) q→Str s p q
def slashes (s:ByteArray) (a:Nat):Nat→Nat
 | 0=>0
 | k+1=>if a≤k∧bt s k=92 then slashes s a k+1 else 0
theorem kw (s:ByteArray) (a k:Nat) (h:k≤a):slashes s a k=0:=by
 cases k with
 | zero=>rfl
 | succ k=>rw [slashes,if_neg (by omega)]
structure Quo (s:ByteArray) (a q:Nat):Prop where
 one:1≤a
 open_:bt s ((a - 1:Nat):Int)=34
 le:a≤q
 lt:q < s.size
 mark:bt s q=34
 even:slashes s a q % 2=0
 odd:∀ k,a≤k→k < q→bt s k=34→slashes s a k % 2=1
theorem AY {s:ByteArray} {a p q:Nat} (h:Str s p q) (ha:a≤p) (he:slashes s a p % 2=0) :
 p≤q∧q < s.size∧bt s q=34∧slashes s a q % 2=0∧∀ k,p≤k→k < q→bt s k=34→slashes s a k % 2=1:=by
 induction h with
 | close p h0 h1=>exact ⟨Nat.le_refl _,h0,h1,he,fun k h2 h3=>by omega⟩
 | plain p q h0 h1 h2 h3 ih =>
   have e:slashes s a (p+1)=0:=by rw [slashes,if_neg (fun h=>h2 h.2)]
   obtain ⟨i1,i2,i3,i4,i5⟩:=ih (by omega) (by rw [e])
   refine ⟨by omega,i2,i3,i4,fun k h4 h5 h6=>?_⟩
   by_cases hk:k=p
   ·subst hk;exact absurd h6 h1
   ·exact i5 k (by omega) h5 h6
 | esc p q h0 h1 h3 ih =>
   have e:slashes s a (p+1)=slashes s a p+1:=by rw [slashes,if_pos ⟨ha,h1⟩]
   have e2:slashes s a (p+2) % 2=0:=by
    by_cases hb:bt s ((p+1:Nat):Int)=92
    ·rw [slashes,if_pos ⟨by omega,hb⟩,e];omega
    ·rw [slashes,if_neg (fun h=>hb h.2)]
   obtain ⟨i1,i2,i3,i4,i5⟩:=ih (by omega) e2
   refine ⟨by omega,i2,i3,i4,fun k h4 h5 h6=>?_⟩
   by_cases hk:k=p
   ·subst hk;rw [h1] at h6;omega
   ·by_cases hk1:k=p+1
    ·subst hk1;rw [e];omega
    ·exact i5 k (by omega) h5 h6
theorem Str.quo {s:ByteArray} {a q:Nat} (h:Str s a q) (h1:1≤a) (h2:bt s ((a - 1:Nat):Int)=34):Quo s a q:=by
 obtain ⟨i1,i2,i3,i4,i5⟩:=AY h (Nat.le_refl a) (by rw [kw s a a (Nat.le_refl a)])
 exact ⟨h1,h2,i1,i2,i3,i4,i5⟩
theorem Quo.same {s:ByteArray} {a q p:Nat} (h:Quo s a q) (h1:a≤p) (h2:p≤q) (hm:bt s p=34) (he:slashes s a p % 2=0):p=q:=by
 rcases Nat.lt_or_ge p q with hl | hl
 ·have:=h.odd p h1 hl hm;omega
 ·omega
theorem zu (s:ByteArray) (a m:Nat):slashes s a m≤m:=by
 induction m with
 | zero=>simp [slashes]
 | succ m ih=>rw [slashes];split <;> omega
theorem qf {s:ByteArray} {a p:Nat} (h:slashes s a p≠0):a < p∧bt s ((p - 1:Nat):Int)=92∧slashes s a p=slashes s a (p - 1)+1:=by
 cases p with
 | zero=>exact absurd rfl h
 | succ p =>
   rw [slashes] at h ⊢
   by_cases hc:a≤p∧bt s p=92
   ·rw [if_pos hc];exact ⟨by omega,hc.2,rfl⟩
   ·rw [if_neg hc] at h;exact absurd rfl h
def vch (c:Int):Int:=if c=34 then 2 else if c=123∨c=91∨c=40 then 3 else if c=125∨c=93∨c=41 then 1 else 0
inductive Sq (s:ByteArray):Nat→Nat→Nat→Prop
 | last (i:Nat):i < s.size→vch (bt s i)=1→Sq s i 1 (i+1)
 | skip (i d e:Nat):i < s.size→vch (bt s i)=0→Sq s (i+1) d e→Sq s i d e
 | opens (i d e:Nat):1≤d→i < s.size→vch (bt s i)=3→Sq s (i+1) (d+1) e→Sq s i d e
 | close (i d e:Nat):i < s.size→vch (bt s i)=1→Sq s (i+1) (d+1) e→Sq s i (d+2) e
 | str (i q d e:Nat):i < s.size→vch (bt s i)=2→Quo s (i+1) q→Sq s (q+1) d e→Sq s i d e
theorem Sq.bound {s:ByteArray} {i d e:Nat} (h:Sq s i d e):i < s.size∧i < e∧e≤s.size∧1≤d∧d+i≤s.size:=by
 induction h with
 | last i h0 h1=>omega
 | skip i d e h0 h1 h2 ih=>omega
 | opens i d e hd h0 h1 h2 ih=>omega
 | close i d e h0 h1 h2 ih=>omega
 | str i q d e h0 h1 h2 h3 ih=>have:=h2.le;have:=h2.lt;omega
def jf (s:ByteArray) (i j:Nat):Prop:=∀ d e,Sq s j d e→Sq s i d e
theorem jf.refl (s:ByteArray) (i:Nat):jf s i i:=fun _ _ h=>h
theorem jf.trans {s:ByteArray} {i j k:Nat} (h:jf s i j) (h':jf s j k):jf s i k:=fun d e h2=>h d e (h' d e h2)
theorem jf.one {s:ByteArray} {i:Nat} (h:i < s.size) (h0:vch (bt s i)=0):jf s i (i+1):=fun d e h2 => .skip i d e h h0 h2
theorem jf.quoted {s:ByteArray} {i q:Nat} (h:i < s.size) (h0:bt s i=34) (hq:Quo s (i+1) q):jf s i (q+1):=fun d e h2 => .str i q d e h (by rw [h0];rfl) hq h2
theorem jf.many {s:ByteArray} {i:Nat}:∀ n:Nat,i+n≤s.size→(∀ k,i≤k→k < i+n→vch (bt s k)=0)→jf s i (i+n)
 | 0,_,_=>jf.refl s i
 | n+1,h,hk=>(jf.many n (by omega) (fun k h1 h2=>hk k h1 (by omega))).trans (jf.one (by omega) (hk _ (by omega) (by omega)))
theorem jf.bracket {s:ByteArray} {i j:Nat} (hi:i < s.size) (ho:vch (bt s i)=3) (hj:j < s.size) (hc:vch (bt s j)=1) (h:jf s (i+1) j):jf s i (j+1):=fun d e h2=>by
 have hd:=h2.bound
 obtain ⟨d,rfl⟩:∃ m,d=m+1:=⟨d - 1,by omega⟩
 exact .opens i _ e (by omega) hi ho (h _ _ (.close j d e hj hc h2))
theorem jf.closes {s:ByteArray} {i j:Nat} (hj:j < s.size) (hc:vch (bt s j)=1) (h:jf s (i+1) j):Sq s (i+1) 1 (j+1):=h _ _ (.last j hj hc)
end Go.Proofs.YtpgfjbimodnkeaaGreatDoor.Scan
namespace Go.Proofs.YtpgfjbimodnkeaaGreatDoor.Dec
open Go Go.RowKit Go.Proofs.YtpgfjbimodnkeaaGreatDoorW.PrintWords
def iU (c:Int):Prop:=(48≤c∧c≤57)∨(97≤c∧c≤102)∨(65≤c∧c≤70)
def jJ (c:Int):Int:=if 48≤c∧c≤57 then c - 48 else if 97≤c∧c≤102 then c - 87 else c - 55
theorem jE {c:Int} (h:iU c):0≤jJ c∧jJ c≤15:=by
 unfold jJ;rcases h with h | h | h
 ·rw [if_pos h];omega
 ·rw [if_neg (by omega),if_pos h];omega
 ·rw [if_neg (by omega),if_neg (by omega)];omega
def iZ (r:Int):List Int :=
 if r≤127 then [r] else if r≤2047 then [192+r / 64,128+r % 64]
 else if r≤65535 then [224+r / 4096,128+r / 64 % 64,128+r % 64]
 else [240+r / 262144,128+r / 4096 % 64,128+r / 64 % 64,128+r % 64]
theorem iw (r:Int):1≤(iZ r).length∧(iZ r).length≤4:=by
 unfold iZ
 split
 ·simp
 split
 ·simp
 split <;> simp
def kV (c:Int):Int:=if c=98 then 8 else if c=102 then 12 else if c=110 then 10 else if c=114 then 13 else if c=116 then 9 else c
def fU (c:Int):Prop:=c=92∨c=47∨c=98∨c=102∨c=110∨c=114∨c=116∨c=34
def dV (s:ByteArray) (p:Int):Int:=((jJ (bt s p)*16+jJ (bt s (p+1)))*16+jJ (bt s (p+2)))*16+jJ (bt s (p+3))
def qU (s:ByteArray) (p:Int):Prop:=iU (bt s p)∧iU (bt s (p+1))∧iU (bt s (p+2))∧iU (bt s (p+3))
theorem lh {s:ByteArray} {p:Int} (h:qU s p):0≤dV s p∧dV s p≤65535:=by
 obtain ⟨h0,h1,h2,h3⟩:=h
 have h0:=jE h0
 have h1:=jE h1
 have h2:=jE h2
 have h3:=jE h3
 unfold dV
 omega
inductive Unq (s:ByteArray):Nat→List Int→Prop
 | done (i:Nat):i=s.size→Unq s i []
 | plain (i:Nat) (l:List Int):i < s.size→32≤bt s i→bt s i≠92→Unq s (i+1) l→Unq s i (bt s i :: l)
 | short (i:Nat) (l:List Int):i+1 < s.size→bt s i=92→fU (bt s ((i:Int)+1))→Unq s (i+2) l→Unq s i (kV (bt s ((i:Int)+1)) :: l)
 | uni (i:Nat) (l:List Int):i+6≤s.size→bt s i=92→bt s ((i:Int)+1)=117→qU s ((i:Int)+2)→¬ (55296≤dV s ((i:Int)+2)∧dV s ((i:Int)+2)≤57343) →
    Unq s (i+6) l→Unq s i (iZ (dV s ((i:Int)+2)) ++ l)
 | pair (i:Nat) (l:List Int):i+12≤s.size→bt s i=92→bt s ((i:Int)+1)=117→qU s ((i:Int)+2)→55296≤dV s ((i:Int)+2)→dV s ((i:Int)+2)≤56319 →
    bt s ((i:Int)+6)=92→bt s ((i:Int)+7)=117→qU s ((i:Int)+8)→56320≤dV s ((i:Int)+8)→dV s ((i:Int)+8)≤57343 →
    Unq s (i+12) l→Unq s i (iZ (65536+(dV s ((i:Int)+2) - 55296)*1024+(dV s ((i:Int)+8) - 56320)) ++ l)
theorem Unq.size {s:ByteArray} {i:Nat} {l:List Int} (h:Unq s i l):i+l.length≤s.size:=by
 induction h with
 | done i h=>simp;omega
 | plain i l h0 _ _ _ ih=>simp only [List.length_cons];omega
 | short i l h0 _ _ _ ih=>simp only [List.length_cons];omega
 | uni i l h0 _ _ _ _ _ ih=>have:=iw (dV s ((i:Int)+2));simp only [List.length_append];omega
 | pair i l h0 _ _ _ _ _ _ _ _ _ _ _ ih=>have:=iw (65536+(dV s ((i:Int)+2) - 55296)*1024+(dV s ((i:Int)+8) - 56320));simp only [List.length_append];omega
theorem ji (s:ByteArray) (a b j:Nat) (hj:a+j < b) (hb:b≤s.size):bt (s.extract a b) j=bt s ((a+j:Nat):Int):=by
 unfold bt
 simp only [Int.toNat_natCast]
 have h':j < (s.extract a b).size:=by rw [ByteArray.size_extract];omega
 rw [dif_pos h',dif_pos (by omega:a+j < s.size),ByteArray.getElem_extract]
theorem toList_inj {x y:ByteArray} (h:x.toList=y.toList):x=y:=by
 rw [ByteArray.toList_eq,ByteArray.toList_eq] at h
 exact WideShapes.bytes_inj h
theorem nU (s:ByteArray) (i:Nat) (h:s.size≤i):bt s i=0:=by
 unfold bt
 rw [dif_neg (by simp;omega)]
theorem gU {i:Int} (h0:-9223372036854775808≤i) (h1:i≤9223372036854775807):wrap64 i=i:=by
 unfold wrap64
 omega
end Go.Proofs.YtpgfjbimodnkeaaGreatDoor.Dec
namespace Go.Proofs.YtpgfjbimodnkeaaGreatDoor.Scan
def Evt {α:Type} (g:Nat→Option α) (r:α):Prop:=∃ K,∀ k,K≤k→g k=some r
section
variable {α β:Type}
theorem Evt.pure (r:α):Evt (fun _=>some r) r:=⟨0,fun _ _=>rfl⟩
theorem Evt.of {a:Option α} {r:α} (h:a=some r):Evt (fun _=>a) r:=⟨0,fun _ _=>h⟩
theorem Evt.bind {g:Nat→Option α} {x:α} {f:Nat→α→Option β} {r:β} (h:Evt g x) (h':Evt (fun k=>f k x) r):Evt (fun k=>(g k).bind (f k)) r:=by
 obtain ⟨K,hK⟩:=h
 obtain ⟨L,hL⟩:=h'
 refine ⟨K+L,fun k hk=>?_⟩
 show (g k).bind (f k)=some r
 rw [hK k (by omega)]
 exact hL k (by omega)
theorem Evt.aI {a:Option α} {x:α} {f:Nat→α→Option β} {r:β} (h:a=some x) (h':Evt (fun k=>f k x) r):Evt (fun k=>a.bind (f k)) r:=by
 subst h;exact h'
theorem Evt.step {g h:Nat→Option α} {r:α} (he:∀ k,g (k+1)=h k) (hh:Evt h r):Evt g r:=by
 obtain ⟨K,hK⟩:=hh
 refine ⟨K+1,fun k hk=>?_⟩
 obtain ⟨m,rfl⟩:∃ m,k=m+1:=⟨k - 1,by omega⟩
 rw [he];exact hK m (by omega)
theorem Evt.congr {g h:Nat→Option α} {r:α} (he:∀ k,g k=h k) (hh:Evt h r):Evt g r:=by
 obtain ⟨K,hK⟩:=hh
 exact ⟨K,fun k hk=>(he k).trans (hK k hk)⟩
theorem Evt.uniq {g:Nat→Option α} {r r':α} (h:Evt g r) (h':Evt g r'):r=r':=by
 obtain ⟨K,hK⟩:=h
 obtain ⟨L,hL⟩:=h'
 have h1:=hK (K+L) (by omega)
 rw [hL (K+L) (by omega)] at h1
 exact (Option.some.inj h1).symm
theorem Evt.pos {c:Prop} [Decidable c] {g h:Nat→Option α} {r:α} (hc:c) (hh:Evt g r):Evt (fun k=>if c then g k else h k) r :=
 Evt.congr (fun _=>if_pos hc) hh
theorem Evt.neg {c:Prop} [Decidable c] {g h:Nat→Option α} {r:α} (hc:¬ c) (hh:Evt h r):Evt (fun k=>if c then g k else h k) r :=
 Evt.congr (fun _=>if_neg hc) hh
theorem Evt.at {g:Nat→Option α} {r:α} (h:Evt g r):∃ k,g k=some r:=by
 obtain ⟨K,hK⟩:=h
 exact ⟨K,hK K (Nat.le_refl _)⟩
end
end Go.Proofs.YtpgfjbimodnkeaaGreatDoor.Scan
namespace Go.Proofs.YtpgfjbimodnkeaaGreatDoor.Dec
open Go Go.RowKit Go.Proofs.YtpgfjbimodnkeaaGreatDoorW.PrintWords Go.Proofs.YtpgfjbimodnkeaaGreatDoorW.PrintLast Go.Proofs.YtpgfjbimodnkeaaGreatDoorW.PrintMore
def hexN (s:ByteArray):Nat→Int
 | 0=>0
 | k+1=>hexN s k*16+jJ (bt s k)
theorem rD (s:ByteArray) (k:Nat) (h:∀ j:Nat,j < k→iU (bt s j)):0≤hexN s k∧hexN s k < 16 ^ k:=by
 induction k with
 | zero=>simp [hexN]
 | succ k ih =>
   have h1:=ih (fun j hj=>h j (by omega))
   have h2:=jE (h k (by omega))
   simp only [hexN,Int.pow_succ]
   omega
theorem Dk:∀ c:Fin 6,Go.bits .or .u8 (65+(c.val:Int)) 32=97+c.val:=by decide
theorem D5:∀ c:Fin 6,Go.bits .or .u8 (97+(c.val:Int)) 32=97+c.val:=by decide
theorem Bd {c:Int} (h:(97≤c∧c≤102)∨(65≤c∧c≤70)):Go.bits .or .u8 c 32=jJ c+87:=by
 unfold jJ
 rw [if_neg (by omega)]
 rcases h with h | h
 ·rw [if_pos h]
  have:=D5 ⟨(c - 97).toNat,by omega⟩
  simp only at this
  rw [show (97:Int)+((c - 97).toNat:Int)=c by omega] at this
  rw [this];omega
 ·rw [if_neg (by omega)]
  have:=Dk ⟨(c - 65).toNat,by omega⟩
  simp only at this
  rw [show (65:Int)+((c - 65).toNat:Int)=c by omega] at this
  rw [this];omega
theorem Fq (s:ByteArray) (j:Nat):((s.data.toList.getD j 0).toNat:Int)=bt s j:=by
 unfold bt
 by_cases h:j < s.size
 ·have h':((j:Int).toNat) < s.size:=by simpa using h
  rw [dif_pos h']
  have h2:j < s.data.toList.length:=by simpa using h
  rw [List.getD_eq_getElem?_getD,List.getElem?_eq_getElem h2]
  simp
  rfl
 ·have h':¬ ((j:Int).toNat) < s.size:=by simpa using h
  rw [dif_neg h']
  have h2:¬ j < s.data.toList.length:=by simpa using h
  simp only [List.getD_eq_getElem?_getD]
  rw [List.getElem?_eq_none (by omega)]
  rfl
theorem zo (a0:Int) (w:World):Calls Tryz.prog 137 #[.int .u8 a0] w fun e w'=>e = .returned (.int .u8 (Go.bits .or .u8 a0 32))∧w'=w:=by
 go_enter Tryz.func137,Tryz.ntmps137
 go_wp2
 go_ret
 exact ⟨rfl,rfl⟩
theorem D8 (w:World) (s:ByteArray) (hs:s.size=4) (hh:∀ j:Nat,j < 4→iU (bt s j)) :
 Calls Tryz.prog 122 #[.string s,.int .i64 16,.int .i64 64] w fun e w'=>e = .returned (.tuple #[.int .u64 (hexN s 4),.nilIface])∧Below w.heap.size w w':=by
 have hemp:s.toList.isEmpty=false:=by
  rw [← decide_eq_emptyBytes]
  exact decide_eq_false (fun h=>by rw [h] at hs;exact absurd hs (by decide))
 have hcv:=Lib.run_convert_string_bytes (P:=Tryz.prog) w 9 99 5 s (u:=.string) Tryz.underlying9 Tryz.underlying99 Tryz.underlying5
 rw [hs] at hcv
 have hB:∀ j:Nat,j < 4→(Lib.bytesWorld w 5 s).cell? ⟨w.heap.size,j,none⟩=some (.int .u8 (bt s j)):=fun j hj=>by
  rw [Lib.bytesWorld_cell w 5 s j (by omega),Fq]
 have hbel:=ae.mk (show Below w.heap.size w (Lib.bytesWorld w 5 s) from ⟨rfl,rfl,rfl,by rw [Lib.bytesWorld_size];omega,fun k hk=>Lib.bytesWorld_at_old w 5 s k hk⟩)
 obtain ⟨W1,hW1⟩:∃ W1,W1=Lib.bytesWorld w 5 s:=⟨_,rfl⟩
 rw [← hW1] at hcv hB hbel
 clear hW1
 have hmv:IntKind.u64.wrap (IntKind.u64.wrap 18446744073709551616 - 1)=18446744073709551615:=by
  rw [IntKind.wrap_u64,IntKind.wrap_u64]
  decide
 replace hB:=ae.mk hB
 replace hh:=ae.mk hh
 have hS:=ae.mk hs
 clear hs
 go_enter Tryz.func122,Tryz.ntmps122
 go_wp2
 go_loopg [12,13,101] 5 (fun kq vu vn vi w'=>∃ (k:Nat) (a:Int),vu = .bool false∧vn = .int .u64 a∧vi = .int .i64 k∧ae (k≤4∧a=hexN s k∧kq+k=5)∧w'=W1)
 case atStart=>exact ⟨0,0,rfl,rfl,rfl,⟨by omega,rfl,rfl⟩,rfl⟩
 case round =>
  obtain ⟨k,a,rfl,rfl,rfl,hA,rfl⟩:=hrel
  obtain ⟨hk,ha,hkq⟩:=hA.out
  clear hA
  by_cases hkn:k < 4
  ·have hc:=hB.out k hkn
   have hd:=hh.out k hkn
   have hv:=jE hd
   have hb:=rD s k (fun j hj=>hh.out j (by omega))
   have hp:(16:Int) ^ k≤4096:=by
    have:k=0∨k=1∨k=2∨k=3:=by omega
    rcases this with rfl | rfl | rfl | rfl <;> decide
   rw [← ha] at hb
   have hn:hexN s (k+1)=a*16+jJ (bt s k):=by rw [ha];rfl
   have a0:0≤a:=hb.1
   have a1:a < 4096:=by omega
   have HN:ae (k+1≤4∧a*16+jJ (bt s k)=hexN s (k+1)∧gk - 1+(k+1)=5):=⟨by omega,hn.symm,by omega⟩
   clear ha hn hb hp
   generalize bt s k=c at *
   by_cases hdig:48≤c∧c≤57
   ·have he:jJ c=c - 48:=if_pos hdig
    rw [he] at HN hv
    replace he:=ae.mk he
    obtain ⟨h0,h1⟩:=hdig
    replace hd:=ae.mk hd
    replace hkq:=ae.mk hkq
    go_wp2
    go_roundg (gk - 1)
    case measure=>have:=hkq.out;omega
    case rel=>exact ⟨k+1,a*16+(c - 48),rfl,(by first | rfl | (congr 1;omega)),(by first | rfl | (congr 1;omega)),HN,rfl⟩
   ·have hl:(97≤c∧c≤102)∨(65≤c∧c≤70):=by rcases hd with h | h | h;exact absurd h hdig;exact .inl h;exact .inr h
    have hlow:=Bd hl
    have h58:57 < c:=by omega
    have hv10:10≤jJ c:=by unfold jJ;rw [if_neg hdig];split <;> omega
    have hf:∀ W,Calls Tryz.prog 137 #[.int .u8 c] W fun e w'=>e = .returned (.int .u8 (jJ c+87))∧w'=W:=fun W=>hlow ▸ zo c W
    replace hd:=ae.mk hd
    replace hl:=ae.mk hl
    replace hlow:=ae.mk hlow
    replace hkq:=ae.mk hkq
    have hc0:0≤c:=by omega
    have h95:(c == 95)=false:=beq_eq_false_iff_ne.mpr (by have:=hl.out;omega)
    clear hdig
    generalize jJ c=d at *
    go_wp2_with (first | (go_at_call 137;(with_reducible refine (hf _).mono ?_);rintro e w4 ⟨rfl,rfl⟩))
    go_roundg (gk - 1)
    case measure=>have:=hkq.out;omega
    case rel=>exact ⟨k+1,a*16+d,rfl,(by first | rfl | (congr 1;omega)),(by first | rfl | (congr 1;omega)),HN,rfl⟩
  ·have hkk:k=4:=by omega
   subst hkk
   subst ha
   replace hkq:=ae.mk hkq
   go_wp2
   go_ret2
   exact ⟨rfl,hbel.out⟩
theorem AP (w:World) (s:ByteArray) (hs:s.size=4) (hh:∀ j:Nat,j < 4→iU (bt s j)) :
 Calls Tryz.prog 100 #[.string s,.int .i64 16,.int .i64 64] w fun e w'=>e = .returned (.tuple #[.int .u64 (hexN s 4),.nilIface])∧Below w.heap.size w w':=by
 have hc:=fun W=>D8 W s hs hh
 clear hs hh
 go_enter Tryz.func100,Tryz.ntmps100
 go_wp2_with (first | (go_at_call 122;(with_reducible refine (hc _).mono ?_);rintro e w4 ⟨rfl,hB⟩))
 go_ret2
 exact ⟨rfl,hB⟩
theorem xA (s t:ByteArray):∀ k:Nat,(∀ j:Nat,j < k→bt s j=bt t j)→hexN s k=hexN t k
 | 0,_=>rfl
 | k+1,h=>by simp only [hexN];rw [xA s t k (fun j hj=>h j (by omega)),h k (by omega)]
theorem xX (s:ByteArray) (n j:Nat) (hj:j < n):bt (s.extract 0 n) j=bt s j:=by
 unfold bt
 simp only [Int.toNat_natCast]
 by_cases h:j < s.size
 ·have h':j < (s.extract 0 n).size:=by rw [ByteArray.size_extract];omega
  rw [dif_pos h',dif_pos h,ByteArray.getElem_extract]
  simp
 ·have h':¬ j < (s.extract 0 n).size:=by rw [ByteArray.size_extract];omega
  rw [dif_neg h',dif_neg h]
theorem wK (w:World) (s:ByteArray) (hs:4≤s.size) (hh:∀ j:Nat,j < 4→iU (bt s j)) :
 Calls Tryz.prog 80 #[.string s] w fun e w'=>e = .returned (.int .i32 (hexN s 4))∧Below w.heap.size w w':=by
 have hc:∀ W,Calls Tryz.prog 100 #[.string (s.extract 0 4),.int .i64 16,.int .i64 64] W fun e w'=>e = .returned (.tuple #[.int .u64 (hexN s 4),.nilIface])∧Below W.heap.size W w':=fun W=>by
  have h:=AP W (s.extract 0 4) (by rw [ByteArray.size_extract];omega) (fun j hj=>by rw [xX s 4 j hj];exact hh j hj)
  rw [xA (s.extract 0 4) s 4 (fun j hj=>xX s 4 j hj)] at h
  exact h
 have hb:=rD s 4 hh
 generalize hexN s 4=n at *
 have h0:0≤n:=hb.1
 have h1:n < 65536:=hb.2
 have hs4:(4:Int)≤(s.size:Int):=by omega
 clear hb hh
 go_enter Tryz.func80,Tryz.ntmps80
 go_wp2_with (first | (go_at_call 100;(with_reducible refine (hc _).mono ?_);rintro e w4 ⟨rfl,hB⟩))
 go_ret
 exact ⟨rfl,hB⟩
theorem ER (b off len cap:Nat) (r:Int) (h0:128≤r) (h1:r≤2047) (w:World) (hl:2≤len) (c0 c1:Value)
 (hc0:w.cell? ⟨b,off,none⟩=some c0) (hc1:w.cell? ⟨b,off+1,none⟩=some c1) (hf0:w.frozen? ⟨b,off,none⟩=false) (hf1:w.frozen? ⟨b,off+1,none⟩=false) :
 Calls Tryz.prog 101 #[.slice (some ⟨b,off,none⟩) len cap,.int .i32 r] w fun e w'=>e = .returned (.int .i64 2)∧w'=w.setCells b off [.int .u8 (192+r / 64),.int .u8 (128+r % 64)]:=by
 go_enter Tryz.func101,Tryz.ntmps101
 go_wp2
 go_ret
 exact ⟨rfl,rfl⟩
theorem wG (b off len cap:Nat) (r:Int) (h0:2048≤r) (h1:r < 55296) (w:World) (hl:3≤len) (c0 c1 c2:Value)
 (hc0:w.cell? ⟨b,off,none⟩=some c0) (hc1:w.cell? ⟨b,off+1,none⟩=some c1) (hc2:w.cell? ⟨b,off+2,none⟩=some c2)
 (hf0:w.frozen? ⟨b,off,none⟩=false) (hf1:w.frozen? ⟨b,off+1,none⟩=false) (hf2:w.frozen? ⟨b,off+2,none⟩=false) :
 Calls Tryz.prog 101 #[.slice (some ⟨b,off,none⟩) len cap,.int .i32 r] w fun e w'=>e = .returned (.int .i64 3)∧w'=w.setCells b off [.int .u8 (224+r / 4096),.int .u8 (128+r / 64 % 64),.int .u8 (128+r % 64)]:=by
 go_enter Tryz.func101,Tryz.ntmps101
 go_wp2
 go_ret
 exact ⟨rfl,rfl⟩
theorem vU (b off len cap:Nat) (r:Int) (h0:57343 < r) (h1:r≤65535) (w:World) (hl:3≤len) (c0 c1 c2:Value)
 (hc0:w.cell? ⟨b,off,none⟩=some c0) (hc1:w.cell? ⟨b,off+1,none⟩=some c1) (hc2:w.cell? ⟨b,off+2,none⟩=some c2)
 (hf0:w.frozen? ⟨b,off,none⟩=false) (hf1:w.frozen? ⟨b,off+1,none⟩=false) (hf2:w.frozen? ⟨b,off+2,none⟩=false) :
 Calls Tryz.prog 101 #[.slice (some ⟨b,off,none⟩) len cap,.int .i32 r] w fun e w'=>e = .returned (.int .i64 3)∧w'=w.setCells b off [.int .u8 (224+r / 4096),.int .u8 (128+r / 64 % 64),.int .u8 (128+r % 64)]:=by
 go_enter Tryz.func101,Tryz.ntmps101
 go_wp2
 go_ret
 exact ⟨rfl,rfl⟩
theorem Dh (b off len cap:Nat) (r:Int) (h0:65536≤r) (h1:r≤1114111) (w:World) (hl:4≤len) (c0 c1 c2 c3:Value)
 (hc0:w.cell? ⟨b,off,none⟩=some c0) (hc1:w.cell? ⟨b,off+1,none⟩=some c1) (hc2:w.cell? ⟨b,off+2,none⟩=some c2) (hc3:w.cell? ⟨b,off+3,none⟩=some c3)
 (hf0:w.frozen? ⟨b,off,none⟩=false) (hf1:w.frozen? ⟨b,off+1,none⟩=false) (hf2:w.frozen? ⟨b,off+2,none⟩=false) (hf3:w.frozen? ⟨b,off+3,none⟩=false) :
 Calls Tryz.prog 101 #[.slice (some ⟨b,off,none⟩) len cap,.int .i32 r] w fun e w'=>e = .returned (.int .i64 4)∧w'=w.setCells b off [.int .u8 (240+r / 262144),.int .u8 (128+r / 4096 % 64),.int .u8 (128+r / 64 % 64),.int .u8 (128+r % 64)]:=by
 go_enter Tryz.func101,Tryz.ntmps101
 go_wp2
 go_ret
 exact ⟨rfl,rfl⟩
def Bg:List Int→Nat→List Int→List Int
 | xs,_,[]=>xs
 | xs,o,b :: bs=>Bg (xs.set o b) (o+1) bs
theorem yl:∀ (bs ys zs:List Int),bs.length≤zs.length→Bg (ys ++ zs) ys.length bs=ys ++ (bs ++ zs.drop bs.length)
 | [],ys,zs,_=>by simp [Bg]
 | b :: bs,ys,[],h=>by simp at h
 | b :: bs,ys,z :: zs,h=>by
   have h1:=yl bs (ys ++ [b]) zs (by simpa using h)
   simp only [Bg]
   rw [show (ys ++ z :: zs).set ys.length b=(ys ++ [b]) ++ zs by simp [List.set_append],show ys.length+1=(ys ++ [b]).length by simp,h1]
   simp
theorem qB {g n cap base:Nat} {e:TypeId}:∀ (bs:List Int) (o:Nat) (W:World) (xs:List Int),W.ownsRow base e 1 (.slice (some ⟨g,0,none⟩) n cap) n (nums .u8 xs) →
 (W.setCells g o (nums .u8 bs)).ownsRow base e 1 (.slice (some ⟨g,0,none⟩) n cap) n (nums .u8 (Bg xs o bs))∧W.grownBy (W.setCells g o (nums .u8 bs)) (some g)
 | [],o,W,xs,h=>⟨h,⟨rfl,rfl,rfl,Nat.le_refl _,fun _ _ _=>rfl⟩⟩
 | b :: bs,o,W,xs,h=>by
   have h1:=Bo h (o:Int) b
   have h2:=qB bs (o+1) _ _ h1.1
   exact ⟨h2.1,World.grownBy.trans h1.2 h2.2⟩
theorem EN (b off len cap:Nat) (r:Int) (h0:0≤r) (h1:r≤127) (w:World) (hl:1≤len) (c0:Value)
 (hc0:w.cell? ⟨b,off,none⟩=some c0) (hf0:w.frozen? ⟨b,off,none⟩=false) :
 Calls Tryz.prog 83 #[.slice (some ⟨b,off,none⟩) len cap,.int .i32 r] w fun e w'=>e = .returned (.int .i64 1)∧w'=w.setCells b off [.int .u8 r]:=by
 go_enter Tryz.func83,Tryz.ntmps83
 go_wp2
 go_ret
 exact ⟨rfl,rfl⟩
theorem vT (p:Value) (r:Int) (h0:128≤r) (h1:r≤1114111) (w:World) (k:Int) (W':World)
 (hc:Calls Tryz.prog 101 #[p,.int .i32 r] w fun e w'=>e = .returned (.int .i64 k)∧w'=W') :
 Calls Tryz.prog 83 #[p,.int .i32 r] w fun e w'=>e = .returned (.int .i64 k)∧w'=W':=by
 go_enter Tryz.func83,Tryz.ntmps83
 go_wp2_with (first | (go_at_call 101;(with_reducible refine hc.mono ?_);rintro e w4 ⟨rfl,rfl⟩))
 go_ret
 exact ⟨rfl,rfl⟩
theorem ES (b off cap:Nat) (r:Int) (h0:0≤r) (h1:r≤1114111) (hs:¬ (55296≤r∧r≤57343)) (w:World) (c0 c1 c2 c3:Value)
 (hc0:w.cell? ⟨b,off,none⟩=some c0) (hc1:w.cell? ⟨b,off+1,none⟩=some c1) (hc2:w.cell? ⟨b,off+2,none⟩=some c2) (hc3:w.cell? ⟨b,off+3,none⟩=some c3)
 (hf0:w.frozen? ⟨b,off,none⟩=false) (hf1:w.frozen? ⟨b,off+1,none⟩=false) (hf2:w.frozen? ⟨b,off+2,none⟩=false) (hf3:w.frozen? ⟨b,off+3,none⟩=false) :
 Calls Tryz.prog 83 #[.slice (some ⟨b,off,none⟩) 8 cap,.int .i32 r] w fun e w'=>e = .returned (.int .i64 (iZ r).length)∧w'=w.setCells b off (nums .u8 (iZ r)):=by
 unfold iZ
 split
 ·exact EN b off 8 cap r h0 (by omega) w (by omega) c0 hc0 hf0
 split
 ·exact vT _ r (by omega) h1 w _ _ (ER b off 8 cap r (by omega) (by omega) w (by omega) c0 c1 hc0 hc1 hf0 hf1)
 split
 ·by_cases h:r < 55296
  ·exact vT _ r (by omega) h1 w _ _ (wG b off 8 cap r (by omega) h w (by omega) c0 c1 c2 hc0 hc1 hc2 hf0 hf1 hf2)
  ·exact vT _ r (by omega) h1 w _ _ (vU b off 8 cap r (by omega) (by omega) w (by omega) c0 c1 c2 hc0 hc1 hc2 hf0 hf1 hf2)
 ·exact vT _ r (by omega) h1 w _ _ (Dh b off 8 cap r (by omega) (by omega) w (by omega) c0 c1 c2 c3 hc0 hc1 hc2 hc3 hf0 hf1 hf2 hf3)
theorem sK (base g cap m:Nat) (ys:List Int) (hm:m=ys.length) (r:Int) (h0:0≤r) (h1:r≤1114111) (hs:¬ (55296≤r∧r≤57343)) (w:World)
 (HO:w.ownsRow base 5 1 (.slice (some ⟨g,0,none⟩) (m+8) cap) (m+8) (nums .u8 (ys ++ List.replicate 8 0))) (cap':Nat) :
 Calls Tryz.prog 83 #[.slice (some ⟨g,m,none⟩) 8 cap',.int .i32 r] w fun e w'=>e = .returned (.int .i64 (iZ r).length) ∧
  w'.ownsRow base 5 1 (.slice (some ⟨g,0,none⟩) (m+(iZ r).length) cap) (m+(iZ r).length) (nums .u8 (ys ++ iZ r))∧w.grownBy w' (some g):=by
 have hl:(nums .u8 (ys ++ List.replicate 8 0)).length=m+8:=by simp [nums,hm]
 have hc:∀ j,j < 4→∃ c,w.cell? ⟨g,m+j,none⟩=some c:=fun j hj=>by
  rw [HO.cellAt (m+j) (by omega)]
  exact ⟨_,List.getElem?_eq_getElem (by omega)⟩
 obtain ⟨c0,hc0⟩:=hc 0 (by omega)
 obtain ⟨c1,hc1⟩:=hc 1 (by omega)
 obtain ⟨c2,hc2⟩:=hc 2 (by omega)
 obtain ⟨c3,hc3⟩:=hc 3 (by omega)
 refine (ES g m cap' r h0 h1 hs w c0 c1 c2 c3 hc0 hc1 hc2 hc3 (HO.frozenAt _) (HO.frozenAt _) (HO.frozenAt _) (HO.frozenAt _)).mono ?_
 rintro e w' ⟨rfl,rfl⟩
 have hz:=iw r
 have h2:=qB (iZ r) m w _ HO
 refine ⟨rfl,?_,h2.2⟩
 have h3:=xO h2.1 (m:=m+(iZ r).length) (by omega)
 have h4:(nums .u8 (Bg (ys ++ List.replicate 8 0) m (iZ r))).take ((m+(iZ r).length)*1)=nums .u8 (ys ++ iZ r):=by
  rw [hm,yl _ _ _ (by simp;omega)]
  simp only [nums,← List.map_take,Nat.mul_one]
  rw [← List.append_assoc,List.take_left' (by simp)]
 rw [h4] at h3
 exact h3
end Go.Proofs.YtpgfjbimodnkeaaGreatDoor.Dec
namespace Go.Proofs.YtpgfjbimodnkeaaGreatDoor.Q
open Go.RowKit Go.Proofs.YtpgfjbimodnkeaaGreatDoorW.PrintWords Go.Proofs.YtpgfjbimodnkeaaGreatDoorW.PrintLast Go.Proofs.YtpgfjbimodnkeaaGreatDoorW.PrintMore
attribute [local go_sem] dK dJ dZ ed dC dD dN dM
attribute [local go_sem] dK dJ dZ ed dC dD dN dM
def jK.f (a0:Int) (a1:Int):Option (Int):=if 55296≤a0 then (if a0 < 56320 then (if 56320≤a1 then (if a1 < 57344 then (some (wrap32 ((Go.bits .or .i32 (wrap32 ((wrap32 (a0 - 55296))*1024)) (wrap32 (a1 - 56320)))+65536))) else (some 65533)) else (some 65533)) else (some 65533)) else (some 65533)
theorem jK.calls (a0:Int) (a1:Int) (r:Int) (w:World) (h:jK.f a0 a1=some r) :
 Calls Tryz.prog 82 #[.int .i32 a0,.int .i32 a1] w fun e w'=>e = .returned (.int .i32 r)∧aj w w':=by
 have H:(if 55296≤a0 then (if a0 < 56320 then (if 56320≤a1 then (if a1 < 57344 then (some (wrap32 ((Go.bits .or .i32 (wrap32 ((wrap32 (a0 - 55296))*1024)) (wrap32 (a1 - 56320)))+65536))) else (some 65533)) else (some 65533)) else (some 65533)) else (some 65533))=some r:=h
 clear h
 by_cases c3:55296≤a0
 ·rw [if_pos c3] at H
  have c3b0:decide (55296≤a0)=true:=decide_eq_true c3
  clear c3
  by_cases c4:a0 < 56320
  ·rw [if_pos c4] at H
   have c4b0:decide (a0 < 56320)=true:=decide_eq_true c4
   clear c4
   by_cases c5:56320≤a1
   ·rw [if_pos c5] at H
    have c5b0:decide (56320≤a1)=true:=decide_eq_true c5
    clear c5
    by_cases c6:a1 < 57344
    ·rw [if_pos c6] at H
     have c6b0:decide (a1 < 57344)=true:=decide_eq_true c6
     clear c6
     obtain rfl:=Option.some.inj H
     go_enter Tryz.func82,Tryz.ntmps82
     go_wp2
     go_ret
     exact ⟨by first | rfl | (simp;done) | (simp [*];done),by repeat (first | exact aj.refl _ | apply aj.step)⟩
    ·rw [if_neg c6] at H
     have c6b0:decide (a1 < 57344)=false:=decide_eq_false c6
     clear c6
     obtain rfl:=Option.some.inj H
     go_enter Tryz.func82,Tryz.ntmps82
     go_wp2
     go_ret
     exact ⟨by first | rfl | (simp;done) | (simp [*];done),by repeat (first | exact aj.refl _ | apply aj.step)⟩
   ·rw [if_neg c5] at H
    have c5b0:decide (56320≤a1)=false:=decide_eq_false c5
    clear c5
    obtain rfl:=Option.some.inj H
    go_enter Tryz.func82,Tryz.ntmps82
    go_wp2
    go_ret
    exact ⟨by first | rfl | (simp;done) | (simp [*];done),by repeat (first | exact aj.refl _ | apply aj.step)⟩
  ·rw [if_neg c4] at H
   have c4b0:decide (a0 < 56320)=false:=decide_eq_false c4
   clear c4
   obtain rfl:=Option.some.inj H
   go_enter Tryz.func82,Tryz.ntmps82
   go_wp2
   go_ret
   exact ⟨by first | rfl | (simp;done) | (simp [*];done),by repeat (first | exact aj.refl _ | apply aj.step)⟩
 ·rw [if_neg c3] at H
  have c3b0:decide (55296≤a0)=false:=decide_eq_false c3
  clear c3
  obtain rfl:=Option.some.inj H
  go_enter Tryz.func82,Tryz.ntmps82
  go_wp2
  go_ret
  exact ⟨by first | rfl | (simp;done) | (simp [*];done),by repeat (first | exact aj.refl _ | apply aj.step)⟩
end Go.Proofs.YtpgfjbimodnkeaaGreatDoor.Q
