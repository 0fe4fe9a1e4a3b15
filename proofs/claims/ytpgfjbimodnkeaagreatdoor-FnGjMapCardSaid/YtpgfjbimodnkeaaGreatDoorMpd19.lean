/- FnGjMap: whatever text comes in, the law returns true and the text reads afterwards as before; with the thirteen package-level variables that its row lists as the program's own text lays them (the tied card) (part 19 of 19) -/
import Derived.Test.YtpgfjbimodnkeaaGreatDoorRows
import Derived.Test.YtpgfjbimodnkeaaGreatDoorTie
import Derived.Test.YtpgfjbimodnkeaaGreatDoorCards
import Derived.WalkKit
import Derived.ProofKit
import Derived.OpenShut
import Derived.ShutString
import Derived.ChangeOld
import Derived.Below
import Derived.LaidMore
import Derived.Lay
import Derived.SevenTiedAt
import Derived.Stop.Joined
import Derived.Test.YtpgfjbimodnkeaaGreatDoorMpd4
import Derived.Test.YtpgfjbimodnkeaaGreatDoorMpd18
set_option maxHeartbeats 16000000
set_option maxRecDepth 100000
set_option linter.unusedVariables false
set_option linter.unusedSimpArgs false
namespace Go.Proofs.YtpgfjbimodnkeaaGreatDoor.Dec
open Go Go.RowKit Go.Proofs.YtpgfjbimodnkeaaGreatDoor.Laid Go.Proofs.YtpgfjbimodnkeaaGreatDoorW.PrintWords
theorem jH {cs:List Value} {i:Nat} {v:Value} (h:(cs.drop (i*1)).take 1=[v]):cs[i]?=some v:=by
 have:=congrArg (·[0]?) h
 simpa using this
def Dc (ds:List (DataW Unit)) (i:Nat):Bool:=match ds[i]? with | some (.lit (.int .i64 z))=>z == (nC i:Nat) | _=>false
theorem yY:∃ ds,(Rows.laid_internal_strconv_powtab:DataW Unit) = .slice ds []∧ds.length=9∧(List.range 9).all (Dc ds)=true:=⟨_,rfl,rfl,by kernel_rfl⟩
theorem yT:∃ ds,(Rows.laid_internal_strconv_float64pow10:DataW Unit) = .slice ds []∧ds.length=23:=⟨_,rfl,rfl⟩
theorem c5:Tryz.prog.cellsOf 5=1:=by kernel_rfl
theorem c3:Tryz.prog.cellsOf 3=1:=by kernel_rfl
theorem c37:Tryz.prog.cellsOf 37=1:=by kernel_rfl
theorem ED:Tryz.prog.cellsOf 221=2:=by kernel_rfl
theorem c232:Tryz.prog.cellsOf 232=2:=by kernel_rfl
section
variable {W:World} {l:List (String × DataW Unit)} {ps:List MemPlace}
theorem xK (hl:DataW.LaidVars Tryz.prog W l ps) (i:Nat) {g:Nat} {n:String} {s:List UInt8} (h:l[i]?=some (n,.iface "*errors.errorString" (.ptr (.agg [.lit (.string s)])))) (hg:Tryz.prog.globalNamed n=some g) (ht:(Tryz.prog.globals[g]?).map (·.type)=some 123):∃ t v,W.cell? ⟨g,0,none⟩=some (.iface t v):=by
 obtain ⟨cs,fuel,p,hc,_,hr⟩:=jZ hl i h hg ht
 obtain ⟨f,u,v,e,_,_⟩:=iface_of_trod Tryz.underlying123 hr
 exact ⟨u,v,by rw [hc 0,e];rfl⟩
theorem Bi (hl:DataW.LaidVars Tryz.prog W l ps) (i:Nat) (h:l[i]?=some ("internal/strconv.optimize",Rows.laid_internal_strconv_optimize)):W.cell? ⟨4,0,none⟩=some (.bool true):=by
 obtain ⟨cs,fuel,p,hc,_,ht⟩:=jZ hl i h (g:=4) (t:=4) (by kernel_rfl) (by kernel_rfl)
 rw [hc 0,yD Tryz.underlying4 ht]
 rfl
theorem Bc (hl:DataW.LaidVars Tryz.prog W l ps) (i:Nat) (h:l[i]?=some ("internal/strconv.float64info",Rows.laid_internal_strconv_float64info)) :
 W.cell? ⟨5,0,none⟩=some (.int .u64 52)∧W.cell? ⟨5,1,none⟩=some (.int .u64 11)∧W.cell? ⟨5,2,none⟩=some (.int .i64 (-1023)):=by
 obtain ⟨cs,fuel,p,hc,_,ht⟩:=jZ hl i h (g:=5) (t:=181) (by kernel_rfl) (by kernel_rfl)
 unfold Rows.laid_internal_strconv_float64info at ht
 have c133:Tryz.prog.cellsOf 133=1:=by kernel_rfl
 obtain ⟨_,n0,d0,q0,e0,h0⟩:=iQ Tryz.underlying181 ht 0 rfl
 obtain ⟨_,n1,d1,q1,e1,h1⟩:=iQ Tryz.underlying181 ht 1 rfl
 obtain ⟨_,n2,d2,q2,e2,h2⟩:=iQ Tryz.underlying181 ht 2 rfl
 obtain rfl:=Option.some.inj e0
 obtain rfl:=Option.some.inj e1
 obtain rfl:=Option.some.inj e2
 have h0':(cs.drop (0*1)).take (Tryz.prog.cellsOf 133)=_:=(oH Tryz.underlying133 h0).1
 have h1':(cs.drop (1*1)).take (Tryz.prog.cellsOf 133)=_:=(oH Tryz.underlying133 h1).1
 have h2':(cs.drop (2*1)).take (Tryz.prog.cellsOf 3)=_:=(oH Tryz.underlying3 h2).1
 rw [c133] at h0' h1'
 rw [c3] at h2'
 exact ⟨by rw [hc 0];exact jH h0',by rw [hc 1];exact jH h1',by rw [hc 2];exact jH h2'⟩
theorem Cf (hl:DataW.LaidVars Tryz.prog W l ps) (i:Nat) (h:l[i]?=some ("internal/strconv.powtab",Rows.laid_internal_strconv_powtab)) :
 ∃ (b:Addr) (cc:Nat),b.block < W.heap.size∧W.cell? ⟨7,0,none⟩=some (.slice (some b) 9 cc)∧∀ i,i < 9→W.cell? (b.add i)=some (.int .i64 (nC i:Nat)):=by
 obtain ⟨cs,fuel,p,hc,_,ht⟩:=jZ hl i h (g:=7) (t:=65) (by kernel_rfl) (by kernel_rfl)
 obtain ⟨ds,eds,hlen,hp⟩:=yY
 rw [eds] at ht
 obtain ⟨a,cap,e,hel⟩:=nT Tryz.underlying65 ht
 rw [hlen] at e hel
 have key:∀ j,j < 9→W.cell? (a.add j)=some (.int .i64 (nC j:Nat)):=fun j hj=>by
  obtain ⟨n,d,q,vs,hd,hvl,hvc,hr⟩:=hel j hj
  obtain ⟨z,rfl,rfl,_⟩:=tV Tryz.underlying3 hr
  have hx:=hvc 0 (by rw [c3];decide)
  rw [c3,Nat.mul_one] at hx
  have hv:=List.all_eq_true.1 hp j (List.mem_range.2 hj)
  unfold Dc at hv
  simp only [hd] at hv
  rw [← eq_of_beq hv]
  exact hx
 refine ⟨a,cap,?_,by rw [hc 0,e];rfl,key⟩
 have:=World.block_lt_of_cell? W _ (key 0 (by decide))
 exact this
theorem BU (hl:DataW.LaidVars Tryz.prog W l ps) (i:Nat) (h:l[i]?=some ("internal/strconv.float64pow10",Rows.laid_internal_strconv_float64pow10)) :
 ∃ (b:Addr) (cc:Nat),b.block < W.heap.size∧W.cell? ⟨8,0,none⟩=some (.slice (some b) 23 cc)∧∀ i,i < 23→∃ x,W.cell? (b.add i)=some (.float .f64 x):=by
 obtain ⟨cs,fuel,p,hc,_,ht⟩:=jZ hl i h (g:=8) (t:=217) (by kernel_rfl) (by kernel_rfl)
 obtain ⟨ds,eds,hlen⟩:=yT
 rw [eds] at ht
 obtain ⟨a,cap,e,hel⟩:=nT Tryz.underlying217 ht
 rw [hlen] at e hel
 have key:∀ j,j < 23→∃ x,W.cell? (a.add j)=some (.float .f64 x):=fun j hj=>by
  obtain ⟨n,d,q,vs,hd,hvl,hvc,hr⟩:=hel j hj
  obtain ⟨z,rfl⟩:=yN Tryz.underlying37 hr
  have hx:=hvc 0 (by rw [c37];decide)
  rw [c37,Nat.mul_one] at hx
  exact ⟨z,hx⟩
 refine ⟨a,cap,?_,by rw [hc 0,e];rfl,key⟩
 obtain ⟨x,hx⟩:=key 0 (by decide)
 have:=World.block_lt_of_cell? W _ hx
 exact this
theorem Ci (hl:DataW.LaidVars Tryz.prog W l ps) (i:Nat) (h:l[i]?=some ("internal/strconv.pow10Tab",Rows.laid_internal_strconv_pow10Tab)) :
 ∀ i,i < 1392→∃ x:Int,0≤x∧x < 18446744073709551616∧W.cell? ⟨9,i,none⟩=some (.int .u64 x):=by
 obtain ⟨cs,fuel,p,hc,_,ht⟩:=jZ hl i h (g:=9) (t:=222) (by kernel_rfl) (by kernel_rfl)
 unfold Rows.laid_internal_strconv_pow10Tab Go.Pinned.pow10Tab at ht
 obtain ⟨_,_,hel⟩:=array_elem Tryz.underlying222 ht
 have wf:∀ z:Int,(Lit.int .u64 z).wf=true→0≤z∧z < 18446744073709551616:=fun z hz=>by
  simp [Lit.wf,IntKind.min,IntKind.max,IntKind.signed,IntKind.bits] at hz
  omega
 have c134:Tryz.prog.cellsOf 134=1:=by kernel_rfl
 intro j hj
 obtain ⟨n,d,q,hd,hr⟩:=hel (j / 2) (by omega)
 rw [ED] at hr
 rw [List.getElem?_map,Option.map_eq_some_iff] at hd
 obtain ⟨x,_,rfl⟩:=hd
 obtain ⟨_,n0,d0,q0,e0,h0⟩:=iQ Tryz.underlying221 hr 0 rfl
 obtain ⟨_,n1,d1,q1,e1,h1⟩:=iQ Tryz.underlying221 hr 1 rfl
 obtain ⟨z0,h0a,_,w0⟩:=tV Tryz.underlying134 h0
 obtain ⟨z1,h1a,_,w1⟩:=tV Tryz.underlying134 h1
 have h0':((((cs.drop (j / 2*2)).take 2)).drop (0*1)).take (Tryz.prog.cellsOf 134)=_:=h0a
 have h1':((((cs.drop (j / 2*2)).take 2)).drop (1*1)).take (Tryz.prog.cellsOf 134)=_:=h1a
 rw [c134] at h0' h1'
 have k0:=jH h0'
 have k1:=jH h1'
 rw [List.getElem?_take,if_pos (by decide),List.getElem?_drop] at k0 k1
 rcases Nat.mod_two_eq_zero_or_one j with hm | hm
 ·rw [show j / 2*2+0=j by omega] at k0
  exact ⟨z0,(wf z0 w0).1,(wf z0 w0).2,by rw [hc j,k0]⟩
 ·rw [show j / 2*2+1=j by omega] at k1
  exact ⟨z1,(wf z1 w1).1,(wf z1 w1).2,by rw [hc j,k1]⟩
theorem Ae (hl:DataW.LaidVars Tryz.prog W l ps) (i:Nat) (h:l[i]?=some ("internal/strconv.leftcheats",Rows.laid_internal_strconv_leftcheats)) :
 ∃ (b:Addr) (cc:Nat),b.block < W.heap.size∧W.cell? ⟨10,0,none⟩=some (.slice (some b) 61 cc)∧∀ k,k < 61 →
  W.cell? (b.add (k*2))=some (.int .i64 ((fG k).1:Nat))∧W.cell? ⟨(b.add (k*2)).block,(b.add (k*2)).off+1,none⟩=some (.string (iW k)):=by
 obtain ⟨cs,fuel,p,hc,_,ht⟩:=jZ hl i h (g:=10) (t:=233) (by kernel_rfl) (by kernel_rfl)
 unfold Rows.laid_internal_strconv_leftcheats Go.Pinned.leftcheats at ht
 obtain ⟨a,cap,e,hel⟩:=nT Tryz.underlying233 ht
 have hlen:Go.Pinned.cheatRows.length=61:=by decide +kernel
 rw [List.length_map,hlen] at e hel
 have key:∀ k,k < 61→W.cell? (a.add (k*2))=some (.int .i64 ((fG k).1:Nat))∧W.cell? ⟨(a.add (k*2)).block,(a.add (k*2)).off+1,none⟩=some (.string (iW k)):=fun k hk=>by
  obtain ⟨n,d,q,vs,hd,hvl,hvc,hr⟩:=hel k hk
  rw [c232] at hvl hvc
  rw [List.getElem?_map,Option.map_eq_some_iff] at hd
  obtain ⟨x,hx,rfl⟩:=hd
  have hxa:fG k=x:=by unfold fG;rw [List.getD_eq_getElem?_getD,hx];rfl
  obtain ⟨_,n0,d0,q0,e0,h0⟩:=iQ Tryz.underlying232 hr 0 rfl
  obtain ⟨_,n1,d1,q1,e1,h1⟩:=iQ Tryz.underlying232 hr 1 rfl
  obtain rfl:=Option.some.inj e0
  obtain rfl:=Option.some.inj e1
  have h0':(vs.drop (0*1)).take (Tryz.prog.cellsOf 3)=_:=(oH Tryz.underlying3 h0).1
  have h1':(vs.drop (1*1)).take (Tryz.prog.cellsOf 9)=_:=uA Tryz.underlying9 h1
  have c9:Tryz.prog.cellsOf 9=1:=by kernel_rfl
  rw [c3] at h0'
  rw [c9] at h1'
  have k0:=(hvc 0 (by decide)).trans (jH h0')
  have k1:=(hvc 1 (by decide)).trans (jH h1')
  rw [hxa]
  refine ⟨k0,?_⟩
  unfold iW
  rw [hxa]
  exact k1
 refine ⟨a,cap,?_,by rw [hc 0,e];rfl,key⟩
 have:=World.block_lt_of_cell? W _ (key 0 (by decide)).1
 exact this
end
end Go.Proofs.YtpgfjbimodnkeaaGreatDoor.Dec
namespace Go.Proofs.YtpgfjbimodnkeaaGreatDoor
namespace fnGjMap
open Go Go.ChangeShapes Go.WideShapes Go.ChangeAt Go.RowKit
open Go.ChangeMaps (open_string shut_string)
theorem sorts:Dec.lQ:=⟨fun blk off cap ss w h1 h2 h3=>Tryz.sort_Strings blk off cap ss w h1 h2 h3,fun p cap w=>Tryz.sort_Strings_none p cap w⟩
theorem wK {W:World} (h:laidMetH Tryz.prog Rows.fnGjMapRow.laid W):Dec.Tabs W.heap.size W:=by
 rw [MakeChecks.laidMetH_plain _ _ _ (by kernel_rfl)] at h
 obtain ⟨ps,hl,_,_⟩:=h
 obtain ⟨_,_,_,_,hlow,_⟩:=Laid.jZ hl 1 (n := "math/bits.deBruijn64tab") (d:=Rows.laid_math_bits_deBruijn64tab) rfl (g:=13) (t:=239) (by kernel_rfl) (by kernel_rfl)
 obtain ⟨i0,i1,i2⟩:=Dec.Bc hl 3 rfl
 exact ⟨by omega,Nat.le_refl _,Dec.xK hl 10 (n := "strconv.ErrSyntax") rfl (by kernel_rfl) (by kernel_rfl),Dec.xK hl 9 (n := "strconv.ErrRange") rfl (by kernel_rfl) (by kernel_rfl),Dec.Bi hl 4 rfl,i0,i1,i2,Dec.Cf hl 5 rfl,Dec.BU hl 6 rfl,Dec.Ci hl 12 rfl,Dec.Ae hl 11 rfl⟩
theorem own:ownKnob Tryz.prog.godebug=Option.none:=by kernel_rfl
abbrev laid:List (String × DataW Unit):=Rows.fnGjMapRow.laid
theorem lifted (os:Os) (started:os.Started) (H:Type) (enc:TypeId × Value→H) :
 ReturnsInHanded {} Tryz.checked os 6 .any (fun w args=>(Rows.fnGjMapSpec.pre enc Tryz.prog Tryz.f6 Rows.fnGjMapRow.domain false w args∧laidMetH Tryz.prog laid w)∧sizedMet enc Tryz.prog Tryz.f6 (OpenSpec.ofChange Rows.fnGjMapSpec) false w args)
  (Rows.fnGjMapSpec.post enc Tryz.prog Tryz.f6 false true false false):=by
 refine returnsInHanded_of_change_and (C:=Tryz.checked) (X:=fun w _=>laidMetH Tryz.prog laid w) (fun _ _ _ hh h=>h.of_heap hh) own started (by kernel_rfl) Tryz.func6
  (ChangeSpec.witness_shaped (enc:=enc) (C:=Tryz.checked) (os:=os) (X:=fun w _=>laidMetH Tryz.prog laid w) false (World.laidAll Tryz.prog os laid) #[.string ByteArray.empty] 8 (World.laidAll_os _ _ _)
    (World.shaped_of_ZipB (by kernel_rfl) (by kernel_rfl)) (by kernel_rfl) (by kernel_rfl) (by kernel_rfl)
    (by rw [MakeChecks.laidMetH_plain _ _ _ (by kernel_rfl)];exact laidMet_laidAll _ (by kernel_rfl) (by kernel_rfl))) ?_
 intro W base args ds gs before hval0 hW _ _ hL _
 have hval:∀ (j:Nat) t v,Tryz.f6.params[j]?=some t→args[j]?=some v→Value.okWide Tryz.prog W .any base t v:=hval0
 have hW':=hW
 obtain ⟨p,q,hA0,hV,rfl,_,_⟩:=hW
 have hA:DataW.TrodAll enc Tryz.prog W 0 (fun _=>true) true Tryz.f6.params.toList args.toList ds p:=hA0
 rw [Tryz.params6] at hA hval
 obtain ⟨v0,d0,rfl,rfl,h0⟩:=trodAll_one hA
 obtain ⟨rfl,rfl⟩:=trodVars_none hV
 obtain ⟨a0,rfl,rfl,rfl,y0⟩:=open_string Tryz.underlying9 (hval 0 9 v0 rfl rfl) h0
 clear hA0 hval0
 simp only [List.append_nil] at hW'
 refine (Dec.zV sorts W _ (wK hL) a0).mono fun e W' ⟨he,bel⟩=>?_
 subst he
 exact ⟨_,rfl,_,_,_,[],_,[],hW',trodAll_mk1 (shut_bool Tryz.underlying4 _),trodAll_mk1 (shut_string Tryz.underlying9 y0),rfl,bel.frame _,fun h=>by cases h⟩
theorem over:Rows.FnGjMapSaid :=
 OpenClaim.holds_of_wide 6 Tryz.f6 rfl rfl rfl rfl rfl rfl rfl ⟨rfl,rfl,rfl,rfl,rfl⟩ rfl rfl rfl rfl rfl (by kernel_rfl) Tryz.func6 (by kernel_rfl)
  (of_decide_eq_true (by kernel_rfl)) (by unfold Func.isWrapper;first | (rw [if_pos (by decide +kernel)];kernel_rfl) | (rw [if_neg (by decide +kernel)];exact ⟨rfl,rfl⟩))
  (fun os started H enc _=>lifted os started H enc)
end fnGjMap
theorem fnGjMap_card:Rows.FnGjMapCardSaid :=
 Claim7.holds_tied_plain_at .later [] Rows.fnGjMapCard.laidKinds true (true, "8b9c496fbe4d17382abc0d2718ccfab891b4798a5aaf0721fdc382d64c84c845") true fnGjMap.over (fun _ h=>by cases h) (by kernel_rfl) (fun _ h=>by cases h) fnGjMap_row_tie rfl ⟨rfl,rfl⟩ (by kernel_rfl) rfl
  (fun f fn hf hfn=>by
    obtain rfl:f=6:=Option.some.inj ((show Tryz.prog.funcNamed "pub-tetrapla/laws.FnGjMap" = some 6 by kernel_rfl).symm.trans hf) |>.symm
    obtain rfl:fn=Tryz.f6:=(Option.some.inj (Tryz.func6.symm.trans hfn)).symm
    exact ⟨by kernel_rfl,fun j t ht=>by
     rw [Tryz.params6] at ht
     have hm:t ∈ [9]:=by simpa using Array.mem_of_getElem? ht
     have hall:([9].all fun u=>!Tryz.prog.wantsStandIn u)=true:=by kernel_rfl
     exact (show Tryz.prog.wantsStandIn t=false by simpa using List.all_eq_true.1 hall t hm)⟩)
  (by kernel_rfl)
#print axioms fnGjMap_card
end Go.Proofs.YtpgfjbimodnkeaaGreatDoor
