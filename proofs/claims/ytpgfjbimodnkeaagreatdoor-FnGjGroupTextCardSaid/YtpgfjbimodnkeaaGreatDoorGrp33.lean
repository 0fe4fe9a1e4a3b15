/- FnGjGroupText: whatever text comes in, the law returns true and the text reads afterwards as before; with the fourteen package-level variables that its row lists as the text of the program lays them (the tied card) (part 33 of 33) -/
import Derived.Test.YtpgfjbimodnkeaaGreatDoorTie
import Derived.Test.YtpgfjbimodnkeaaGreatDoorCards
import Derived.WalkKit
import Derived.ProofKit
import Derived.OpenShut
import Derived.ShutString
import Derived.ChangeOld
import Derived.Below
import Derived.LaidMore
import Derived.Lay
import Derived.SevenTiedAt
import Derived.Stop.Joined
import Derived.Test.YtpgfjbimodnkeaaGreatDoorGrp32
set_option maxHeartbeats 16000000
set_option maxRecDepth 100000
set_option linter.unusedVariables false
set_option linter.unusedSimpArgs false
namespace Go.Proofs.YtpgfjbimodnkeaaGreatDoor
namespace fnGjGroupText
open Go Go.ChangeShapes Go.WideShapes Go.ChangeAt Go.RowKit
open Go.ChangeMaps (open_string shut_string)
theorem own:ownKnob Tryz.prog.godebug=Option.none:=by kernel_rfl
abbrev laid:List (String × DataW Unit):=Rows.fnGjGroupTextRow.laid
theorem lifted (os:Os) (started:os.Started) (H:Type) (enc:TypeId × Value→H) :
 ReturnsInHanded {} Tryz.checked os 4 .any (fun w args=>(Rows.fnGjGroupTextSpec.pre enc Tryz.prog Tryz.f4 Rows.fnGjGroupTextRow.domain false w args∧laidMetH Tryz.prog laid w)∧sizedMet enc Tryz.prog Tryz.f4 (OpenSpec.ofChange Rows.fnGjGroupTextSpec) false w args)
  (Rows.fnGjGroupTextSpec.post enc Tryz.prog Tryz.f4 false true false false):=by
 refine returnsInHanded_of_change_and (C:=Tryz.checked) (X:=fun w _=>laidMetH Tryz.prog laid w) (fun _ _ _ hh h=>h.of_heap hh) own started (by kernel_rfl) Tryz.func4
  (ChangeSpec.witness_shaped (enc:=enc) (C:=Tryz.checked) (os:=os) (X:=fun w _=>laidMetH Tryz.prog laid w) false (World.laidAll Tryz.prog os laid) #[.string ByteArray.empty] 8 (World.laidAll_os _ _ _)
    (World.shaped_of_ZipB (by kernel_rfl) (by kernel_rfl)) (by kernel_rfl) (by kernel_rfl) (by kernel_rfl)
    (by rw [MakeChecks.laidMetH_plain _ _ _ (by kernel_rfl)];exact laidMet_laidAll _ (by kernel_rfl) (by kernel_rfl))) ?_
 intro W base args ds gs before hval0 hW _ _ hL _
 have hval:∀ (j:Nat) t v,Tryz.f4.params[j]?=some t→args[j]?=some v→Value.okWide Tryz.prog W .any base t v:=hval0
 have hW':=hW
 obtain ⟨p,q,hA0,hV,rfl,_,_⟩:=hW
 have hA:DataW.TrodAll enc Tryz.prog W 0 (fun _=>true) true Tryz.f4.params.toList args.toList ds p:=hA0
 rw [Tryz.params4] at hA hval
 obtain ⟨v0,d0,rfl,rfl,h0⟩:=trodAll_one hA
 obtain ⟨rfl,rfl⟩:=trodVars_none hV
 obtain ⟨a0,rfl,rfl,rfl,y0⟩:=open_string Tryz.underlying9 (hval 0 9 v0 rfl rfl) h0
 clear hA0 hval0
 simp only [List.append_nil] at hW'
 refine (Hec.BA W _ (Dec.Bj hL) a0).mono fun e W' ⟨he,bel⟩=>?_
 subst he
 exact ⟨_,rfl,_,_,_,[],_,[],hW',trodAll_mk1 (shut_bool Tryz.underlying4 _),trodAll_mk1 (shut_string Tryz.underlying9 y0),rfl,bel.frame _,fun h=>by cases h⟩
theorem over:Rows.FnGjGroupTextSaid :=
 OpenClaim.holds_of_wide 4 Tryz.f4 rfl rfl rfl rfl rfl rfl rfl ⟨rfl,rfl,rfl,rfl,rfl⟩ rfl rfl rfl rfl rfl (by kernel_rfl) Tryz.func4 (by kernel_rfl)
  (of_decide_eq_true (by kernel_rfl)) (by unfold Func.isWrapper;first | (rw [if_pos (by decide +kernel)];kernel_rfl) | (rw [if_neg (by decide +kernel)];exact ⟨rfl,rfl⟩))
  (fun os started H enc _=>lifted os started H enc)
end fnGjGroupText
theorem fnGjGroupText_card:Rows.FnGjGroupTextCardSaid :=
 Claim7.holds_tied_plain_at .later [] Rows.fnGjGroupTextCard.laidKinds true (true, "8b9c496fbe4d17382abc0d2718ccfab891b4798a5aaf0721fdc382d64c84c845") true fnGjGroupText.over (fun _ h=>by cases h) (by kernel_rfl) (fun _ h=>by cases h) fnGjGroupText_row_tie rfl ⟨rfl,rfl⟩ (by kernel_rfl) rfl
  (fun f fn hf hfn=>by
    obtain rfl:f=4:=Option.some.inj ((show Tryz.prog.funcNamed "pub-tetrapla/laws.FnGjGroupText" = some 4 by kernel_rfl).symm.trans hf) |>.symm
    obtain rfl:fn=Tryz.f4:=(Option.some.inj (Tryz.func4.symm.trans hfn)).symm
    exact ⟨by kernel_rfl,fun j t ht=>by
     rw [Tryz.params4] at ht
     have hm:t ∈ [9]:=by simpa using Array.mem_of_getElem? ht
     have hall:([9].all fun u=>!Tryz.prog.wantsStandIn u)=true:=by kernel_rfl
     exact (show Tryz.prog.wantsStandIn t=false by simpa using List.all_eq_true.1 hall t hm)⟩)
  (by kernel_rfl)
#print axioms fnGjGroupText_card
end Go.Proofs.YtpgfjbimodnkeaaGreatDoor
