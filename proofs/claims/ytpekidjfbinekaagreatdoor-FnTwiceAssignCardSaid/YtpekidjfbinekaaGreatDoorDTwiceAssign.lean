/- THE LAW 'FnTwiceAssign': FOR EVERY INPUT IT RETURNS TRUE, AND EACH ARGUMENT READS BEHIND THE CALL AS IT READ BEFORE; its conditions are the row's own cells: the listed tables of Go's library stand as its text lays them when the call begins. -/
import Derived.Test.YtpekidjfbinekaaGreatDoorCards
import Derived.Test.YtpekidjfbinekaaGreatDoorTie
import Derived.Test.YtpekidjfbinekaaGreatDoorC2V
import Derived.Test.YtpekidjfbinekaaGreatDoorL20V
import Derived.WalkKit
import Derived.ProofKit
import Derived.OpenShut
import Derived.Lay
import Derived.MakeChecks
import Derived.Stop.Joined
import Derived.SevenTiedAt
set_option maxRecDepth 100000
set_option maxHeartbeats 60000000
set_option linter.all false
namespace Go.Proofs.YtpekidjfbinekaaGreatDoor
namespace fnTwiceAssign
open Go.ChangeShapes Go.WideShapes Go.ChangeAt Go.RowKit
theorem own:ownKnob Tryz.prog.godebug=none:=by kernel_rfl
def wargs:Array Value:= #[.slice none 0 0,.int .i64 0,zeroTy.val,zeroTy.val,zeroTy.val,zeroTy.val]
def zd {H:Type}:DataW H:= .agg [.lit (.int .i64 0),.lit (.int .i64 0),.lit (.int .i64 0),.lit (.bool false),.nil,.lit (.string [])]
theorem reads (os:Os){H:Type}(enc:TypeId × Value->H):DataW.whole enc Tryz.prog ((World.laidAll Tryz.prog os Rows.fnTwiceAssignRow.laid).forCall (fun _ _=>0) ⟨#[],wargs,[]⟩).memory Tryz.f12.params.toList Rows.fnTwiceAssignSpec.vars false wargs.toList 8=some ([.nil,.lit (.int .i64 0),zd,zd,zd,zd],[],[]):=by kernel_rfl
theorem params:Tryz.f12.params.toList= [22,3,26,26,26,26]:=by rw [Tryz.params12]
theorem lifted (os:Os)(started:os.Started)(H:Type)(enc:TypeId × Value->H)(F:Stop.Interp):
 ReturnsInHanded {} Tryz.checked os 12 .any ((OpenSpec.ofChange Rows.fnTwiceAssignSpec).preRow enc Tryz.prog Tryz.f12 Rows.fnTwiceAssignRow.domain false Rows.fnTwiceAssignRow.laid) (((OpenSpec.ofChange Rows.fnTwiceAssignSpec).at F).post enc Tryz.prog Tryz.f12 false true false false):=by
 refine returnsInHanded_of_row (C:=Tryz.checked) (s:=OpenSpec.ofChange Rows.fnTwiceAssignSpec) own started (by kernel_rfl) Tryz.func12
  ⟨World.laidAll Tryz.prog os Rows.fnTwiceAssignRow.laid,fun _ _=>0,⟨#[],wargs,[]⟩,World.laidAll_os _ _ _,World.shaped_of_ZipB (by kernel_rfl) (by kernel_rfl),rfl,(Input.okWide_of_okWideB (by kernel_rfl)).2,
   OpenSpec.preRow_of_cond 8 (reads os enc) (by kernel_rfl) (fun k hk=>by cases hk) (by kernel_rfl) (by rw [MakeChecks.laidMetH_plain _ _ _ (by kernel_rfl)];exact laidMet_laidAll _ (by kernel_rfl) (by kernel_rfl)),by
   simp only [Assume.holds];exact ⟨by simp,by simp,fun _=>Modest.zero,by simp,by simp⟩⟩ ?_
 intro W base args ds gs before hval hW _ _ hsz hL _ _;rw [MakeChecks.laidMetH_plain _ _ _ (by kernel_rfl)] at hL;refine law_post rfl (by rw [params];simp) (by kernel_rfl) (fun ds hds=> ?_) hval hW hsz (tab_ok hL) (fun ht hl ha=> ?_)
 ·rw [params] at hds
  exact match ds,hds with
  |[d1,d2,d3,d4,d5,d6],_=>rfl
 ·rw [params] at hl ha
  obtain ⟨da,dl,dc,n,x,y,x2,y2,rfl,hA,hx,hy,hx2,hy2⟩:=args_six ht hl ha;exact fnTwiceAssign n W hA x y x2 y2 hx hy hx2 hy2
theorem band {a b:Bool}(h:a=true)(h2:b=true):(a && b)=true:=by rw [h,h2];rfl
set_option maxRecDepth 100000
theorem k0:(Rows.fnTwiceAssignRow.wf (OpenSpec.ofChange Rows.fnTwiceAssignSpec))=true:=by kernel_rfl
theorem k1:(laidOutB Tryz.prog)=true:=by kernel_rfl
theorem k2:(mapsRowed Tryz.prog)=true:=by kernel_rfl
theorem k3:(Tryz.f12.params.all (Tryz.prog.readableRec ·))=true:=by kernel_rfl
theorem k4:(namedTie Tryz.prog Rows.fnTwiceAssignRow.named Rows.fnTwiceAssignSpec.vars)=true:=by kernel_rfl
theorem k5:((Rows.fnTwiceAssignRow.stops== []))=true:=by kernel_rfl
theorem k6:((Tryz.prog.stops== []))=true:=by kernel_rfl
theorem k7:((Rows.fnTwiceAssignRow.knobs== []))=true:=by kernel_rfl
theorem k8:((Tryz.prog.stopKnobs== []))=true:=by kernel_rfl
theorem k9:((Rows.fnTwiceAssignRow.inPlace==Tryz.prog.inPlace 12))=true:=by kernel_rfl
theorem k10:((Rows.fnTwiceAssignRow.unfollowed==Tryz.prog.unfollowed 12))=true:=by kernel_rfl
theorem k11:((Rows.fnTwiceAssignRow.recurses==Tryz.prog.recurses 12))=true:=by kernel_rfl
theorem k12:((Rows.fnTwiceAssignRow.named==Tryz.prog.varsNamed 12))=true:=by kernel_rfl
theorem k13:((Rows.fnTwiceAssignRow.maps==(Tryz.f12.params.toList ++ Rows.fnTwiceAssignSpec.plain.varTypes Tryz.prog).any (Tryz.prog.mapsRec ·)))=true:=by kernel_rfl
theorem k14:((Rows.fnTwiceAssignRow.ifaces==(Tryz.f12.params.toList ++ Rows.fnTwiceAssignSpec.plain.varTypes Tryz.prog).any (Tryz.prog.ifacesRec ·)))=true:=by kernel_rfl
theorem k15:((Rows.fnTwiceAssignRow.mapsOut==Tryz.prog.mapsAmong Tryz.f12.resultTypes.toList))=true:=by kernel_rfl
theorem k16:((Rows.fnTwiceAssignRow.loops==(Tryz.f12.params.toList ++ Rows.fnTwiceAssignSpec.plain.varTypes Tryz.prog).any (Tryz.prog.loopsFrom ·)))=true:=by kernel_rfl
theorem k17:((Rows.fnTwiceAssignRow.wideKeys==(Tryz.f12.params.toList ++ Rows.fnTwiceAssignSpec.plain.varTypes Tryz.prog ++ Tryz.f12.resultTypes.toList).any (Tryz.prog.wideKeysFrom ·)))=true:=by kernel_rfl
theorem k18:(Rows.fnTwiceAssignSpec.vars.all (Tryz.prog.varReadable ·))=true:=by kernel_rfl
theorem k19:(Tryz.f12.resultTypes.all (fun t=>Tryz.prog.readableRec t && decide (t < Tryz.prog.types.size)))=true:=by kernel_rfl
theorem k20:((Rows.fnTwiceAssignRow.ifacesOut==Tryz.f12.resultTypes.toList.any (Tryz.prog.ifacesRec ·)))=true:=by kernel_rfl
theorem k21:((Rows.fnTwiceAssignRow.loopsOut==Tryz.f12.resultTypes.toList.any (Tryz.prog.loopsFrom ·)))=true:=by kernel_rfl
theorem k22:((Rows.fnTwiceAssignRow.plainKeys==Tryz.prog.plainKeys))=true:=by kernel_rfl
theorem k23:(Rows.fnTwiceAssignRow.shortTexts.isNone)=true:=by kernel_rfl
theorem k24:(Tryz.prog.stopsHeard)=true:=by kernel_rfl
theorem k25:(Tryz.prog.mayEnter)=true:=by kernel_rfl
theorem k26:((Rows.fnTwiceAssignRow.lifted==Tryz.prog.liftsFinal))=true:=by kernel_rfl
theorem k27:((Tryz.prog.make==some Rows.fnTwiceAssignRow.make))=true:=by kernel_rfl
theorem k28:((Rows.fnTwiceAssignRow.kinds==(if Rows.fnTwiceAssignRow.domain.isEmpty then [] else Tryz.f12.params.toList.map fun t=>match Tryz.prog.underlying t with | some (.int k)=>some k | _=>none)))=true:=by kernel_rfl
theorem k29:((Rows.fnTwiceAssignRow.pinned==Rows.fnTwiceAssignRow.pinnedBy))=true:=by kernel_rfl
theorem k30:((Rows.fnTwiceAssignRow.veiled==(Tryz.f12.params.toList ++ Rows.fnTwiceAssignSpec.plain.varTypes Tryz.prog ++ Tryz.f12.resultTypes.toList).any (Tryz.prog.veiledRec ·)))=true:=by kernel_rfl
theorem k31:(Rows.fnTwiceAssignRow.veiledFits Tryz.prog Tryz.f12.params.toList (Tryz.f12.params.toList ++ Rows.fnTwiceAssignSpec.plain.varTypes Tryz.prog ++ Tryz.f12.resultTypes.toList))=true:=by kernel_rfl
theorem closed:joinedFacts Tryz.prog 12 Tryz.f12 Rows.fnTwiceAssignSpec Rows.fnTwiceAssignRow=true:=band (band (band (band (band (band (band (band (band (band (band (band (band (band (band (band (band (band (band (band (band (band (band (band (band (band (band (band (band (band (band k0 k1) k2) k3) k4) k5) k6) k7) k8) k9) k10) k11) k12) k13) k14) k15) k16) k17) k18) k19) k20) k21) k22) k23) k24) k25) k26) k27) k28) k29) k30) k31
theorem said:Rows.FnTwiceAssignSaid:=
 OpenClaim.holds_of_cond 12 Tryz.f12 rfl rfl rfl rfl rfl rfl rfl ⟨rfl,rfl,rfl,rfl,rfl⟩ rfl rfl rfl rfl rfl (by kernel_rfl) Tryz.func12 closed
  (of_decide_eq_true (by kernel_rfl)) (by unfold Func.isWrapper;first | (rw [if_pos (by decide +kernel)];kernel_rfl) | (rw [if_neg (by decide +kernel)];exact ⟨rfl,rfl⟩))
  (fun os started H enc _ F=>by rw [OpenClaim.pre_eq_preRow];exact lifted os started H enc F)
theorem plain (f:FuncId)(fn:Func)(hf:Tryz.pinned.checked.prog.funcNamed "unisons/laws.FnTwiceAssign" =some f)(hfn:Tryz.pinned.checked.prog.funcs[f]?=some fn):
 true=Tryz.pinned.checked.prog.looks []/\ ∀(j:Nat) t,fn.params[j]?=some t->Tryz.pinned.checked.prog.wantsStandIn t=false:=by
 obtain rfl:f=12:=Option.some.inj ((show Tryz.prog.funcNamed "unisons/laws.FnTwiceAssign" =some 12 by kernel_rfl).symm.trans hf) |>.symm;obtain rfl:fn=Tryz.f12:=(Option.some.inj (Tryz.func12.symm.trans hfn)).symm;refine ⟨by kernel_rfl,fun j t ht=> ?_⟩;rw [Tryz.params12] at ht;have hm:t∈ [22,3,26,26,26,26]:=by simpa using Array.mem_of_getElem? ht
 have hall:([22,3,26,26,26,26].all fun u=> !Tryz.prog.wantsStandIn u)=true:=by kernel_rfl
 exact (show Tryz.prog.wantsStandIn t=false by simpa using List.all_eq_true.1 hall t hm)
theorem card:Rows.FnTwiceAssignCardSaid:=
 Claim7.holds_tied_plain_at .later [] _ _ _ _ said (fun _ h=>by cases h) (by kernel_rfl) (fun _ h=>by cases h) fnTwiceAssign_row_tie rfl ⟨rfl,rfl⟩ (by kernel_rfl) rfl plain (by kernel_rfl)
end fnTwiceAssign
#print axioms fnTwiceAssign.card
end Go.Proofs.YtpekidjfbinekaaGreatDoor
