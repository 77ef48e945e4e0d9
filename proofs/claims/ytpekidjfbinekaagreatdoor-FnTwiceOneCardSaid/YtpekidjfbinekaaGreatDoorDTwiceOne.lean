import Derived.Test.YtpekidjfbinekaaGreatDoorCards
import Derived.Test.YtpekidjfbinekaaGreatDoorTie
import Derived.Test.YtpekidjfbinekaaGreatDoorC2T
import Derived.Test.YtpekidjfbinekaaGreatDoorL17T
import Derived.Lay
import Derived.MakeChecks
import Derived.Stop.Joined
import Derived.SevenTiedAt
set_option maxRecDepth 100000
set_option maxHeartbeats 60000000
set_option linter.all false
namespace Go.Proofs.YtpekidjfbinekaaGreatDoor
namespace fnTwiceOne
open Go.ChangeShapes Go.WideShapes Go.ChangeAt Go.RowKit
theorem own:ownKnob Tryz.prog.godebug=none:=by kernel_rfl
def wargs:Array Value:= #[.slice none 0 0,.int .i64 0,zeroTy.val,zeroTy.val,zeroTy.val,zeroTy.val]
def zd {H:Type}:DataW H:= .agg [.lit (.int .i64 0),.lit (.int .i64 0),.lit (.int .i64 0),.lit (.bool false),.nil,.lit (.string [])]
theorem reads (os:Os){H:Type}(enc:TypeId × Value->H):DataW.whole enc Tryz.prog ((World.laidAll Tryz.prog os Rows.fnTwiceOneRow.laid).forCall (fun _ _=>0) ⟨#[],wargs,[]⟩).memory Tryz.f13.params.toList Rows.fnTwiceOneSpec.vars false wargs.toList 8=some ([.nil,.lit (.int .i64 0),zd,zd,zd,zd],[],[]):=by kernel_rfl
theorem params:Tryz.f13.params.toList= [22,3,26,26,26,26]:=by rw [Tryz.params13]
theorem lifted (os:Os)(started:os.Started)(H:Type)(enc:TypeId × Value->H)(F:Stop.Interp):
 ReturnsInHanded {} Tryz.checked os 13 .any ((OpenSpec.ofChange Rows.fnTwiceOneSpec).preRow enc Tryz.prog Tryz.f13 Rows.fnTwiceOneRow.domain false Rows.fnTwiceOneRow.laid) (((OpenSpec.ofChange Rows.fnTwiceOneSpec).at F).post enc Tryz.prog Tryz.f13 false true false false):=by
 refine returnsInHanded_of_row (C:=Tryz.checked) (s:=OpenSpec.ofChange Rows.fnTwiceOneSpec) own started (by kernel_rfl) Tryz.func13
  ⟨World.laidAll Tryz.prog os Rows.fnTwiceOneRow.laid,fun _ _=>0,⟨#[],wargs,[]⟩,World.laidAll_os _ _ _,World.shaped_of_ZipB (by kernel_rfl) (by kernel_rfl),rfl,(Input.okWide_of_okWideB (by kernel_rfl)).2,
   OpenSpec.preRow_of_cond 8 (reads os enc) (by kernel_rfl) (fun k hk=>by cases hk) (by kernel_rfl) (by rw [MakeChecks.laidMetH_plain _ _ _ (by kernel_rfl)];exact laidMet_laidAll _ (by kernel_rfl) (by kernel_rfl)),by
   simp only [Assume.holds];exact ⟨by simp,by simp,fun _=>Modest.zero,by simp,by simp⟩⟩ ?_
 intro W base args ds gs before hval hW _ _ hsz hL _ _;rw [MakeChecks.laidMetH_plain _ _ _ (by kernel_rfl)] at hL;refine law_post rfl (by rw [params];simp) (by kernel_rfl) (fun ds hds=> ?_) hval hW hsz (tab_ok hL) (fun ht hl ha=> ?_)
 ·rw [params] at hds
  exact match ds,hds with
  |[d1,d2,d3,d4,d5,d6],_=>rfl
 ·rw [params] at hl ha
  obtain ⟨da,dl,dc,n,x,y,x2,y2,rfl,hA,hx,hy,hx2,hy2⟩:=args_six ht hl ha;exact fnTwiceOne n W hA x y x2 y2 hx hy hx2 hy2
theorem band {a b:Bool}(h:a=true)(h2:b=true):(a && b)=true:=by rw [h,h2];rfl
set_option maxRecDepth 100000
theorem k0:(Rows.fnTwiceOneRow.wf (OpenSpec.ofChange Rows.fnTwiceOneSpec))=true:=by kernel_rfl
theorem k1:(laidOutB Tryz.prog)=true:=by kernel_rfl
theorem k2:(mapsRowed Tryz.prog)=true:=by kernel_rfl
theorem k3:(Tryz.f13.params.all (Tryz.prog.readableRec ·))=true:=by kernel_rfl
theorem k4:(namedTie Tryz.prog Rows.fnTwiceOneRow.named Rows.fnTwiceOneSpec.vars)=true:=by kernel_rfl
theorem k5:((Rows.fnTwiceOneRow.stops== []))=true:=by kernel_rfl
theorem k6:((Tryz.prog.stops== []))=true:=by kernel_rfl
theorem k7:((Rows.fnTwiceOneRow.knobs== []))=true:=by kernel_rfl
theorem k8:((Tryz.prog.stopKnobs== []))=true:=by kernel_rfl
theorem k9:((Rows.fnTwiceOneRow.inPlace==Tryz.prog.inPlace 13))=true:=by kernel_rfl
theorem k10:((Rows.fnTwiceOneRow.unfollowed==Tryz.prog.unfollowed 13))=true:=by kernel_rfl
theorem k11:((Rows.fnTwiceOneRow.recurses==Tryz.prog.recurses 13))=true:=by kernel_rfl
theorem k12:((Rows.fnTwiceOneRow.named==Tryz.prog.varsNamed 13))=true:=by kernel_rfl
theorem k13:((Rows.fnTwiceOneRow.maps==(Tryz.f13.params.toList ++ Rows.fnTwiceOneSpec.plain.varTypes Tryz.prog).any (Tryz.prog.mapsRec ·)))=true:=by kernel_rfl
theorem k14:((Rows.fnTwiceOneRow.ifaces==(Tryz.f13.params.toList ++ Rows.fnTwiceOneSpec.plain.varTypes Tryz.prog).any (Tryz.prog.ifacesRec ·)))=true:=by kernel_rfl
theorem k15:((Rows.fnTwiceOneRow.mapsOut==Tryz.prog.mapsAmong Tryz.f13.resultTypes.toList))=true:=by kernel_rfl
theorem k16:((Rows.fnTwiceOneRow.loops==(Tryz.f13.params.toList ++ Rows.fnTwiceOneSpec.plain.varTypes Tryz.prog).any (Tryz.prog.loopsFrom ·)))=true:=by kernel_rfl
theorem k17:((Rows.fnTwiceOneRow.wideKeys==(Tryz.f13.params.toList ++ Rows.fnTwiceOneSpec.plain.varTypes Tryz.prog ++ Tryz.f13.resultTypes.toList).any (Tryz.prog.wideKeysFrom ·)))=true:=by kernel_rfl
theorem k18:(Rows.fnTwiceOneSpec.vars.all (Tryz.prog.varReadable ·))=true:=by kernel_rfl
theorem k19:(Tryz.f13.resultTypes.all (fun t=>Tryz.prog.readableRec t && decide (t < Tryz.prog.types.size)))=true:=by kernel_rfl
theorem k20:((Rows.fnTwiceOneRow.ifacesOut==Tryz.f13.resultTypes.toList.any (Tryz.prog.ifacesRec ·)))=true:=by kernel_rfl
theorem k21:((Rows.fnTwiceOneRow.loopsOut==Tryz.f13.resultTypes.toList.any (Tryz.prog.loopsFrom ·)))=true:=by kernel_rfl
theorem k22:((Rows.fnTwiceOneRow.plainKeys==Tryz.prog.plainKeys))=true:=by kernel_rfl
theorem k23:(Rows.fnTwiceOneRow.shortTexts.isNone)=true:=by kernel_rfl
theorem k24:(Tryz.prog.stopsHeard)=true:=by kernel_rfl
theorem k25:(Tryz.prog.mayEnter)=true:=by kernel_rfl
theorem k26:((Rows.fnTwiceOneRow.lifted==Tryz.prog.liftsFinal))=true:=by kernel_rfl
theorem k27:((Tryz.prog.make==some Rows.fnTwiceOneRow.make))=true:=by kernel_rfl
theorem k28:((Rows.fnTwiceOneRow.kinds==(if Rows.fnTwiceOneRow.domain.isEmpty then [] else Tryz.f13.params.toList.map fun t=>match Tryz.prog.underlying t with | some (.int k)=>some k | _=>none)))=true:=by kernel_rfl
theorem k29:((Rows.fnTwiceOneRow.pinned==Rows.fnTwiceOneRow.pinnedBy))=true:=by kernel_rfl
theorem k30:((Rows.fnTwiceOneRow.veiled==(Tryz.f13.params.toList ++ Rows.fnTwiceOneSpec.plain.varTypes Tryz.prog ++ Tryz.f13.resultTypes.toList).any (Tryz.prog.veiledRec ·)))=true:=by kernel_rfl
theorem k31:(Rows.fnTwiceOneRow.veiledFits Tryz.prog Tryz.f13.params.toList (Tryz.f13.params.toList ++ Rows.fnTwiceOneSpec.plain.varTypes Tryz.prog ++ Tryz.f13.resultTypes.toList))=true:=by kernel_rfl
theorem closed:joinedFacts Tryz.prog 13 Tryz.f13 Rows.fnTwiceOneSpec Rows.fnTwiceOneRow=true:=band (band (band (band (band (band (band (band (band (band (band (band (band (band (band (band (band (band (band (band (band (band (band (band (band (band (band (band (band (band (band k0 k1) k2) k3) k4) k5) k6) k7) k8) k9) k10) k11) k12) k13) k14) k15) k16) k17) k18) k19) k20) k21) k22) k23) k24) k25) k26) k27) k28) k29) k30) k31
theorem said:Rows.FnTwiceOneSaid:=
 OpenClaim.holds_of_cond 13 Tryz.f13 rfl rfl rfl rfl rfl rfl rfl ⟨rfl,rfl,rfl,rfl,rfl⟩ rfl rfl rfl rfl rfl (by kernel_rfl) Tryz.func13 closed
  (of_decide_eq_true (by kernel_rfl)) (by unfold Func.isWrapper;first | (rw [if_pos (by decide +kernel)];kernel_rfl) | (rw [if_neg (by decide +kernel)];exact ⟨rfl,rfl⟩))
  (fun os started H enc _ F=>by rw [OpenClaim.pre_eq_preRow];exact lifted os started H enc F)
theorem plain (f:FuncId)(fn:Func)(hf:Tryz.pinned.checked.prog.funcNamed "unisons/laws.FnTwiceOne" =some f)(hfn:Tryz.pinned.checked.prog.funcs[f]?=some fn):
 true=Tryz.pinned.checked.prog.looks []/\ ∀(j:Nat) t,fn.params[j]?=some t->Tryz.pinned.checked.prog.wantsStandIn t=false:=by
 obtain rfl:f=13:=Option.some.inj ((show Tryz.prog.funcNamed "unisons/laws.FnTwiceOne" =some 13 by kernel_rfl).symm.trans hf) |>.symm;obtain rfl:fn=Tryz.f13:=(Option.some.inj (Tryz.func13.symm.trans hfn)).symm;refine ⟨by kernel_rfl,fun j t ht=> ?_⟩;rw [Tryz.params13] at ht;have hm:t∈ [22,3,26,26,26,26]:=by simpa using Array.mem_of_getElem? ht
 have hall:([22,3,26,26,26,26].all fun u=> !Tryz.prog.wantsStandIn u)=true:=by kernel_rfl
 exact (show Tryz.prog.wantsStandIn t=false by simpa using List.all_eq_true.1 hall t hm)
theorem card:Rows.FnTwiceOneCardSaid:=
 Claim7.holds_tied_plain_at .later [] _ _ _ _ said (fun _ h=>by cases h) (by kernel_rfl) (fun _ h=>by cases h) fnTwiceOne_row_tie rfl ⟨rfl,rfl⟩ (by kernel_rfl) rfl plain (by kernel_rfl)
end fnTwiceOne
#print axioms fnTwiceOne.card
end Go.Proofs.YtpekidjfbinekaaGreatDoor
