/- H4, H5, H6 -/
import Derived.Test.YtpekidjfbinekaaGreatDoorA15
import Derived.Test.YtpekidjfbinekaaGreatDoorA16
set_option maxRecDepth 100000
set_option maxHeartbeats 60000000
set_option linter.all false
namespace Go.Proofs.YtpekidjfbinekaaGreatDoor
open Go.RowKit Uni
theorem sw_9 {E:GEnv}{k:Nat}(hS:xU E k)(f:Lab)(ts:List Tm)(g:Lab)(bs:List Tm)(vx vy:Value)(m:Uni.Mode)(w:World)(U bm:Nat)(hd:Nat->Addr)(s:St)(depth:Int)(r:Option St)(o:Int)(a:Act)(w1:World)(hdk:depth + (k + 1:Nat)=50)(h0:0<=depth)
 (hr:zK (zJ E.D k) (xN E.D k) s f ts g bs m=some r) (hx:PT w E vx (.node f ts)) (hy:PT w E vy (.node g bs)) (hfk:f.kind=9) (hgk:g.kind=9) (h:Sw E w U bm hd s depth m o vx vy a w1):
 Code.wp Tryz.prog yN (bodyPostD Tryz.prog Tryz.f132 (xM w E U bm depth r)) a w1:=by
 obtain ⟨t,ds⟩:=a;obtain ⟨hsz,h1,h2,⟨z,h3,hm⟩,h4,h5,h42,hds,hz,znb,zfa,zbx,zhn,zhe⟩:=h;dsimp only at hsz h1 h2 h3 h4 h5 h42 hds;subst hds;obtain ⟨xa,fa,fc,vs,rfl,nx,hxA,kx,lvx,hbx1,hbx2,hvx,px⟩:=hx.inv9 hfk;obtain ⟨ya,ga,gcp,us,rfl,ny,hyA,ky,lvy,_,_,hvy,py⟩:=hy.inv9 hgk;obtain ⟨xl,hxl⟩: ∃n,n=vs.length:=⟨_,rfl⟩;obtain ⟨yl,hyl⟩: ∃n,n=us.length:=⟨_,rfl⟩;rw [<-hxl] at kx lvx hbx1
 have hbx:xl≤9223372036854775807:=by have:maxLen≤9223372036854775807:=by decide
                                     omega
 clear hbx1 hbx2;rw [<-hyl] at ky lvy;have PX:=hid px;have PY:=hid py;have VX:=hid hvx;have VY:=hid hvy;have NX:=hid nx;have NY:=hid ny;have LX:=hid lvx;have LY:=hid lvy;have LVX:=hid hxl;have LVY:=hid hyl;clear px py hx hy hvx hvy nx ny lvx lvy hxl hyl;rw [node_9 hfk hgk] at hr;have HR:=hid hr;clear hr;have HKX:=hid kx;have HKY:=hid ky;have HXA:=hid hxA;have HYA:=hid hyA;clear kx ky hxA hyA hfk hgk
 have HS:=hid hS;have HM:=hid hm;have HZ:=hid hz;have NB:=hid znb;have FA2:=hid zfa;have BX2:=hid zbx;have HN2:=hid zhn;have HE2:=hid zhe;clear hS hz znb zfa zbx zhn zhe hm;have A179:=zD p179;have A146:=zD p146;have A144:=zD p144;have A156:=zD p156;obtain ⟨u,rfl,hu⟩:=relit t hsz;have e1:=hu 1 _ h1;have e2:=hu 2 _ h2;have e3:=hu 3 _ h3;have e4:=hu 4 _ h4;have e5:=hu 5 _ h5;have e42:=hu 42 _ h42;clear h1 h2 h3 h4 h5 h42 hu hsz
 simp only [fr,e1,e2,e3,e4,e5,e42];clear e1 e2 e3 e4 e5 e42;refine wp_eq (show yN=Code.seq _ _ from rfl) ?_;go_wp2_with fail
 refine (numFields_any xa fa xl fc _ _ (FA2.out.heap HXA.out HKX.out)).mono ?_;rintro e ww ⟨rfl,rfl⟩;go_wp2_with fail
 refine (numFields_any ya ga yl gcp _ _ (FA2.out.heap HYA.out HKY.out)).mono ?_;rintro e ww ⟨rfl,rfl⟩;by_cases hlen:xl=yl
 case neg=>
  have hr:r=none:=by
   have:=HR.out;rw [if_pos (by rw [<-LX.out,<-LY.out];exact hlen)] at this;exact (Option.some.inj this).symm
  subst hr;have hle:((xl:Int)==(yl:Int))=false:=by simp;omega
  go_wp2;exact door h0 (by omega) rfl FA2.out BX2.out HN2.out (fun s1 h=>by cases h)
 case pos=>
  subst hlen
  have HSQ:=hid (show seqF (fun s a b=>zJ E.D k s a b (Uni.inner m)) s f.names g.names ts bs=some r by
   have:=HR.out;rw [if_neg (by rw [<-LX.out,<-LY.out];simp)] at this;exact this)
  have q2:=zA (FA2.out.heap HXA.out HKX.out);have szx:=bl (q2 0);dsimp only at szx;go_wp2_with fail
  clear q2 szx A179 A146 A144 A156;obtain ⟨R,hR⟩: ∃R:Nat->St->Prop,∀j s',R j s'↔seqF (fun s a b=>zJ E.D k s a b (Uni.inner m)) s' (f.names.drop j) (g.names.drop j) (ts.drop j) (bs.drop j)=some r:=⟨_,fun _ _=>Iff.rfl⟩;have HRR:=hid hR;clear hR;refine wp_loopJ xl 596 [(5,.pointer (some ⟨w.heap.size,0,none⟩)),(4,.pointer none),(42,.int .u64 o),(53,.pointer (some ⟨xa,0,none⟩)),(54,.pointer (some ⟨ya,0,none⟩)),(594,.slice fa xl fc),(595,.int .i64 xl)] (SeqRel E w U bm depth R) rfl rfl ⟨rfl,rfl,rfl,rfl,rfl,rfl,rfl,trivial⟩ ⟨s,hd,FA2.out,HN2.out,BX2.out,HE2.out,(HRR.out _ _).2 HSQ.out⟩ ?_
  intro j t WX hj hts htx hsl hI;obtain ⟨g5,g4,g42,g53,g54,g594,g595,_⟩:=hsl;obtain ⟨s1,hd1,hf,hn,hb,he,hq⟩:=hI;obtain ⟨u',rfl,hu'⟩:=relit t hts;have e596:=hu' 596 _ htx;have e5:=hu' 5 _ g5;have e4:=hu' 4 _ g4;have e42:=hu' 42 _ g42;have e53:=hu' 53 _ g53;have e54:=hu' 54 _ g54;have e594:=hu' 594 _ g594;have e595:=hu' 595 _ g595;simp only [fr,e596,e5,e4,e42,e53,e54,e594,e595];clear hts htx hu' e596 e5 g5 e4 g4 e42 g42 e53 g53 e54 g54 e594 g594 e595 g595
  have FW:=hid hf;have HNW:=hid hn;have BXW:=hid hb;have HEW:=hid he;have HQ:=hid ((HRR.out _ _).1 hq);clear hf hn hb he hq;by_cases hlt:j < xl
  case neg=>
   have hr:r=some s1:=by
    have:=HQ.out;rw [show ts.drop j= [] from List.drop_of_length_le (by rw [<-LX.out];omega),show bs.drop j= [] from List.drop_of_length_le (by rw [<-LY.out];omega),seqF] at this
    ·exact (Option.some.inj this).symm
    ·intro _ _ _ _ h;cases h
   subst hr;have hle: ¬(j:Int) < xl:=by omega
   go_wp2;exact door h0 (by omega) rfl FW.out BXW.out HNW.out (fun s1 h=>Option.some.inj h)
  case pos=>
   have hle:(j:Int) < xl:=by omega
   obtain ⟨v1,hv1⟩: ∃v,vs[j]?=some v:=⟨vs[j]'(by rw [<-LVX.out];exact hlt),by simp⟩;obtain ⟨v2,hv2⟩: ∃v,us[j]?=some v:=⟨us[j]'(by rw [<-LVY.out];exact hlt),by simp⟩;obtain ⟨t1,ht1⟩: ∃v,ts[j]?=some v:=⟨ts[j]'(by rw [<-LX.out];exact hlt),by simp⟩;obtain ⟨t2,ht2⟩: ∃v,bs[j]?=some v:=⟨bs[j]'(by rw [<-LY.out];exact hlt),by simp⟩;obtain ⟨n1,hn1⟩: ∃v,f.names[j]?=some v:=⟨f.names[j]'(by rw [NX.out,<-LX.out];exact hlt),by simp⟩
   obtain ⟨n2,hn2⟩: ∃v,g.names[j]?=some v:=⟨g.names[j]'(by rw [NY.out,<-LY.out];exact hlt),by simp⟩;obtain ⟨fb,fo,rfl,hfb,_,hvx⟩:=VX.out.resolve_left (fun h=>by have:=LVX.out;rw [h] at this;simp at this;omega);obtain ⟨gb,go,rfl,hgb,_,hvy⟩:=VY.out.resolve_left (fun h=>by have:=LVY.out;rw [h] at this;simp at this;omega);obtain ⟨vbx,px0,kx0,nm1,cx1,vxA,vxc,hnm1⟩:=hvx j v1 hv1;obtain ⟨vby,py0,ky0,nm2,cy1,vyA,vyc,hnm2⟩:=hvy j v2 hv2
   obtain ⟨hnm1,ch1,hch1,hb1l,hb1h⟩:=hnm1 n1 hn1;obtain ⟨hnm2,ch2,hch2,hb2l,hb2h⟩:=hnm2 n2 hn2;have cx:=FW.out.cell hfb cx1;have cy:=FW.out.cell hgb cy1;have VXC:=hid (FW.out.heap vxA vxc);have VYC:=hid (FW.out.heap vyA vyc);have VXA:=hid vxA;have VYA:=hid vyA;have P1:=hid ((PX.out j v1 t1 hv1 ht1).keep FW.out);have P2:=hid ((PY.out j v2 t2 hv2 ht2).keep FW.out);have hq:=HQ.out;rw [List.drop_eq_getElem_cons (List.getElem?_eq_some_iff.1 ht1).1,List.drop_eq_getElem_cons (List.getElem?_eq_some_iff.1 ht2).1,List.drop_eq_getElem_cons (List.getElem?_eq_some_iff.1 hn1).1,List.drop_eq_getElem_cons (List.getElem?_eq_some_iff.1 hn2).1,(List.getElem?_eq_some_iff.1 ht1).2,(List.getElem?_eq_some_iff.1 ht2).2,(List.getElem?_eq_some_iff.1 hn1).2,(List.getElem?_eq_some_iff.1 hn2).2,seqF] at hq
   simp only [List.headD_cons,List.tail_cons] at hq;have HQ2:=hid hq;clear hq;have TX:=hid (fun (w':World) (F:Fr E.A WX w')=>tag_any xa _ j w' (F.heap HXA.out (FW.out.heap HXA.out HKX.out)));have TY:=hid (fun (w':World) (F:Fr E.A WX w')=>tag_any ya _ j w' (F.heap HYA.out (FW.out.heap HYA.out HKY.out)));have SI:=hid (fun (w':World) (F:Fr E.A WX w')=>(by rw [<-hnm1,<-hnm2];exact sameId_any vbx nm1 nm2 ch1 ch2 v1 (hnm1.trans hch1) (hnm2.trans hch2) (by have:=UInt8.le_iff_toNat_le.1 hb1l;exact this) (by have:=UInt8.le_iff_toNat_le.1 hb1h;exact this) w' (HEW.out.keep F) ⟨px0,kx0,F.heap vxA VXC.out⟩:Calls Tryz.prog 174 #[.pointer (some ⟨vbx,0,none⟩),E.pk,.string nm2,.bool false] w' fun e w''=>e= .returned (.bool (decide (n1=n2)))/\Fr (fun _=>False) w' w''))
   have szfb:=World.block_lt_of_cell? _ _ cx;have szgb:=World.block_lt_of_cell? _ _ cy;have q3:=zA (FW.out.heap HYA.out HKY.out);have szy:=bl (q3 0);dsimp only at szfb szgb szy;clear hvx hvy hv1 hv2 ht1 ht2 hn1 hn2 hnm1 hnm2 hch1 hch2 hb1l hb1h hb2l hb2h cx1 cy1 vxc vyc vxA vyA hfb hgb;go_wp2_with fail
   clear cx cy szfb szgb q3 szy;refine wp_abs fun A hA=> ?_
   have fs:A.tmps.size=1016:=by rw [hA];rfl
   have fd:A.defers= [{target:= .fn (.func 161) #[.pointer (some ⟨w.heap.size,0,none⟩)],args:= #[]}]:=by rw [hA]
   obtain ⟨b5,f5⟩:=zN (show A.tmps[5]?=some (.pointer (some ⟨w.heap.size,0,none⟩)) by rw [hA];rfl);obtain ⟨b4,f4⟩:=zN (show A.tmps[4]?=some (.pointer none) by rw [hA];rfl);obtain ⟨b42,f42⟩:=zN (show A.tmps[42]?=some (.int .u64 o) by rw [hA];rfl);obtain ⟨b53,f53⟩:=zN (show A.tmps[53]?=some (.pointer (some ⟨xa,0,none⟩)) by rw [hA];rfl);obtain ⟨b54,f54⟩:=zN (show A.tmps[54]?=some (.pointer (some ⟨ya,0,none⟩)) by rw [hA];rfl)
   obtain ⟨b594,f594⟩:=zN (show A.tmps[594]?=some (.slice (some ⟨fb,fo,none⟩) xl fc) by rw [hA];rfl);obtain ⟨b595,f595⟩:=zN (show A.tmps[595]?=some (.int .i64 xl) by rw [hA];rfl);obtain ⟨b56,f56⟩:=zN (show A.tmps[56]?=some (.int .i64 j) by rw [hA];rfl);obtain ⟨b57,f57⟩:=zN (show A.tmps[57]?=some (.pointer (some ⟨vbx,0,none⟩)) by rw [hA];rfl);obtain ⟨b58,f58⟩:=zN (show A.tmps[58]?=some (.pointer (some ⟨vby,0,none⟩)) by rw [hA];rfl)
   obtain ⟨b596,f596⟩:=zN (show A.tmps[596]?=some (.int .i64 j) by rw [hA];rfl);clear hA;obtain ⟨tA,dA⟩:=A;dsimp only at fs fd;subst fd;have G1: ∀(t:Array Value) (i:Nat) (v:Value),i < t.size->(t.setIfInBounds i v)[i]?=some v:=fun t i v h=>wX h
   have G2: ∀(t:Array Value) (i j:Nat) (v:Value),i≠j->(t.setIfInBounds i v)[j]?=t[j]?:=fun t i j v h=>wG h
   refine wp_pg (Fr E.A WX) [(0,true),(1,true),(2,true),(3,true),(4,true),(5,true),(6,true),(7,true),(8,true),(9,true),(10,true),(11,true),(13,true),(14,true),(12,false),(15,false),(16,false),(17,false),(18,false),(19,true),(20,true),(21,true),(22,true),(23,true),(24,true),(25,true),(26,true),(27,false),(28,false),(29,false),(30,false),(31,false),(32,false),(33,false),(34,false),(35,false),(36,true),(37,true),(38,true),(39,true),(40,true),(41,true),(42,true),(43,true),(44,true),(45,true),(46,true),(47,true),(48,false),(49,false),(50,false),(51,false)] [] yE (by kernel_rfl) (by kernel_rfl) (by kernel_rfl) (by decide) ?_
   have Z0:=hid ((Fr.refl (fun _=>False) WX).drew);have S0:=hid ((Fr.refl E.A WX).drew);generalize WX.drew=w2 at S0 Z0 ⊢
   iterate 3 (refine gl S0.out ?_)
   refine gl S0.out ?_ (h1:=fun w' hS=>by
    have q1:=zA (hS.heap (b:=w.heap.size) NB.out BXW.out);have q2:=zA (hS.heap HXA.out (FW.out.heap HXA.out HKX.out));have q3:=zA (hS.heap HYA.out (FW.out.heap HYA.out HKY.out));have q4:=zA (hS.heap VXA.out VXC.out);have q5:=zA (hS.heap VYA.out VYC.out);have szw:=bl (q1 0);have szx:=bl (q2 0);have szy:=bl (q3 0);have szvx:=bl (q4 0);have szvy:=bl (q5 0);dsimp only at szw szx szy szvx szvy;clear hS
    go_simp;rfl)
   iterate 3 (refine gl S0.out ?_)
   refine gl S0.out ?_ (h1:=fun w' hS=>by
    have q1:=zA (hS.heap (b:=w.heap.size) NB.out BXW.out);have q2:=zA (hS.heap HXA.out (FW.out.heap HXA.out HKX.out));have q3:=zA (hS.heap HYA.out (FW.out.heap HYA.out HKY.out));have q4:=zA (hS.heap VXA.out VXC.out);have q5:=zA (hS.heap VYA.out VYC.out);have szw:=bl (q1 0);have szx:=bl (q2 0);have szy:=bl (q3 0);have szvx:=bl (q4 0);have szvy:=bl (q5 0);dsimp only at szw szx szy szvx szvy;clear hS
    go_simp;rfl)
   iterate 6 (refine gl S0.out ?_)
   refine gc 173 ?_;refine (TX.out _ S0.out).mono ?_;rintro e ww ⟨rfl,rfl⟩;refine ⟨_,rfl,fun _=>S0.out,?_⟩;refine gc 173 ?_;refine (TY.out _ S0.out).mono ?_;rintro e ww ⟨rfl,rfl⟩;refine ⟨_,rfl,fun _=>S0.out,?_⟩
   iterate 3 (refine gv (fun _=>S0.out) ?_)
   iterate 7 (refine gl S0.out ?_)
   refine gl S0.out ?_ (h1:=fun w' hS=>by
    have q1:=zA (hS.heap (b:=w.heap.size) NB.out BXW.out);have q2:=zA (hS.heap HXA.out (FW.out.heap HXA.out HKX.out));have q3:=zA (hS.heap HYA.out (FW.out.heap HYA.out HKY.out));have q4:=zA (hS.heap VXA.out VXC.out);have q5:=zA (hS.heap VYA.out VYC.out);have szw:=bl (q1 0);have szx:=bl (q2 0);have szy:=bl (q3 0);have szvx:=bl (q4 0);have szvy:=bl (q5 0);dsimp only at szw szx szy szvx szvy;clear hS
    go_simp;rfl)
   iterate 4 (refine gv (fun _=>S0.out) ?_)
   refine gv (fun _=>S0.out) ?_ (h1:=by
    have hS:=S0.out;have q1:=zA (hS.heap (b:=w.heap.size) NB.out BXW.out);have q2:=zA (hS.heap HXA.out (FW.out.heap HXA.out HKX.out));have q3:=zA (hS.heap HYA.out (FW.out.heap HYA.out HKY.out));have q4:=zA (hS.heap VXA.out VXC.out);have q5:=zA (hS.heap VYA.out VYC.out);have szw:=bl (q1 0);have szx:=bl (q2 0);have szy:=bl (q3 0);have szvx:=bl (q4 0);have szvy:=bl (q5 0);dsimp only at szw szx szy szvx szvy
    clear hS;go_simp;rfl)
   refine gc 174 ?_;refine (SI.out _ S0.out).mono ?_;rintro e w3 ⟨rfl,hf3⟩;have Z3:=hid (Z0.out.trans hf3);have S3:=hid (show Fr E.A WX w3 from Z3.out.sub);clear hf3;refine ⟨_,rfl,fun _=>S3.out,?_⟩;by_cases hnn:n1≠n2
   case pos=>
    have hne:(decide (n1=n2))=false:=by simp [hnn]
    have hr:r=none:=by
     have:=HQ2.out;simp only [ne_eq,hnn,not_false_eq_true,↓reduceIte] at this;exact (Option.some.inj this).symm
    subst hr;rw [hne]
    iterate 3 (refine gv (fun _=>S3.out) ?_)
    iterate 12 (refine gn S3.out ?_)
    iterate 3 (refine gu (fun _=>S3.out) ?_)
    refine gv (fun _=>S3.out) ?_;refine wO (by simp [fs]) (fun u' hu'=> ?_);have e5:=hu' 5 (.pointer (some ⟨w.heap.size,0,none⟩)) (by go_simp);have e659:=hu' 659 (.bool true) (by go_simp);simp only [fr,e5,e659];clear hu' e5 e659;go_wp2;exact door h0 (by omega) rfl (FW.out.trans S3.out) (S3.out.heap NB.out BXW.out) (HNW.out.keep Z3.out) (fun s1 h=>by cases h)
   case neg=>
    have hne:(decide (n1=n2))=true:=by simpa using hnn
    rw [hne];have hnn':n1=n2:=Classical.not_not.1 hnn;have hq4:=HQ2.out;simp only [ne_eq,hnn',not_true_eq_false,↓reduceIte] at hq4
    obtain ⟨q2,hq2⟩: ∃q,zJ E.D k s1 t1 t2 (Uni.inner m)=some q:=by
     cases h:zJ E.D k s1 t1 t2 (Uni.inner m) with
     |none=>rw [h] at hq4;cases hq4
     |some q=>exact ⟨q,rfl⟩
    rw [hq2] at hq4;have HQ3:=hid hq2;have HQ4:=hid hq4;clear hq2 hq4
    iterate 3 (refine gv (fun _=>S3.out) ?_)
    refine gl S3.out ?_ (h1:=fun w' hS=>by
     have q1:=zA (hS.heap (b:=w.heap.size) NB.out BXW.out);have q2:=zA (hS.heap HXA.out (FW.out.heap HXA.out HKX.out));have q3:=zA (hS.heap HYA.out (FW.out.heap HYA.out HKY.out));have q4:=zA (hS.heap VXA.out VXC.out);have q5:=zA (hS.heap VYA.out VYC.out);have szw:=bl (q1 0);have szx:=bl (q2 0);have szy:=bl (q3 0);have szvx:=bl (q4 0);have szvy:=bl (q5 0);dsimp only at szw szx szy szvx szvy;clear hS
     go_simp;rfl)
    iterate 4 (refine gl S3.out ?_)
    refine gl S3.out ?_ (h1:=fun w' hS=>by
     have q1:=zA (hS.heap (b:=w.heap.size) NB.out BXW.out);have q2:=zA (hS.heap HXA.out (FW.out.heap HXA.out HKX.out));have q3:=zA (hS.heap HYA.out (FW.out.heap HYA.out HKY.out));have q4:=zA (hS.heap VXA.out VXC.out);have q5:=zA (hS.heap VYA.out VYC.out);have szw:=bl (q1 0);have szx:=bl (q2 0);have szy:=bl (q3 0);have szvx:=bl (q4 0);have szvy:=bl (q5 0);dsimp only at szw szx szy szvx szvy;clear hS
     go_simp;rfl)
    iterate 4 (refine gl S3.out ?_)
    refine gl S3.out ?_ (h1:=fun w' hS=>by
     have q1:=zA (hS.heap (b:=w.heap.size) NB.out BXW.out);have q2:=zA (hS.heap HXA.out (FW.out.heap HXA.out HKX.out));have q3:=zA (hS.heap HYA.out (FW.out.heap HYA.out HKY.out));have q4:=zA (hS.heap VXA.out VXC.out);have q5:=zA (hS.heap VYA.out VYC.out);have szw:=bl (q1 0);have szx:=bl (q2 0);have szy:=bl (q3 0);have szvx:=bl (q4 0);have szvy:=bl (q5 0);dsimp only at szw szx szy szvx szvy;clear hS
     go_simp;rfl)
    refine gl S3.out ?_;refine gv (fun _=>S3.out) ?_;refine gc 132 ?_;refine (HS.out t1 t2 v1 v2 (Uni.inner m) o _ U bm hd1 s1 (depth + 1) q2 (by omega) HQ3.out HZ.out (HEW.out.keep S3.out) (HNW.out.keep Z3.out) (P1.out.keep S3.out) (P2.out.keep S3.out)).mono ?_;rintro e w4 ⟨rfl,hf4,s4,hd4,hn4,hs4⟩;have S4:=hid (S3.out.trans hf4);have HN4:=hid hn4;have HS4:=hid hs4;clear hf4 hn4 hs4;refine ⟨_,rfl,fun _=>S4.out,?_⟩
    cases q2 with
    |none=>
     have hr:r=none:=(Option.some.inj HQ4.out).symm;subst hr;refine gv (fun _=>S4.out) ?_;refine gv (fun _=>S4.out) ?_;refine wO (by simp [fs]) (fun u' hu'=> ?_);have e5:=hu' 5 (.pointer (some ⟨w.heap.size,0,none⟩)) (by go_simp);have e659:=hu' 659 (.bool true) (by go_simp);simp only [fr,e5,e659];clear hu' e5 e659;go_wp2;exact door h0 (by omega) rfl (FW.out.trans S4.out) (S4.out.heap NB.out BXW.out) HN4.out (fun s1 h=>by cases h)
    |some s2=>
     refine gv (fun _=>S4.out) ?_;refine gv (fun _=>S4.out) ?_;refine wO (by simp [fs]) (fun u' hu'=> ?_);have e5:=hu' 5 (.pointer (some ⟨w.heap.size,0,none⟩)) (by go_simp);have e4:=hu' 4 (.pointer none) (by go_simp);have e42:=hu' 42 (.int .u64 o) (by go_simp);have e53:=hu' 53 (.pointer (some ⟨xa,0,none⟩)) (by go_simp);have e54:=hu' 54 (.pointer (some ⟨ya,0,none⟩)) (by go_simp);have e594:=hu' 594 (.slice (some ⟨fb,fo,none⟩) xl fc) (by go_simp)
     have e595:=hu' 595 (.int .i64 xl) (by go_simp);have e596:=hu' 596 (.int .i64 j) (by go_simp);have e659:=hu' 659 (.bool false) (by go_simp);simp only [fr,e5,e4,e42,e53,e54,e594,e595,e596,e659];clear hu' e5 e4 e42 e53 e54 e594 e595 e596 e659;go_wp2;exact ⟨rfl,rfl,congrArg (fun i=>some (Value.int .i64 i)) (by omega:((j:Int) + 1)=((j + 1:Nat):Int)),⟨rfl,rfl,rfl,rfl,rfl,rfl,rfl,trivial⟩,by omega,⟨s4,hd4,FW.out.trans S4.out,HN4.out,S4.out.heap NB.out BXW.out,HEW.out.keep S4.out,(HRR.out _ _).2 (by rw [HS4.out s2 rfl];exact HQ4.out)⟩⟩
theorem sw_diff {E:GEnv}(tx ty:TypeId)(px py:Value)(m:Uni.Mode)(w:World)(U bm:Nat)(hd:Nat->Addr)(s:St)(depth:Int)(o:Int)(a:Act)(w1:World)(hdk:depth + 1<=50)(h0:0<=depth)
 (hk:tx=179\/tx=146\/tx=144\/tx=156\/tx=142\/tx=128\/tx=148\/tx=150) (htt: ¬ty=tx) (h:Sw E w U bm hd s depth m o (.iface tx px) (.iface ty py) a w1):
 Code.wp Tryz.prog yN (bodyPostD Tryz.prog Tryz.f132 (xM w E U bm depth none)) a w1:=by
 obtain ⟨t,ds⟩:=a;obtain ⟨hsz,h1,h2,⟨z,h3,hm⟩,h4,h5,h42,hds,hz,znb,zfa,zbx,zhn,zhe⟩:=h;dsimp only at hsz h1 h2 h3 h4 h5 h42 hds;subst hds;have HM:=hid hm;have HZ:=hid hz;have NB:=hid znb;have FA2:=hid zfa;have BX2:=hid zbx;have HN2:=hid zhn;have HE2:=hid zhe;clear hz znb zfa zbx zhn zhe hm;have A179:=zD p179;have A146:=zD p146;have A144:=zD p144;have A156:=zD p156;have A142:=zD p142;have A134:=zD p134
 have A128:=zD p128;have A99:=zD p99;have A148:=zD p148;have A150:=zD p150;obtain ⟨u,rfl,hu⟩:=relit t hsz;have e1:=hu 1 _ h1;have e2:=hu 2 _ h2;have e3:=hu 3 _ h3;have e4:=hu 4 _ h4;have e5:=hu 5 _ h5;have e42:=hu 42 _ h42;clear h1 h2 h3 h4 h5 h42 hu hsz;simp only [fr,e1,e2,e3,e4,e5,e42];clear e1 e2 e3 e4 e5 e42;refine wp_eq (show yN=Code.seq _ _ from rfl) ?_;rcases hk with rfl | rfl | rfl | rfl | rfl | rfl | rfl | rfl
 all_goals
  go_wp2;exact door h0 (by omega) rfl FA2.out BX2.out HN2.out (fun s1 h=>by cases h)
theorem tupLen {E:GEnv}(pv:Value)(vs:List Value)(w:World)(h:yZ w E pv vs):Calls Tryz.prog 118 #[pv] w fun e w'=>e= .returned (.int .i64 vs.length)/\w'=w:=by
 have hn0: ∀(w:World),(binOp .neq 134 (.pointer none) (.pointer none)).run Tryz.prog w= .ok (.bool false) w:=fun w=>rfl
 have hn1: ∀(a:Addr) (w:World),(binOp .neq 134 (.pointer (some a)) (.pointer none)).run Tryz.prog w= .ok (.bool true) w:=fun a w=>rfl
 rcases h with ⟨rfl,rfl⟩ | ⟨b,va,vc,h0,rfl,h2,h3,h4,h5,h6⟩
 ·go_enter Tryz.func118,Tryz.ntmps118
  go_wp2;go_ret;exact ⟨rfl,rfl⟩
 ·have q:=zA h3
  have sz:=bl (q 0);dsimp only at sz;obtain ⟨n,hn⟩: ∃n,n=vs.length:=⟨_,rfl⟩;rw [<-hn] at q ⊢;clear h0 h2 h3 h4 h5 h6 hn;go_enter Tryz.func118,Tryz.ntmps118;go_wp2;go_ret;exact ⟨rfl,rfl⟩
theorem sw_tup {E:GEnv}{k:Nat}(hS:xU E k)(ts bs:List Tm)(pv qv:Value)(vs us:List Value)(m:Uni.Mode)(w:World)(U bm:Nat)(hd:Nat->Addr)(s:St)(depth:Int)(r:Option St)(o:Int)(a:Act)(w1:World)(hdk:depth + (k + 1:Nat)=50)(h0:0<=depth)
 (hr:(if vs.length≠us.length then some none else seqN (fun s a b=>zJ E.D k s a b m) s ts bs)=some r) (hx:yZ w E pv vs) (hy:yZ w E qv us) (hvl:vs.length=ts.length) (hul:us.length=bs.length)
 (px: ∀(i:Nat) (v:Value) (t:Tm),vs[i]?=some v->ts[i]?=some t->PT w E v t) (py: ∀(i:Nat) (v:Value) (t:Tm),us[i]?=some v->bs[i]?=some t->PT w E v t) (h:Sw E w U bm hd s depth m o (.iface 134 pv) (.iface 134 qv) a w1):
 Code.wp Tryz.prog yN (bodyPostD Tryz.prog Tryz.f132 (xM w E U bm depth r)) a w1:=by
 obtain ⟨t,ds⟩:=a;obtain ⟨hsz,h1,h2,⟨z,h3,hm⟩,h4,h5,h42,hds,hz,znb,zfa,zbx,zhn,zhe⟩:=h;dsimp only at hsz h1 h2 h3 h4 h5 h42 hds;subst hds;have hn0: ∀(w:World),(binOp .neq 134 (.pointer none) (.pointer none)).run Tryz.prog w= .ok (.bool false) w:=fun w=>rfl
 have hn1: ∀(a:Addr) (w:World),(binOp .neq 134 (.pointer (some a)) (.pointer none)).run Tryz.prog w= .ok (.bool true) w:=fun a w=>rfl
 have PX:=hid px;have PY:=hid py;have HTX:=hid hx;have HTY:=hid hy;have HR:=hid hr;have LX:=hid hvl;have LY:=hid hul;clear px py hx hy hr hvl hul;have HS:=hid hS;have HM:=hid hm;have HZ:=hid hz;have NB:=hid znb;have FA2:=hid zfa;have BX2:=hid zbx;have HN2:=hid zhn;have HE2:=hid zhe;clear hS hz znb zfa zbx zhn zhe hm;have A179:=zD p179;have A146:=zD p146;have A144:=zD p144;have A156:=zD p156;have A142:=zD p142
 have A134:=zD p134;obtain ⟨u,rfl,hu⟩:=relit t hsz;have e1:=hu 1 _ h1;have e2:=hu 2 _ h2;have e3:=hu 3 _ h3;have e4:=hu 4 _ h4;have e5:=hu 5 _ h5;have e42:=hu 42 _ h42;clear h1 h2 h3 h4 h5 h42 hu hsz;simp only [fr,e1,e2,e3,e4,e5,e42];clear e1 e2 e3 e4 e5 e42;refine wp_eq (show yN=Code.seq _ _ from rfl) ?_;go_wp2_with fail
 refine (tupLen pv vs _ (HTX.out.keep FA2.out)).mono ?_;rintro e ww ⟨rfl,rfl⟩;go_wp2_with fail
 refine (tupLen qv us _ (HTY.out.keep FA2.out)).mono ?_;rintro e ww ⟨rfl,rfl⟩;by_cases hlen:vs.length=us.length
 case neg=>
  have hr:r=none:=by
   have:=HR.out;rw [if_pos hlen] at this;exact (Option.some.inj this).symm
  subst hr;have hle:((vs.length:Int)==(us.length:Int))=false:=by simp;omega
  go_wp2;exact door h0 (by omega) rfl FA2.out BX2.out HN2.out (fun s1 h=>by cases h)
 case pos=>
  have HSQ:=hid (show seqN (fun s a b=>zJ E.D k s a b m) s ts bs=some r by
   have:=HR.out;rw [if_neg (by rw [hlen];simp)] at this;exact this)
  have hle0:((vs.length:Int)==(us.length:Int))=true:=by rw [hlen];simp
  rcases HTX.out with ⟨hvs,rfl⟩ | ⟨xa,fa,fc,hvs,rfl,hxA,kx,hbx1,hbx2,hvx⟩
  ·have hus:us= []:=List.eq_nil_of_length_eq_zero (by rw [←hlen,hvs];rfl)
   have hts:ts= []:=List.eq_nil_of_length_eq_zero (by rw [<-LX.out,hvs];rfl);have hbs:bs= []:=List.eq_nil_of_length_eq_zero (by rw [<-LY.out,hus];rfl)
   have hr:r=some s:=by
    have:=HSQ.out;rw [hts,hbs,seqN] at this
    ·exact (Option.some.inj this).symm
    ·intro _ _ _ _ h;cases h
   subst hr;go_wp2;exact door h0 (by omega) rfl FA2.out BX2.out HN2.out (fun s1 h=>Option.some.inj h)
  ·rcases HTY.out with ⟨hus,rfl⟩ | ⟨ya,ga,gcp,hus,rfl,hyA,ky,_,_,hvy⟩
   ·exact absurd (List.eq_nil_of_length_eq_zero (by rw [hlen,hus];rfl)) hvs
   have VX:=hid hvx;have VY:=hid hvy;have HXA:=hid hxA;have HYA:=hid hyA;have HKX:=hid kx;rw [<-hlen] at ky;have HKY:=hid ky
   have hbx:vs.length≤9223372036854775807:=by have:maxLen≤9223372036854775807:=by decide
                                              omega
   obtain ⟨xl,hxl⟩: ∃n,n=vs.length:=⟨_,rfl⟩;have LVX:=hid hxl;have LVY:=hid (hxl.trans hlen);rw [<-hxl] at HKX HKY hbx hle0;clear hvx hvy hxA hyA kx ky hbx1 hbx2 hvs hus HTX HTY HR;have q2:=zA (FA2.out.heap HXA.out HKX.out);have szx:=bl (q2 0);dsimp only at szx;rw [<-hxl,<-LVY.out];clear hlen hxl hle0;go_wp2_with fail
   clear q2 szx A179 A146 A144 A156 A142 A134;obtain ⟨R,hR⟩: ∃R:Nat->St->Prop,∀j s',R j s'↔seqN (fun s a b=>zJ E.D k s a b m) s' (ts.drop j) (bs.drop j)=some r:=⟨_,fun _ _=>Iff.rfl⟩;have HRR:=hid hR;clear hR;refine wp_loopJ xl 703 [(5,.pointer (some ⟨w.heap.size,0,none⟩)),(4,.pointer none),(3,.int .u64 z),(62,.pointer (some ⟨xa,0,none⟩)),(63,.pointer (some ⟨ya,0,none⟩)),(701,.slice fa xl fc),(702,.int .i64 xl)] (SeqRel E w U bm depth R) rfl rfl ⟨rfl,rfl,rfl,rfl,rfl,rfl,rfl,trivial⟩ ⟨s,hd,FA2.out,HN2.out,BX2.out,HE2.out,(HRR.out _ _).2 HSQ.out⟩ ?_
   intro j t WX hj hts htx hsl hI;obtain ⟨g5,g4,g3,g62,g63,g701,g702,_⟩:=hsl;obtain ⟨s1,hd1,hf,hn,hb,he,hq⟩:=hI;obtain ⟨u',rfl,hu'⟩:=relit t hts;have e703:=hu' 703 _ htx;have e5:=hu' 5 _ g5;have e4:=hu' 4 _ g4;have e3:=hu' 3 _ g3;have e62:=hu' 62 _ g62;have e63:=hu' 63 _ g63;have e701:=hu' 701 _ g701;have e702:=hu' 702 _ g702;simp only [fr,e703,e5,e4,e3,e62,e63,e701,e702];clear hts htx hu' e703 e5 g5 e4 g4 e3 g3 e62 g62 e63 g63 e701 g701 e702 g702
   have FW:=hid hf;have HNW:=hid hn;have BXW:=hid hb;have HEW:=hid he;have HQ:=hid ((HRR.out _ _).1 hq);clear hf hn hb he hq;by_cases hlt:j < xl
   case neg=>
    have hr:r=some s1:=by
     have:=HQ.out;rw [show ts.drop j= [] from List.drop_of_length_le (by rw [<-LX.out,<-LVX.out];omega),show bs.drop j= [] from List.drop_of_length_le (by rw [<-LY.out,<-LVY.out];omega),seqN] at this
     ·exact (Option.some.inj this).symm
     ·intro _ _ _ _ h;cases h
    subst hr;have hle: ¬(j:Int) < xl:=by omega
    go_wp2;exact door h0 (by omega) rfl FW.out BXW.out HNW.out (fun s1 h=>Option.some.inj h)
   case pos=>
    have hle:(j:Int) < xl:=by omega
    obtain ⟨v1,hv1⟩: ∃v,vs[j]?=some v:=⟨vs[j]'(by rw [<-LVX.out];exact hlt),by simp⟩;obtain ⟨v2,hv2⟩: ∃v,us[j]?=some v:=⟨us[j]'(by rw [<-LVY.out];exact hlt),by simp⟩;obtain ⟨t1,ht1⟩: ∃v,ts[j]?=some v:=⟨ts[j]'(by rw [<-LX.out,<-LVX.out];exact hlt),by simp⟩;obtain ⟨t2,ht2⟩: ∃v,bs[j]?=some v:=⟨bs[j]'(by rw [<-LY.out,<-LVY.out];exact hlt),by simp⟩;obtain ⟨fb,fo,rfl,hfb,_,hvx⟩:=VX.out.resolve_left (fun h=>by have:=LVX.out;rw [h] at this;simp at this;omega)
    obtain ⟨gb,go,rfl,hgb,_,hvy⟩:=VY.out.resolve_left (fun h=>by have:=LVY.out;rw [h] at this;simp at this;omega);obtain ⟨vbx,px0,kx0,nm1,cx1,vxA,vxc,_⟩:=hvx j v1 hv1;obtain ⟨vby,py0,ky0,nm2,cy1,vyA,vyc,_⟩:=hvy j v2 hv2;have cx:=FW.out.cell hfb cx1;have cy:=FW.out.cell hgb cy1;have VXC:=hid (FW.out.heap vxA vxc);have VYC:=hid (FW.out.heap vyA vyc);have VXA:=hid vxA;have VYA:=hid vyA;have P1:=hid ((PX.out j v1 t1 hv1 ht1).keep FW.out);have P2:=hid ((PY.out j v2 t2 hv2 ht2).keep FW.out)
    have hq:=HQ.out;rw [List.drop_eq_getElem_cons (List.getElem?_eq_some_iff.1 ht1).1,List.drop_eq_getElem_cons (List.getElem?_eq_some_iff.1 ht2).1,(List.getElem?_eq_some_iff.1 ht1).2,(List.getElem?_eq_some_iff.1 ht2).2,seqN] at hq;have HQ2:=hid hq;clear hq;have szfb:=World.block_lt_of_cell? _ _ cx;have szgb:=World.block_lt_of_cell? _ _ cy;have q3:=zA (FW.out.heap HYA.out HKY.out);have szy:=bl (q3 0)
    dsimp only at szfb szgb szy;clear hvx hvy hv1 hv2 ht1 ht2 cx1 cy1 vxc vyc vxA vyA hfb hgb;go_wp2_with fail
    clear cx cy szfb szgb q3 szy;refine wp_abs fun A hA=> ?_
    have fs:A.tmps.size=1016:=by rw [hA];rfl
    have fd:A.defers= [{target:= .fn (.func 161) #[.pointer (some ⟨w.heap.size,0,none⟩)],args:= #[]}]:=by rw [hA]
    obtain ⟨b5,f5⟩:=zN (show A.tmps[5]?=some (.pointer (some ⟨w.heap.size,0,none⟩)) by rw [hA];rfl);obtain ⟨b4,f4⟩:=zN (show A.tmps[4]?=some (.pointer none) by rw [hA];rfl);obtain ⟨b3,f3⟩:=zN (show A.tmps[3]?=some (.int .u64 z) by rw [hA];rfl);obtain ⟨b62,f62⟩:=zN (show A.tmps[62]?=some (.pointer (some ⟨xa,0,none⟩)) by rw [hA];rfl);obtain ⟨b63,f63⟩:=zN (show A.tmps[63]?=some (.pointer (some ⟨ya,0,none⟩)) by rw [hA];rfl)
    obtain ⟨b701,f701⟩:=zN (show A.tmps[701]?=some (.slice (some ⟨fb,fo,none⟩) xl fc) by rw [hA];rfl);obtain ⟨b702,f702⟩:=zN (show A.tmps[702]?=some (.int .i64 xl) by rw [hA];rfl);obtain ⟨b703,f703⟩:=zN (show A.tmps[703]?=some (.int .i64 j) by rw [hA];rfl);obtain ⟨b66,f66⟩:=zN (show A.tmps[66]?=some (.pointer (some ⟨vbx,0,none⟩)) by rw [hA];rfl);obtain ⟨b67,f67⟩:=zN (show A.tmps[67]?=some (.pointer (some ⟨vby,0,none⟩)) by rw [hA];rfl)
    clear hA;obtain ⟨tA,dA⟩:=A;dsimp only at fs fd;subst fd;have G1: ∀(t:Array Value) (i:Nat) (v:Value),i < t.size->(t.setIfInBounds i v)[i]?=some v:=fun t i v h=>wX h
    have G2: ∀(t:Array Value) (i j:Nat) (v:Value),i≠j->(t.setIfInBounds i v)[j]?=t[j]?:=fun t i j v h=>wG h
    refine wp_pg (Fr E.A WX) [(0,true),(1,true),(2,true),(3,true),(4,true),(5,true),(6,true),(7,true),(8,true),(9,true),(10,true),(11,true),(12,true),(13,false),(14,false)] [] yE (by kernel_rfl) (by kernel_rfl) (by kernel_rfl) (by decide) ?_;have Z0:=hid ((Fr.refl (fun _=>False) WX).drew);have S0:=hid ((Fr.refl E.A WX).drew);generalize WX.drew=w2 at S0 Z0 ⊢;have hq4:=HQ2.out
    obtain ⟨q2,hq2⟩: ∃q,zJ E.D k s1 t1 t2 m=some q:=by
     cases h:zJ E.D k s1 t1 t2 m with
     |none=>rw [h] at hq4;cases hq4
     |some q=>exact ⟨q,rfl⟩
    rw [hq2] at hq4;have HQ3:=hid hq2;have HQ4:=hid hq4;clear hq2 hq4
    refine gl S0.out ?_ (h1:=fun w' hS=>by
     have q1:=zA (hS.heap (b:=w.heap.size) NB.out BXW.out);have q2:=zA (hS.heap HXA.out (FW.out.heap HXA.out HKX.out));have q3:=zA (hS.heap HYA.out (FW.out.heap HYA.out HKY.out));have q4:=zA (hS.heap VXA.out VXC.out);have q5:=zA (hS.heap VYA.out VYC.out);have szw:=bl (q1 0);have szx:=bl (q2 0);have szy:=bl (q3 0);have szvx:=bl (q4 0);have szvy:=bl (q5 0);dsimp only at szw szx szy szvx szvy;clear hS
     go_simp;rfl)
    iterate 4 (refine gl S0.out ?_)
    refine gl S0.out ?_ (h1:=fun w' hS=>by
     have q1:=zA (hS.heap (b:=w.heap.size) NB.out BXW.out);have q2:=zA (hS.heap HXA.out (FW.out.heap HXA.out HKX.out));have q3:=zA (hS.heap HYA.out (FW.out.heap HYA.out HKY.out));have q4:=zA (hS.heap VXA.out VXC.out);have q5:=zA (hS.heap VYA.out VYC.out);have szw:=bl (q1 0);have szx:=bl (q2 0);have szy:=bl (q3 0);have szvx:=bl (q4 0);have szvy:=bl (q5 0);dsimp only at szw szx szy szvx szvy;clear hS
     go_simp;rfl)
    iterate 4 (refine gl S0.out ?_)
    refine gl S0.out ?_ (h1:=fun w' hS=>by
     have q1:=zA (hS.heap (b:=w.heap.size) NB.out BXW.out);have q2:=zA (hS.heap HXA.out (FW.out.heap HXA.out HKX.out));have q3:=zA (hS.heap HYA.out (FW.out.heap HYA.out HKY.out));have q4:=zA (hS.heap VXA.out VXC.out);have q5:=zA (hS.heap VYA.out VYC.out);have szw:=bl (q1 0);have szx:=bl (q2 0);have szy:=bl (q3 0);have szvx:=bl (q4 0);have szvy:=bl (q5 0);dsimp only at szw szx szy szvx szvy;clear hS
     go_simp;rfl)
    refine gl S0.out ?_;refine gl S0.out ?_;refine gc 132 ?_;refine (HS.out t1 t2 v1 v2 m z _ U bm hd1 s1 (depth + 1) q2 (by omega) HQ3.out HM.out (HEW.out.keep S0.out) (HNW.out.keep Z0.out) (P1.out.keep S0.out) (P2.out.keep S0.out)).mono ?_;rintro e w4 ⟨rfl,hf4,s4,hd4,hn4,hs4⟩;have S4:=hid (S0.out.trans hf4);have HN4:=hid hn4;have HS4:=hid hs4;clear hf4 hn4 hs4;refine ⟨_,rfl,fun _=>S4.out,?_⟩
    cases q2 with
    |none=>
     have hr:r=none:=(Option.some.inj HQ4.out).symm;subst hr;refine gv (fun _=>S4.out) ?_;refine wO (by simp [fs]) (fun u' hu'=> ?_);have e5:=hu' 5 (.pointer (some ⟨w.heap.size,0,none⟩)) (by go_simp);have e729:=hu' 729 (.bool true) (by go_simp);simp only [fr,e5,e729];clear hu' e5 e729;go_wp2;exact door h0 (by omega) rfl (FW.out.trans S4.out) (S4.out.heap NB.out BXW.out) HN4.out (fun s1 h=>by cases h)
    |some s2=>
     refine gv (fun _=>S4.out) ?_;refine wO (by simp [fs]) (fun u' hu'=> ?_);have e5:=hu' 5 (.pointer (some ⟨w.heap.size,0,none⟩)) (by go_simp);have e4:=hu' 4 (.pointer none) (by go_simp);have e3:=hu' 3 (.int .u64 z) (by go_simp);have e62:=hu' 62 (.pointer (some ⟨xa,0,none⟩)) (by go_simp);have e63:=hu' 63 (.pointer (some ⟨ya,0,none⟩)) (by go_simp);have e701:=hu' 701 (.slice (some ⟨fb,fo,none⟩) xl fc) (by go_simp)
     have e702:=hu' 702 (.int .i64 xl) (by go_simp);have e703:=hu' 703 (.int .i64 j) (by go_simp);have e729:=hu' 729 (.bool false) (by go_simp);simp only [fr,e5,e4,e3,e62,e63,e701,e702,e703,e729];clear hu' e5 e4 e3 e62 e63 e701 e702 e703 e729;go_wp2;exact ⟨rfl,rfl,congrArg (fun i=>some (Value.int .i64 i)) (by omega:((j:Int) + 1)=((j + 1:Nat):Int)),⟨rfl,rfl,rfl,rfl,rfl,rfl,rfl,trivial⟩,by omega,⟨s4,hd4,FW.out.trans S4.out,HN4.out,S4.out.heap NB.out BXW.out,HEW.out.keep S4.out,(HRR.out _ _).2 (by rw [HS4.out s2 rfl];exact HQ4.out)⟩⟩
end Go.Proofs.YtpekidjfbinekaaGreatDoor
