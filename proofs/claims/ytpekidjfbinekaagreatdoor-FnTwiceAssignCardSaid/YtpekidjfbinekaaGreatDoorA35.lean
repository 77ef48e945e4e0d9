/- W31, W32, W33 -/
import Derived.Test.YtpekidjfbinekaaGreatDoorA33
import Derived.Test.YtpekidjfbinekaaGreatDoorA34
set_option maxRecDepth 100000
set_option maxHeartbeats 60000000
set_option linter.all false
namespace Go.Proofs.YtpekidjfbinekaaGreatDoor
open Go.RowKit Uni
theorem xB.single {w:World}{b:Nat}{y:TyV}{fr:Nat × Nat}(h:w.heap[b]?=some (.cells #[.int .i64 y.k,.int .i64 y.n,.int .i64 y.c,.bool y.v,.slice y.a y.len y.cap,.string y.nm] 26 fr)):xB w F0 (some ⟨b,0,none⟩) [y]:=by
 refine .inr ⟨b,0,rfl,fun i z hz=> ?_⟩
 have hi:i=0:=by
  have:=(List.getElem?_eq_some_iff.1 hz).1;simp at this;exact this
 subst hi;simp at hz;subst hz;have q:=zA h;exact ⟨id,(q _).trans rfl,(q _).trans rfl,(q _).trans rfl,(q _).trans rfl,(q _).trans rfl,(q _).trans rfl⟩
section
variable {da:Option Addr}{dl dc:Nat}{D:zE}{ar:Nat->Nat}
theorem height_named (hG:xF dl ar D)(F:Nat)(ih:HStep da dl dc D ar F)(f:Lab)(ts:List Tm)(x:TyV)(w:World)(B:MB)(ob n:Nat)(M:Mg)(fuel:Int)(oa:Option Addr)(oc:Nat)(hF:fuel<=F + 1)(hF2:F + 1<=20000)(hf2:2<=fuel)
 (hM:HRep ar dl w B ob n M fuel (.slice da dl dc) oa) (hd:DRep w (HA B ob) da dl D ar) (hx:HIn ar dl w (HA B ob) n x (.node f ts)) (hk1:f.kind=1):
 Calls Tryz.prog 48 #[.pointer (some ⟨B.m,0,none⟩),x.val,.slice oa n oc] w (HPost ar dl D B ob n (.slice da dl dc) oa w M fuel (.node f ts)):=by
 have NM:=hid (fun b (h:w.heap.size<=b) (hb:HW B ob b)=>(Nat.not_lt.2 h (hM.below b (by rcases hb with hb | hb;exact .inl (.inl hb);exact .inr hb)):False));have NA:=hid (fun b (h:w.heap.size<=b) (hb:HA B ob b)=>(Nat.not_lt.2 h (hM.below b hb):False));obtain ⟨xs,fx,nx,rx,sx⟩:=hx.r.flat;have sx:Shape x f xs:=sx;have kx:x.k=f.kind:=sx.k;have x1:x.k=1:=by rw [kx,hk1];rfl
 obtain ⟨ca,cc,va,vc,hu,_⟩:=hM.m;have HU:=hid hu;have qm:=zA hu;have fm:=zC hu;have szm:=hM.below B.m (.inl (.inl rfl));have XE:=hid fx.elems;have LX:=hid fx.len;have LT:=hid (show ts.length=x.len by rw [<-fx.len];exact nx);have RX:=hid (fun i z t hz ht=>(⟨rx i z t hz ht,hx.g.kid (List.mem_of_getElem? ht),hx.h.kid (List.mem_of_getElem? ht)⟩:HIn ar dl w (HA B ob) n z t));have hbx:=fx.bound.2.1;have hk:=hx.g.lab.k1 hk1
 have UN:=hid (fun (WX w':World) (R:Nat→Prop) (f':Fr (HA B ob) w WX) (g':Fr F0 WX w') (hR: ∀b,R b→WX.heap.size≤b∧b < w'.heap.size)=>xG da dl dc D ar x f ts w' (fun b=>HA B ob b∨R b)
  (((hd.keep f').avoid (M':=fun b=>HA B ob b\/R b) fun b hb=>by rcases hb with hb | hb;exact .inl hb;exact .inr (hR b hb).1).keep g'.sub) (((hx.keep f').r.avoid (M':=fun b=>HA B ob b\/R b) fun b hb=>by rcases hb with hb | hb;exact .inl hb;exact .inr (hR b hb).1).keep g'.sub) hk1 hk.1 hk.2
  (fun b hb=>by rcases hb with hb | hb;exact Nat.lt_of_lt_of_le (hM.below b hb) (Nat.le_trans f'.size g'.size);exact (hR b hb).2))
 have XU:=hid (fun (w2:World) (rr:TyV) (h:RT w2 (HA B ob) rr (Uni.und D (.node f ts)))=>(⟨h,hx.g.und hG,by rw [und_own hk1];exact holes_own hk.2 (fun t ht=>hx.h.kid ht) (hd.noVar f.n hk.1) (hd.own f.n hk.1)⟩:HIn ar dl w2 (HA B ob) n rr (Uni.und D (.node f ts))));clear fx nx rx sx;have HM:=hid hM;have HD:=hid hd;have HX:=hid hx;have IH:=hid ih;clear hM hd hx ih hu kx hk;obtain ⟨xk,xn,xc,xv,xa,xlen,xcap,xnm⟩:=x
 unfold TyV.val at *;dsimp only at *;subst x1;have hle0: ¬(fuel - 1<=0):=by omega
 have hfu:fuel<=20000:=by omega
 have SC:=hid (show (w.setCell ⟨B.m,3,none⟩ (.int .i64 (fuel - 1))).heap.size=w.heap.size by simp [World.setCell]);have FW:=hid ((((Fr.refl (HW B ob) w).setCell (p:=⟨B.m,3,none⟩) (.inl (.inl rfl)) (.int .i64 (fuel - 1))).alloc (.cells #[.int .i64 1,.int .i64 xn,.int .i64 xc,.bool xv,.slice xa xlen xcap,.string xnm] 26)).alloc (.cells #[.slice oa n oc] 84));have HM0:=hid ((HM.out.setFuel (fuel - 1)).keep (((Fr.refl F0 _).alloc (.cells #[.int .i64 1,.int .i64 xn,.int .i64 xc,.bool xv,.slice xa xlen xcap,.string xnm] 26)).alloc (.cells #[.slice oa n oc] 84)))
 have MB:=hid ((((Fr.refl F0 _).alloc (.cells #[.int .i64 1,.int .i64 xn,.int .i64 xc,.bool xv,.slice xa xlen xcap,.string xnm] 26)).alloc (.cells #[.slice oa n oc] 84)).heap id (heap_setCell (a:=⟨B.m,3,none⟩) (v:= .int .i64 (fuel - 1)) HU.out rfl));have BT:=hid (show (((w.setCell ⟨B.m,3,none⟩ (.int .i64 (fuel - 1))).alloc (.cells #[.int .i64 1,.int .i64 xn,.int .i64 xc,.bool xv,.slice xa xlen xcap,.string xnm] 26)).alloc (.cells #[.slice oa n oc] 84)).heap[w.heap.size]?=some (.cells #[.int .i64 1,.int .i64 xn,.int .i64 xc,.bool xv,.slice xa xlen xcap,.string xnm] 26 (0,0)) from (Below.heap_alloc _ _ _ (by simp [World.setCell])).trans (by have h:=heap_alloc_new (w.setCell ⟨B.m,3,none⟩ (.int .i64 (fuel - 1))) (.cells #[.int .i64 1,.int .i64 xn,.int .i64 xc,.bool xv,.slice xa xlen xcap,.string xnm] 26);rw [SC.out] at h;exact h))
 have BO:=hid (show (((w.setCell ⟨B.m,3,none⟩ (.int .i64 (fuel - 1))).alloc (.cells #[.int .i64 1,.int .i64 xn,.int .i64 xc,.bool xv,.slice xa xlen xcap,.string xnm] 26)).alloc (.cells #[.slice oa n oc] 84)).heap[w.heap.size + 1]?=some (.cells #[.slice oa n oc] 84 (0,0)) by have h:=zS (w.setCell ⟨B.m,3,none⟩ (.int .i64 (fuel - 1))) (.cells #[.int .i64 1,.int .i64 xn,.int .i64 xc,.bool xv,.slice xa xlen xcap,.string xnm] 26) (.cells #[.slice oa n oc] 84);rw [SC.out] at h;exact h)
 have WS:=hid (show w.heap.size<=(((w.setCell ⟨B.m,3,none⟩ (.int .i64 (fuel - 1))).alloc (.cells #[.int .i64 1,.int .i64 xn,.int .i64 xc,.bool xv,.slice xa xlen xcap,.string xnm] 26)).alloc (.cells #[.slice oa n oc] 84)).heap.size by simp [World.setCell];omega);go_enter_defers Tryz.func48,Tryz.ntmps48;go_wp2_with fail
 generalize (((w.setCell ⟨B.m,3,none⟩ (.int .i64 (fuel - 1))).alloc (.cells #[.int .i64 1,.int .i64 xn,.int .i64 xc,.bool xv,.slice xa xlen xcap,.string xnm] 26)).alloc (.cells #[.slice oa n oc] 84))=WX at FW HM0 MB BT BO WS ⊢;clear qm fm szm;refine zG (Fr F0 WX) [(0,true),(2,true),(3,true),(4,true),(5,true),(6,true),(1,false),(7,false),(8,false),(9,false),(10,false)] [10] yE (by kernel_rfl) (by kernel_rfl) (by kernel_rfl) (by decide) ?_
 iterate 6
  (refine zH _ rfl (Fr.refl _ _).drew (fun w' hS=>by
   have q0:=zA (hS.heap (b:=B.m) id MB.out);have q1:=zA (hS.heap (b:=w.heap.size) id BT.out);have szu:=bl (q0 0);have szw:=bl (q1 0);clear hS;go_simp;rfl) ?_)
 go_simp;refine zB rfl ?_;refine wpList_app rfl _ _ rfl WX.heap.size (.slice none 0 0) [] rfl (World.ownsRow_nil _ _ _ _) (fun _=>rfl) (HA B ob) xa xlen xcap xs rfl (XE.out.keep (HW.sub FW.out.drew)) LX.out (by simp;omega) (Nat.le_refl _) ?_;intro v1 w1 hown1 hnil1 hgrow1 hblk1;rw [List.nil_append] at hown1 hnil1;have OW1:=hid hown1;have NL1:=hid hnil1;have BK1:=hid (fun g (h:v1.ownBlock=some g)=>(by rcases hblk1 g h with h | h;cases h;rw [h];exact Nat.le_refl _:WX.heap.size<=g))
 have FS1:=hid (((Fr.refl F0 WX).drew).transNew (Fr.of_grown hgrow1) (fun x hx=>by cases hx));clear hown1 hnil1 hgrow1 hblk1;go_wp2;refine And.intro (fun _=>FS1.out) ?_;refine zB rfl ?_;go_wp2_with fail
 refine (UN.out WX _ (fun b=>v1.ownBlock=some b) (HW.sub FW.out) FS1.out (fun b hb=>World.ownsRow.lt OW1.out b hb)).mono ?_;rintro e w2 ⟨rr,rfl,hrr,hf2'⟩;have HRR:=hid hrr;have FS2:=hid (FS1.out.trans hf2');have OW2:=hid (zV OW1.out hf2' (fun _ _ h=>h));clear hrr hf2';go_wp2;refine And.intro (fun _=>FS2.out) ?_;refine zB rfl ?_;go_wp2;refine And.intro (fun _=>FS2.out.alloc _) ?_;refine zB rfl ?_;have FS3:=hid (FS2.out.alloc (.cells #[.int .i64 rr.k,.int .i64 rr.n,.int .i64 rr.c,.bool rr.v,.slice rr.a rr.len rr.cap,.string rr.nm] 26))
 have FR3:=hid ((Fr.refl (fun b=>HA B ob b\/v1.ownBlock=some b) w2).alloc (.cells #[.int .i64 rr.k,.int .i64 rr.n,.int .i64 rr.c,.bool rr.v,.slice rr.a rr.len rr.cap,.string rr.nm] 26));have OW3:=hid (zV OW2.out ((Fr.refl F0 w2).alloc (.cells #[.int .i64 rr.k,.int .i64 rr.n,.int .i64 rr.c,.bool rr.v,.slice rr.a rr.len rr.cap,.string rr.nm] 26)) (fun _ _ h=>h));refine wpList_app rfl _ _ rfl WX.heap.size v1 xs rfl OW3.out NL1.out F0 (some ⟨w2.heap.size,0,none⟩) 1 1 [rr] rfl (xB.single (heap_alloc_new w2 _)) rfl (by have:=LX.out;omega) FS3.out.size ?_
 intro v4 w4 hown4 hnil4 hgrow4 hblk4;have FS4:=hid (FS3.out.transNew (Fr.of_grown hgrow4) (fun x hx=> .inr (BK1.out x hx)));have FR4:=hid (FR3.out.transNew (Fr.of_grown hgrow4) (fun x hx=> .inl (.inr hx)));have BK4:=hid (fun g (h:v4.ownBlock=some g)=>(by rcases hblk4 g h with h | h;exact BK1.out g h;rw [h];exact FS3.out.size:WX.heap.size<=g));obtain ⟨a4,cap4,rfl,e4,le4,mx4⟩:=OwnT.elems hown4 (HA B ob) (fun g hg hb=>NA.out g (Nat.le_trans WS.out (BK4.out g hg)) hb)
 have HR4:=hid (XU.out w4 rr ((HRR.out.keep FR4.out).mono fun b hb=> .inl hb));have E4:=hid e4;have hl4:(xs ++ [rr]).length=xlen + 1:=by rw [List.length_append,LX.out];rfl
 rw [hl4] at le4;rw [hl4];have LX4:=hid hl4;have FWD:=hid (FW.out.trans FS4.out.sub);have HMD:=hid (HM0.out.keep FS4.out);have BOD:=hid (FS4.out.heap id BO.out);have LT4:=hid (show (ts ++ [Uni.und D (.node f ts)]).length=xlen + 1 by rw [List.length_append,LT.out];rfl)
 have RX4:=hid (show ∀(i:Nat) (z:TyV) (t:Tm),(xs ++ [rr])[i]?=some z→(ts ++ [Uni.und D (.node f ts)])[i]?=some t→HIn ar dl w4 (HA B ob) n z t from fun i z t hz ht=>by
  have lx:=LX.out;have lt:=LT.out;by_cases hi:i < xs.length
  ·rw [List.getElem?_append_left hi] at hz
   rw [List.getElem?_append_left (by omega)] at ht;exact (RX.out i z t hz ht).keep (HW.sub FWD.out)
  ·rw [List.getElem?_append_right (by omega)] at hz
   rw [List.getElem?_append_right (by omega)] at ht
   have hi0:i - xs.length=0:=by
    have:=(List.getElem?_eq_some_iff.1 hz).1;simp at this;omega
   rw [hi0] at hz;rw [show i - ts.length=0 by omega] at ht;simp at hz ht;rw [<-hz,<-ht];exact HR4.out)
 clear hown4 hnil4 hgrow4 hblk4 e4 hl4;go_wp2;refine And.intro (fun _=>FS4.out) ?_;refine zB rfl ?_;go_wp2;refine And.intro (fun h=>absurd h (by decide)) ?_;refine zO (NoPanic.normal ?_);go_wp2
 go_loopw [11,14,15,73] (fun h _ _ i wr=> ∃(j:Nat) (g f':Int),j≤(xlen + 1)∧i= .int .i64 j∧h= .int .i64 g∧HRep ar dl wr B ob n M f' (.slice da dl dc) oa∧Fr (HW B ob) w wr∧Fr (HW B ob) w4 wr∧
  wr.heap[w.heap.size + 1]?=some (.cells #[.slice oa n oc] 84 (0,0))/\f'<=fuel - 1/\1<=f'/\0<=g/\g<=2 * (fuel - f')/\xS D M (ts ++ [Uni.und D (.node f ts)]) 1 j g) (fun _ _ _ i _=>(xlen + 1) - (intOf i).toNat)
 case atStart=>exact ⟨0,0,fuel - 1,Nat.zero_le _,rfl,rfl,HMD.out,FWD.out,Fr.refl _ _,BOD.out,by omega,by omega,by omega,by omega,xS.start _ _ _ _ _⟩
 case round=>
  obtain ⟨j,g,f1,hj,rfl,rfl,hM1,hF1,hF4,hBX,hf1,hf1',hg0,hg1,hR1⟩:=hrel;have HM1:=hid hM1;have HF:=hid hF1;have HF4:=hid hF4;have BX:=hid hBX;have HR:=hid hR1;clear hM1 hF1 hF4 hBX hR1;have qx:=zA BX.out;have szx:=bl (qx 0);dsimp only at szx;by_cases hlt:j < xlen + 1
  ·obtain ⟨X,b1,o1,gX,rfl,e1⟩:=E4.out.elem (show j < (xs ++ [rr]).length by rw [LX4.out];omega)
   have e1:=e1.keep (HW.sub HF4.out);obtain ⟨_,a0,a1,a2,a3,a4,a5⟩:=e1;have hb1:b1 < wr.heap.size:=World.block_lt_of_cell? _ _ a0;have hle:(j:Int) < (xlen:Int) + 1:=by omega
   have GX:=hid gX;clear gX;obtain ⟨t,ht⟩: ∃t,(ts ++ [Uni.und D (.node f ts)])[j]?=some t:=⟨(ts ++ [Uni.und D (.node f ts)])[j]'(by rw [LT4.out];omega),by simp⟩;have T:=hid ht;clear ht;go_wp2_with fail
   refine (IH.out t X _ B ob n M f1 oa oc (by omega) (by omega) hf1' (HM1.out.keep ((Fr.refl F0 _).alloc _)) (HD.out.keep ((HW.sub HF.out).alloc _)) ((RX4.out j X t GX.out T.out).keep ((HW.sub HF4.out).alloc _))).mono ?_;rintro e w2 ⟨h2,ok,f2,rfl,hM2,hF2,hf21,hf20,hh0,hh1,hok⟩;have HM2:=hid hM2;have HF2:=hid hF2;have OK:=hid hok;clear hM2 hF2 hok
   cases ok with
   |false=>
    go_wp2;exact ⟨_,results_tmp2 rfl _ _ _,0,false,f2,rfl,HM2.out,(HF.out.alloc _).trans HF2.out,by omega,hf20,by omega,by omega,fun h=>by cases h⟩
   |true=>
    have hok:=OK.out rfl;go_wp2;go_roundw
    case rel=>
     refine ⟨j + 1,if g < h2 + 1 then h2 + 1 else g,f2,by omega,by go_num,rfl,HM2.out,(HF.out.alloc _).trans HF2.out,(HF4.out.alloc _).trans HF2.out,HF2.out.heap (fun hb=>NM.out _ (Nat.le_succ _) hb) ((Below.heap_alloc _ _ _ szx).trans BX.out),by omega,hok.1,by split <;>omega,by split <;>omega,HR.out.next T.out hh0 hok.2 (by split <;>omega) (by split <;>omega)⟩
    case measure=>simp [intOf];omega
  ·have hge: ¬(j:Int) < (xlen:Int) + 1:=by omega
   have hjl:j=(xlen + 1):=by omega
   go_wp2;exact ⟨_,results_tmp2 rfl _ _ _,g,true,f1,rfl,HM1.out,HF.out,by omega,by omega,hg0,hg1,fun _=>⟨hf1',xS.named hg0 hk1 (by rw [LT4.out,<-hjl];exact HR.out)⟩⟩
theorem height_any (hG:xF dl ar D): ∀F,HStep da dl dc D ar F:=by
 intro F
 have out: ∀(t:Tm) (x:TyV) (w:World) (B:MB) (ob n:Nat) (M:Mg) (fuel:Int) (oa:Option Addr) (oc:Nat),fuel≤1→1≤fuel→HRep ar dl w B ob n M fuel (.slice da dl dc) oa→
  Calls Tryz.prog 48 #[.pointer (some ⟨B.m,0,none⟩),x.val,.slice oa n oc] w (HPost ar dl D B ob n (.slice da dl dc) oa w M fuel t):=by
  intro t x w B ob n M fuel oa oc h1 h2 hM;refine (height_out x w B ob n M fuel _ oa oc hM h1 (by omega)).mono ?_;rintro e w' ⟨rfl,h3,h4⟩;exact ⟨0,false,fuel - 1,rfl,h3,h4,by omega,by omega,by omega,by omega,fun h=>by cases h⟩
 induction F with
 |zero=>intro t x w B ob n M fuel oa oc h1 h2 h3 hM hd hx;exact absurd h3 (by omega)
 |succ F ih=>
  intro t x w B ob n M fuel oa oc h1 h2 h3 hM hd hx;by_cases hf:fuel<=1
  ·exact out t x w B ob n M fuel oa oc hf h3 hM
  have hf2:2<=fuel:=by omega
  cases t with
  |var p=>exact height_var F ih p x w B ob n M fuel oa oc (by omega) (by omega) hf2 hM hd hx
  |node f ts=>
   by_cases k1:f.kind=1
   ·exact height_named hG F ih f ts x w B ob n M fuel oa oc (by omega) (by omega) hf2 hM hd hx k1
   ·by_cases k10:f.kind=10
    ·exact height_func F ih f ts x w B ob n M fuel oa oc (by omega) (by omega) hf2 hM hd hx k10
    ·exact height_other F ih f ts x w B ob n M fuel oa oc (by omega) (by omega) hf2 hM hd hx k1 k10
end
end Go.Proofs.YtpekidjfbinekaaGreatDoor
section
namespace Uni
def Tame (D:zE)(qs:List (Tm × Tm)):Prop:= ∃M,Closed D M/\ ∀q∈qs,xL D M q.1 q.2/\ ∃a b,Ht D M a q.1/\Ht D M b q.2/\a + b<=48
def Mg.init:Mg:=⟨fun i=>i,fun _=> []⟩
theorem Mg.init_closed (D:zE):ClosedP D Mg.init fun _ _=>False:=⟨fun p t h=>by simp [Mg.init] at h,fun p x y h=>by simp [Mg.init] at h⟩
theorem Mg.init_wt (n:Nat):Wt Mg.init n 0:=⟨List.range n,List.nodup_range,fun i hi=>by simp [Mg.init,hi],by
 have: ∀l:List Nat,(l.map fun c=>(Mg.init.vals c).length).sum=0:=fun l=>by
  induction l with
  |nil=>rfl
  |cons a l ih=>rw [List.map_cons,List.sum_cons,ih];rfl
 rw [this];exact Nat.le_refl _⟩
theorem Run.tame {D:zE}{M:Mg}{qs:List (Tm × Tm)}(h:Run D Mg.init M (fun u v=> ∃i:Nat,i < qs.length/\qs[i]?=some (u,v)))(hh: ∀(i:Nat)(q:Tm × Tm),qs[i]?=some q-> ∃a b,Ht D M a q.1/\Ht D M b q.2/\a + b<=48):Tame D qs:=by
 obtain ⟨M',h1,h2,h3⟩:=(h.closed _ (Mg.init_closed D)).closed;refine ⟨M',h1,fun q hq=> ?_⟩;obtain ⟨i,hi,hi'⟩:=List.mem_iff_getElem.1 hq;obtain ⟨a,b,ha,hb,hab⟩:=hh i q (by simp [hi,hi']);exact ⟨h2 _ _ (h.ok q.1 q.2 ⟨i,hi,by simp [hi,hi']⟩),a,b,h3 _ _ ha,h3 _ _ hb,hab⟩
end Uni
namespace Go.Proofs.YtpekidjfbinekaaGreatDoor
open Go.RowKit Uni
theorem info24:(Tryz.prog.info? 24).map (fun i=>(i.zero,i.size,i.bytes))=some (some (.slice none 0 0),1,24):=by kernel_rfl
theorem info4:(Tryz.prog.info? 4).map (fun i=>(i.zero,i.size,i.bytes))=some (some (.bool false),1,1):=by kernel_rfl
theorem under78:Tryz.prog.underlying 78=some (.slice 24):=by kernel_rfl
theorem under84:Tryz.prog.underlying 84=some (.slice 4):=by kernel_rfl
structure Pair12 (w:World) (b off i:Nat) (x y:TyV):Prop where
 c0:w.cell? ⟨b,off + i * 12,none⟩=some (.int .i64 x.k)
 c1:w.cell? ⟨b,off + i * 12 + 1,none⟩=some (.int .i64 x.n)
 c2:w.cell? ⟨b,off + i * 12 + 2,none⟩=some (.int .i64 x.c)
 c3:w.cell? ⟨b,off + i * 12 + 3,none⟩=some (.bool x.v)
 c4:w.cell? ⟨b,off + i * 12 + 4,none⟩=some (.slice x.a x.len x.cap)
 c5:w.cell? ⟨b,off + i * 12 + 5,none⟩=some (.string x.nm)
 d0:w.cell? ⟨b,off + i * 12 + 6,none⟩=some (.int .i64 y.k)
 d1:w.cell? ⟨b,off + i * 12 + 7,none⟩=some (.int .i64 y.n)
 d2:w.cell? ⟨b,off + i * 12 + 8,none⟩=some (.int .i64 y.c)
 d3:w.cell? ⟨b,off + i * 12 + 9,none⟩=some (.bool y.v)
 d4:w.cell? ⟨b,off + i * 12 + 10,none⟩=some (.slice y.a y.len y.cap)
 d5:w.cell? ⟨b,off + i * 12 + 11,none⟩=some (.string y.nm)
theorem Pair12.keep {w w':World}{b off i:Nat}{x y:TyV}(h:Pair12 w b off i x y){M:Nat->Prop}(f:Fr M w w')(hb: ¬M b):Pair12 w' b off i x y:=
 ⟨f.cell hb h.c0,f.cell hb h.c1,f.cell hb h.c2,f.cell hb h.c3,f.cell hb h.c4,f.cell hb h.c5,f.cell hb h.d0,f.cell hb h.d1,f.cell hb h.d2,f.cell hb h.d3,f.cell hb h.d4,f.cell hb h.d5⟩
def PairsAt (w:World)(a:Option Addr)(ps:List (TyV × TyV)):Prop:=ps= []\/ ∃b off,a=some ⟨b,off,none⟩/\ ∀i p,ps[i]?=some p->Pair12 w b off i p.1 p.2
section
variable {da:Option Addr}{dl dc:Nat}{D:zE}{ar:Nat->Nat}
theorem MRep.refuel {w w':World}{B:MB}{n:Nat}{M:Mg}{fuel:Int}{dv:Value}(h:MRep ar dl w B n M fuel dv)(F:Fr (fun b=>b=B.m) w w')(f':Int)(hlo: -4611686018427387904<=f')(hf:f'<=fuel)
 (hm: ∃ca cc va vc,w'.heap[B.m]?=some (.cells #[dv,.slice ca n cc,.slice va n vc,.int .i64 f'] 80 (0,0))/\(0 < n->ca=some ⟨B.c,0,none⟩/\va=some ⟨B.v,0,none⟩)):MRep ar dl w' B n M f' dv:=by
 obtain ⟨_,hc,hv,h1,h2,h3,⟨k,h4,h4',h4''⟩,h5,h6,h7⟩:=h;refine ⟨hm,fun hn=> ?_,fun hn=> ?_,h1,h2,h3,⟨k,h4,h4',by omega⟩,hlo,⟨Nat.lt_of_lt_of_le h6.1 F.size,fun hn=>⟨Nat.lt_of_lt_of_le (h6.2 hn).1 F.size,Nat.lt_of_lt_of_le (h6.2 hn).2 F.size⟩⟩,fun b hb=>Nat.lt_of_lt_of_le (h7 b hb) F.size⟩
 ·obtain ⟨c,h,h'⟩:=hc hn
  exact ⟨c,F.heap (Ne.symm (h3 hn).1) h,h'⟩
 ·obtain ⟨c,h,h'⟩:=hv hn
  refine ⟨c,F.heap (Ne.symm (h3 hn).2.1) h,fun p hp=> ?_⟩;obtain ⟨u,a,b⟩:=h' p hp;exact ⟨u,a,b.keep (F.mono fun b _ hb=> .inl hb)⟩
theorem MRep.marks {w w':World}{B:MB}{n ob:Nat}{M:Mg}{fuel:Int}{dv:Value}(h:MRep ar dl w B n M fuel dv)(F:Fr F0 w w')(hob:w.heap.size<=ob)(hob':ob < w'.heap.size)
 (ho: ∃c,w'.heap[ob]?=some (.cells c 4 (0,0))/\ ∀p,p < n-> ∃b,c[p]?=some (.bool b)):HRep ar dl w' B ob n M fuel dv (some ⟨ob,0,none⟩):=by
 obtain ⟨hm,hc,hv,h1,h2,h3,⟨k,h4,h4',h4''⟩,h5,h6,h7⟩:=h
 have av: ∀b,HA B ob b→B.M b∨w.heap.size≤b:=fun b hb=>by
  rcases hb with hb | hb
  ·exact .inl hb
  ·exact .inr (by rw [hb];exact hob)
 have nb: ∀b,B.M b->ob≠b:=fun b hb e=>by have:=h7 b hb;omega
 refine ⟨?_,fun hn=> ?_,fun hn=> ?_,fun hn=>⟨rfl,ho⟩,h1,fun p hp=>Nat.le_trans (h4.len hp) h4',fun hn=>⟨(h3 hn).1,(h3 hn).2.1,(h3 hn).2.2,nb _ (.inl rfl),nb _ (.inr (.inl rfl)),nb _ (.inr (.inr rfl))⟩,fun b hb=> ?_⟩
 ·obtain ⟨ca,cc,va,vc,a,b⟩:=hm
  exact ⟨ca,cc,va,vc,F.heap id a,b⟩
 ·obtain ⟨c,h,h'⟩:=hc hn
  exact ⟨c,F.heap id h,h'⟩
 ·obtain ⟨c,h,h'⟩:=hv hn
  refine ⟨c,F.heap id h,fun p hp=> ?_⟩;obtain ⟨u,a,va,cap,xs,rfl,e1,e2,e3,e4,_,e6⟩:=h' p hp;refine ⟨va,_,cap,a,⟨xs,(e1.avoid av).keep F.sub,e2,fun i y t hy ht=> ?_⟩,rfl,e3,e4⟩;have e:=e6 i y t hy ht;exact ⟨(e.r.avoid av).keep F.sub,e.g,e.h⟩
 ·rcases hb with hb | hb
  ·exact Nat.lt_of_lt_of_le (h7 b hb) F.size
  ·rw [hb];exact hob'
theorem height_all (hG:xF dl ar D)(t:Tm)(x:TyV)(w:World)(B:MB)(ob n:Nat)(M:Mg)(fuel:Int)(oa:Option Addr)(oc:Nat)(hf:fuel<=20000)(hl: -4611686018427387904<=fuel - 1)
 (hM:HRep ar dl w B ob n M fuel (.slice da dl dc) oa) (hd:DRep w (HA B ob) da dl D ar) (hx:HIn ar dl w (HA B ob) n x t):
 Calls Tryz.prog 48 #[.pointer (some ⟨B.m,0,none⟩),x.val,.slice oa n oc] w fun e w'=> ∃(h:Int) (ok:Bool) (f':Int),e= .returned (.tuple #[.int .i64 h,.bool ok])∧HRep ar dl w' B ob n M f' (.slice da dl dc) oa∧Fr (HW B ob) w w'∧f'≤fuel - 1∧(0≤f'∨f'=fuel - 1)∧0≤h∧h≤100000∧
  (ok=true->1<=f'/\Ht D M (h.toNat + 2) t):=by
 by_cases h1:fuel<=1
 ·refine (height_out x w B ob n M fuel _ oa oc hM h1 hl).mono ?_
  rintro e w' ⟨rfl,a,b⟩;exact ⟨0,false,fuel - 1,rfl,a,b,by omega,.inr rfl,by omega,by omega,fun h=>by cases h⟩
 ·refine (height_any hG 20000 t x w B ob n M fuel oa oc (by omega) (Nat.le_refl _) (by omega) hM hd hx).mono ?_
  rintro e w' ⟨h,ok,f',rfl,a,b,c,d,e,f,g⟩;exact ⟨h,ok,f',rfl,a,b,c,.inl d,e,by omega,g⟩
end
end Go.Proofs.YtpekidjfbinekaaGreatDoor
end
namespace Go.Proofs.YtpekidjfbinekaaGreatDoor
open Go.RowKit Uni
section
variable {da:Option Addr}{dl dc:Nat}{D:zE}{ar:Nat->Nat}
theorem tame_any (hG:xF dl ar D)(w:World)(n:Nat)(hn8:n<=8)(hd:DRep w F0 da dl D ar)(pa:Option Addr)(pl pc:Nat)(ps:List (TyV × TyV))(qs:List (Tm × Tm))(hp:PairsAt w pa ps)(hpl:ps.length=pl)(hql:qs.length=pl)(hpl2:pl<=2)
 (hin: ∀(i:Nat) (p:TyV × TyV) (q:Tm × Tm),ps[i]?=some p->qs[i]?=some q->HIn ar dl w F0 n p.1 q.1/\HIn ar dl w F0 n p.2 q.2):
 Calls Tryz.prog 34 #[.slice da dl dc,.int .i64 n,.slice pa pl pc] w fun e w'=>wT e (Tame D qs)/\Fr F0 w w':=by
 have PS:=hid hp;have LP:=hid hpl;have LQ:=hid hql;have HI:=hid hin;have HD:=hid hd;clear hp hpl hql hin hd;obtain ⟨i0,hi0,hz0,hz1,hz2⟩:=info_parts info24;go_enter Tryz.func34,Tryz.ntmps34;have B2:=hid (show i0.bytes * n<=281474976710656 by rw [hz2];omega);have B3:=hid (show n<=maxLen by unfold maxLen;omega);go_wp2_with (refine wpList_make_full _ rfl _ _ 78 rfl w.heap.size 24 i0 _ 1 under78 hi0 hz0 hz1 .i64 .i64 n n n rfl rfl rfl rfl B2.out B3.out (Nat.le_refl _) ?_)
 intro w1 hown hgr;obtain ⟨hl,h | ⟨g,cap,cur,hv,hB,hg,hn,hm,hs,ht⟩⟩:=hown
 ·exact absurd h.1 (by simp)
 have e1:=hv;simp at e1;obtain ⟨rfl,rfl⟩:=e1
 have hcur:cur=madeCells #[.slice none 0 0] n:=by
  refine Array.ext' ?_;rw [List.take_of_length_le (by simp [hs])] at ht;exact ht
 subst hcur;have KB:=hid hg;have FG:=hid ((Fr.of_grown hgr).mono (M':=F0) fun b _ hb=>by cases hb);have SZ1:=hid (show w.heap.size < w1.heap.size from by rcases Nat.lt_or_ge w.heap.size w1.heap.size with h | h;exact h;rw [Array.getElem?_eq_none h] at hg;cases hg);clear hl hv hB hg hn hm hs ht hgr hi0 hz0 hz1 hz2;obtain ⟨i3,hi0,hz0,hz1,hz2⟩:=info_parts info3;go_wp2;go_loopw [8,23] (fun _ i wr=> ∃(k:Nat) (jv:Value),k<=n/\i= .int .i64 k/\Fr F0 w1 wr/\wr.heap[w1.heap.size]?=some (.cells #[.slice da dl dc,jv,.slice (some ⟨w.heap.size,0,none⟩) n n,.int .i64 20000] 80 (0,0))/\wr.ownsRow (w1.heap.size + 1) 3 1 jv k (ints k)) (fun _ i _=>n - (intOf i).toNat)
 case atStart=>exact ⟨0,.slice none 0 0,Nat.zero_le _,rfl,(Fr.refl _ _).alloc _,heap_alloc_new w1 _,World.ownsRow_nil _ _ _ _⟩
 case round=>
  obtain ⟨W1,rfl⟩: ∃W1:World,W1=wr:=⟨wr,rfl⟩;obtain ⟨k,jv,hk,rfl,hf,hu,ho⟩:=hrel;have HF:=hid hf;have HU:=hid hu;have HO:=hid ho;clear hf hu ho;have qu:=zA HU.out;have fu:=zC HU.out;have szu:w1.heap.size < W1.heap.size:=bl (qu 1);have SZU:=hid szu;by_cases hlt:k < n
  ·have hle:(k:Int) < n:=by omega
   have N63:=hid (show k + 1<=maxLen by unfold maxLen;omega);have N8:=hid (show (k + 1) * 8<=140737488355328 by omega);have SZA:=hid (show w1.heap.size + 1<=(W1.alloc (.cells #[.int .i64 k] 3)).heap.size by have:=SZU.out;simp;omega);go_wp2_with (refine wpList_append_lies _ rfl _ _ 33 rfl (w1.heap.size + 1) 3 i3 _ 1 8 under33 hi0 hz0 hz1 hz2 rfl (by omega) jv k (ints k) (by rfl) (HO.out.alloc _) ⟨W1.heap.size,0,none⟩ 1 1 [.int .i64 k] (by rfl) (by rfl) (World.news_of_block (cs:= #[.int .i64 k]) (t:=3) (fr:=(0,0)) (heap_alloc_new W1 _)) (by simp [Value.oneCell']) (by omega) N63.out N8.out SZA.out (W1.heap.size + 1) (by simp) ?_)
   intro g cap w3 hown3 hgrow _ _;have OB:=hid (World.ownsRow.lt HO.out);have U3:=hid ((Fr.of_grown hgrow).heap (b:=w1.heap.size) (fun h=>by have:=(OB.out _ h).1;omega) ((Below.heap_alloc _ _ _ SZU.out).trans HU.out));have F3:=hid ((HF.out.alloc (.cells #[.int .i64 k] 3)).transNew (Fr.of_grown hgrow) fun b hb=> .inr (by have:=(OB.out b hb).1;omega));have O3:=hid (show w3.ownsRow (w1.heap.size + 1) 3 1 (.slice (some ⟨g,0,none⟩) (k + 1) cap) (k + 1) (ints (k + 1)) by rw [ints_succ];exact hown3)
   clear hown3 hgrow qu fu;have qu:=zA U3.out;have fu:=zC U3.out;go_wp2;go_roundw
   case rel=>
    exact ⟨k + 1,.slice (some ⟨g,0,none⟩) (k + 1) cap,by omega,by go_num,F3.out.setCell (.inr (Nat.le_refl _)) _,heap_setCell (a:=⟨w1.heap.size,1,none⟩) U3.out rfl,ownsRow_setCell_below O3.out (by show w1.heap.size < _;omega) _⟩
   case measure=>simp [intOf];omega
  ·have hge: ¬(k:Int) < n:=by omega
   have hkn:k=n:=by omega
   subst hkn;have FR:=hid (FG.out.trans HF.out:Fr F0 w W1)
   have hMR: ∃B:MB,B.m=w1.heap.size∧MRep ar dl W1 B k Mg.init 20000 (.slice da dl dc)∧ ∀b,B.M b→w.heap.size≤b:=by
    have hK:W1.heap[w.heap.size]?=some (.cells (madeCells #[.slice none 0 0] k) 24 (0,0)):=HF.out.heap id KB.out;by_cases h0:k=0
    ·subst h0
     obtain ⟨ja,cj,hjv⟩: ∃ja cj,jv= .slice ja 0 cj:=by
      rcases HO.out.2 with h | ⟨g,cap,_,h,_⟩
      ·exact ⟨none,0,h.1⟩
      ·exact ⟨_,cap,h⟩
     have hu:=HU.out;rw [hjv] at hu;have s1:=SZ1.out
     exact ⟨⟨w1.heap.size,w1.heap.size,w1.heap.size⟩,rfl,⟨⟨ja,cj,_,_,hu,fun h=>by omega⟩,fun h=>by omega,fun h=>by omega,fun p hp=>by omega,by omega,fun h=>by omega,⟨0,Mg.init_wt 0,by omega,by omega⟩,by omega,⟨SZU.out,fun h=>by omega⟩,fun b hb=>by
      rcases hb with hb | hb | hb <;>(rw [hb];exact SZU.out)⟩,fun b hb=>by rcases hb with hb | hb | hb <;>(rw [hb];exact Nat.le_of_lt s1)⟩
    ·obtain ⟨g,cap,cur,hjv,hb,hg,hn,hm,hs,ht⟩:=HO.out.2.resolve_left fun h=>h0 h.2
     have hu:=HU.out;rw [hjv] at hu;have hgs:g < W1.heap.size:=by rcases Nat.lt_or_ge g W1.heap.size with h | h;exact h;rw [Array.getElem?_eq_none h] at hg;cases hg
     have hks:w.heap.size < W1.heap.size:=by have:=SZU.out;have:=SZ1.out;omega
     have s1:=SZ1.out;refine ⟨⟨w1.heap.size,g,w.heap.size⟩,rfl,⟨⟨_,_,_,_,hu,fun _=>⟨rfl,rfl⟩⟩,fun _=>⟨cur,hg,fun p hp=> ?_⟩,fun _=>⟨_,hK,fun p hp=> ?_⟩,fun p hp=>hp,hn8,fun _=>⟨by show w1.heap.size≠g;omega,by show w1.heap.size≠w.heap.size;omega,by show g≠w.heap.size;omega⟩,⟨0,Mg.init_wt k,by omega,by omega⟩,by omega,⟨SZU.out,fun _=>⟨hgs,hks⟩⟩,fun b hb=> ?_⟩,fun b hb=> ?_⟩
     ·have h1:(ints k)[p]?=some (.int .i64 p):=by simp [ints,hp]
      rw [<-ht,List.getElem?_take,if_pos (by omega)] at h1;rw [Array.getElem?_toList] at h1;exact h1
     ·refine ⟨.slice none 0 0,by simp [madeCells,hp,Nat.mod_one],none,0,[],rfl,.inl rfl,rfl,Nat.le_refl _,Nat.zero_le _,fun _=>⟨rfl,rfl⟩,fun i y t h=>by simp at h⟩
     ·rcases hb with hb | hb | hb <;>rw [hb]
      ·exact SZU.out
      ·exact hgs
      ·exact hks
     ·rcases hb with hb | hb | hb <;>rw [hb]
      ·exact Nat.le_of_lt s1
      ·show w.heap.size<=g;omega
      ·exact Nat.le_refl _
   obtain ⟨B,hBm,hMR,hBw⟩:=hMR;have HMR:=hid hMR;have BW:=hid hBw;clear hMR hBw qu fu szu SZU HU HO KB SZ1;rw [<-hBm];clear hBm hn8;have AV:=hid (fun b (h:B.M b)=>(.inr (BW.out b h):F0 b\/w.heap.size<=b));have HD1:=hid (HD.out.avoid AV.out);have HI1:=hid (fun i p q hp hq=>(⟨⟨(HI.out i p q hp hq).1.r.avoid AV.out,(HI.out i p q hp hq).1.g,(HI.out i p q hp hq).1.h⟩,⟨(HI.out i p q hp hq).2.r.avoid AV.out,(HI.out i p q hp hq).2.g,(HI.out i p q hp hq).2.h⟩⟩:YIn ar dl w B k p.1 q.1/\YIn ar dl w B k p.2 q.2))
   go_wp2
   go_loopw [39] (fun i wr=> ∃(j:Nat) (M':Mg) (f':Int),j≤pl∧i= .int .i64 j∧MRep ar dl wr B k M' f' (.slice da dl dc)∧Fr F0 w wr∧f'≤20000∧ -(4398046511104 * (20000 - max f' 0)) - j≤f'∧
    (0 < f'->Run D Mg.init M' (fun u v=> ∃i:Nat,i < j/\qs[i]?=some (u,v)))) (fun i _=>pl - (intOf i).toNat)
   case atStart=>exact ⟨0,_,20000,Nat.zero_le _,rfl,HMR.out,FR.out,by omega,by omega,fun _=>(Run.refl D _).mono fun _ _ h=>by obtain ⟨i,hi,_⟩:=h;omega⟩
   case round=>
    obtain ⟨j,M1,f1,hj,rfl,hM1,hF1,hf1,hf1',hR1⟩:=hrel;have HM1:=hid hM1;have HF1:=hid hF1;have HR1:=hid hR1;clear hM1 hF1 hR1;by_cases hlt:j < pl
    ·obtain ⟨b1,o1,rfl,hcells⟩:=PS.out.resolve_left (fun h=>by have:=LP.out;rw [h] at this;simp at this;omega)
     obtain ⟨p,hp⟩: ∃p,ps[j]?=some p:=⟨ps[j]'(by rw [LP.out];exact hlt),by simp⟩;obtain ⟨q,hq⟩: ∃q,qs[j]?=some q:=⟨qs[j]'(by rw [LQ.out];exact hlt),by simp⟩;have e1:=(hcells j p hp).keep HF1.out id;have Q:=hid hq;have XY:=hid (HI1.out j p q hp hq);clear hcells hp hq;obtain ⟨a0,a1,a2,a3,a4,a5,d0,d1,d2,d3,d4,d5⟩:=e1;have hb1:b1 < wr.heap.size:=World.block_lt_of_cell? _ _ a0;obtain ⟨x,y⟩:=p;obtain ⟨s,t⟩:=q
     have hle:(j:Int) < pl:=by omega
     dsimp only at *;go_wp2_with fail
     have FA:=hid ((HF1.out.alloc (.cells #[.int .i64 x.k,.int .i64 x.n,.int .i64 x.c,.bool x.v,.slice x.a x.len x.cap,.string x.nm,.int .i64 y.k,.int .i64 y.n,.int .i64 y.c,.bool y.v,.slice y.a y.len y.cap,.string y.nm] 64)));refine (merge_any hG 20000 s t x y _ B k M1 f1 (by omega) (Nat.le_refl _) (by omega) (HM1.out.keep ((Fr.refl F0 wr).alloc _)) (HD1.out.keep FA.out.sub) (XY.out.1.keep FA.out.sub) (XY.out.2.keep FA.out.sub)).mono ?_
     rintro e w2 ⟨rfl,M2,f2,hM2,hF2,hB2,hR2⟩;have HM2:=hid hM2;have HF2:=hid (FA.out.transNew hF2 fun b hb=> .inr (BW.out b hb));have HB2:=hid hB2;have HR2:=hid hR2;clear hM2 hF2 hB2 hR2;go_wp2;go_roundw
     case rel=>
      refine ⟨j + 1,M2,f2,by omega,by go_num,HM2.out,HF2.out,by have:=HB2.out.less;omega,?_,fun h0=> ?_⟩
      ·have h1:=HB2.out.less
       have h2:=HB2.out.out;have h3:=HB2.out.low;by_cases h4:1<=f1
       ·have:=h3 h4;omega
       ·have:=h2 (by omega);omega
      ·refine ((HR1.out (by have:=HB2.out.less;omega)).step (HR2.out h0)).mono fun a b hab=> ?_
       obtain ⟨i,hi,h1⟩:=hab;by_cases hij:i=j
       ·subst hij
        rw [Q.out] at h1;cases h1
        exact .inr ⟨rfl,rfl⟩
       ·exact .inl ⟨i,by omega,h1⟩
     case measure=>simp [intOf];omega
    ·have hge: ¬(j:Int) < pl:=by omega
     have hjl:j=pl:=by omega
     subst hjl;have HRR:=hid (fun h0=>(HR1.out h0).mono (S':=fun u v=> ∃i:Nat,i < qs.length/\qs[i]?=some (u,v)) fun a b hab=>by obtain ⟨i,hi,h1⟩:=hab;exact ⟨i,by have:=LQ.out;omega,h1⟩);clear HR1 hge;go_wp2;go_loopw [13,14,15,16,52] (fun _ _ _ _ i wr=> ∃(l:Nat) (f':Int),l<=j/\i= .int .i64 l/\MRep ar dl wr B k M1 f' (.slice da dl dc)/\Fr F0 w wr/\f'<=f1/\ -(4398046511104 * 20000) - 100<=f'/\(∀(i:Nat) (q:Tm × Tm),i < l->qs[i]?=some q-> ∃a b,Ht D M1 a q.1/\Ht D M1 b q.2/\a + b<=48)) (fun _ _ _ _ i _=>j - (intOf i).toNat)
     case atStart=>exact ⟨0,f1,Nat.zero_le _,rfl,HM1.out,HF1.out,by omega,by omega,fun i q hi=>by omega⟩
     case round=>
      obtain ⟨W2,rfl⟩: ∃W2:World,W2=wr:=⟨wr,rfl⟩;obtain ⟨l,f2,hl,rfl,hM2,hF2,hf2,hf2',hH2⟩:=hrel;have HM2:=hid hM2;have HF2:=hid hF2;have HH2:=hid hH2;clear hM2 hF2 hH2;by_cases hlt:l < j
      ·obtain ⟨b1,o1,rfl,hcells⟩:=PS.out.resolve_left (fun h=>by have:=LP.out;rw [h] at this;simp at this;omega)
       obtain ⟨p,hp⟩: ∃p,ps[l]?=some p:=⟨ps[l]'(by rw [LP.out];exact hlt),by simp⟩;obtain ⟨q,hq⟩: ∃q,qs[l]?=some q:=⟨qs[l]'(by rw [LQ.out];exact hlt),by simp⟩;have e1:=(hcells l p hp).keep HF2.out id;have Q:=hid hq;have XY:=hid (HI1.out l p q hp hq);clear hcells hp hq;obtain ⟨a0,a1,a2,a3,a4,a5,d0,d1,d2,d3,d4,d5⟩:=e1;have hb1:b1 < W2.heap.size:=World.block_lt_of_cell? _ _ a0;obtain ⟨x,y⟩:=p;obtain ⟨s,t⟩:=q
       have hle:(l:Int) < j:=by omega
       dsimp only at *;go_wp2_with fail
       obtain ⟨i4,hi4,hz40,hz41,hz42⟩:=info_parts info4;have B24:=hid (show i4.bytes * k<=281474976710656 by rw [hz42];have:=HM2.out.n8;omega);have B34:=hid (show k<=maxLen by unfold maxLen;have:=HM2.out.n8;omega);obtain ⟨WX,hWX⟩: ∃WX,WX=W2.alloc (.cells #[.int .i64 x.k,.int .i64 x.n,.int .i64 x.c,.bool x.v,.slice x.a x.len x.cap,.string x.nm,.int .i64 y.k,.int .i64 y.n,.int .i64 y.c,.bool y.v,.slice y.a y.len y.cap,.string y.nm] 64):=⟨_,rfl⟩
       have BPWX:=hid (show WX.heap[W2.heap.size]?=some (.cells #[.int .i64 x.k,.int .i64 x.n,.int .i64 x.c,.bool x.v,.slice x.a x.len x.cap,.string x.nm,.int .i64 y.k,.int .i64 y.n,.int .i64 y.c,.bool y.v,.slice y.a y.len y.cap,.string y.nm] 64 (0,0)) by rw [hWX];exact heap_alloc_new W2 _);have HMX:=hid (show MRep ar dl WX B k M1 f2 (.slice da dl dc) by rw [hWX];exact HM2.out.keep ((Fr.refl F0 W2).alloc _))
       have FWX:=hid (show Fr F0 w WX by rw [hWX];exact HF2.out.alloc _);have NB:=hid (show ¬W2.heap.size=B.m from fun h=>by have:=HM2.out.sz.1;omega);rw [<-hWX];clear hWX a0 a1 a2 a3 a4 a5 d0 d1 d2 d3 d4 d5 hb1;refine zG (Fr (fun b=>b=B.m) WX) [(0,true),(1,true),(2,true),(3,true),(4,false),(5,false),(6,false),(7,true),(8,true),(9,false),(10,false)] [10] yE (by kernel_rfl) (by kernel_rfl) (by kernel_rfl) (by decide) ?_
       iterate 4
        (refine zH _ rfl (Fr.refl _ _).drew (fun w' hS=>by
         have q0:=zA (hS.heap (b:=W2.heap.size) NB.out BPWX.out);have szw:=bl (q0 0);clear hS;go_simp;rfl) ?_)
       go_simp;refine zB rfl ?_;refine wpList_make_full _ rfl _ _ 84 rfl WX.heap.size 4 i4 _ 1 under84 hi4 hz40 hz41 .i64 .i64 k k k rfl rfl rfl rfl B24.out B34.out (Nat.le_refl _) ?_;intro w3 hown hgr;have w3F:=hid ((((Fr.refl F0 WX).drew).trans ((Fr.of_grown hgr).mono (M':=F0) fun b _ hb=>by cases hb)):Fr F0 WX w3)
       have w3O:Hid (WX.heap.size < w3.heap.size∧ ∃c,w3.heap[WX.heap.size]?=some (.cells c 4 (0,0))∧ ∀p,p < k→ ∃b,c[p]?=some (.bool b)):=by
        obtain ⟨hl,h | ⟨g,cap,cur,hv,hB,hg,hn,hm,hs,ht⟩⟩:=hown
        ·exact absurd h.1 (by simp)
        have e1:=hv;simp at e1;obtain ⟨rfl,rfl⟩:=e1;refine ⟨(by rcases Nat.lt_or_ge WX.heap.size w3.heap.size with h | h;exact h;rw [Array.getElem?_eq_none h] at hg;cases hg),cur,hg,fun p hp=>⟨false,?_⟩⟩
        have hcur:cur=madeCells (Value.bool false).cells (k * 1):=by
         refine Array.ext' ?_;rw [List.take_of_length_le (by simp [hs])] at ht;exact ht
        rw [hcur,show (Value.bool false).cells= #[Value.bool false] from rfl];simp [madeCells,hp,Nat.mod_one]
       clear hown hgr;go_wp2;refine And.intro (fun _=>w3F.out.sub) ?_;refine zB rfl ?_;go_wp2_with fail
       refine (height_all hG s x w3 B WX.heap.size k M1 f2 _ k (by omega) (by omega) (HMX.out.marks w3F.out (Nat.le_refl _) w3O.out.1 w3O.out.2)
        ((HD1.out.keep FWX.out.sub |>.avoid (M':=HA B WX.heap.size) fun b hb=>by rcases hb with hb | hb;exact .inl hb;exact .inr (Nat.le_of_eq hb.symm)).keep w3F.out.sub)
        ⟨((XY.out.1.r.keep FWX.out.sub).avoid (M':=HA B WX.heap.size) fun b hb=>by rcases hb with hb | hb;exact .inl hb;exact .inr (Nat.le_of_eq hb.symm)).keep w3F.out.sub,XY.out.1.g,XY.out.1.h⟩).mono ?_
       rintro e w4 ⟨h1,ok1,f3,rfl,hm1,hfr1,f31,f32,h10,h11,hh1⟩;have w4F:=hid ((w3F.out.sub (M:=fun b=>b=B.m)).transNew hfr1 fun b hb=>by rcases hb with hb | hb;exact .inl hb;exact .inr (Nat.le_of_eq hb.symm));have HH1:=hid hh1;have HMw4:=hid (HMX.out.refuel w4F.out f3 (by omega) (by omega) hm1.m);have FWw4:=hid (FWX.out.transNew w4F.out fun b hb=> .inr (by rw [hb];exact BW.out _ (.inl rfl)));have BPw4:=hid (w4F.out.heap NB.out BPWX.out)
       clear hm1 hfr1 hh1;go_wp2;refine And.intro (fun _=>w4F.out) ?_;refine zB rfl ?_;go_wp2;refine And.intro (fun _=>w4F.out) ?_
       iterate 2
        (refine zH _ rfl w4F.out (fun w' hS=>by
         clear hS;go_simp;rfl) ?_)
       go_simp;refine zB rfl ?_;go_wp2;refine And.intro (fun _=>w4F.out) ?_;refine zB rfl ?_;go_wp2;refine And.intro (fun h=>absurd h (by decide)) ?_;refine zO (NoPanic.normal ?_);go_wp2_with fail
       refine zG (Fr (fun b=>b=B.m) w4) [(0,true),(1,true),(2,true),(3,true),(4,false),(5,false),(6,false),(7,true),(8,true),(9,false),(10,false)] [10] yE (by kernel_rfl) (by kernel_rfl) (by kernel_rfl) (by decide) ?_
       iterate 4
        (refine zH _ rfl (Fr.refl _ _).drew (fun w' hS=>by
         have q0:=zA (hS.heap (b:=W2.heap.size) NB.out BPw4.out);have szw:=bl (q0 0);clear hS;go_simp;rfl) ?_)
       go_simp;refine zB rfl ?_;refine wpList_make_full _ rfl _ _ 84 rfl w4.heap.size 4 i4 _ 1 under84 hi4 hz40 hz41 .i64 .i64 k k k rfl rfl rfl rfl B24.out B34.out (Nat.le_refl _) ?_;intro w5 hown hgr;have w5F:=hid ((((Fr.refl F0 w4).drew).trans ((Fr.of_grown hgr).mono (M':=F0) fun b _ hb=>by cases hb)):Fr F0 w4 w5)
       have w5O:Hid (w4.heap.size < w5.heap.size∧ ∃c,w5.heap[w4.heap.size]?=some (.cells c 4 (0,0))∧ ∀p,p < k→ ∃b,c[p]?=some (.bool b)):=by
        obtain ⟨hl,h | ⟨g,cap,cur,hv,hB,hg,hn,hm,hs,ht⟩⟩:=hown
        ·exact absurd h.1 (by simp)
        have e1:=hv;simp at e1;obtain ⟨rfl,rfl⟩:=e1;refine ⟨(by rcases Nat.lt_or_ge w4.heap.size w5.heap.size with h | h;exact h;rw [Array.getElem?_eq_none h] at hg;cases hg),cur,hg,fun p hp=>⟨false,?_⟩⟩
        have hcur:cur=madeCells (Value.bool false).cells (k * 1):=by
         refine Array.ext' ?_;rw [List.take_of_length_le (by simp [hs])] at ht;exact ht
        rw [hcur,show (Value.bool false).cells= #[Value.bool false] from rfl];simp [madeCells,hp,Nat.mod_one]
       clear hown hgr;go_wp2;refine And.intro (fun _=>w5F.out.sub) ?_;refine zB rfl ?_;go_wp2_with fail
       refine (height_all hG t y w5 B w4.heap.size k M1 f3 _ k (by omega) (by omega) (HMw4.out.marks w5F.out (Nat.le_refl _) w5O.out.1 w5O.out.2)
        ((HD1.out.keep FWw4.out.sub |>.avoid (M':=HA B w4.heap.size) fun b hb=>by rcases hb with hb | hb;exact .inl hb;exact .inr (Nat.le_of_eq hb.symm)).keep w5F.out.sub)
        ⟨((XY.out.2.r.keep FWw4.out.sub).avoid (M':=HA B w4.heap.size) fun b hb=>by rcases hb with hb | hb;exact .inl hb;exact .inr (Nat.le_of_eq hb.symm)).keep w5F.out.sub,XY.out.2.g,XY.out.2.h⟩).mono ?_
       rintro e w6 ⟨h2,ok2,f4,rfl,hm2,hfr2,f41,f42,h20,h21,hh2⟩;have w6F:=hid ((w5F.out.sub (M:=fun b=>b=B.m)).transNew hfr2 fun b hb=>by rcases hb with hb | hb;exact .inl hb;exact .inr (Nat.le_of_eq hb.symm));have HHB:=hid hh2;have HMw6:=hid (HMw4.out.refuel w6F.out f4 (by omega) (by omega) hm2.m);have FWw6:=hid (FWw4.out.transNew w6F.out fun b hb=> .inr (by rw [hb];exact BW.out _ (.inl rfl)));have BPw6:=hid (w6F.out.heap NB.out BPw4.out)
       clear hm2 hfr2 hh2;go_wp2;refine And.intro (fun _=>w6F.out) ?_;refine zB rfl ?_;go_wp2;refine And.intro (fun _=>w6F.out) ?_
       iterate 2
        (refine zH _ rfl w6F.out (fun w' hS=>by
         clear hS;go_simp;rfl) ?_)
       go_simp;refine zB rfl ?_;go_wp2;refine And.intro (fun _=>w6F.out) ?_;refine zB rfl ?_;go_wp2;refine And.intro (fun h=>absurd h (by decide)) ?_;refine zO (NoPanic.normal ?_)
       skip
       cases ok1 with
       |false=>
        go_wp2;go_ret;exact ⟨wT.no _,FWw6.out⟩
       |true=>
        have hok1:=HH1.out (by first | trivial | rfl)
        cases ok2 with
        |false=>
         go_wp2;go_ret;exact ⟨wT.no _,FWw6.out⟩
        |true=>
         have hok2:=HHB.out (by first | trivial | rfl);by_cases h44:44 < h1 + h2
         ·go_wp2
          go_ret;exact ⟨wT.no _,FWw6.out⟩
         ·go_wp2
          go_roundw
          case rel=>
           refine ⟨l + 1,f4,by omega,by go_num,HMw6.out,FWw6.out,by omega,by omega,fun i q hi hq=> ?_⟩;by_cases hij:i=l
           ·subst hij
            rw [Q.out] at hq;cases hq
            exact ⟨_,_,hok1.2,hok2.2,by omega⟩
           ·exact HH2.out i q (by omega) hq
          case measure=>simp [intOf];omega
      ·have hge: ¬(l:Int) < j:=by omega
       have hll:l=j:=by omega
       have qm:=(fun (h: ∃ca cc va vc,W2.heap[B.m]?=some (.cells #[.slice da dl dc,.slice ca k cc,.slice va k vc,.int .i64 f2] 80 (0,0))/\(0 < k->ca=some ⟨B.c,0,none⟩/\va=some ⟨B.v,0,none⟩))=>h) HM2.out.m;obtain ⟨_,_,_,_,hu,_⟩:=qm;have qm:=zA hu;have szm:=HM2.out.sz.1;clear hu;go_wp2;go_ret;refine ⟨⟨_,rfl,fun h=> ?_⟩,HF2.out⟩;have hpos:0 < f2:=by simpa using h
       exact (HRR.out (by omega)).tame fun i q hq=>HH2.out i q (by have:=(List.getElem?_eq_some_iff.1 hq).1;have:=LQ.out;omega) hq
end
end Go.Proofs.YtpekidjfbinekaaGreatDoor
