/- W37, V0, V1, V2, V3 -/
import Derived.Test.YtpekidjfbinekaaGreatDoorA36
set_option maxRecDepth 100000
set_option maxHeartbeats 60000000
set_option linter.all false
section
namespace Uni
def Reached (D:zE)(qs:List (Tm × Tm))(st:St):Prop:= ∀M,Closed D M->(∀q∈qs,xL D M q.1 q.2/\ ∃a b,Ht D M a q.1/\Ht D M b q.2/\a + b<=48)->Inv M st
theorem Reached.init (D:zE):Reached D [] St.init:=fun M _ _=>Inv.init M
theorem Reached.next {D:zE}{qs:List (Tm × Tm)}{st s':St}{s t:Tm}{m:Mode}(h:Reached D qs st)(hu:zI D 50 st s t m=some (.ok s')):Reached D (qs ++ [(s,t)]) s':=by
 intro M hM hq;have hi:=h M hM fun q hq'=>hq q (by simp [hq'])
 obtain ⟨ok,a,b,ha,hb,hab⟩:=hq (s,t) (by simp);obtain ⟨r,hr,hr'⟩:=wQ hM 50 a b st s t m (by omega) ok ha hb hi;rw [hu] at hr;cases hr;exact (hr' s' rfl).1
theorem Reached.ends {D:zE}{qs:List (Tm × Tm)}{st:St}{s t:Tm}(m:Mode)(h:Reached D qs st)(ht:Tame D (qs ++ [(s,t)])): ∃r,zI D 50 st s t m=some r:=by
 obtain ⟨M,hM,hq⟩:=ht;have hi:=h M hM fun q hq'=>hq q (by simp [hq'])
 obtain ⟨ok,a,b,ha,hb,hab⟩:=hq (s,t) (by simp);obtain ⟨r,hr,_⟩:=wQ hM 50 a b st s t m (by omega) ok ha hb hi;exact ⟨r,hr⟩
end Uni
namespace Go.Proofs.YtpekidjfbinekaaGreatDoor
open Go.RowKit Uni
theorem RT.pairs {w w':World}{B:UB}{g:Nat}{o:Obj}(F:Fr (fun b=>b=B.u\/(B.po.isSome=true/\b=B.p)\/b=g) w w')(hgn:(B.po.isSome=true/\g=B.p)\/w.heap.size<=g){y:TyV}{t:Tm}(hr:RT w B.M y t):RT w' (UB.M {B with p:=g,po:=some o}) y t:=by
 have h1:=hr.avoid (M':=fun b=>B.M b∨b=g) fun b hb=>by
  rcases hb with hb | hb
  ·exact .inl hb
  ·rcases hgn with h2 | h2
   ·exact .inl (.inr (.inr (.inr (by rw [hb,h2.2]))))
   ·exact .inr (by rw [hb];exact h2)
 have h2:=h1.keep (F.mono fun b _ hb=>by
  rcases hb with hb | hb | hb
  ·exact .inl (.inl hb)
  ·exact .inl (.inr (.inr (.inr hb.2)))
  ·exact .inr hb)
 refine h2.mono fun b hb=> ?_
 rcases hb with hb | hb | hb | hb
 ·exact .inl (.inl hb)
 ·exact .inl (.inr (.inl hb))
 ·exact .inl (.inr (.inr (.inl hb)))
 ·exact .inr hb
theorem DRep.pairs {w w':World}{B:UB}{g:Nat}{o:Obj}(F:Fr (fun b=>b=B.u\/(B.po.isSome=true/\b=B.p)\/b=g) w w')(hgn:(B.po.isSome=true/\g=B.p)\/w.heap.size<=g){da:Option Addr}{n:Nat}{D:zE}{ar:Nat->Nat}(hr:DRep w B.M da n D ar):DRep w' (UB.M {B with p:=g,po:=some o}) da n D ar:=by
 have h1:=hr.avoid (M':=fun b=>B.M b∨b=g) fun b hb=>by
  rcases hb with hb | hb
  ·exact .inl hb
  ·rcases hgn with h2 | h2
   ·exact .inl (.inr (.inr (.inr (by rw [hb,h2.2]))))
   ·exact .inr (by rw [hb];exact h2)
 have h2:=h1.keep (F.mono fun b _ hb=>by
  rcases hb with hb | hb | hb
  ·exact .inl (.inl hb)
  ·exact .inl (.inr (.inr (.inr hb.2)))
  ·exact .inr hb)
 refine h2.mono fun b hb=> ?_
 rcases hb with hb | hb | hb | hb
 ·exact .inl (.inl hb)
 ·exact .inl (.inr (.inl hb))
 ·exact .inl (.inr (.inr (.inl hb)))
 ·exact .inr hb
section
variable {da:Option Addr}{dl dc:Nat}{D:zE}{ar:Nat->Nat}
def UniPost (da:Option Addr)(dl dc:Nat)(D:zE)(ar:Nat→Nat)(B:UB)(n:Nat)(w:World)(st:St)(qs:List (Tm × Tm))(ps:List (TyV × TyV))(x y:TyV)(s t:Tm)(m:Uni.Mode)(e:Ending)(w':World):Prop:=
 ∃(B':UB) (pv':Value),B'.u=B.u∧Fr B.M w w'∧(∀b,B'.M b→(B.M b∨w.heap.size≤b)∧b < w'.heap.size)∧
  ((e= .returned (.bool false)∧ ∃s',URep w' B' n s' (.slice da dl dc) pv' true)∨
   (e= .returned (.bool false)/\Tame D (qs ++ [(s,t)])/\zI D 50 st s t m=some .fail/\ ∃s',URep w' B' n s' (.slice da dl dc) pv' false)\/
   (e= .returned (.bool true)/\Tame D (qs ++ [(s,t)])/\ ∃s',zI D 50 st s t m=some (.ok s')/\UEnv da dl dc D ar w' B' n s' pv'/\PairsOf ar dl w' B'.M n pv' (qs ++ [(s,t)]) (ps ++ [(x,y)])/\(∀g,pv'.ownBlock=some g->B'.po.isSome=true/\g=B'.p)))
theorem unify18_any (hG:xF dl ar D)(hDk:zZ D)(s t:Tm)(x y:TyV)(m:Uni.Mode)(w:World)(B:UB)(n:Nat)(st:St)(pv:Value)(qs:List (Tm × Tm))(ps:List (TyV × TyV))(hE:UEnv da dl dc D ar w B n st pv)(hP:PairsOf ar dl w B.M n pv qs ps)(hq:qs.length<=1)
 (hpo: ∀g,pv.ownBlock=some g->B.po.isSome=true/\g=B.p) (hx:XIn ar dl w B n x s) (hy:XIn ar dl w B n y t) (hR:Uni.Reached D qs st):
 Calls Tryz.prog 18 #[.pointer (some ⟨B.u,0,none⟩),x.val,y.val,.int .i64 (zU m)] w (UniPost da dl dc D ar B n w st qs ps x y s t m):=by
 have hn8:=hE.U.n8;obtain ⟨ja,cj,ka,ck,hu,_⟩:=hE.U.u;have HU:=hid hu;obtain ⟨pa,pc,hpv,hpa⟩:=own12_pairs hP.own hP.len;have HPV:=hid hpv;have HE:=hid hE;have HP:=hid hP;have HPO:=hid hpo;have HX:=hid hx;have HY:=hid hy;have HR:=hid hR;have HG:=hid hG;have HDK:=hid hDk;have szu:=hE.M B.u (.inl rfl);have NM:=hid (fun b (h:w.heap.size<=b) (hb:B.M b)=>(Nat.not_lt.2 h (hE.M b hb):False));clear hE hP hpo hx hy hR hu hpa hG hDk
 obtain ⟨xk,xn,xc,xv,xa,xlen,xcap,xnm⟩:=x;obtain ⟨yk,yn,yc,yv,ya,ylen,ycap,ynm⟩:=y;unfold TyV.val at *;dsimp only at *;subst hpv;go_enter Tryz.func18,Tryz.ntmps18;go_wp2_with fail
 obtain ⟨WX,hWX⟩: ∃WX,WX=(w.alloc (.cells #[.int .i64 xk,.int .i64 xn,.int .i64 xc,.bool xv,.slice xa xlen xcap,.string xnm] 26)).alloc (.cells #[.int .i64 yk,.int .i64 yn,.int .i64 yc,.bool yv,.slice ya ylen ycap,.string ynm] 26):=⟨_,rfl⟩;have FX:=hid (show Fr F0 w WX by rw [hWX];exact ((Fr.refl F0 w).alloc _).alloc _);have BX:=hid (show WX.heap[w.heap.size]?=some (.cells #[.int .i64 xk,.int .i64 xn,.int .i64 xc,.bool xv,.slice xa xlen xcap,.string xnm] 26 (0,0)) by rw [hWX];exact (Below.heap_alloc _ _ _ (by simp)).trans (heap_alloc_new w _))
 have BY:=hid (show WX.heap[w.heap.size + 1]?=some (.cells #[.int .i64 yk,.int .i64 yn,.int .i64 yc,.bool yv,.slice ya ylen ycap,.string ynm] 26 (0,0)) by rw [hWX];exact zS w _ _);rw [<-hWX];clear hWX;have BU:=hid (FX.out.heap (b:=B.u) id HU.out);have OB:=hid (fun b (h:(Value.slice pa qs.length pc).ownBlock=some b)=>World.ownsRow.lt HP.out.own b h)
 have OBU:=hid (fun (h:(Value.slice pa qs.length pc).ownBlock=some B.u)=>(by
  obtain ⟨h1,h2⟩:=HPO.out _ h;obtain ⟨o',ho'⟩:=Option.isSome_iff_exists.1 h1;exact (HE.out.U.pr o' ho').2.1 h2.symm:False))
 refine zG (Fr (fun b=>(Value.slice pa qs.length pc).ownBlock=some b) WX) [(0,true),(1,true),(2,true),(3,true),(4,true),(5,true),(6,true),(7,false),(8,false),(9,false),(10,false),(11,false),(12,false)] [10,11,12] yE (by kernel_rfl) (by kernel_rfl) (by kernel_rfl) (by decide) ?_
 iterate 7
  (refine zH _ rfl (Fr.refl _ _).drew (fun w' hS=>by
   have q0:=zA (hS.heap (b:=B.u) OBU.out BU.out);have q1:=zA (hS.heap (b:=w.heap.size) (fun h=>by have:=(OB.out _ h).2;omega) BX.out);have q2:=zA (hS.heap (b:=w.heap.size + 1) (fun h=>by have:=(OB.out _ h).2;omega) BY.out);have s0:=bl (q0 0);have s1:=bl (q1 0);have s2:=bl (q2 0);clear hS;go_simp;rfl) ?_)
 go_simp;refine zB rfl ?_;go_wp2;refine And.intro (fun _=>(Fr.refl _ WX).drew) ?_;refine zB rfl ?_;go_wp2;refine And.intro (fun _=>(Fr.refl _ WX).drew.alloc _) ?_;refine zB rfl ?_;obtain ⟨i0,hi0,hz0,hz1,hz2⟩:=info_parts info64;have OW:=hid (zV (zV HP.out.own FX.out (fun _ _ h=>h)) ((Fr.refl F0 WX).drew.alloc (.cells #[.int .i64 xk,.int .i64 xn,.int .i64 xc,.bool xv,.slice xa xlen xcap,.string xnm,.int .i64 yk,.int .i64 yn,.int .i64 yc,.bool yv,.slice ya ylen ycap,.string ynm] 64)) (fun _ _ h=>h))
 refine wpList_append_lies _ rfl _ _ 35 rfl 0 64 i0 _ 12 144 under35 hi0 hz0 hz1 hz2 rfl (by omega) (.slice pa qs.length pc) qs.length (ps.flatMap wI) rfl OW.out ⟨WX.heap.size,0,none⟩ 1 1 (wI (⟨xk,xn,xc,xv,xa,xlen,xcap,xnm⟩,⟨yk,yn,yc,yv,ya,ylen,ycap,ynm⟩)) (by rfl) (by rfl) (World.news_of_block (cs:= #[.int .i64 xk,.int .i64 xn,.int .i64 xc,.bool xv,.slice xa xlen xcap,.string xnm,.int .i64 yk,.int .i64 yn,.int .i64 yc,.bool yv,.slice ya ylen ycap,.string ynm]) (t:=64) (fr:=(0,0)) (heap_alloc_new WX.drew _)) (by simp [wI,Value.oneCell']) (by omega) (by unfold maxLen;omega) (by omega) (Nat.zero_le _) _ rfl ?_
 intro g gcap w3 hown3 hgrow hat hlt3;have S3:=hid (((Fr.refl (fun b=>(Value.slice pa qs.length pc).ownBlock=some b) WX).drew.alloc (.cells #[.int .i64 xk,.int .i64 xn,.int .i64 xc,.bool xv,.slice xa xlen xcap,.string xnm,.int .i64 yk,.int .i64 yn,.int .i64 yc,.bool yv,.slice ya ylen ycap,.string ynm] 64)).trans (Fr.of_grown hgrow));have OW3:=hid hown3;have HAT:=hid hat;have LT3:=hid hlt3;clear hown3 hgrow hat hlt3
 go_wp2;refine And.intro (fun _=>S3.out) ?_;refine zB rfl ?_;have U3:=hid (S3.out.heap (b:=B.u) OBU.out BU.out);have q3:=zA U3.out;have f3:=zC U3.out;have s3:=bl (q3 0);dsimp only at s3;go_wp2;refine And.intro (fun h=>absurd h (by decide)) ?_;refine zB rfl ?_;go_wp2;refine And.intro (fun h=>absurd h (by decide)) ?_;refine zB rfl ?_;go_wp2;refine And.intro (fun h=>absurd h (by decide)) ?_;refine zO (NoPanic.normal ?_)
 have GU:=hid (show ¬g=B.u from fun h=>by
  rcases HAT.out with h1 | h1
  ·exact OBU.out (by rw [<-h];exact h1)
  ·have h2:g=(WX.drew.alloc (.cells #[.int .i64 xk,.int .i64 xn,.int .i64 xc,.bool xv,.slice xa xlen xcap,.string xnm,.int .i64 yk,.int .i64 yn,.int .i64 yc,.bool yv,.slice ya ylen ycap,.string ynm] 64)).heap.size:=h1
   simp at h2;have:=FX.out.size;omega)
 have HGN:=hid (show (B.po.isSome=true∧g=B.p)∨w.heap.size≤g from by
  rcases HAT.out with h1 | h1
  ·exact .inl (HPO.out g h1)
  ·right
   have h2:g=(WX.drew.alloc (.cells #[.int .i64 xk,.int .i64 xn,.int .i64 xc,.bool xv,.slice xa xlen xcap,.string xnm,.int .i64 yk,.int .i64 yn,.int .i64 yc,.bool yv,.slice ya ylen ycap,.string ynm] 64)).heap.size:=h1;simp at h2;have:=FX.out.size;omega)
 obtain ⟨W4,hW4⟩: ∃W4,W4=w3.setCell ⟨B.u,3,none⟩ (.slice (some ⟨g,0,none⟩) (qs.length + 1) gcap):=⟨_,rfl⟩;have FU4:=hid (show Fr (fun b=>b=B.u) w3 W4 by rw [hW4];exact (Fr.refl (fun b=>b=B.u) w3).setCell (p:=⟨B.u,3,none⟩) (.inl rfl) _);have F4:=hid (show Fr (fun b=>b=B.u\/(B.po.isSome=true/\b=B.p)\/b=g) w W4 from ((FX.out.sub.trans (S3.out.mono fun b _ hb=> .inr (.inl (HPO.out b hb)))).trans (FU4.out.mono fun b _ hb=> .inl hb)))
 have U4:=hid (show W4.heap[B.u]?=some (.cells #[.slice da dl dc,.slice ja n cj,.slice ka n ck,.slice (some ⟨g,0,none⟩) (qs.length + 1) gcap,.bool false] 37 (0,0)) by rw [hW4];exact heap_setCell (a:=⟨B.u,3,none⟩) U3.out rfl)
 obtain ⟨o,ho⟩: ∃o,W4.heap[g]?=some o:=by
  have:g < W4.heap.size:=Nat.lt_of_lt_of_le LT3.out FU4.out.size;exact ⟨W4.heap[g],by simp [this]⟩
 have HO:=hid ho;clear ho;rw [<-hW4];clear hW4 q3 f3 s3 hi0 hz0 hz1 hz2;obtain ⟨B',hB'⟩: ∃B':UB,B'= {B with p:=g,po:=some o}:=⟨_,rfl⟩;have BU':B'.u=B.u:=by rw [hB']
 have UR:=hid (show URep W4 B' n st (.slice da dl dc) (.slice (some ⟨g,0,none⟩) (qs.length + 1) gcap) false from by
  rw [hB'];refine HE.out.U.pairs (fun b hb=>HE.out.M b hb) F4.out (fun ja' cj' ka' ck' h=> ?_) HO.out HGN.out;rw [HU.out] at h;cases h
  exact U4.out)
 have DR:=hid (show DRep W4 B'.M da dl D ar by rw [hB'];exact HE.out.d.pairs F4.out HGN.out);have XI:=hid (show XIn ar dl W4 B' n ⟨xk,xn,xc,xv,xa,xlen,xcap,xnm⟩ s by rw [hB'];exact ⟨HX.out.r.pairs F4.out HGN.out,HX.out.g,HX.out.h⟩);have YI:=hid (show XIn ar dl W4 B' n ⟨yk,yn,yc,yv,ya,ylen,ycap,ynm⟩ t by rw [hB'];exact ⟨HY.out.r.pairs F4.out HGN.out,HY.out.g,HY.out.h⟩)
 have BS:=hid (show ∀b,B'.M b→(B.M b∨w.heap.size≤b)∧b < W4.heap.size from by
  intro b hb;rw [hB'] at hb;have key: ∀b,B.M b->(B.M b\/w.heap.size<=b)/\b < W4.heap.size:=fun b hb=>⟨.inl hb,Nat.lt_of_lt_of_le (HE.out.M b hb) F4.out.size⟩
  rcases hb with hb | hb | hb | hb
  ·exact key b (.inl hb)
  ·exact key b (.inr (.inl hb))
  ·exact key b (.inr (.inr (.inl hb)))
  ·have hb:b=g:=hb
   rw [hb];refine ⟨?_,Nat.lt_of_lt_of_le LT3.out FU4.out.size⟩;rcases HGN.out with h | h
   ·exact .inl (.inr (.inr (.inr h.2)))
   ·exact .inr h)
 have UE:=hid (⟨UR.out,DR.out,fun b hb=>(BS.out b hb).2,HE.out.g⟩:UEnv da dl dc D ar W4 B' n st (.slice (some ⟨g,0,none⟩) (qs.length + 1) gcap))
 have PN:=hid (show PairsOf ar dl W4 B'.M n (.slice (some ⟨g,0,none⟩) (qs.length + 1) gcap) (qs ++ [(s,t)]) (ps ++ [(⟨xk,xn,xc,xv,xa,xlen,xcap,xnm⟩,⟨yk,yn,yc,yv,ya,ylen,ycap,ynm⟩)]) from by
  refine ⟨by simp [HP.out.len],?_,fun i p q hp hq=> ?_⟩
  ·have h1:=zV OW3.out FU4.out (fun b hb=>by simp [Value.ownBlock] at hb;rw [←hb];exact GU.out)
   rw [List.flatMap_append,List.length_append,List.flatMap_cons,List.flatMap_nil,List.append_nil];exact h1
  ·have hl:=HP.out.len
   have cv: ∀ {y:TyV} {t:Tm},HIn ar dl w B.M n y t->HIn ar dl W4 B'.M n y t:=fun h=>by rw [hB'];exact ⟨h.r.pairs F4.out HGN.out,h.g,h.h⟩
   by_cases hi:i < ps.length
   ·rw [List.getElem?_append_left hi] at hp
    rw [List.getElem?_append_left (by omega)] at hq;exact ⟨cv (HP.out.ins i p q hp hq).1,cv (HP.out.ins i p q hp hq).2⟩
   ·rw [List.getElem?_append_right (by omega)] at hp
    rw [List.getElem?_append_right (by omega)] at hq
    have h0:i - ps.length=0:=by
     have:=(List.getElem?_eq_some_iff.1 hp).1;simp at this;omega
    rw [h0] at hp;rw [show i - qs.length=0 by omega] at hq;simp at hp hq;rw [<-hp,<-hq];exact ⟨⟨XI.out.r,XI.out.g,XI.out.h⟩,⟨YI.out.r,YI.out.g,YI.out.h⟩⟩)
 have PO:=hid (show ∀g',(Value.slice (some ⟨g,0,none⟩) (qs.length + 1) gcap).ownBlock=some g'→B'.po.isSome=true∧g'=B'.p from fun g' h=>by
  simp [Value.ownBlock] at h;rw [hB'];exact ⟨rfl,h.symm⟩)
 have FW4:=hid (show Fr B.M w W4 from ⟨F4.out.os,F4.out.tape,F4.out.output,F4.out.size,fun b hb hn=>F4.out.block b hb fun h=>by
  rcases h with h | h | h
  ·exact hn (.inl h)
  ·exact hn (.inr (.inr (.inr h.2)))
  ·rcases HGN.out with h1 | h1
   ·exact hn (.inr (.inr (.inr (by rw [h];exact h1.2))))
   ·omega⟩)
 have BX4:=hid (FU4.out.heap (b:=w.heap.size) (fun h=>by omega) (S3.out.heap (fun h=>by have:=(OB.out _ h).2;omega) BX.out));have BY4:=hid (FU4.out.heap (b:=w.heap.size + 1) (fun h=>by omega) (S3.out.heap (fun h=>by have:=(OB.out _ h).2;omega) BY.out));clear BX BY BU OBU S3 OW3 HAT LT3 FX OW U3
 have TM:=hid (fun (w':World) (f:Fr F0 W4 w')=>(by
  obtain ⟨a',c',e',p'⟩:=own12_pairs PN.out.own PN.out.len;injection e' with e1 e2 e3
  subst e1 e3;rw [List.length_append] at e2;refine tame_any HG.out w' n hn8 ((DR.out.keep f.sub).mono fun b hb=>hb.elim) (some ⟨g,0,none⟩) (qs.length + 1) gcap _ (qs ++ [(s,t)]) ?_ (by rw [PN.out.len,List.length_append];rfl) (by rw [List.length_append];rfl) (by omega) (fun i p q hp hq=> ?_)
  ·rcases p' with h | ⟨b,off,h1,h2⟩
   ·exact .inl h
   ·exact .inr ⟨b,off,h1,fun i p hp=>(h2 i p hp).keep f id⟩
  ·obtain ⟨h1,h2⟩:=PN.out.ins i p q hp hq
   exact ⟨⟨(h1.r.keep f.sub).mono fun b hb=>hb.elim,h1.g,h1.h⟩,⟨(h2.r.keep f.sub).mono fun b hb=>hb.elim,h2.g,h2.h⟩⟩:
   Calls Tryz.prog 34 #[.slice da dl dc,.int .i64 n,.slice (some ⟨g,0,none⟩) (qs.length + 1) gcap] w' fun e w''=>wT e (Tame D (qs ++ [(s,t)]))/\Fr F0 w' w''))
 go_wp2_with fail
 refine zG (Fr F0 W4) [(0,true),(1,true),(2,true),(3,true),(4,true),(5,true),(6,true),(7,true),(8,true),(9,true),(10,true),(11,true),(12,true),(13,false),(14,false)] [] yE (by kernel_rfl) (by kernel_rfl) (by kernel_rfl) (by decide) ?_
 iterate 13
  (refine zH _ rfl (Fr.refl _ _).drew (fun w' hS=>by
   have q0:=zA (hS.heap (b:=B.u) id U4.out);have s0:=bl (q0 0);clear hS;go_simp;rfl) ?_)
 go_simp;refine zB rfl ?_;go_wp2_with fail
 refine (TM.out _ (Fr.refl F0 W4).drew).mono ?_;rintro e w5 ⟨⟨tb,rfl,htb⟩,hf5⟩;have HT:=hid htb;have F5:=hid ((Fr.refl F0 W4).drew.trans hf5);clear htb hf5;go_wp2;refine And.intro (fun _=>F5.out) ?_;refine zB rfl ?_;go_wp2;refine And.intro (fun _=>F5.out) ?_;refine zO (NoPanic.normal ?_);have U5:=hid (F5.out.heap id U4.out);have q5:=zA U5.out;have f5:=zC U5.out;have s5:=bl (q5 0);have BX5:=hid (F5.out.heap id BX4.out)
 have BY5:=hid (F5.out.heap id BY4.out);have qx:=zA BX5.out;have qy:=zA BY5.out;have sx:=bl (qx 0);have sy:=bl (qy 0);dsimp only at s5 sx sy
 cases tb with
 |false=>
  have bu1: ¬B.u=w.heap.size:=by omega
  have bu2: ¬B.u=w.heap.size + 1:=by omega
  have bu3: ¬w.heap.size=B.u:=by omega
  have bu4: ¬w.heap.size + 1=B.u:=by omega
  have UH:=hid ((UR.out.keep F5.out).hush true);go_wp2_with fail
  rw [<-BU'];refine (unify_silent ⟨xk,xn,xc,xv,xa,xlen,xcap,xnm⟩ ⟨yk,yn,yc,yv,ya,ylen,ycap,ynm⟩ (zU m) _ UH.out).mono ?_;rintro e w6 ⟨rfl,hf6⟩;have F6:=hid hf6;clear hf6;go_wp2;go_ret;have FT:=hid (((Fr.refl F0 w5).sub.setCell (M:=B'.M) (p:=⟨B'.u,4,none⟩) (.inl (.inl rfl)) (.bool true)).trans F6.out.sub);refine ⟨B',_,BU',FW4.out.trans (F5.out.sub.trans ((((Fr.refl F0 w5).sub.setCell (M:=B.M) (p:=⟨B'.u,4,none⟩) (.inl (.inl BU')) (.bool true)).trans F6.out.sub))),fun b hb=>⟨(BS.out b hb).1,Nat.lt_of_lt_of_le (BS.out b hb).2 (Nat.le_trans F5.out.size FT.out.size)⟩,.inl ⟨rfl,st,UH.out.keep F6.out⟩⟩
 |true=>
  have htame:=HT.out (by first | trivial | rfl);obtain ⟨r,hr⟩:=HR.out.ends m htame;have TA:=hid htame;clear HT htame;have FB:=hid (fun (w6:World) (h:Fr B'.M w5 w6)=>((FW4.out.trans F5.out.sub).transNew h fun b hb=>(BS.out b hb).1:Fr B.M w w6));have SB:=hid (fun (w6:World) (h:Fr B'.M w5 w6) b hb=>(⟨(BS.out b hb).1,Nat.lt_of_lt_of_le (BS.out b hb).2 (Nat.le_trans F5.out.size h.size)⟩:(B.M b\/w.heap.size<=b)/\b < w6.heap.size))
  cases r with
  |silent=>
   go_wp2_with fail
   rw [<-BU'];refine (unify_any HG.out HDK.out 50 s t ⟨xk,xn,xc,xv,xa,xlen,xcap,xnm⟩ ⟨yk,yn,yc,yv,ya,ylen,ycap,ynm⟩ m _ B' n st _ _ hr (UE.out.keep F5.out) (XI.out.keep F5.out.sub) (YI.out.keep F5.out.sub)).mono ?_;rintro e w6 ⟨hf6,rfl,s6,hu6⟩;have F6:=hid hf6;have U6:=hid hu6;clear hf6 hu6;go_wp2;go_ret;exact ⟨B',_,BU',FB.out _ F6.out,SB.out _ F6.out,.inl ⟨rfl,s6,U6.out⟩⟩
  |fail=>
   go_wp2_with fail
   rw [<-BU'];refine (unify_any HG.out HDK.out 50 s t ⟨xk,xn,xc,xv,xa,xlen,xcap,xnm⟩ ⟨yk,yn,yc,yv,ya,ylen,ycap,ynm⟩ m _ B' n st _ _ hr (UE.out.keep F5.out) (XI.out.keep F5.out.sub) (YI.out.keep F5.out.sub)).mono ?_;rintro e w6 ⟨hf6,rfl,s6,hu6⟩;have F6:=hid hf6;have U6:=hid hu6;have HRR:=hid hr;clear hf6 hu6 hr;go_wp2;go_ret;exact ⟨B',_,BU',FB.out _ F6.out,SB.out _ F6.out,.inr (.inl ⟨rfl,TA.out,HRR.out,s6,U6.out⟩)⟩
  |ok s1=>
   go_wp2_with fail
   rw [<-BU'];refine (unify_any HG.out HDK.out 50 s t ⟨xk,xn,xc,xv,xa,xlen,xcap,xnm⟩ ⟨yk,yn,yc,yv,ya,ylen,ycap,ynm⟩ m _ B' n st _ _ hr (UE.out.keep F5.out) (XI.out.keep F5.out.sub) (YI.out.keep F5.out.sub)).mono ?_;rintro e w6 ⟨hf6,rfl,hu6⟩;have F6:=hid hf6;have U6:=hid hu6;have HRR:=hid hr;clear hf6 hu6 hr;go_wp2;go_ret;have gs:=unifyS_good HG.out 50 st s t m s1 HX.out.g HY.out.g HE.out.g HRR.out;have ue:=(UE.out.keep F5.out).next F6.out U6.out gs
   refine ⟨B',_,BU',FB.out _ F6.out,SB.out _ F6.out,.inr (.inr ⟨rfl,TA.out,s1,HRR.out,ue,?_,PO.out⟩)⟩;have po:=PN.out;refine ⟨po.len,?_,fun i p q hp hq=>⟨⟨((po.ins i p q hp hq).1.r.keep F5.out.sub).keep F6.out,(po.ins i p q hp hq).1.g,(po.ins i p q hp hq).1.h⟩,⟨((po.ins i p q hp hq).2.r.keep F5.out.sub).keep F6.out,(po.ins i p q hp hq).2.g,(po.ins i p q hp hq).2.h⟩⟩⟩;have h1:=HO.out;have h2:=(U6.out.pr o (by rw [hB'])).1
   have h3:B'.p=g:=by rw [hB']
   rw [h3] at h2;obtain ⟨hl,h | ⟨g',cap,cur,hv,hb,hg,rest⟩⟩:=po.own
   ·exact ⟨hl,.inl h⟩
   ·injection hv with e1 e2 e3
    cases e1
    rw [h1] at hg;cases hg
    exact ⟨hl,.inr ⟨g,cap,cur,by rw [e2,e3],hb,h2,rest⟩⟩
end
end Go.Proofs.YtpekidjfbinekaaGreatDoor
end
namespace Go.Proofs.YtpekidjfbinekaaGreatDoor
open Go.RowKit Uni
inductive Raw (w:World):TyV→Prop
 |mk (x:TyV) (xs:List TyV):Flat w F0 x xs->(∀(i:Nat) (y:TyV),xs[i]?=some y->Raw w y)->Raw w x
theorem Raw.keep {w w':World}{x:TyV}(h:Raw w x)(f:Fr F0 w w'):Raw w' x:=by
 induction h with
 |mk x xs h1 _ ih=>exact .mk x xs (h1.keep f) ih
def xE (k:Int):Int:=if k=0\/k=2\/k=3 then 0 else if k=7 then 2 else if k=1\/k=9\/k=10 then -1 else 1
def yO (dl:Nat)(k n o:Int):Int:=if k=0 then 17 else if k=1 then dl else if k=2 then n else if k=3 then o else if k=6 then -1 else if k=8 then 3 else -2
theorem elems_any (k:Int)(w:World):Calls Tryz.prog 44 #[.int .i64 k] w fun e w'=>e= .returned (.int .i64 (xE k))/\w'=w:=by
 by_cases h0:k=0
 ·subst h0;go_enter Tryz.func44,Tryz.ntmps44;go_wp2;go_ret;exact ⟨rfl,rfl⟩
 by_cases h2:k=2
 ·subst h2;go_enter Tryz.func44,Tryz.ntmps44;go_wp2;go_ret;exact ⟨rfl,rfl⟩
 by_cases h3:k=3
 ·subst h3;go_enter Tryz.func44,Tryz.ntmps44;go_wp2;go_ret;exact ⟨rfl,rfl⟩
 by_cases h7:k=7
 ·subst h7;go_enter Tryz.func44,Tryz.ntmps44;go_wp2;go_ret;exact ⟨rfl,rfl⟩
 by_cases h1:k=1
 ·subst h1;go_enter Tryz.func44,Tryz.ntmps44;go_wp2;go_ret;exact ⟨rfl,rfl⟩
 by_cases h9:k=9
 ·subst h9;go_enter Tryz.func44,Tryz.ntmps44;go_wp2;go_ret;exact ⟨rfl,rfl⟩
 by_cases h10:k=10
 ·subst h10;go_enter Tryz.func44,Tryz.ntmps44;go_wp2;go_ret;exact ⟨rfl,rfl⟩
 have e:xE k=1:=by simp [xE,h0,h2,h3,h7,h1,h9,h10]
 rw [e];have f0:(k==0)=false:=by simpa using h0
 have f2:(k==2)=false:=by simpa using h2
 have f3:(k==3)=false:=by simpa using h3
 have f7:(k==7)=false:=by simpa using h7
 have f1:(k==1)=false:=by simpa using h1
 have f9:(k==9)=false:=by simpa using h9
 have f10:(k==10)=false:=by simpa using h10
 clear h0 h2 h3 h7 h1 h9 h10 e;go_enter Tryz.func44,Tryz.ntmps44;go_wp2;go_ret;exact ⟨rfl,rfl⟩
theorem limit_any (da:Option Addr)(dl dc:Nat)(k n o:Int)(w:World):
 Calls Tryz.prog 45 #[.slice da dl dc,.int .i64 k,.int .i64 n,.int .i64 o] w fun e w'=>e= .returned (.int .i64 (yO dl k n o))/\w'=w:=by
 by_cases h0:k=0
 ·subst h0;go_enter Tryz.func45,Tryz.ntmps45;go_wp2;go_ret;exact ⟨rfl,rfl⟩
 by_cases h1:k=1
 ·subst h1;go_enter Tryz.func45,Tryz.ntmps45;go_wp2;go_ret;exact ⟨rfl,rfl⟩
 by_cases h2:k=2
 ·subst h2;go_enter Tryz.func45,Tryz.ntmps45;go_wp2;go_ret;exact ⟨rfl,rfl⟩
 by_cases h3:k=3
 ·subst h3;go_enter Tryz.func45,Tryz.ntmps45;go_wp2;go_ret;exact ⟨rfl,rfl⟩
 by_cases h6:k=6
 ·subst h6;go_enter Tryz.func45,Tryz.ntmps45;go_wp2;go_ret;exact ⟨rfl,rfl⟩
 by_cases h8:k=8
 ·subst h8;go_enter Tryz.func45,Tryz.ntmps45;go_wp2;go_ret;exact ⟨rfl,rfl⟩
 have e:yO dl k n o= -2:=by simp [yO,h0,h2,h3,h6,h1,h8]
 rw [e];have f0:(k==0)=false:=by simpa using h0
 have f1:(k==1)=false:=by simpa using h1
 have f2:(k==2)=false:=by simpa using h2
 have f3:(k==3)=false:=by simpa using h3
 have f6:(k==6)=false:=by simpa using h6
 have f8:(k==8)=false:=by simpa using h8
 clear h0 h2 h3 h6 h1 h8 e;go_enter Tryz.func45,Tryz.ntmps45;go_wp2;go_ret;exact ⟨rfl,rfl⟩
def OneLetter (b:ByteArray):Prop:= ∃c:UInt8,b.toList= [c]/\65<=c/\c<=90
theorem byte_one {b:ByteArray}(h:b.size=1): ∃c,b=⟨#[c]⟩:=by
 obtain ⟨l⟩:=b;have h':l.size=1:=h;obtain ⟨c,hc⟩:=Array.size_eq_one_iff.mp h';exact ⟨c,by rw [hc]⟩
theorem toList_one (c:UInt8):(ByteArray.mk #[c]).toList= [c]:=by
 simp [ByteArray.toList];rw [ByteArray.toList.loop];simp;rw [ByteArray.toList.loop];simp;rfl
theorem letter_of {c:UInt8}(h:Op.bytesLess [c] [65]=false)(h2:Op.bytesLess [c] [90]=true\/c=90):65<=c/\c<=90:=by
 simp only [Op.bytesLess] at h h2;constructor
 ·by_cases hc:c < 65
  ·simp [hc] at h
  ·exact UInt8.not_lt.mp hc
 ·rcases h2 with h2 | h2
  ·by_cases hc:c < 90
   ·exact UInt8.le_of_lt hc
   ·by_cases e:c=90
    ·subst e;exact UInt8.le_refl _
    ·simp [hc,e] at h2
  ·subst h2;exact UInt8.le_refl _
theorem fieldName_any (x:TyV)(xs:List TyV)(j:Nat)(X:TyV)(w:World)(fx:Flat w F0 x xs)(hj:j < x.len)(gX:xs[j]?=some X):
 Calls Tryz.prog 46 #[.slice x.a x.len x.cap,.int .i64 j] w fun e w'=> ∃b,e= .returned (.bool b)∧Fr F0 w w'∧
  (b=true->OneLetter X.nm/\ ∀(i:Nat) (y:TyV),i < j->xs[i]?=some y->y.nm.toList≠X.nm.toList):=by
 obtain ⟨hx,lx,bx⟩:=fx;obtain ⟨k,n,c,v,a,len,cap,nm⟩:=x;dsimp only at *;have H1:=hid lx;clear lx;have HX:=hid hx;clear hx;have hb:len<=1954687338211:=bx.2.1;have hcap:len<=cap:=bx.1;have hcap2:cap<=maxLen:=bx.2.2;clear bx;obtain ⟨X',bb,oo,gX',rfl,eX⟩:=HX.out.elem (show j < xs.length by rw [H1.out];exact hj);obtain rfl:X'=X:=by rw [gX] at gX';exact (Option.some.inj gX').symm
 have hjl:(j:Int) < len:=by omega
 have GX:=hid gX;clear gX gX';have x5:=eX.c5;have X5:=hid x5;have hbb:bb < w.heap.size:=World.block_lt_of_cell? _ _ x5;clear eX;have AFTER: ∀w',Fr F0 w w'->True:=fun _ _=>trivial
 clear AFTER;go_enter Tryz.func46,Tryz.ntmps46;go_wp2;go_loopw [11] (fun i wr=> ∃k:Nat,k<=j/\i= .int .i64 k/\Fr F0 w wr/\(∀(i:Nat) (y:TyV),i < k->xs[i]?=some y->y.nm.toList≠X'.nm.toList)) (fun i _=>j - (intOf i).toNat)
 case atStart=>exact ⟨0,Nat.zero_le _,rfl,by repeat (first | exact Fr.refl _ _ | refine Fr.alloc ?_ _),fun i y hi=>by omega⟩
 case round=>
  obtain ⟨k,hk,rfl,hf,hn⟩:=hrel;have HF:=hid hf;have HN:=hid hn;clear hf hn;have x5':=HF.out.cell id x5;clear x5;by_cases hlt:k < j
  ·obtain ⟨Y,b1,o1,gY,e0,e1⟩:=HX.out.elem (show k < xs.length by rw [H1.out];omega)
   obtain ⟨rfl,rfl⟩:bb=b1/\oo=o1:=by cases e0;exact ⟨rfl,rfl⟩
   clear e0;obtain ⟨_,a0,a1,a2,a3,a4,a5⟩:=e1;replace a0:=HF.out.cell id a0;replace a1:=HF.out.cell id a1;replace a2:=HF.out.cell id a2;replace a3:=HF.out.cell id a3;replace a4:=HF.out.cell id a4;replace a5:=HF.out.cell id a5;have hb1:bb < wr.heap.size:=World.block_lt_of_cell? _ _ a0;have hle:(k:Int) < j:=by omega
   have GY:=hid gY;clear gY;go_wp2;go_quiet (fail);go_wp2
   ·go_ret
    refine ⟨false,rfl,(HF.out.alloc _).drawn _,fun h=>by cases h⟩
   ·rename_i hne
    have hne':Y.nm.toList≠X'.nm.toList:=by simpa using hne
    go_roundw
    case rel=>
     refine ⟨k + 1,by omega,by go_num,?_,?_⟩
     ·exact (HF.out.alloc _).drawn _
     ·intro i y hi hy
      by_cases hik:i=k
      ·subst hik;rw [GY.out] at hy;cases hy;exact hne'
      ·exact HN.out i y (by omega) hy
    case measure=>simp [intOf];omega
  ·have hkj:k=j:=by omega
   have KJ:=hid hkj;clear hkj;by_cases h1:X'.nm.size=1
   ·obtain ⟨c,hc⟩: ∃c,X'.nm=⟨#[c]⟩:=byte_one h1
    have HC:=hid hc;go_wp2
    all_goals
     rename_i hge;go_ret;refine ⟨_,rfl,HF.out,fun h=> ?_⟩
    ·simp at h
    ·refine ⟨⟨c,by rw [HC.out];exact toList_one c,?_⟩,fun i y hi hy=>HN.out i y (by rw [KJ.out];exact hi) hy⟩
     exact letter_of (by simpa using hge) (by simpa using h)
   ·have h1':((X'.nm.size:Int)==1)=false:=by simp;omega
    go_wp2;go_ret;exact ⟨_,rfl,HF.out,fun h=>by cases h⟩
def ParRow (w:World)(da:Option Addr)(dl:Nat)(ar:Nat->Nat):Prop:=dl=0\/ ∃b o,da=some ⟨b,o,none⟩/\ ∀i,i < dl->w.cell? ⟨b,o + i * 7,none⟩=some (.int .i64 (ar i))
def P2 (k e:Int)(len:Nat):Prop:=decide (k < 0)=false/\decide (10 < k)=false/\(decide (0<=e)=false\/(0<=e/\((len:Int) !=e)=false))
def P4 (l n:Int):Prop:=(decide (-1<=l)=false/\decide (0<=l)=false)\/(-1<=l/\decide (n < 0)=false/\decide (0<=l)=false)\/(-1<=l/\decide (n < 0)=false/\0<=l/\decide (l<=n)=false)
theorem shaped_fail2 (da:Option Addr)(dl dc:Nat)(n o k e l nn c:Int)(v:Bool)(a:Option Addr)(len cap:Nat)(nm:ByteArray)(w:World)
 (he:e=xE k) (hl:l=yO dl k n o)
 (hv:(k < 0)∨(decide (k < 0)=false∧10 < k)∨(decide (k < 0)=false∧decide (10 < k)=false∧0≤e∧((len:Int) !=e)=true)∨
  (P2 k e len/\ -1<=l/\nn < 0)\/(P2 k e len/\ -1<=l/\decide (nn < 0)=false/\0<=l/\l<=nn)):
 Calls Tryz.prog 30 #[.slice da dl dc,.agg #[.int .i64 k,.int .i64 nn,.int .i64 c,.bool v,.slice a len cap,.string nm],.int .i64 n,.int .i64 o] w fun e w'=>
  e= .returned (.bool false)/\Fr F0 w w':=by
 have EL:=hid (show ∀w,_ from fun w=>he ▸ elems_any k w);have LI:=hid (show ∀w,_ from fun w=>hl ▸ limit_any da dl dc k n o w);clear he hl;rcases hv with h1 | ⟨h1,h2⟩ | ⟨h1,h2,h3,h4⟩ | ⟨⟨h1,h2,h3 | ⟨h3,h4⟩⟩,h5,h6⟩ | ⟨⟨h1,h2,h3 | ⟨h3,h4⟩⟩,h5,h6,h7,h8⟩
 all_goals
  go_enter Tryz.func30,Tryz.ntmps30;go_wp2_with fail
  go_quiet (first | (go_at_call 44;with_reducible exact Calls.quiet_of_same (EL.out _)) | (go_at_call 45;with_reducible exact Calls.quiet_of_same (LI.out _)));go_wp2;go_ret;exact ⟨rfl,by repeat (first | exact Fr.refl _ _ | refine Fr.alloc ?_ _ | refine Fr.drawn ?_ _)⟩
theorem shaped_fail6 (da:Option Addr)(dl dc:Nat)(ar:Nat->Nat)(n o:Int)(N:Nat)(c:Int)(v:Bool)(a:Option Addr)(len cap:Nat)(nm:ByteArray)(w:World)
 (hP:ParRow w da dl ar) (hN:N < dl) (hne:((len:Int) !=(ar N:Int))=true):
 Calls Tryz.prog 30 #[.slice da dl dc,.agg #[.int .i64 1,.int .i64 N,.int .i64 c,.bool v,.slice a len cap,.string nm],.int .i64 n,.int .i64 o] w fun e w'=>
  e= .returned (.bool false)/\Fr F0 w w':=by
 have EL:=hid (show ∀w,_ from fun w=>elems_any 1 w);have LI:=hid (show ∀w,_ from fun w=>limit_any da dl dc 1 n o w);obtain h | ⟨b,o',rfl,hc⟩:=hP
 ·omega
 have hcN:=hc N hN;clear hc;have hb:b < w.heap.size:=World.block_lt_of_cell? _ _ hcN;have h1:(N:Int) < dl:=by omega
 have h2:decide ((N:Int) < 0)=false:=by simp
 have h3:decide ((dl:Int)<=N)=false:=by simp;omega
 have h4:(-1:Int)<=dl:=by omega
 have h5:(0:Int)<=dl:=by omega
 have e1:xE 1= -1:=rfl;have e2:yO dl 1 n o=dl:=rfl;rw [e1] at EL;rw [e2] at LI;clear e1 e2;go_enter Tryz.func30,Tryz.ntmps30;go_wp2_with fail
 go_quiet (first | (go_at_call 44;with_reducible exact Calls.quiet_of_same (EL.out _)) | (go_at_call 45;with_reducible exact Calls.quiet_of_same (LI.out _)));go_wp2;go_quiet (fail);go_wp2;go_ret;exact ⟨rfl,by repeat (first | exact Fr.refl _ _ | refine Fr.alloc ?_ _ | refine Fr.drawn ?_ _)⟩
theorem shaped_fail8 (da:Option Addr)(dl dc:Nat)(n o nn c:Int)(v:Bool)(a:Option Addr)(len cap:Nat)(nm:ByteArray)(xs:List TyV)(w:World)
 (hx:xB w F0 a xs) (hlx:xs.length=len) (hb:len<=1954687338211)
 (hv:c < 0\/(decide (c < 0)=false/\(len:Int) < c)\/(c=0/\v=true)\/(∃C Y,c=((C + 1:Nat):Int)/\C < len/\xs[C]?=some Y/\v=true/\(Y.k !=5)=true)):
 Calls Tryz.prog 30 #[.slice da dl dc,.agg #[.int .i64 10,.int .i64 nn,.int .i64 c,.bool v,.slice a len cap,.string nm],.int .i64 n,.int .i64 o] w fun e w'=>
  e= .returned (.bool false)/\Fr F0 w w':=by
 have EL:=hid (show ∀w,_ from fun w=>elems_any 10 w);have LI:=hid (show ∀w,_ from fun w=>limit_any da dl dc 10 n o w);have e1:xE 10= -1:=rfl;have e2:yO dl 10 n o= -2:=rfl;rw [e1] at EL;rw [e2] at LI;clear e1 e2;have HX:=hid hx;have HL:=hid hlx;clear hx hlx;rcases hv with h1 | ⟨h1,h2⟩ | ⟨h1,h2⟩ | ⟨C,Y,h1,h2,h3,h4,h5⟩
 case inr.inr.inr=>
  subst h1;obtain ⟨Y',b1,o1,gY,rfl,e1⟩:=HX.out.elem (show C < xs.length by rw [HL.out];exact h2);obtain rfl:Y'=Y:=by rw [h3] at gY;exact (Option.some.inj gY).symm
  have a0:=e1.c0;have hb1:b1 < w.heap.size:=World.block_lt_of_cell? _ _ a0;clear e1 gY h3;have f1:decide (((C + 1:Nat):Int) < 0)=false:=by simp;omega
  have f2:decide ((len:Int) < ((C + 1:Nat):Int))=false:=by simp;omega
  have f3:(((C + 1:Nat):Int)==0)=false:=by simp;omega
  have f4:(C:Int) < len:=by omega
  have f5:wrap64 (((C + 1:Nat):Int) - 1)=C:=by rw [show (((C + 1:Nat):Int) - 1)=C by omega];unfold wrap64;omega
  subst h4;go_enter Tryz.func30,Tryz.ntmps30;go_wp2_with fail
  go_quiet (first | (go_at_call 44;with_reducible exact Calls.quiet_of_same (EL.out _)) | (go_at_call 45;with_reducible exact Calls.quiet_of_same (LI.out _)));go_wp2;go_quiet (fail);go_wp2;go_ret;exact ⟨rfl,by repeat (first | exact Fr.refl _ _ | refine Fr.alloc ?_ _ | refine Fr.drawn ?_ _)⟩
 all_goals
  go_enter Tryz.func30,Tryz.ntmps30;go_wp2_with fail
  go_quiet (first | (go_at_call 44;with_reducible exact Calls.quiet_of_same (EL.out _)) | (go_at_call 45;with_reducible exact Calls.quiet_of_same (LI.out _)));go_wp2;go_quiet (fail);go_wp2;go_ret;exact ⟨rfl,by repeat (first | exact Fr.refl _ _ | refine Fr.alloc ?_ _ | refine Fr.drawn ?_ _)⟩
def KidStep (Q:TyV→Prop)(da:Option Addr)(dl dc:Nat)(n o:Int)(w:World)(xs:List TyV):Prop:=
 ∀(i:Nat) (y:TyV),xs[i]?=some y→ ∀w',Fr F0 w w'→
  Calls Tryz.prog 30 #[.slice da dl dc,.agg #[.int .i64 y.k,.int .i64 y.n,.int .i64 y.c,.bool y.v,.slice y.a y.len y.cap,.string y.nm],.int .i64 n,.int .i64 o] w' fun e w''=>
   ∃b,e= .returned (.bool b)/\Fr F0 w' w''/\(b=true->Q y)
def Var8 (w:World)(da:Option Addr)(dl:Nat)(ar:Nat→Nat)(k e l nn c:Int)(v:Bool)(len:Nat)(xs:List TyV):Prop:=
 (decide (k < 0)=false/\decide (10 < k)=false/\0<=e/\((len:Int) !=e)=false/\P4 l nn/\(k==1)=false/\(k==10)=false/\(k==9)=false)\/
 (k=1∧e= -1∧ -1≤l∧decide (nn < 0)=false∧0≤l∧decide (l≤nn)=false∧0≤nn∧nn < dl∧ ∃b o,((len:Int) !=(ar nn.toNat:Int))=false∧da=some ⟨b,o,none⟩∧
  w.cell? ⟨b,o + nn.toNat * 7,none⟩=some (.int .i64 (ar nn.toNat)))\/
 (k=10/\e= -1/\l= -2/\decide (c < 0)=false/\decide ((len:Int) < c)=false/\v=false)\/
 (k=10/\e= -1/\l= -2/\v=true/\ ∃(C:Nat) (Y:TyV),decide (c < 0)=false/\decide ((len:Int) < c)=false/\(c==0)=false/\wrap64 (c - 1)=(C:Int)/\C < len/\xs[C]?=some Y/\(Y.k !=5)=false)
theorem shaped_loop (Q:TyV->Prop)(da:Option Addr)(dl dc:Nat)(ar:Nat->Nat)(n o k e l nn c:Int)(v:Bool)(a:Option Addr)(len cap:Nat)(nm:ByteArray)(xs:List TyV)(w:World)
 (hx:xB w F0 a xs) (hlx:xs.length=len) (hb:len<=1954687338211) (he:e=xE k) (hl:l=yO dl k n o)
 (hv:Var8 w da dl ar k e l nn c v len xs) (ih:KidStep Q da dl dc n o w xs):
 Calls Tryz.prog 30 #[.slice da dl dc,.agg #[.int .i64 k,.int .i64 nn,.int .i64 c,.bool v,.slice a len cap,.string nm],.int .i64 n,.int .i64 o] w fun e w'=>
  ∃b,e= .returned (.bool b)/\Fr F0 w w'/\(b=true-> ∀(i:Nat) (y:TyV),xs[i]?=some y->Q y):=by
 have EL:=hid (show ∀w,_ from fun w=>he ▸ elems_any k w);have LI:=hid (show ∀w,_ from fun w=>hl ▸ limit_any da dl dc k n o w);have HX:=hid hx;have HL:=hid hlx;have IH:=hid ih
 have HK9:(k==9)=false:=by
  rcases hv with ⟨_,_,_,_,_,_,_,h⟩ | ⟨h,_⟩ | ⟨h,_⟩ | ⟨h,_⟩
  ·exact h
  all_goals rw [h];rfl
 have K9:=hid HK9;clear he hl hx hlx ih HK9;rcases hv with ⟨h1,h2,h3,h3',⟨h4,h4'⟩ | ⟨h4,h4',h5'⟩ | ⟨h4,h4',h5',h6'⟩,h5,h6,h7⟩ | ⟨rfl,rfl,q0,q1,q2,q3,q4,q5,b,o',hZ,rfl,q6⟩ | ⟨rfl,rfl,rfl,h1,h2,rfl⟩ | ⟨rfl,rfl,rfl,rfl,C,Y,f1,f2,f3,f5,h1,h2,hZ⟩
 all_goals
  try (have hb1:b < w.heap.size:=World.block_lt_of_cell? _ _ q6)
  try (obtain ⟨Y',b1,o1,gY,rfl,e1⟩:=HX.out.elem (show C < xs.length by rw [HL.out];exact h1)
       obtain rfl:Y'=Y:=by rw [h2] at gY;exact (Option.some.inj gY).symm
       have a0:=e1.c0;have hb1:b1 < w.heap.size:=World.block_lt_of_cell? _ _ a0;clear e1 gY h2;have f4:(C:Int) < len:=by omega)
  go_enter Tryz.func30,Tryz.ntmps30;go_wp2_with fail
  go_quiet (first | (go_at_call 44;with_reducible exact Calls.quiet_of_same (EL.out _)) | (go_at_call 45;with_reducible exact Calls.quiet_of_same (LI.out _)));go_wp2;go_quiet (fail);go_wp2
  try clear hZ
  try clear f5
  go_loopw [116,11] (fun i i2 wr=> ∃j:Nat,j≤len∧i= .int .i64 j∧Fr F0 w wr∧
   (∃kv:Int,wr.cell? ⟨w.heap.size,0,none⟩=some (.int .i64 kv)/\(kv==9)=false)/\(∀(i:Nat) (y:TyV),i < j->xs[i]?=some y->Q y)) (fun i i2 _=>len - (intOf i).toNat)
  case atStart=>exact ⟨0,Nat.zero_le _,rfl,by repeat (first | exact Fr.refl _ _ | refine Fr.drawn ?_ _ | refine Fr.alloc ?_ _),⟨_,by simp,K9.out⟩,fun i y hi=>by omega⟩
  case round=>
   obtain ⟨j,hj,rfl,hf,⟨kv,hc0,hkv⟩,hq⟩:=hrel;have HF:=hid hf;have HQ:=hid hq;clear hf hq;by_cases hlt:j < len
   ·obtain ⟨X,b2,o2,gX,e0,e1⟩:=HX.out.elem (show j < xs.length by rw [HL.out];exact hlt)
    have e1:=e1.keep HF.out.sub;obtain ⟨_,x0,x1,x2,x3,x4,x5⟩:=e1;have hb2:b2 < wr.heap.size:=World.block_lt_of_cell? _ _ x0;have hle:(j:Int) < len:=by omega
    have hwb:w.heap.size < wr.heap.size:=World.block_lt_of_cell? _ _ hc0;have CA:=hid (IH.out j X gX);have GX:=hid gX;clear gX
    first
     |subst e0
     |(obtain ⟨rfl,rfl⟩:b1=b2/\o1=o2:=by cases e0;exact ⟨rfl,rfl⟩)
    go_wp2_with fail
    refine (CA.out _ (HF.out.alloc _)).mono ?_;rintro e w2 ⟨bb,rfl,hf2,hbb⟩;have HF2:=hid hf2;have hc2:=hf2.cell id (Fr.cell ((Fr.refl F0 wr).alloc (.cells #[.int .i64 X.k,.int .i64 X.n,.int .i64 X.c,.bool X.v,.slice X.a X.len X.cap,.string X.nm] 26)) id hc0);clear hf2;cases bb
    ·clear hbb
     go_wp2;go_ret;exact ⟨false,rfl,(HF.out.alloc _).trans HF2.out,fun h=>by cases h⟩
    ·have HB:=hid (hbb rfl)
     clear hbb;go_wp2;go_roundw
     case rel=>
      refine ⟨j + 1,by omega,by go_num,(HF.out.alloc _).trans HF2.out,⟨kv,hc2,hkv⟩,fun i y hi hy=> ?_⟩;by_cases hij:i=j
      ·subst hij;rw [GX.out] at hy;cases hy;exact HB.out
      ·exact HQ.out i y (by omega) hy
     case measure=>simp [intOf];omega
   ·go_wp2
    go_ret;exact ⟨true,rfl,HF.out,fun _ i y hy=>HQ.out i y (by have:=List.getElem?_eq_some_iff.mp hy;have h:=this.1;rw [HL.out] at h;omega) hy⟩
def NameAt (xs:List TyV)(j:Nat):Prop:= ∀X,xs[j]?=some X->OneLetter X.nm/\ ∀(i:Nat)(y:TyV),i < j->xs[i]?=some y->y.nm.toList≠X.nm.toList
theorem shaped_struct (Q:TyV->Prop)(da:Option Addr)(dl dc:Nat)(n o nn c:Int)(v:Bool)(a:Option Addr)(len cap:Nat)(nm:ByteArray)(xs:List TyV)(w:World)
 (hx:xB w F0 a xs) (hlx:xs.length=len) (hb:len<=cap/\len<=1954687338211/\cap<=maxLen) (ih:KidStep Q da dl dc n o w xs):
 Calls Tryz.prog 30 #[.slice da dl dc,.agg #[.int .i64 9,.int .i64 nn,.int .i64 c,.bool v,.slice a len cap,.string nm],.int .i64 n,.int .i64 o] w fun e w'=>
  ∃b,e= .returned (.bool b)/\Fr F0 w w'/\(b=true-> ∀(i:Nat) (y:TyV),xs[i]?=some y->Q y/\NameAt xs i):=by
 have EL:=hid (show ∀w,_ from fun w=>elems_any 9 w);have LI:=hid (show ∀w,_ from fun w=>limit_any da dl dc 9 n o w);have e1:xE 9= -1:=rfl;have e2:yO dl 9 n o= -2:=rfl;rw [e1] at EL;rw [e2] at LI;clear e1 e2;have FX:=hid (show Flat w F0 ⟨9,nn,c,v,a,len,cap,nm⟩ xs from ⟨hx,hlx,hb⟩);have HX:=hid hx;have HL:=hid hlx;have IH:=hid ih;have hb':len<=1954687338211:=hb.2.1;clear hx hlx ih hb;go_enter Tryz.func30,Tryz.ntmps30
 go_wp2_with fail
 go_quiet (first | (go_at_call 44;with_reducible exact Calls.quiet_of_same (EL.out _)) | (go_at_call 45;with_reducible exact Calls.quiet_of_same (LI.out _)));go_wp2;go_quiet (fail);go_wp2
 go_loopw [116,11] (fun i i2 wr=> ∃j:Nat,j≤len∧i= .int .i64 j∧Fr F0 w wr∧
  wr.cell? ⟨w.heap.size,0,none⟩=some (.int .i64 9)/\wr.cell? ⟨w.heap.size,4,none⟩=some (.slice a len cap)/\(∀(i:Nat) (y:TyV),i < j->xs[i]?=some y->Q y/\NameAt xs i))
  (fun i i2 _=>len - (intOf i).toNat)
 case atStart=>exact ⟨0,Nat.zero_le _,rfl,by repeat (first | exact Fr.refl _ _ | refine Fr.drawn ?_ _ | refine Fr.alloc ?_ _),by simp,by simp,fun i y hi=>by omega⟩
 case round=>
  obtain ⟨j,hj,rfl,hf,hc0,hc4,hq⟩:=hrel;have HF:=hid hf;have HQ:=hid hq;clear hf hq;by_cases hlt:j < len
  ·obtain ⟨X,b2,o2,gX,rfl,e1⟩:=HX.out.elem (show j < xs.length by rw [HL.out];exact hlt)
   have e1:=e1.keep HF.out.sub;obtain ⟨_,x0,x1,x2,x3,x4,x5⟩:=e1;have hb2:b2 < wr.heap.size:=World.block_lt_of_cell? _ _ x0;have hle:(j:Int) < len:=by omega
   have hwb:w.heap.size < wr.heap.size:=World.block_lt_of_cell? _ _ hc0;have CA:=hid (IH.out j X gX);have GX:=hid gX;clear gX;go_wp2_with fail
   refine (CA.out _ (HF.out.alloc _)).mono ?_;rintro e w2 ⟨bb,rfl,hf2,hbb⟩;have HF2:=hid hf2;have hcA:=hf2.cell id (Fr.cell ((Fr.refl F0 wr).alloc (.cells #[.int .i64 X.k,.int .i64 X.n,.int .i64 X.c,.bool X.v,.slice X.a X.len X.cap,.string X.nm] 26)) id hc0);have hcB:=hf2.cell id (Fr.cell ((Fr.refl F0 wr).alloc (.cells #[.int .i64 X.k,.int .i64 X.n,.int .i64 X.c,.bool X.v,.slice X.a X.len X.cap,.string X.nm] 26)) id hc4)
   have HW2:=hid ((HF.out.alloc (.cells #[.int .i64 X.k,.int .i64 X.n,.int .i64 X.c,.bool X.v,.slice X.a X.len X.cap,.string X.nm] 26)).trans hf2);have hwb2:w.heap.size < w2.heap.size:=World.block_lt_of_cell? _ _ hcA;clear hf2;cases bb
   ·clear hbb
    go_wp2;go_ret;exact ⟨false,rfl,HW2.out,fun h=>by cases h⟩
   ·have HB:=hid (hbb rfl)
    clear hbb;go_wp2_with fail
    refine (fieldName_any _ xs j X w2 (FX.out.keep HW2.out) hlt GX.out).mono ?_;rintro e w3 ⟨bb,rfl,hf3,hbb⟩;have HF3:=hid hf3;have hcA3:=hf3.cell id hcA;have hcB3:=hf3.cell id hcB;clear hf3;cases bb
    ·clear hbb
     go_wp2;go_ret;exact ⟨false,rfl,HW2.out.trans HF3.out,fun h=>by cases h⟩
    ·have HN:=hid (hbb rfl)
     clear hbb hcA hcB;go_wp2;go_roundw
     case rel=>
      refine ⟨j + 1,by omega,by go_num,HW2.out.trans HF3.out,hcA3,hcB3,fun i y hi hy=> ?_⟩;by_cases hij:i=j
      ·subst hij;rw [GX.out] at hy;cases hy;exact ⟨HB.out,fun X' hX'=>by rw [GX.out] at hX';cases hX';exact HN.out⟩
      ·exact HQ.out i y (by omega) hy
     case measure=>simp [intOf];omega
  ·go_wp2
   go_ret;exact ⟨true,rfl,HF.out,fun _ i y hy=>HQ.out i y (by have:=List.getElem?_eq_some_iff.mp hy;have h:=this.1;rw [HL.out] at h;omega) hy⟩
end Go.Proofs.YtpekidjfbinekaaGreatDoor
