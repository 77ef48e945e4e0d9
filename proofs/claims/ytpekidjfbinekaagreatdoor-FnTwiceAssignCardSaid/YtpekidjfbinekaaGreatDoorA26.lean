/- G23, W10, W11 -/
import Derived.Test.YtpekidjfbinekaaGreatDoorA20
set_option maxRecDepth 100000
set_option maxHeartbeats 60000000
set_option linter.all false
namespace Go.Proofs.YtpekidjfbinekaaGreatDoor
open Go.RowKit Uni
section
variable {w w':World}{E:GEnv}{g:Nat}{c:Array Value}
def BoolsB (w:World)(g:Nat):Prop:= ∃c,w.heap[g]?=some (.cells c 4 (0,0))
theorem BoolsB.ne {a:Nat}{cs:Array Value}{t:TypeId}(h:BoolsB w g)(ha:w.heap[a]?=some (.cells cs t (0,0)))(ht:t≠4): ¬a=g:=by
 rintro rfl;obtain ⟨c,h1⟩:=h;rw [h1] at ha;injection ha with ha
 injection ha with h2 h3
 exact ht h3.symm
theorem xJ.keepB (hg:BoolsB w g)(f:Fr (fun b=>b=g) w w'){a:Option Addr}{vs:List Value}{nms:List (List UInt8)}(h:xJ w E a vs nms):xJ w' E a vs nms:=by
 rcases h with h | ⟨b,off,ha,hb,⟨cs,hcs⟩,h⟩
 ·exact .inl h
 ·refine .inr ⟨b,off,ha,hb,⟨cs,f.heap (hg.ne hcs (by decide)) hcs⟩,fun i v hv=> ?_⟩
  obtain ⟨vb,p0,k,nm,h1,h2,h3,h4⟩:=h i v hv;exact ⟨vb,p0,k,nm,f.cell (hg.ne hcs (by decide)) h1,h2,f.heap (hg.ne h3 (by decide)) h3,h4⟩
theorem yZ.keepB (hg:BoolsB w g)(f:Fr (fun b=>b=g) w w'){pv:Value}{vs:List Value}(h:yZ w E pv vs):yZ w' E pv vs:=by
 rcases h with h | ⟨b,va,vc,h0,h1,h2,h3,h4,h5,h6⟩
 ·exact .inl h
 ·exact .inr ⟨b,va,vc,h0,h1,h2,f.heap (hg.ne h3 (by decide)) h3,h4,h5,h6.keepB hg f⟩
theorem PT.iface {v:Value}{t:Tm}(h:PT w E v t): ∃ty pv,v= .iface ty pv:=by cases h <;>exact ⟨_,_,rfl⟩
theorem PT.keepB (hg:BoolsB w g)(f:Fr (fun b=>b=g) w w'){v:Value}{t:Tm}(h:PT w E v t):PT w' E v t:=by
 induction h with
 |var p h=>exact .var p h
 |basic l a i nm h1 h2 h3 h4=>exact .basic l a i nm h1 h2 h3 (f.heap (hg.ne h4 (by decide)) h4)
 |ptr l a v t h1 h2 h3 h4 _ ih=>exact .ptr l a v t h1 h2 h3 (f.heap (hg.ne h4 (by decide)) h4) ih
 |slice l a v t h1 h2 h3 h4 _ ih=>exact .slice l a v t h1 h2 h3 (f.heap (hg.ne h4 (by decide)) h4) ih
 |array l a v t h1 h2 h3 h4 _ ih=>exact .array l a v t h1 h2 h3 (f.heap (hg.ne h4 (by decide)) h4) ih
 |map l a v v' t t' h1 h2 h3 h4 _ _ ih ih'=>exact .map l a v v' t t' h1 h2 h3 (f.heap (hg.ne h4 (by decide)) h4) ih ih'
 |chan l a v t h1 h2 h3 h4 _ ih=>exact .chan l a v t h1 h2 h3 (f.heap (hg.ne h4 (by decide)) h4) ih
 |struct l a fa fc vs ts h1 h2 hn h3 h4 h5 h6 h7 h8 _ ih=>exact .struct l a fa fc vs ts h1 h2 hn h3 (f.heap (hg.ne h4 (by decide)) h4) h5 h6 h7 (h8.keepB hg f) ih
 |func l a pp rp vs ts h1 h2 hn h3 h4 h5 h6 h7 _ ih=>exact .func l a pp rp vs ts h1 h2 hn h3 (f.heap (hg.ne h4 (by decide)) h4) h5 (h6.keepB hg f) (h7.keepB hg f) ih
 |named0 l c0 c1 c2 c4 c5 u c9 c10 st h1 h2 h3 h4 h5 h6 _ ih=>exact .named0 l c0 c1 c2 c4 c5 u c9 c10 st h1 h2 h3 h4 (f.heap (hg.ne h5 (by decide)) h5) h6 ih
 |named l a ib lb ta tc c0 c1 c2 c4 c5 u c9 c10 st vs ts h1 h2 h3 hne h4 h5 h6 h7 h8 h9 h10 h11 h12 h13 h14 hp _ ih ih'=>
  have ht:yT w' E ta vs:=by
   rcases h14 with h | ⟨b,off,ha,hb,⟨cs,hcs⟩,h⟩
   ·exact .inl h
   ·exact .inr ⟨b,off,ha,hb,⟨cs,f.heap (hg.ne hcs (by decide)) hcs⟩,fun i v hv=>f.cell (hg.ne hcs (by decide)) (h i v hv)⟩
  exact .named l a ib lb ta tc c0 c1 c2 c4 c5 u c9 c10 st vs ts h1 h2 h3 hne h4 (f.heap (hg.ne h5 (by decide)) h5) h6 h7 (f.heap (hg.ne h8 (by decide)) h8) h9 (f.heap (hg.ne h10 (by decide)) h10) h11 h12 h13 ht ih ih'
theorem NRep.keepB (hg:BoolsB w g)(f:Fr (fun b=>b=g) w w'){U bm:Nat}{hd:Nat->Addr}{s:St}{depth:Int}(h:NRep w E U bm hd s depth):NRep w' E U bm hd s depth:=by
 refine ⟨f.heap (hg.ne h.u (by decide)) h.u,?_,fun p hp=> ?_,h.cls,h.lt,h.AU,h.Abm⟩
 ·refine f.heap ?_ h.m
  rintro rfl;obtain ⟨c,h1⟩:=hg;have:=h.m;rw [h1] at this;cases this
 ·obtain ⟨h1,h2,h3,h4,v,h5,h6⟩:=h.h p hp
  refine ⟨h1,h2,h3,h4,v,f.heap (hg.ne h5 (by decide)) h5,?_⟩
  cases hs:s.v (s.j p) with
  |none=>rw [hs] at h6;exact h6
  |some t=>rw [hs] at h6;exact PT.keepB hg f h6
end
theorem under84b:Tryz.prog.underlying 84=some (.slice 4):=by kernel_rfl
theorem info4b:(Tryz.prog.info? 4).map (fun i=>(i.zero,i.size,i.bytes))=some (some (.bool false),1,1):=by kernel_rfl
def Pairs2 (w:World)(la:Option Addr)(ps:List (Value × Value)):Prop:=
 ps= []\/ ∃b off,la=some ⟨b,off,none⟩/\ ∀(i:Nat) (p:Value × Value),ps[i]?=some p->w.cell? ⟨b,off + i * 2,none⟩=some p.1/\w.cell? ⟨b,off + i * 2 + 1,none⟩=some p.2
def PairsOk (D:zE)(m:Uni.Mode):St→List (Tm × Tm)→Prop
 |_,[]=>True
 |s,(x,y)::l=> ∃q,zJ D 50 s x y m=some q/\ ∀s1,q=some s1->PairsOk D m s1 l
inductive PairsR (D:zE) (m:Uni.Mode):St→List (Tm × Tm)→List Bool→St→Prop
 |nil (s:St):PairsR D m s [] [] s
 |ok (s s1 s':St) (x y:Tm) (l:List (Tm × Tm)) (oks:List Bool):zJ D 50 s x y m=some (some s1)->PairsR D m s1 l oks s'->PairsR D m s ((x,y)::l) (true::oks) s'
 |fail (s s':St) (x y:Tm) (l:List (Tm × Tm)):zJ D 50 s x y m=some none->PairsR D m s ((x,y)::l) [false] s'
def bools (l:List Bool):List Value:=l.map Value.bool
def UnifyPost (w:World)(E:GEnv)(m:Uni.Mode)(ps:List (Tm × Tm))(e:Ending)(w':World):Prop:=
 ∃(ov:Value) (oks:List Bool) (s':St) (rb:Nat) (c:Array Value),e= .returned (.tuple #[ov,.slice (some ⟨rb,0,none⟩) E.n E.n])∧Fr (fun _=>False) w w'∧w'.ownsRow (w.heap.size + 1 + E.n + 1) 4 1 ov oks.length (bools oks)∧
  PairsR E.D m St.init ps oks s'/\w'.heap[rb]?=some (.cells c 103 (0,0))/\c.size=E.n/\w.heap.size<=rb/\(∀p,p < E.n-> ∃v,c[p]?=some v/\HV w' (E.setA (newA w.heap.size E.n)) v (s'.v (s'.j p)))/\EnvOk w' (E.setA (newA w.heap.size E.n))/\(∀p,p < E.n->s'.j p < E.n)
def PairsRel (w:World)(E:GEnv)(m:Uni.Mode)(ps:List (Tm × Tm))(U bm:Nat)(j:Nat)(ov:Value)(wr:World):Prop:=
 ∃(s:St) (hd:Nat→Addr),Fr (fun _=>False) w wr∧EnvOk wr (E.setA (newA w.heap.size E.n))∧NRep wr (E.setA (newA w.heap.size E.n)) U bm hd s 0∧wr.ownsRow (w.heap.size + 1 + E.n + 1) 4 1 ov j (bools (List.replicate j true))∧
  PairsOk E.D m s (ps.drop j)/\ ∀oks s',PairsR E.D m s (ps.drop j) oks s'->PairsR E.D m St.init ps (List.replicate j true ++ oks) s'
theorem unify62_any {E:GEnv}(hD:zZ E.D)(hA0: ∀b,¬E.A b)(m:Uni.Mode)(z:Int)(hm:yR m z)(w:World)(hE:EnvOk w E)(ta:Option Addr)(tc:Nat)(hts:E.n=0\/ ∃b off,ta=some ⟨b,off,none⟩/\ ∀p,p < E.n->w.cell? ⟨b,off + p,none⟩=some (.pointer (some (E.tp p))))(hn:E.n<=8)
 (la:Option Addr) (L lc:Nat) (vs:List (Value × Value)) (ps:List (Tm × Tm)) (hla:Pairs2 w la vs) (hvl:vs.length=L) (hpl:ps.length=L) (hL:L<=4) (hpt: ∀(i:Nat) (v:Value × Value) (p:Tm × Tm),vs[i]?=some v->ps[i]?=some p->PT w E v.1 p.1/\PT w E v.2 p.2) (hok:PairsOk E.D m St.init ps):
 Calls Tryz.prog 62 #[.slice ta E.n tc,.slice la L lc,.int .i64 z,.bool false] w (UnifyPost w E m ps):=by
 have HTS:=hid hts;have HLA:=hid hla;have HVL:=hid hvl;have HPL:=hid hpl;have HPT:=hid hpt;have HOK:=hid hok;have HE:=hid hE;have HD:=hid hD;have HM:=hid hm;have HA0:=hid hA0
 have hzc:0≤z∧z≤3:=by
  rcases hm with ⟨_,rfl⟩ | ⟨_,rfl⟩ | ⟨_,rfl | rfl⟩ <;>omega
 obtain ⟨i0,hi0,hz0,hz1,hz2⟩:=info_parts info4b;clear hts hla hvl hpl hpt hok hE hD hm hA0;have NU:=hid (newUnifier_any HE.out.keys ta tc HTS.out hn);go_enter Tryz.func62,Tryz.ntmps62;go_wp2_with fail
 refine NU.out.mono ?_;rintro e w1 hnew;have hret:=hnew.1;subst hret;have HNEW:=hid hnew;have F1:=hid hnew.2.1;have hA: ∀b,newA w.heap.size E.n b->w.heap.size<=b:=fun b h=>h.1
 have E1:=hid (HE.out.setA (A:=newA w.heap.size E.n) hA (F1.out.sub) (fun b h=>by have h2:=hnew.2.2.1;unfold newA at h;omega));have N1:=hid hnew.nrep;have SZ1:=hid hnew.2.2.1;clear hnew;go_wp2;go_loopw [8,19] (fun ov i wr=> ∃j:Nat,j<=L/\i= .int .i64 j/\PairsRel w E m ps (w.heap.size + 1 + E.n) w.heap.size j ov wr) (fun _ i _=>L - (intOf i).toNat)
 case atStart=>exact ⟨0,Nat.zero_le _,rfl,St.init,hdN w.heap.size,F1.out,E1.out,N1.out,World.ownsRow_nil _ _ _ _,HOK.out,fun oks s' h=>by simpa using h⟩
 case round=>
  obtain ⟨WX,rfl⟩: ∃WX:World,WX=wr:=⟨wr,rfl⟩;obtain ⟨ov,rfl⟩: ∃ov,ov=u8:=⟨_,rfl⟩;obtain ⟨j,hj,rfl,s,hd,hF,hE',hN',hO,hP,hR⟩:=hrel;have FX:=hid hF;have EX:=hid hE';have NX:=hid hN';have OX:=hid hO;have PX:=hid hP;have RX:=hid hR;clear hF hE' hN' hO hP hR;by_cases hlt:j < L
  ·have hle:(j:Int) < L:=by omega
   obtain ⟨v,hv⟩: ∃v,vs[j]?=some v:=⟨vs[j]'(by rw [HVL.out];exact hlt),by simp⟩;obtain ⟨p,hp⟩: ∃p,ps[j]?=some p:=⟨ps[j]'(by rw [HPL.out];exact hlt),by simp⟩;obtain ⟨b,off,rfl,hc⟩:=HLA.out.resolve_left (fun h=>by have:=HVL.out;rw [h] at this;simp at this;omega);obtain ⟨c1,c2⟩:=hc j v hv;have c1:=FX.out.cell id c1;have c2:=FX.out.cell id c2;have szb:=World.block_lt_of_cell? _ _ c1;dsimp only at szb;obtain ⟨px,py⟩:=HPT.out j v p hv hp
   have PXX:=hid ((px.setA hA).keep (FX.out.sub));have PYY:=hid ((py.setA hA).keep (FX.out.sub))
   have hps:ps.drop j=p::ps.drop (j + 1):=by
    rw [List.drop_eq_getElem_cons (List.getElem?_eq_some_iff.1 hp).1,(List.getElem?_eq_some_iff.1 hp).2]
   have hpo:=PX.out;rw [hps] at hpo;obtain ⟨x,y⟩:=p;obtain ⟨q,hq,hk⟩:=hpo;have HQ:=hid hq;have HK:=hid hk;have HPS:=hid hps;obtain ⟨vx,vy⟩:=v;dsimp only at c1 c2 PXX PYY;obtain ⟨ax,_,_,rfl,_⟩:=PXX.out.form EX.out;obtain ⟨ay,_,_,rfl,_⟩:=PYY.out.form EX.out;clear hc px py hv hp hps hq hk;have FA:=hid ((Fr.refl (fun _=>False) WX).alloc (.cells #[.iface (tyOf x) (.pointer (some ax)),.iface (tyOf y) (.pointer (some ay))] 109))
   have OA:=hid (OX.out.alloc (.cells #[.iface (tyOf x) (.pointer (some ax)),.iface (tyOf y) (.pointer (some ay))] 109));have GX:=hid (FX.out.alloc (.cells #[.iface (tyOf x) (.pointer (some ax)),.iface (tyOf y) (.pointer (some ay))] 109));go_wp2_with fail
   generalize (WX.alloc (.cells #[.iface (tyOf x) (.pointer (some ax)),.iface (tyOf y) (.pointer (some ay))] 109))=WA at FA OA GX ⊢;refine (unify93_any (E:=E.setA (newA w.heap.size E.n)) HD.out x y _ _ m z WA _ _ hd s q HQ.out HM.out (EX.out.keep FA.out.sub) (NX.out.keep FA.out) (PXX.out.keep FA.out.sub) (PYY.out.keep FA.out.sub)).mono ?_;rintro e w2 ⟨rfl,hf2,s2,hd2,hn2,hs2⟩;have G2:=hid (GX.out.transNew hf2 (fun b hb=> .inr hb.1))
   have O2:=hid (zV OA.out hf2 (fun g hg h=>by have:=(World.ownsRow.lt OA.out g hg).1;have:=h.2;omega));have N2:=hid hn2;have S2:=hid hs2;clear hf2 hn2 hs2;have N63:=hid (show j + 1<=maxLen by unfold maxLen;omega);have N8:=hid (show (j + 1) * 1<=140737488355328 by omega);have SZ2:=hid (show w.heap.size + 1 + E.n + 1<=(w2.alloc (.cells #[.bool q.isSome] 4)).heap.size by have:=lt_of_heap N2.out.u;simp;omega)
   have FB:=hid ((Fr.refl (fun _=>False) w2).alloc (.cells #[.bool q.isSome] 4));go_wp2_with (refine wpList_append_lies _ rfl _ _ 84 rfl (w.heap.size + 1 + E.n + 1) 4 i0 _ 1 1 under84b hi0 hz0 hz1 hz2 rfl (by omega) ov j (bools (List.replicate j true)) (by rfl) (O2.out.alloc _) ⟨w2.heap.size,0,none⟩ 1 1 [.bool q.isSome] (by rfl) (by rfl) (World.news_of_block (cs:= #[.bool q.isSome]) (t:=4) (fr:=(0,0)) (heap_alloc_new w2 _)) (by simp [Value.oneCell']) (by omega) N63.out N8.out SZ2.out (w2.heap.size + 1) (by simp) ?_)
   intro g cap w3 hown3 hgrow hg1 hg2;have hG3:Fr (fun _=>False) w w3:=(G2.out.alloc _).transNew (Fr.of_grown hgrow) (fun b hb=> .inr (by have:=(World.ownsRow.lt O2.out b hb).1;omega))
   have hN3:NRep w3 (E.setA (newA w.heap.size E.n)) (w.heap.size + 1 + E.n) w.heap.size hd2 s2 0:=by
    have NB:=N2.out.keep FB.out;have OB:=O2.out.alloc (.cells #[.bool q.isSome] 4)
    cases ho:ov.ownBlock with
    |none=>exact NB.keep ((Fr.of_grown hgrow).mono (fun b _ h=>by rw [ho] at h;cases h))
    |some g0=>
     refine NRep.keepB (g:=g0) ?_ ((Fr.of_grown hgrow).mono (fun b _ h=>by rw [ho] at h;exact (Option.some.inj h).symm)) NB;rcases OB.2 with ⟨rfl,_⟩ | ⟨g',cap',cur,rfl,_,hc,_⟩
     ·cases ho
     ·cases ho;exact ⟨cur,hc⟩
   have hE3:EnvOk w3 (E.setA (newA w.heap.size E.n)):=HE.out.setA hA hG3.sub (fun b h=>by have:=lt_of_heap hN3.u;have:=h.2;omega);have G3:=hid hG3;have N3:=hid hN3;have E3:=hid hE3
   have O3:=hid (show w3.ownsRow (w.heap.size + 1 + E.n + 1) 4 1 (.slice (some ⟨g,0,none⟩) (j + 1) cap) (j + 1) (bools (List.replicate j true ++ [q.isSome])) by
    have h:=hown3
    rwa [show bools (List.replicate j true) ++ [Value.bool q.isSome]=bools (List.replicate j true ++ [q.isSome]) by simp [bools]] at h)
   have HT3:=hid (show E.n=0\/ ∃b off,ta=some ⟨b,off,none⟩/\ ∀p,p < E.n->World.cell? w3 ⟨b,off + p,none⟩=some (Value.pointer (some (E.tp p))) from HTS.out.imp_right (fun h=>by obtain ⟨b,off,h1,h2⟩:=h;exact ⟨b,off,h1,fun p hp=>G3.out.cell id (h2 p hp)⟩));clear hown3 hgrow hg1 hg2 hG3 hN3 hE3 c1 c2 szb
   cases q with
   |none=>
    go_wp2_with fail
    refine (inferred_any (E:=E.setA (newA w.heap.size E.n)) E3.out N3.out ta tc HT3.out hn).mono ?_;rintro e w4 ⟨rfl,hF4,hlt4,c,hc1,hc2,hc3⟩;have F4:=hid hF4;have C1:=hid hc1;have C2:=hid hc2;have C3:=hid hc3;clear hF4 hlt4 hc1 hc2 hc3;go_wp2;go_ret2;refine ⟨_,List.replicate j true ++ [false],s2,w3.heap.size,c,rfl,G3.out.trans F4.out,?_,RX.out [false] s2 (by rw [HPS.out];exact .fail _ _ _ _ _ HQ.out),C1.out,C2.out,G3.out.size,fun p hp=>(C3.out p hp).imp fun v h=>⟨h.1,h.2.keep F4.out.sub⟩,E3.out.keep F4.out.sub,N3.out.lt⟩
    have h:=zV O3.out F4.out (fun _ _ h=>h);simpa using h
   |some s1=>
    have hs:=S2.out s1 rfl;subst hs;go_wp2;go_roundw
    case rel=>
     refine ⟨j + 1,by omega,by go_num,s2,hd2,G3.out,E3.out,N3.out,?_,HK.out s2 rfl,fun oks s' h=> ?_⟩
     ·have h:=O3.out
      rw [show List.replicate (j + 1) true=List.replicate j true ++ [true] from List.replicate_succ'];exact h
     ·rw [show List.replicate (j + 1) true ++ oks=List.replicate j true ++ true::oks by rw [List.replicate_succ'];simp]
      exact RX.out (true::oks) s' (by rw [HPS.out];exact .ok _ _ _ _ _ _ _ HQ.out h)
    case measure=>simp [intOf];omega
  ·have hle: ¬(j:Int) < L:=by omega
   have hd0:ps.drop j= []:=List.drop_of_length_le (by rw [HPL.out];omega);have HD0:=hid hd0;clear hd0;have HT3:=hid (show E.n=0\/ ∃b off,ta=some ⟨b,off,none⟩/\ ∀p,p < E.n->World.cell? WX ⟨b,off + p,none⟩=some (Value.pointer (some (E.tp p))) from HTS.out.imp_right (fun h=>by obtain ⟨b,off,h1,h2⟩:=h;exact ⟨b,off,h1,fun p hp=>FX.out.cell id (h2 p hp)⟩));go_wp2_with fail
   refine (inferred_any (E:=E.setA (newA w.heap.size E.n)) EX.out NX.out ta tc HT3.out hn).mono ?_;rintro e w4 ⟨rfl,hF4,hlt4,c,hc1,hc2,hc3⟩;have F4:=hid hF4;have C1:=hid hc1;have C2:=hid hc2;have C3:=hid hc3;clear hF4 hlt4 hc1 hc2 hc3;go_wp2;go_ret2;refine ⟨_,List.replicate j true,s,WX.heap.size,c,rfl,FX.out.trans F4.out,?_,?_,C1.out,C2.out,FX.out.size,fun p hp=>(C3.out p hp).imp fun v h=>⟨h.1,h.2.keep F4.out.sub⟩,EX.out.keep F4.out.sub,NX.out.lt⟩
   ·have h:=zV OX.out F4.out (fun _ _ h=>h)
    simpa using h
   ·have h:=RX.out [] s (by rw [HD0.out];exact .nil s)
    simpa using h
theorem yG (x:TyV)(b:Bool)(w:World)(hb:(x.k ≥ 4)=(b=true)):Calls Tryz.prog 52 #[x.val] w fun e w'=>e= .returned (.bool b)/\Fr F0 w w':=by
 have HB:=hid hb;clear hb;obtain ⟨xk,xn,xc,xv,xa,xlen,xcap,xnm⟩:=x;unfold TyV.val;dsimp only at *;go_enter Tryz.func52,Tryz.ntmps52;go_wp2;go_ret;refine ⟨yL ?_,(Fr.refl _ _).alloc _⟩;have:=HB.out;cases b <;>simp_all
theorem inner_any (m:Uni.Mode)(w:World):Calls Tryz.prog 53 #[.int .i64 (zU m)] w fun e w'=>e= .returned (.int .i64 (zU (inner m)))/\Fr F0 w w':=by
 cases m with
 |exact=>
  unfold zU inner;go_enter Tryz.func53,Tryz.ntmps53;go_wp2;go_ret;exact ⟨rfl,Fr.refl _ _⟩
 |assign=>
  unfold zU inner;go_enter Tryz.func53,Tryz.ntmps53;go_wp2;go_ret;exact ⟨rfl,Fr.refl _ _⟩
 |loose=>
  unfold zU inner;go_enter Tryz.func53,Tryz.ntmps53;go_wp2;go_ret;exact ⟨rfl,Fr.refl _ _⟩
section
variable {da:Option Addr}{dl dc:Nat}{D:zE}{ar:Nat->Nat}
theorem match_any (hD:xF dl ar D)(N:Nat)(ih:wL da dl dc D ar N)(t:Tm)(x:TyV)(m:Uni.Mode)(P:Nat)(w:World)(B:UB)(n:Nat)(st:St)(pv:Value)(r:Res)
 (hr:zX N (zI D N) st P t m=some r) (hP:P < n) (hE:UEnv da dl dc D ar w B n st pv) (hx:XIn ar dl w B n x t):
 Calls Tryz.prog 50 #[.pointer (some ⟨B.u,0,none⟩),.int .i64 P,x.val,.int .i64 (zU m)] w (xK B n (.slice da dl dc) pv w r):=by
 cases hv:st.v P with
 |none=>exact match_none N t x m P w B n st pv r hr hP hE hx hv
 |some k=>exact match_some hD N ih t k x m P w B n st pv r hr hP hE hx hv
theorem URep.joined {w:World}{B:UB}{n:Nat}{s:St}{dv pv:Value}{sil:Bool}(h:URep w B n s dv pv sil){p:Nat}(hp:p < n): ∃cj ck,
 w.heap[B.u]?=some (.cells #[dv,.slice (some ⟨B.j,0,none⟩) n cj,.slice (some ⟨B.k,0,none⟩) n ck,pv,.bool sil] 37 (0,0))/\
 w.cell? ⟨B.j,p,none⟩=some (.int .i64 (s.j p))/\s.j p < n/\B.u < w.heap.size/\B.j < w.heap.size:=by
 obtain ⟨ja,cj,ka,ck,hu,hjk⟩:=h.u;obtain ⟨rfl,rfl⟩:=hjk (by omega);obtain ⟨c2,hj,hj'⟩:=h.j (by omega);exact ⟨cj,ck,hu,(zA hj _).trans (hj' p hp),h.lt p hp,h.size.1,(h.size.2 (by omega)).1⟩
theorem unify_var_node (hD:xF dl ar D)(N:Nat)(ih:wL da dl dc D ar N)(p:Nat)(f:Lab)(ts:List Tm)(x y:TyV)(m:Uni.Mode)(w:World)(B:UB)(n:Nat)(st:St)(pv:Value)(r:Res)
 (hr:zI D (N + 1) st (.var p) (.node f ts) m=some r) (hE:UEnv da dl dc D ar w B n st pv) (hx:XIn ar dl w B n x (.var p)) (hy:XIn ar dl w B n y (.node f ts)):
 Calls Tryz.prog 35 #[.pointer (some ⟨B.u,0,none⟩),x.val,y.val,.int .i64 (zU m)] w (xK B n (.slice da dl dc) pv w r):=by
 rw [zI] at hr;have hp:=hx.h.var2;obtain ⟨cj,ck,hu,hj,hP,szu,szj⟩:=hE.U.joined hp;have MA:=hid (fun (w':World) (f':Fr F0 w w')=>match_any hD N ih (.node f ts) y m (st.j p) w' B n st pv r hr hP (hE.keep f') (hy.keep f'.sub));have kx:x.k=2:=hx.r.kind;have ky:(y.k==2)=false:=by obtain ⟨xs,_,_,_,sx⟩:=hy.r.flat;have sx:Shape y f xs:=sx;have:=sx.k;have:=sx.k2;simp;omega
 have xn:x.n=p:=by obtain ⟨xs,_,_,_,sx⟩:=hx.r.flat;exact sx.2
 have hpn:(p:Int) < n:=by omega
 have u1:=zA hu 1;have u4:=zA hu 4;clear hr hE hx hy hu ih hD hP;obtain ⟨xk,xn,xc,xv,xa,xlen,xcap,xnm⟩:=x;obtain ⟨yk,yn,yc,yv,ya,ylen,ycap,ynm⟩:=y;unfold TyV.val at *;dsimp only at *;subst kx xn;have FX:=hid (((Fr.refl F0 w).alloc (.cells #[.int .i64 2,.int .i64 p,.int .i64 xc,.bool xv,.slice xa xlen xcap,.string xnm] 26)).alloc (.cells #[.int .i64 yk,.int .i64 yn,.int .i64 yc,.bool yv,.slice ya ylen ycap,.string ynm] 26))
 go_enter Tryz.func35,Tryz.ntmps35;go_wp2;refine zP 11 (by kernel_rfl) ?_;simp only [List.take_succ_cons,List.take_zero,List.drop_succ_cons,List.drop_zero]
 repeat still_step
 refine wpStill_nil ?_;go_wp2_with fail
 refine (MA.out _ FX.out.drew).mono ?_;rintro e w2 hp2
 cases r with
 |silent=>
  obtain ⟨hf2,rfl,hU⟩:=hp2;have HF2:=hid hf2;have HU:=hid hU;clear hf2 hU;go_wp2;go_ret;exact ⟨FX.out.drew.sub.trans HF2.out,rfl,HU.out⟩
 |fail=>
  obtain ⟨hf2,rfl,hU⟩:=hp2;have HF2:=hid hf2;have HU:=hid hU;clear hf2 hU;go_wp2;go_ret;exact ⟨FX.out.drew.sub.trans HF2.out,rfl,HU.out⟩
 |ok s2=>
  obtain ⟨hf2,rfl,hU⟩:=hp2;have HF2:=hid hf2;have HU:=hid hU;clear hf2 hU;go_wp2;go_ret;exact ⟨FX.out.drew.sub.trans HF2.out,rfl,HU.out⟩
end
theorem xK.bool {B:UB}{n:Nat}{dv pv:Value}{w w1:World}{r:Res}{e:Ending}{w':World}(h:xK B n dv pv w1 r e w')(f:Fr B.M w w1):
 ∃b,e= .returned (.bool b)/\Hid (xK B n dv pv w r (.returned (.bool b)) w'):=by
 obtain ⟨hf,h⟩:=h
 cases r with
 |silent=>exact ⟨false,h.1,f.trans hf,rfl,h.2⟩
 |fail=>exact ⟨false,h.1,f.trans hf,rfl,h.2⟩
 |ok s=>exact ⟨true,h.1,f.trans hf,rfl,h.2⟩
theorem xK.keep {B:UB}{n:Nat}{dv pv:Value}{w:World}{r:Res}{e:Ending}{w1 w':World}(h:xK B n dv pv w r e w1)(f:Fr F0 w1 w'):xK B n dv pv w r e w':=by
 obtain ⟨hf,h⟩:=h;refine ⟨hf.trans f.sub,?_⟩
 cases r with
 |silent=>obtain ⟨h,s,hU⟩:=h;exact ⟨h,s,hU.keep f⟩
 |fail=>obtain ⟨h,s,hU⟩:=h;exact ⟨h,s,hU.keep f⟩
 |ok s=>exact ⟨h.1,h.2.keep f⟩
section
variable {da:Option Addr}{dl dc:Nat}{D:zE}{ar:Nat->Nat}
theorem unify_node_var (hD:xF dl ar D)(N:Nat)(ih:wL da dl dc D ar N)(p:Nat)(f:Lab)(ts:List Tm)(x y:TyV)(m:Uni.Mode)(w:World)(B:UB)(n:Nat)(st:St)(pv:Value)(r:Res)
 (hr:zI D (N + 1) st (.node f ts) (.var p) m=some r) (hE:UEnv da dl dc D ar w B n st pv) (hx:XIn ar dl w B n x (.node f ts)) (hy:XIn ar dl w B n y (.var p)):
 Calls Tryz.prog 35 #[.pointer (some ⟨B.u,0,none⟩),x.val,y.val,.int .i64 (zU m)] w (xK B n (.slice da dl dc) pv w r):=by
 rw [zI] at hr;have hp:=hy.h.var2;obtain ⟨cj,ck,hu,hj,hP,szu,szj⟩:=hE.U.joined hp;have MA:=hid (fun (w':World) (f':Fr F0 w w')=>match_any hD N ih (.node f ts) x m (st.j p) w' B n st pv r hr hP (hE.keep f') (hx.keep f'.sub));have ky:y.k=2:=hy.r.kind;have kx:(x.k==2)=false:=by obtain ⟨xs,_,_,_,sx⟩:=hx.r.flat;have sx:Shape x f xs:=sx;have:=sx.k;have:=sx.k2;simp;omega
 have kx':(x.k !=2)=true:=by rw [bne,kx];rfl
 have yn:y.n=p:=by obtain ⟨xs,_,_,_,sx⟩:=hy.r.flat;exact sx.2
 have hpn:(p:Int) < n:=by omega
 have u1:=zA hu 1;have u4:=zA hu 4;clear hr hE hx hy hu ih hD hP;obtain ⟨xk,xn,xc,xv,xa,xlen,xcap,xnm⟩:=x;obtain ⟨yk,yn,yc,yv,ya,ylen,ycap,ynm⟩:=y;unfold TyV.val at *;dsimp only at *;subst ky yn;have FX:=hid (((Fr.refl F0 w).alloc (.cells #[.int .i64 2,.int .i64 p,.int .i64 yc,.bool yv,.slice ya ylen ycap,.string ynm] 26)).alloc (.cells #[.int .i64 xk,.int .i64 xn,.int .i64 xc,.bool xv,.slice xa xlen xcap,.string xnm] 26))
 go_enter Tryz.func35,Tryz.ntmps35;go_wp2;refine zP 11 (by kernel_rfl) ?_;simp only [List.take_succ_cons,List.take_zero,List.drop_succ_cons,List.drop_zero]
 repeat still_step
 refine wpStill_nil ?_;go_wp2_with fail
 refine (MA.out _ FX.out.drew).mono ?_;rintro e w2 hp2;obtain ⟨b,rfl,HP⟩:=hp2.bool FX.out.drew.sub;clear hp2;go_wp2;go_ret;exact HP.out
theorem unify_var_var (N:Nat)(ih:wL da dl dc D ar N)(p q:Nat)(x y:TyV)(m:Uni.Mode)(w:World)(B:UB)(n:Nat)(st:St)(pv:Value)(r:Res)
 (hr:zI D (N + 1) st (.var p) (.var q) m=some r) (hE:UEnv da dl dc D ar w B n st pv) (hx:XIn ar dl w B n x (.var p)) (hy:XIn ar dl w B n y (.var q)):
 Calls Tryz.prog 35 #[.pointer (some ⟨B.u,0,none⟩),x.val,y.val,.int .i64 (zU m)] w (xK B n (.slice da dl dc) pv w r):=by
 rw [zI,yU] at hr;have hp:=hx.h.var2;have hq:=hy.h.var2;obtain ⟨cj,ck,hu,hj,hP,szu,szj⟩:=hE.U.joined hp;obtain ⟨_,_,_,hj',hQ,_,_⟩:=hE.U.joined hq;obtain ⟨_,_,Y1,_,k0,⟨a0,a1,a2,a3,a4,a5⟩,hk1,_,szk⟩:=hE.U.known hP;obtain ⟨_,_,Y2,_,l0,⟨d0,d1,d2,d3,d4,d5⟩,hk2,_,_⟩:=hE.U.known hQ;have JO:=hid (fun (w':World) (f':Fr F0 w w')=>join_any N (st.j p) (st.j q) w' B n st (.slice da dl dc) pv false hP hQ (hE.U.keep f'))
 have kx:x.k=2:=hx.r.kind;have ky:y.k=2:=hy.r.kind;have xn:x.n=p:=by obtain ⟨xs,_,_,_,sx⟩:=hx.r.flat;exact sx.2
 have yn:y.n=q:=by obtain ⟨xs,_,_,_,sx⟩:=hy.r.flat;exact sx.2
 have hpn:(p:Int) < n:=by omega
 have hqn:(q:Int) < n:=by omega
 have hPn:(st.j p:Int) < n:=by omega
 have hQn:(st.j q:Int) < n:=by omega
 have u1:=zA hu 1;have u2:=zA hu 2;have u4:=zA hu 4;have HE:=hid hE;have IH:=hid ih;have HR:=hid hr;have HK1:=hid hk1;have HK2:=hid hk2;clear hr hE hx hy hu ih hk1 hk2;obtain ⟨xk,xn,xc,xv,xa,xlen,xcap,xnm⟩:=x;obtain ⟨yk,yn,yc,yv,ya,ylen,ycap,ynm⟩:=y;unfold TyV.val at *;dsimp only at *;subst kx xn ky yn;have FX:=hid (((Fr.refl F0 w).alloc (.cells #[.int .i64 2,.int .i64 p,.int .i64 xc,.bool xv,.slice xa xlen xcap,.string xnm] 26)).alloc (.cells #[.int .i64 2,.int .i64 q,.int .i64 yc,.bool yv,.slice ya ylen ycap,.string ynm] 26))
 by_cases hPQ:st.j p=st.j q
 ·have e1:((st.j p:Int)==st.j q)=true:=by rw [hPQ];simp
  have hr:r= .ok st:=by have:=HR.out;rw [if_pos hPQ] at this;exact (Option.some.inj this).symm
  subst hr;clear hPQ;go_enter Tryz.func35,Tryz.ntmps35;go_wp2;go_quiet (fail);go_wp2;go_ret;exact ⟨(FX.out.drawn _).sub,rfl,HE.out.U.keep (FX.out.drawn _)⟩
 ·have e1:((st.j p:Int)==st.j q)=false:=by simp;omega
  have hr:=HR.out;rw [if_neg hPQ] at hr;clear hPQ
  cases hv1:st.v (st.j p) with
  |none=>
   rw [hv1] at k0 hr
   have hcj:(∀t,st.v (st.j p)=some t∨st.v (st.j q)=some t→xI N st t (st.j p)=some false∧xI N st t (st.j q)=some false)∧r= .ok (st.join (st.j p) (st.j q)):=by
    cases hv2:st.v (st.j q) with
    |none=>rw [hv2] at hr;exact ⟨fun t h=>by rw [hv1] at h;simp at h,(Option.some.inj hr).symm⟩
    |some u=>
     rw [hv2] at hr;dsimp only at hr
     split at hr
     ·refine ⟨fun t h=> ?_,(Option.some.inj hr).symm⟩
      rw [hv1] at h;simp at h;subst h;assumption
     ·cases hr
   obtain ⟨hc,rfl⟩:=hcj;have J2:=hid (fun (w':World) (f':Fr F0 w w')=>JO.out w' f' (.inl hv1) hc);clear hr hc JO hv1;go_enter Tryz.func35,Tryz.ntmps35;go_wp2;go_quiet (fail);go_wp2_with fail
   refine (J2.out _ (FX.out.drawn _)).mono ?_;rintro e w2 ⟨rfl,hU,hf2⟩;have HU:=hid hU;have HF:=hid hf2;clear hU hf2;go_wp2;go_ret;exact ⟨(FX.out.drawn _).sub.trans HF.out,rfl,HU.out⟩
  |some t1=>
   rw [hv1] at k0 hr
   cases hv2:st.v (st.j q) with
   |none=>
    rw [hv2] at l0 hr
    have hcj:(∀t,st.v (st.j p)=some t∨st.v (st.j q)=some t→xI N st t (st.j p)=some false∧xI N st t (st.j q)=some false)∧r= .ok (st.join (st.j p) (st.j q)):=by
     dsimp only at hr
     split at hr
     ·refine ⟨fun t h=> ?_,(Option.some.inj hr).symm⟩
      rw [hv1,hv2] at h;simp at h;subst h;assumption
     ·cases hr
    obtain ⟨hc,rfl⟩:=hcj;have J2:=hid (fun (w':World) (f':Fr F0 w w')=>JO.out w' f' (.inr hv2) hc);clear hr hc JO hv1 hv2;go_enter Tryz.func35,Tryz.ntmps35;go_wp2;go_quiet (fail);go_wp2_with fail
    refine (J2.out _ (FX.out.drawn _)).mono ?_;rintro e w2 ⟨rfl,hU,hf2⟩;have HU:=hid hU;have HF:=hid hf2;clear hU hf2;go_wp2;go_ret;exact ⟨(FX.out.drawn _).sub.trans HF.out,rfl,HU.out⟩
   |some t2=>
    rw [hv2] at l0 hr;have X1:=hid (show XIn ar dl w B n Y1 t1 from ⟨(HK1.out t1 hv1).1,HE.out.g _ _ hv1,(HK1.out t1 hv1).2⟩);have X2:=hid (show XIn ar dl w B n Y2 t2 from ⟨(HK2.out t2 hv2).1,HE.out.g _ _ hv2,(HK2.out t2 hv2).2⟩);have HR2:=hid hr;clear hr JO hv1 hv2;go_enter Tryz.func35,Tryz.ntmps35;go_wp2;go_quiet (fail);go_wp2_with fail
    refine zP 18 (by kernel_rfl) ?_;simp only [List.take_succ_cons,List.take_zero,List.drop_succ_cons,List.drop_zero]
    repeat still_step
    refine wpStill_nil ?_;go_wp2_with fail
    refine (IH.out t1 t2 Y1 Y2 m _ B n st pv r HR2.out (HE.out.keep (FX.out.drawn _).drew) (X1.out.keep (FX.out.drawn _).drew.sub) (X2.out.keep (FX.out.drawn _).drew.sub)).mono ?_;rintro e w2 hp2;obtain ⟨b,rfl,HP⟩:=hp2.bool (FX.out.drawn _).drew.sub;clear hp2;go_wp2;go_ret;exact HP.out
end
end Go.Proofs.YtpekidjfbinekaaGreatDoor
