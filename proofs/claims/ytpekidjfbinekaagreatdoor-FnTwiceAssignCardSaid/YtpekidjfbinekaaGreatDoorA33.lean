/- W25, W26, W29 -/
import Derived.ArgAppend
import Derived.Test.YtpekidjfbinekaaGreatDoorA32
set_option maxRecDepth 100000
set_option maxHeartbeats 60000000
set_option linter.all false
namespace Go.Proofs.YtpekidjfbinekaaGreatDoor
open Go.RowKit Uni
section
variable {da:Option Addr}{dl dc:Nat}{D:zE}{ar:Nat->Nat}
theorem MRep.val {w:World}{B:MB}{n:Nat}{M:Mg}{fuel:Int}{dv:Value}(h:MRep ar dl w B n M fuel dv): ∀p,p < n-> ∃c u,w.heap[B.v]?=some (.cells c 24 (0,0))/\c[p]?=some u/\ValsAt ar dl w B n u (M.vals p):=by
 intro p hp;obtain ⟨c,h1,h2⟩:=h.v (by omega);obtain ⟨u,h3,h4⟩:=h2 p hp;exact ⟨c,u,h1,h3,h4⟩
theorem MRep.unite {w wf:World}{B:MB}{n:Nat}{M:Mg}{fuel fuel':Int}{dv u:Value}{p q:Nat}(h:MRep ar dl w B n M fuel dv)(hp:p < n)(hq:q < n)(hne:M.cls p≠M.cls q)(F:Fr B.M w wf)(hlo: -4611686018427387904<=fuel')(hf:fuel'<=fuel)
 {cc vc:Nat} (hm:wf.heap[B.m]?=some (.cells #[dv,.slice (some ⟨B.c,0,none⟩) n cc,.slice (some ⟨B.v,0,none⟩) n vc,.int .i64 fuel'] 80 (0,0)))
 {c:Array Value} (hc:wf.heap[B.c]?=some (.cells c 3 (0,0))) (hc': ∀k,k < n->c[k]?=some (.int .i64 ((M.unite (M.cls p) (M.cls q)).cls k:Nat)))
 {cv:Array Value} (hv0:w.heap[B.v]?=some (.cells cv 24 (0,0))) (hv:wf.heap[B.v]?=some (.cells (cv.setIfInBounds (M.cls p) u) 24 (0,0))) (hu:ValsAt ar dl wf B n u (M.vals (M.cls p) ++ M.vals (M.cls q))):
 MRep ar dl wf B n (M.unite (M.cls p) (M.cls q)) fuel' dv:=by
 obtain ⟨hm0,hcc,hvv,h1,h2,h3,⟨k,h4,h4',h4''⟩,h5,h6,h7⟩:=h;obtain ⟨cv',e,hval⟩:=hvv (by omega);rw [hv0] at e;have e:cv=cv':=by cases e;rfl
 subst e;refine ⟨⟨_,_,_,_,hm,fun _=>⟨rfl,rfl⟩⟩,fun _=>⟨c,hc,hc'⟩,fun _=>⟨_,hv,fun r hr=> ?_⟩,fun r hr=> ?_,h2,h3,⟨k,h4.unite hp hq hne,h4',by omega⟩,hlo,⟨Nat.lt_of_lt_of_le h6.1 F.size,fun hn=>⟨Nat.lt_of_lt_of_le (h6.2 hn).1 F.size,Nat.lt_of_lt_of_le (h6.2 hn).2 F.size⟩⟩,fun b hb=>Nat.lt_of_lt_of_le (h7 b hb) F.size⟩
 ·obtain ⟨u0,a,b⟩:=hval r hr
  rw [Array.getElem?_setIfInBounds]
  have hs:M.cls p < cv.size:=by
   obtain ⟨_,a,_⟩:=hval (M.cls p) (h1 p hp);exact (Array.getElem?_eq_some_iff.1 a).1
  by_cases hr':M.cls p=r
  ·rw [if_pos hr',if_pos hs]
   exact ⟨u,rfl,by simp only [Mg.unite,if_pos hr'.symm];exact hu⟩
  ·rw [if_neg hr']
   exact ⟨u0,a,by simp only [Mg.unite,if_neg (Ne.symm hr')];exact b.keep F⟩
 ·simp only [Mg.unite]
  split
  ·exact h1 p hp
  ·exact h1 r hr
theorem merge_union (F:Nat)(ih:MStep da dl dc D ar F)(p q:Nat)(x y:TyV)(w:World)(B:MB)(n:Nat)(M:Mg)(fuel:Int)(hF:fuel<=F + 1)(hF2:F + 1<=20000)(hf2:2<=fuel)
 (hM:MRep ar dl w B n M fuel (.slice da dl dc)) (hd:DRep w B.M da dl D ar) (hx:YIn ar dl w B n x (.var p)) (hy:YIn ar dl w B n y (.var q)) (hpq:M.cls p≠M.cls q):
 Calls Tryz.prog 47 #[.pointer (some ⟨B.m,0,none⟩),x.val,y.val] w (MPost ar dl D B n (.slice da dl dc) w M fuel (.var p) (.var q)):=by
 have NM:=hid (fun b (h:w.heap.size<=b) (hb:B.M b)=>(Nat.not_lt.2 h (hM.below b hb):False));have hp:=hx.h.var2;have hq:=hy.h.var2;obtain ⟨cc,vc,hu,hcp,hP,szm,szc,szv,n1,n2,n3⟩:=hM.cls hp;obtain ⟨_,_,_,hcq,hQ,_⟩:=hM.cls hq;have kx:x.k=2:=hx.r.kind;have ky:y.k=2:=hy.r.kind;have xn:x.n=p:=by obtain ⟨xs,_,_,_,sx⟩:=hx.r.flat;exact sx.2
 have yn:y.n=q:=by obtain ⟨xs,_,_,_,sx⟩:=hy.r.flat;exact sx.2
 have hpn:(p:Int) < n:=by omega
 have hqn:(q:Int) < n:=by omega
 have qm:=zA hu;have fm:=zC hu;have HU:=hid hu;have NN1:=hid n1;have NN2:=hid n2;have NN3:=hid n3;obtain ⟨c0,hc0,hc0'⟩:=hM.c (by omega);have HC0:=hid hc0;have HC0':=hid hc0';have hn8:=hM.n8;have HM:=hid hM;have HPQ:=hid hpq;have HD:=hid hd;have IH:=hid ih;have hne:((M.cls q:Int)==M.cls p)=false:=beq_eq_false_iff_ne.2 (fun h=>hpq (by omega));clear hM hx hy hu hpq hd ih hc0 hc0';obtain ⟨xk,xn,xc,xv,xa,xlen,xcap,xnm⟩:=x
 obtain ⟨yk,yn,yc,yv,ya,ylen,ycap,ynm⟩:=y;unfold TyV.val at *;dsimp only at *;subst kx xn ky yn;have hle0: ¬(fuel - 1<=0):=by omega
 go_enter Tryz.func47,Tryz.ntmps47;go_wp2;go_quiet (fail);go_wp2;clear hcp hcq
 go_loopw [8,9,72] (fun _ _ i wr=> ∃(j:Nat) (c:Array Value),j≤n∧i= .int .i64 j∧Fr (fun b=>b=B.m∨b=B.c) w wr∧
  wr.heap[B.m]?=some (.cells #[.slice da dl dc,.slice (some ⟨B.c,0,none⟩) n cc,.slice (some ⟨B.v,0,none⟩) n vc,.int .i64 (fuel - 1)] 80 (0,0))/\
  wr.heap[B.c]?=some (.cells c 3 (0,0))/\ ∀k,k < n->c[k]?=some (.int .i64 (if k < j then (M.unite (M.cls q) (M.cls p)).cls k else M.cls k:Nat))) (fun _ _ i _=>n - (intOf i).toNat)
 case atStart=>
  refine ⟨0,c0,Nat.zero_le _,rfl,((((Fr.refl _ w).setCell (p:=⟨B.m,3,none⟩) (.inl (.inl rfl)) _).alloc _).alloc _).drawn _,((((Fr.refl F0 _).alloc _).alloc _).drawn _).heap id (heap_setCell (a:=⟨B.m,3,none⟩) HU.out rfl),(((((Fr.refl (fun b=>b=B.m) w).setCell (p:=⟨B.m,3,none⟩) (.inl rfl) _).alloc _).alloc _).drawn _).heap (Ne.symm NN1.out) HC0.out,fun k hk=> ?_⟩;rw [if_neg (Nat.not_lt_zero k)];exact HC0'.out k hk
 case round=>
  obtain ⟨j,c,hj,rfl,hF1,hbm,hbc,hcc⟩:=hrel;have HF1:=hid hF1;have BM:=hid hbm;have BC:=hid hbc;have CC:=hid hcc;have qm:=zA hbm;have szm1:B.m < wr.heap.size:=bl (qm 0);clear hF1 hbm hcc;by_cases hlt:j < n
  ·have qc:=(zA BC.out j).trans (CC.out j hlt)
   rw [if_neg (Nat.lt_irrefl j)] at qc;have fc:=zC BC.out j;have szc1:B.c < wr.heap.size:=World.block_lt_of_cell? _ _ qc;have hjn:(j:Int) < n:=by omega
   clear hbc;by_cases hcl:M.cls j=M.cls p
   ·have f1:((M.cls j:Int)==M.cls p)=true:=beq_iff_eq.2 (by omega)
    have CL:=hid hcl;clear hcl;go_wp2;go_roundw
    case rel=>
     refine ⟨j + 1,c.setIfInBounds j (.int .i64 (M.cls q)),by omega,by go_num,HF1.out.setCell (.inl (.inr rfl)) _,((Fr.refl (fun b=>b=B.c) wr).setCell (p:=⟨B.c,j,none⟩) (.inl rfl) _).heap NN1.out BM.out,heap_setCell (a:=⟨B.c,j,none⟩) BC.out rfl,fun k hk=> ?_⟩;have hcs:j < c.size:=(Array.getElem?_eq_some_iff.1 (CC.out j hlt)).1;rw [Array.getElem?_setIfInBounds];by_cases hjk:j=k
     ·subst hjk
      rw [if_pos rfl,if_pos hcs,if_pos (Nat.lt_succ_self j)];simp only [Mg.unite,if_pos CL.out]
     ·rw [if_neg hjk,CC.out k hk]
      by_cases hkl:k < j
      ·rw [if_pos hkl,if_pos (by omega)]
      ·rw [if_neg hkl,if_neg (by omega)]
    case measure=>simp [intOf];omega
   ·have f1:((M.cls j:Int)==M.cls p)=false:=beq_eq_false_iff_ne.2 (fun h=>hcl (by omega))
    have CL:=hid hcl;clear hcl;go_wp2;go_roundw
    case rel=>
     refine ⟨j + 1,c,by omega,by go_num,HF1.out,BM.out,BC.out,fun k hk=> ?_⟩;rw [CC.out k hk];by_cases hjk:j=k
     ·subst hjk
      rw [if_neg (Nat.lt_irrefl j),if_pos (Nat.lt_succ_self j)];simp only [Mg.unite,if_neg CL.out]
     ·by_cases hkl:k < j
      ·rw [if_pos hkl,if_pos (by omega)]
      ·rw [if_neg hkl,if_neg (by omega)]
    case measure=>simp [intOf];omega
  ·have hjn: ¬(j:Int) < n:=by omega
   have hjn':n=j:=by omega
   subst hjn';have CC':=hid (fun k hk=>(CC.out k hk).trans (by rw [if_pos hk]): ∀k,k < n->c[k]?=some (.int .i64 ((M.unite (M.cls q) (M.cls p)).cls k:Nat)));clear CC hbc;obtain ⟨cv,uP,hv0,gP,VP⟩:=HM.out.val (M.cls q) hQ;obtain ⟨cv',uQ,hv0',gQ,VQ⟩:=HM.out.val (M.cls p) hP;have ecv:cv'=cv:=by rw [hv0] at hv0';cases hv0';rfl
   subst ecv;clear hv0';have FV:=hid (HF1.out.heap (b:=B.v) (fun h=>by rcases h with h | h;exact NN2.out h.symm;exact NN3.out h.symm) hv0);have HV0:=hid hv0;have VPH:=hid VP;have VQH:=hid VQ;obtain ⟨aP,capP,xsP,rfl,eP,lP,leP,mxP,nilP,yP⟩:=VP;obtain ⟨aQ,capQ,xsQ,rfl,eQ,lQ,leQ,mxQ,nilQ,yQ⟩:=VQ;have EP:=hid eP;have EQ:=hid eQ;have LP:=hid lP;have LQ:=hid lQ;have YP:=hid yP;have YQ:=hid yQ;have NP:=hid nilP;have NQ:=hid nilQ
   clear eP eQ lP lQ yP yQ nilP nilQ hv0;have qP:=(zA FV.out (M.cls q)).trans gP;have qQ:=(zA FV.out (M.cls p)).trans gQ;have GP:=hid gP;clear gP gQ;have szv1:B.v < wr.heap.size:=World.block_lt_of_cell? _ _ qP;have hPn:((M.cls q:Nat):Int) < n:=by omega
   have hQn:((M.cls p:Nat):Int) < n:=by omega
   go_wp2;go_quiet (fail);have F1:=hid ((Fr.refl F0 wr).drawn nq);generalize hWX:wr.drewN nq=WX;rw [hWX] at F1;go_wp2;have M1:=hid (F1.out.heap (b:=B.m) id BM.out);have V1:=hid (F1.out.heap (b:=B.v) id FV.out);have C1:=hid (F1.out.heap (b:=B.c) id BC.out);have NB:=hid (show B.m < w.heap.size/\B.c < w.heap.size/\B.v < w.heap.size from ⟨szm,szc,szv⟩);have SZ:=hid (show w.heap.size<=WX.heap.size from Nat.le_trans HF1.out.size F1.out.size)
   clear hWX qP qQ qm szm szc szv szm1 szv1 fm;refine zG (Fr F0 WX) [(0,true),(1,true),(2,true),(3,true),(4,true),(5,true),(7,true),(6,false),(8,false),(9,false),(10,false)] [9,10] yE (by kernel_rfl) (by kernel_rfl) (by kernel_rfl) (by decide) ?_
   iterate 7
    (refine zH _ rfl (Fr.refl _ _).drew (fun w' hS=>by
     have q0:=zA (hS.heap (b:=B.m) id M1.out);have szu:=bl (q0 0);clear hS;go_simp;rfl) ?_)
   go_simp;refine zB rfl ?_;have FBM:=hid ((HF1.out.mono (fun b _ hb=>by rcases hb with hb | hb;exact .inl hb;exact .inr (.inl hb)):Fr B.M w wr).trans F1.out.sub);obtain ⟨kw,kw1,kw2,_⟩:=HM.out.wt;have LNP:=hid (Nat.le_trans (kw1.len hq) kw2);have LNQ:=hid (Nat.le_trans (kw1.len hp) kw2);clear kw1 kw2;refine wpList_app rfl _ _ rfl WX.heap.size (.slice none 0 0) [] rfl (World.ownsRow_nil _ _ _ _) (fun _=>rfl) B.M aP (M.vals (M.cls q)).length capP xsP rfl (EP.out.keep FBM.out.drew) LP.out (by have:=LNP.out;simp;omega) (Nat.le_refl _) ?_
   intro v1 w1 hown1 hnil1 hgrow1 hblk1;rw [List.nil_append] at hown1 hnil1;have OW1:=hid hown1;have NL1:=hid hnil1;have BK1:=hid (fun g (h:v1.ownBlock=some g)=>(by rcases hblk1 g h with h | h;cases h;rw [h];exact Nat.le_refl _:WX.heap.size<=g));have FS1:=hid (((Fr.refl F0 WX).drew).transNew (Fr.of_grown hgrow1) (fun x hx=>by cases hx));clear hown1 hnil1 hgrow1 hblk1;go_wp2;refine And.intro (fun _=>FS1.out) ?_
   refine zB rfl ?_;refine wpList_app rfl _ _ rfl WX.heap.size v1 xsP rfl OW1.out NL1.out B.M aQ (M.vals (M.cls p)).length capQ xsQ rfl (EQ.out.keep (FBM.out.trans FS1.out.sub)) LQ.out (by have:=LNP.out;have:=LNQ.out;have:=LP.out;omega) FS1.out.size ?_;intro v2 w2 hown2 hnil2 hgrow2 hblk2;have FS2:=hid (FS1.out.transNew (Fr.of_grown hgrow2) (fun x hx=> .inr (BK1.out x hx)));have BK2:=hid (fun g (h:v2.ownBlock=some g)=>(by rcases hblk2 g h with h | h;exact BK1.out g h;rw [h];exact FS1.out.size:WX.heap.size<=g))
   obtain ⟨a2,cap2,rfl,e2,le2,mx2⟩:=OwnT.elems hown2 B.M (fun g hg hb=>NM.out g (Nat.le_trans SZ.out (BK2.out g hg)) hb);have LN2:=hid (show (xsP ++ xsQ).length=(M.vals (M.cls q) ++ M.vals (M.cls p)).length by rw [List.length_append,List.length_append,LP.out,LQ.out]);have E2:=hid e2;have NL2:=hid hnil2;clear hown2 hnil2 hgrow2 hblk2 e2;obtain ⟨L2,hL2⟩: ∃L2,L2=(xsP ++ xsQ).length:=⟨_,rfl⟩;rw [<-hL2] at NL2 LN2 le2
   rw [<-hL2];have LL2:=hid hL2;clear hL2;go_wp2;refine And.intro (fun _=>FS2.out) ?_;refine zB rfl ?_;go_wp2;refine And.intro (fun h=>absurd h (by decide)) ?_;refine zB rfl ?_;have V2:=hid (FS2.out.heap (b:=B.v) id V1.out);have q3:=(zA V2.out (M.cls q)).trans GP.out;have f3:=zC V2.out (M.cls q);go_wp2;refine And.intro (fun h=>absurd h (by decide)) ?_;refine zO (NoPanic.normal ?_);clear q3 f3
   have hMU:MRep ar dl (w2.setCell ⟨B.v,M.cls q,none⟩ (.slice a2 L2 cap2)) B n (M.unite (M.cls q) (M.cls p)) (fuel - 1) (.slice da dl dc):=by
    have F:Fr B.M w w2:=FBM.out.trans FS2.out.sub;have F':Fr B.M w (w2.setCell ⟨B.v,M.cls q,none⟩ (.slice a2 L2 cap2)):=F.setCell (.inl (.inr (.inr rfl))) _;have F2:Fr (fun b=>b=B.v) w2 (w2.setCell ⟨B.v,M.cls q,none⟩ (.slice a2 L2 cap2)):=(Fr.refl (fun b=>b=B.v) w2).setCell (.inl rfl) _;refine HM.out.unite hq hp (Ne.symm HPQ.out) F' (by omega) (by omega) (F2.heap NN2.out (FS2.out.heap id M1.out)) (F2.heap NN3.out (FS2.out.heap id C1.out)) CC'.out HV0.out (heap_setCell (a:=⟨B.v,M.cls q,none⟩) V2.out rfl) ?_
    have l2:=LN2.out;refine ⟨a2,cap2,xsP ++ xsQ,by rw [<-l2],E2.out.keep ((Fr.refl B.M w2).setCell (p:=⟨B.v,M.cls q,none⟩) (.inl (.inr (.inr rfl))) _),by rw [<-l2,LL2.out],by rw [<-l2];exact le2,mx2,fun h=> ?_,fun i y t hy ht=> ?_⟩
    ·have:=NL2.out (List.eq_nil_of_length_eq_zero (by rw [←LL2.out,l2,h];rfl))
     injection this with e1 e2 e3
     exact ⟨e1,e3⟩
    ·have lp:=LP.out
     by_cases hi:i < xsP.length
     ·rw [List.getElem?_append_left hi] at hy
      rw [List.getElem?_append_left (by omega)] at ht;exact (YP.out i y t hy ht).keep F'
     ·rw [List.getElem?_append_right (by omega)] at hy
      rw [List.getElem?_append_right (by omega),<-lp] at ht;exact (YQ.out _ y t hy ht).keep F'
   have HMU:=hid hMU;clear hMU;have FY:=hid ((FBM.out.trans FS2.out.sub).setCell (p:=⟨B.v,M.cls q,none⟩) (.inl (.inr (.inr rfl))) (.slice a2 L2 cap2));go_wp2;have hfu:fuel<=20000:=by omega
   generalize hWY:w2.setCell ⟨B.v,M.cls q,none⟩ (.slice a2 L2 cap2)=WY;rw [hWY] at HMU FY;clear hWY;have lnp:=LNP.out;have lnq:=LNQ.out
   go_loopw [114] (fun i wr=> ∃(j:Nat) (M':Mg) (f':Int),j≤(M.vals (M.cls q)).length∧i= .int .i64 j∧MRep ar dl wr B n M' f' (.slice da dl dc)∧Fr B.M w wr∧Burning fuel (j * (M.vals (M.cls p)).length) f'∧
    (0 < f'->Run D (M.unite (M.cls q) (M.cls p)) M' (fun u v=> ∃(i k:Nat),i < j/\(M.vals (M.cls q))[i]?=some u/\(M.vals (M.cls p))[k]?=some v))) (fun i _=>(M.vals (M.cls q)).length - (intOf i).toNat)
   case atStart=>exact ⟨0,_,fuel - 1,Nat.zero_le _,rfl,HMU.out,FY.out,by rw [Nat.zero_mul];exact Burning.start (by omega),fun _=>(Run.refl D _).mono fun _ _ h=>by obtain ⟨i,k,hi,_⟩:=h;omega⟩
   case round=>
    obtain ⟨W1,rfl⟩: ∃W1:World,W1=wr:=⟨wr,rfl⟩;obtain ⟨j,M1,f1,hj,rfl,hM1,hF1,hb1,hR1⟩:=hrel;have HM1:=hid hM1;have HF:=hid hF1;have HB:=hid hb1;have HR:=hid hR1;clear hM1 hF1 hb1 hR1;by_cases hlt:j < (M.vals (M.cls q)).length
    ·obtain ⟨X,b1,o1,gX,rfl,e1⟩:=EP.out.elem (show j < xsP.length by rw [LP.out];omega)
     have e1:=e1.keep HF.out;obtain ⟨_,a0,a1,a2,a3,a4,a5⟩:=e1;have hb1:b1 < W1.heap.size:=World.block_lt_of_cell? _ _ a0;have hle:(j:Int) < (M.vals (M.cls q)).length:=by omega
     have GX:=hid gX;clear gX;obtain ⟨t,ht⟩: ∃t,(M.vals (M.cls q))[j]?=some t:=⟨(M.vals (M.cls q))[j]'hlt,by simp [hlt]⟩;have T:=hid ht;clear ht;go_wp2
     go_loopw [120] (fun i WW2=> ∃(k:Nat) (M':Mg) (f':Int),k≤(M.vals (M.cls p)).length∧i= .int .i64 k∧MRep ar dl WW2 B n M' f' (.slice da dl dc)∧Fr B.M W1 WW2∧
      WW2.heap[W1.heap.size]?=some (.cells #[.int .i64 X.k,.int .i64 X.n,.int .i64 X.c,.bool X.v,.slice X.a X.len X.cap,.string X.nm] 26 (0,0))/\Burning fuel (j * (M.vals (M.cls p)).length + k) f'/\
      (0 < f'->Run D (M.unite (M.cls q) (M.cls p)) M' (fun u v=>(∃(i k:Nat),i < j/\(M.vals (M.cls q))[i]?=some u/\(M.vals (M.cls p))[k]?=some v)\/ ∃(i:Nat),i < k/\u=t/\(M.vals (M.cls p))[i]?=some v))) (fun i _=>(M.vals (M.cls p)).length - (intOf i).toNat)
     case atStart=>exact ⟨0,M1,f1,Nat.zero_le _,rfl,HM1.out.keep ((Fr.refl F0 _).alloc _),(Fr.refl B.M _).alloc _,heap_alloc_new _ _,HB.out,fun h0=>(HR.out h0).mono fun _ _ h=>by rcases h with h | ⟨i,hi,_⟩;exact h;omega⟩
     case round=>
      clear a0 a1 a2 a3 a4 a5;obtain ⟨k,M2,f2,hk,rfl,hM2,hF2,hX2,hb2,hR2⟩:=hrel;have HM2:=hid hM2;have HF2:=hid hF2;have HX2:=hid hX2;have HB2:=hid hb2;have HR2:=hid hR2;clear hM2 hF2 hX2 hb2 hR2;by_cases hlt2:k < (M.vals (M.cls p)).length
      ·obtain ⟨Y,b2,o2,gY,rfl,e2⟩:=EQ.out.elem (show k < xsQ.length by rw [LQ.out];omega)
       have e2:=(e2.keep HF.out).keep HF2.out;obtain ⟨_,d0,d1,d2,d3,d4,d5⟩:=e2;have hb2:b2 < wr.heap.size:=World.block_lt_of_cell? _ _ d0;have qx:=zA HX2.out;have szx:=bl (qx 0);dsimp only at szx;have hle2:(k:Int) < (M.vals (M.cls p)).length:=by omega
       have GY:=hid gY;clear gY;obtain ⟨u,hu⟩: ∃u,(M.vals (M.cls p))[k]?=some u:=⟨(M.vals (M.cls p))[k]'hlt2,by simp [hlt2]⟩;have U:=hid hu;clear hu;have KB:=hid (show j * (M.vals (M.cls p)).length + k<=20000 * 20000 + 20000 from Nat.add_le_add (Nat.mul_le_mul (by omega) lnq) (by omega));have LO:=hid (show -90000000000000000<=f2 by have:=HB2.out.low;have:=HB2.out.less;have:=KB.out;omega);have HI:=hid (show f2<=F by have:=HB2.out.less;omega)
       go_wp2_with fail
       refine (IH.out t u X Y _ B n M2 f2 HI.out (by omega) LO.out (HM2.out.keep ((Fr.refl F0 _).alloc _)) (HD.out.keep ((HF.out.trans HF2.out).alloc _)) ((YP.out j X t GX.out T.out).keep ((HF.out.trans HF2.out).alloc _)) ((YQ.out k Y u GY.out U.out).keep ((HF.out.trans HF2.out).alloc _))).mono ?_;rintro e w3 ⟨rfl,M3,f3,hM3,hF3,hB3,hR3⟩;have HM3:=hid hM3;have HF3:=hid hF3;have HB3:=hid hB3;have HR3:=hid hR3
       clear hM3 hF3 hB3 hR3;go_wp2;go_roundw
       case rel=>
        refine ⟨k + 1,M3,f3,by omega,by go_num,HM3.out,(HF2.out.alloc _).trans HF3.out,HF3.out.heap (fun hb=>NM.out _ HF.out.size hb) ((Below.heap_alloc _ _ _ szx).trans HX2.out),HB2.out.step (by omega) HB3.out,fun h0=> ?_⟩;refine ((HR2.out (by have:=HB3.out.less;omega)).step (HR3.out h0)).mono fun a b hab=> ?_
        rcases hab with hab | ⟨i,hi,h1,h2⟩
        ·exact .inl (.inl hab)
        ·by_cases hij:i=k
         ·subst hij
          rw [U.out] at h2;exact .inr ⟨h1,(Option.some.inj h2).symm⟩
         ·exact .inl (.inr ⟨i,by omega,h1,h2⟩)
       case measure=>simp [intOf];omega
      ·have hge2: ¬(k:Int) < (M.vals (M.cls p)).length:=by omega
       have hkl:k=(M.vals (M.cls p)).length:=by omega
       go_wp2;go_roundw
       case rel=>
        refine ⟨j + 1,M2,f2,by omega,by go_num,HM2.out,HF.out.trans HF2.out,by rw [Nat.succ_mul];have h:=HB2.out;rw [hkl] at h;exact h,fun h0=>(HR2.out h0).mono fun a b hab=> ?_⟩;obtain ⟨i,k',hi,h1,h2⟩:=hab;by_cases hij:i=j
        ·subst hij
         rw [T.out] at h1;exact .inr ⟨k',by have:=(List.getElem?_eq_some_iff.1 h2).1;omega,(Option.some.inj h1).symm,h2⟩
        ·exact .inl ⟨i,k',by omega,h1,h2⟩
       case measure=>simp [intOf];omega
    ·have hge: ¬(j:Int) < (M.vals (M.cls q)).length:=by omega
     have hjl:j=(M.vals (M.cls q)).length:=by omega
     go_wp2;refine bodyPost_ret (v:= .tuple #[]) (results_none rfl _ _ _) rfl ?_;have KB:=hid (show j * (M.vals (M.cls p)).length<=20000 * 20000 from Nat.mul_le_mul (by omega) lnq);refine ⟨rfl,M1,f1,HM1.out,HF.out,HB.out.done (by omega) (by have:=KB.out;omega),fun h0=>(merged_unite (HR.out h0) (fun a ha b hb=> ?_)).swap⟩;obtain ⟨i,hi,hi'⟩:=List.mem_iff_getElem.1 ha;obtain ⟨k,hk,hk'⟩:=List.mem_iff_getElem.1 hb
     exact ⟨i,k,by omega,by simp [hi,hi'],by simp [hk,hk']⟩
end
section
variable {da:Option Addr}{dl dc:Nat}{D:zE}{ar:Nat->Nat}
theorem MRep.put {w wf:World}{B:MB}{n:Nat}{M:Mg}{fuel fuel':Int}{dv u:Value}{p:Nat}{t:Tm}(h:MRep ar dl w B n M fuel dv)(hp:p < n)(F:Fr B.M w wf)(hlo: -4611686018427387904<=fuel')(hf0:0<=fuel')(hf:fuel'<=fuel - 1)
 {cc vc:Nat} (hm:wf.heap[B.m]?=some (.cells #[dv,.slice (some ⟨B.c,0,none⟩) n cc,.slice (some ⟨B.v,0,none⟩) n vc,.int .i64 fuel'] 80 (0,0)))
 {c:Array Value} (hc:wf.heap[B.c]?=some (.cells c 3 (0,0))) (hc': ∀k,k < n->c[k]?=some (.int .i64 (M.cls k)))
 {cv:Array Value} (hv0:w.heap[B.v]?=some (.cells cv 24 (0,0))) (hv:wf.heap[B.v]?=some (.cells (cv.setIfInBounds (M.cls p) u) 24 (0,0))) (hu:ValsAt ar dl wf B n u (M.vals (M.cls p) ++ [t])):
 MRep ar dl wf B n (M.put (M.cls p) t) fuel' dv:=by
 obtain ⟨hm0,hcc,hvv,h1,h2,h3,⟨k,h4,h4',h4''⟩,h5,h6,h7⟩:=h;obtain ⟨cv',e,hval⟩:=hvv (by omega);rw [hv0] at e;have e:cv=cv':=by cases e;rfl
 subst e;refine ⟨⟨_,_,_,_,hm,fun _=>⟨rfl,rfl⟩⟩,fun _=>⟨c,hc,hc'⟩,fun _=>⟨_,hv,fun r hr=> ?_⟩,h1,h2,h3,⟨k + 1,h4.put _ _,by omega,by omega⟩,hlo,⟨Nat.lt_of_lt_of_le h6.1 F.size,fun hn=>⟨Nat.lt_of_lt_of_le (h6.2 hn).1 F.size,Nat.lt_of_lt_of_le (h6.2 hn).2 F.size⟩⟩,fun b hb=>Nat.lt_of_lt_of_le (h7 b hb) F.size⟩;obtain ⟨u0,a,b⟩:=hval r hr;rw [Array.getElem?_setIfInBounds]
 have hs:M.cls p < cv.size:=by
  obtain ⟨_,a,_⟩:=hval (M.cls p) (h1 p hp);exact (Array.getElem?_eq_some_iff.1 a).1
 by_cases hr':M.cls p=r
 ·rw [if_pos hr',if_pos hs]
  exact ⟨u,rfl,by simp only [Mg.put,if_pos hr'.symm];exact hu⟩
 ·rw [if_neg hr']
  exact ⟨u0,a,by simp only [Mg.put,if_neg (Ne.symm hr')];exact b.keep F⟩
theorem merge_puts:
 (∀(F:Nat) (ih:MStep da dl dc D ar F) (p:Nat) (g:Lab) (us:List Tm) (v z:TyV) (w:World) (B:MB) (n:Nat) (M:Mg) (fuel:Int) (hF:fuel≤F + 1) (hF2:F + 1≤20000) (hf2:2≤fuel) (hM:MRep ar dl w B n M fuel (.slice da dl dc)) (hd:DRep w B.M da dl D ar) (hv:YIn ar dl w B n v (.var p)) (hz:YIn ar dl w B n z (.node g us)),
  Calls Tryz.prog 47 #[.pointer (some ⟨B.m,0,none⟩),v.val,z.val] w (MPost ar dl D B n (.slice da dl dc) w M fuel (.var p) (.node g us)))/\
 (∀(F:Nat) (ih:MStep da dl dc D ar F) (p:Nat) (g:Lab) (us:List Tm) (v z:TyV) (w:World) (B:MB) (n:Nat) (M:Mg) (fuel:Int) (hF:fuel≤F + 1) (hF2:F + 1≤20000) (hf2:2≤fuel) (hM:MRep ar dl w B n M fuel (.slice da dl dc)) (hd:DRep w B.M da dl D ar) (hv:YIn ar dl w B n v (.var p)) (hz:YIn ar dl w B n z (.node g us)),
  Calls Tryz.prog 47 #[.pointer (some ⟨B.m,0,none⟩),z.val,v.val] w (MPost ar dl D B n (.slice da dl dc) w M fuel (.node g us) (.var p))):=by
 refine ⟨@fun F ih p g us v z w B n M fuel hF hF2 hf2 hM hd hv hz=>have tg:Fin 1:=0;?_,@fun F ih p g us v z w B n M fuel hF hF2 hf2 hM hd hv hz=>have tg:Fin 2:=0;?_⟩
 all_goals
  have NM:=hid (fun b (h:w.heap.size<=b) (hb:B.M b)=>(Nat.not_lt.2 h (hM.below b hb):False));have hp:=hv.h.var2;obtain ⟨cc,vc,hu,hcp,hP,szm,szc,szv,n1,n2,n3⟩:=hM.cls hp;have kv:v.k=2:=hv.r.kind;have vn:v.n=p:=by obtain ⟨xs,_,_,_,sx⟩:=hv.r.flat;exact sx.2
  have z2:(z.k==2)=false:=by
   obtain ⟨zs,_,_,_,sz⟩:=hz.r.flat;have sz:Shape z g zs:=sz;have:=sz.k;have:=sz.k2;simp;omega
  have hpn:(p:Int) < n:=by omega
  have qm:=zA hu;have fm:=zC hu;have hn8:=hM.n8;have HU:=hid hu;have NN1:=hid n1;have NN2:=hid n2;have NN3:=hid n3;obtain ⟨c0,hc0,hc0'⟩:=hM.c (by omega);have HC0:=hid hc0;have HC0':=hid hc0';obtain ⟨cv,uP,hv0,gP,VP⟩:=hM.val (M.cls p) hP;obtain ⟨aP,capP,xsP,rfl,eP,lP,leP,mxP,nilP,yP⟩:=VP;have EP:=hid eP;have LP:=hid lP;have YP:=hid yP;have NP:=hid nilP;have HV0:=hid hv0;have GP:=hid gP;have hPn:((M.cls p:Nat):Int) < n:=by omega
  have qP:=(zA hv0 (M.cls p)).trans gP;obtain ⟨kw,kw1,kw2,_⟩:=hM.wt;have LNP:=hid (Nat.le_trans (kw1.len hp) kw2);have HM:=hid hM;have HD:=hid hd;have IH:=hid ih;have HZ:=hid hz;clear hM hv hz hu hd ih hc0 hc0' eP lP yP nilP hv0 gP kw1 kw2;obtain ⟨xk,xn,xc,xv,xa,xlen,xcap,xnm⟩:=v;obtain ⟨yk,yn,yc,yv,ya,ylen,ycap,ynm⟩:=z;unfold TyV.val at *;dsimp only at *;subst kv vn;have hle0: ¬(fuel - 1<=0):=by omega
  have hfu:fuel<=20000:=by omega
  have SC:=hid (show (w.setCell ⟨B.m,3,none⟩ (.int .i64 (fuel - 1))).heap.size=w.heap.size by simp [World.setCell]);go_enter Tryz.func47,Tryz.ntmps47;go_wp2;go_quiet (fail);go_wp2;clear hcp qP;generalize hL:(M.vals (M.cls p)).length=L at *;have HL:=hid hL;clear hL;have lnp:=LNP.out
  go_loopw [150] (fun i wr=> ∃j:Nat,j≤L∧i= .int .i64 j∧Fr (fun b=>b=B.m) w wr∧
   wr.heap[B.m]?=some (.cells #[.slice da dl dc,.slice (some ⟨B.c,0,none⟩) n cc,.slice (some ⟨B.v,0,none⟩) n vc,.int .i64 (fuel - 1)] 80 (0,0))/\
   wr.heap[w.heap.size + 1]?=some (.cells #[.int .i64 yk,.int .i64 yn,.int .i64 yc,.bool yv,.slice ya ylen ycap,.string ynm] 26 (0,0))/\MRep ar dl wr B n M (fuel - 1) (.slice da dl dc)) (fun i _=>L - (intOf i).toNat)
  case atStart=>
   refine ⟨0,Nat.zero_le _,rfl,((((Fr.refl (fun b=>b=B.m) w).setCell (p:=⟨B.m,3,none⟩) (.inl rfl) _).alloc _).alloc _).drawn _,((((Fr.refl F0 _).alloc _).alloc _).drawn _).heap id (heap_setCell (a:=⟨B.m,3,none⟩) HU.out rfl),?_,((HM.out.setFuel (fuel - 1) (by omega) (by omega)).keep (((Fr.refl F0 _).alloc _).alloc _)).keep ((Fr.refl F0 _).drawn _)⟩;refine ((Fr.refl F0 _).drawn _).heap id ?_;have h:=zS (w.setCell ⟨B.m,3,none⟩ (.int .i64 (fuel - 1))) (.cells #[.int .i64 2,.int .i64 p,.int .i64 xc,.bool xv,.slice xa xlen xcap,.string xnm] 26) (.cells #[.int .i64 yk,.int .i64 yn,.int .i64 yc,.bool yv,.slice ya ylen ycap,.string ynm] 26)
   rw [SC.out] at h;exact h
  case round=>
   obtain ⟨W1,rfl⟩: ∃W1:World,W1=wr:=⟨wr,rfl⟩;obtain ⟨j,hj,rfl,hF1,hbm,hbz,hM1⟩:=hrel;have HF:=hid hF1;have BM:=hid hbm;have BZ:=hid hbz;have HM1:=hid hM1;have FB:=hid (hF1.mono (fun b _ hb=> .inl hb):Fr B.M w W1);clear hF1 hbm hbz hM1;have qz:=zA BZ.out;have szz:=bl (qz 0);dsimp only at szz;by_cases hlt:j < L
   ·obtain ⟨X,b1,o1,gX,rfl,e1⟩:=EP.out.elem (show j < xsP.length by rw [LP.out];omega)
    have e1:=e1.keep FB.out;obtain ⟨_,a0,a1,a2,a3,a4,a5⟩:=e1;have hb1:b1 < W1.heap.size:=World.block_lt_of_cell? _ _ a0;have hle:(j:Int) < L:=by omega
    have GX:=hid gX;clear gX;obtain ⟨t,ht⟩: ∃t,(M.vals (M.cls p))[j]?=some t:=⟨(M.vals (M.cls p))[j]'(by rw [HL.out];exact hlt),by simp⟩;have T:=hid ht;clear ht;go_wp2_with fail
    refine (equal_any t (.node g us) X ⟨yk,yn,yc,yv,ya,ylen,ycap,ynm⟩ _ B.M ((YP.out j X t GX.out T.out).r.keep (FB.out.alloc _)) (HZ.out.r.keep (FB.out.alloc _))).mono ?_;rintro e w2 ⟨⟨b,rfl,hb⟩,hf2⟩;have HB:=hid hb;have HF2:=hid (((Fr.refl F0 W1).alloc _).trans hf2);clear hb hf2
    cases b with
    |true=>
     go_wp2;refine bodyPost_ret (v:= .tuple #[]) (results_none rfl _ _ _) rfl ?_
     first
     |rename Fin 1=>tg
      refine ⟨rfl,M,fuel - 1,HM1.out.keep HF2.out,FB.out.trans HF2.out.sub,(Burning.start (by omega)).done (by omega) (by omega),fun _=>(merged_have ?_)⟩
     |refine ⟨rfl,M,fuel - 1,HM1.out.keep HF2.out,FB.out.trans HF2.out.sub,(Burning.start (by omega)).done (by omega) (by omega),fun _=>(merged_have ?_).swap⟩
     have h:=T.out;rw [(HB.out (by first | trivial | rfl)).1] at h;exact List.mem_of_getElem? h
    |false=>
     go_wp2;go_roundw
     case rel=>exact ⟨j + 1,by omega,by go_num,HF.out.trans HF2.out.sub,HF2.out.heap id BM.out,HF2.out.heap id BZ.out,HM1.out.keep HF2.out⟩
     case measure=>simp [intOf];omega
   ·have hjl:j=L:=by omega
    have hjn: ¬(j:Int) < L:=by omega
    subst hjl;have V1:=hid (HF.out.heap (b:=B.v) (Ne.symm NN2.out) HV0.out);have C1:=hid (HF.out.heap (b:=B.c) (Ne.symm NN1.out) HC0.out);clear qm szm szc szv fm qz szz;go_wp2;refine zG (Fr F0 W1) [(0,true),(1,true),(2,true),(3,true),(4,true),(5,true),(6,true),(7,true),(8,true),(9,true),(10,true),(11,true),(12,false),(13,false),(14,false),(15,false)] [14,15] yE (by kernel_rfl) (by kernel_rfl) (by kernel_rfl) (by decide) ?_
    have hlc:(j:Int)<=capP:=by omega
    iterate 12
     (refine zH _ rfl (Fr.refl _ _).drew (fun w' hS=>by
      have q0:=zA (hS.heap (b:=B.m) id BM.out);have q1:=zA (hS.heap (b:=w.heap.size + 1) id BZ.out);have szu:=bl (q0 0);have szw:=bl (q1 0);clear hS;go_simp;rfl) ?_)
    go_simp;refine zB rfl ?_;go_wp2;refine And.intro (fun _=>(Fr.refl F0 W1).drew.alloc _) ?_;refine zB rfl ?_;obtain ⟨i0,hi0,hz0,hz1,hz2⟩:=info_parts info26;have FA:=hid ((Fr.refl F0 W1).drew.alloc (.cells #[.int .i64 yk,.int .i64 yn,.int .i64 yc,.bool yv,.slice ya ylen ycap,.string ynm] 26));refine wpList_append_grows _ rfl _ _ 24 rfl 26 i0 _ 6 72 Tryz.underlying24 hi0 hz0 hz1 hz2 rfl (by omega) aP j j (xsP.flatMap zW) rfl ?_ (by rw [wY,LP.out]) ?_ ⟨W1.heap.size,0,none⟩ 1 1 (zW ⟨yk,yn,yc,yv,ya,ylen,ycap,ynm⟩) (by rfl) (by rfl) (World.news_of_block (cs:= #[.int .i64 yk,.int .i64 yn,.int .i64 yc,.bool yv,.slice ya ylen ycap,.string ynm]) (t:=26) (fr:=(0,0)) (heap_alloc_new W1.drew _)) (cells6_one _) (by omega) (by unfold maxLen;omega) (by omega) ?_
    ·intro h
     rcases EP.out with h1 | ⟨b,off,h1,_⟩
     ·have h2:=LP.out
      rw [h1] at h2;exact ⟨h2.symm,h2.symm⟩
     ·rw [h] at h1;cases h1
    ·intro b hb
     rcases EP.out.keep (FB.out.trans FA.out.sub) with h1 | ⟨b',off,h1,h2⟩
     ·intro k u hu;rw [h1] at hu;simp at hu
     ·rw [h1] at hb;cases hb
      exact xB.news h2
    intro v2 w2 hown2 hgrow2;have FS2:=hid (FA.out.transNew (Fr.of_grown hgrow2) (fun x hx=>by cases hx))
    have OW2:OwnT w2 W1.heap.size v2 (xsP ++ [⟨yk,yn,yc,yv,ya,ylen,ycap,ynm⟩]):=by
     have h1:(xsP ++ [(⟨yk,yn,yc,yv,ya,ylen,ycap,ynm⟩:TyV)]).length=j + 1:=by rw [List.length_append,LP.out];rfl
     unfold OwnT;rw [h1,List.flatMap_append];obtain ⟨hl,h | ⟨g,cap,cur,hv,hb,rest⟩⟩:=hown2
     ·rw [List.flatMap_cons,List.flatMap_nil,List.append_nil];exact ⟨hl,.inl h⟩
     ·rw [List.flatMap_cons,List.flatMap_nil,List.append_nil];exact ⟨hl,.inr ⟨g,cap,cur,hv,Nat.le_trans (by simp) hb,rest⟩⟩
    obtain ⟨a2,cap2,rfl,e2,le2,mx2⟩:=OwnT.elems OW2 B.M (fun g hg hb=>NM.out g (Nat.le_trans FB.out.size (World.ownsRow.lt OW2 g hg).1) hb);have h1:(xsP ++ [(⟨yk,yn,yc,yv,ya,ylen,ycap,ynm⟩:TyV)]).length=j + 1:=by rw [List.length_append,LP.out];rfl
    rw [h1] at le2;rw [h1];have E2:=hid e2;clear hown2 hgrow2 e2 OW2;go_wp2;refine And.intro (fun _=>FS2.out) ?_;refine zB rfl ?_;go_wp2;refine And.intro (fun h=>absurd h (by decide)) ?_;refine zB rfl ?_;have V2:=hid (FS2.out.heap (b:=B.v) id V1.out);have q3:=(zA V2.out (M.cls p)).trans GP.out;have f3:=zC V2.out (M.cls p);go_wp2;refine And.intro (fun h=>absurd h (by decide)) ?_;refine zO (NoPanic.normal ?_)
    clear q3 f3;generalize hWY:w2.setCell ⟨B.v,M.cls p,none⟩ (.slice a2 (j + 1) cap2)=WY;have FX2:Fr (fun b=>b=B.v) w2 WY:=by rw [<-hWY];exact (Fr.refl (fun b=>b=B.v) w2).setCell (.inl rfl) _
    have FXM:Fr B.M w2 WY:=by rw [<-hWY];exact (Fr.refl B.M w2).setCell (.inl (.inr (.inr rfl))) _
    have FY:=hid ((FB.out.trans FS2.out.sub).trans FXM);have BZY:=hid (FX2.heap (b:=w.heap.size + 1) (fun h=>by have h2:w.heap.size + 1=B.v:=h;exact NM.out _ (Nat.le_succ w.heap.size) (.inr (.inr h2))) (FS2.out.heap id BZ.out))
    have hMU:MRep ar dl WY B n (M.put (M.cls p) (.node g us)) (fuel - 1) (.slice da dl dc):=by
     refine HM.out.put hp FY.out (by omega) (by omega) (by omega) (FX2.heap NN2.out (FS2.out.heap id BM.out)) (FX2.heap NN3.out (FS2.out.heap id C1.out)) HC0'.out HV0.out (by rw [<-hWY];exact heap_setCell (a:=⟨B.v,M.cls p,none⟩) V2.out rfl) ?_;have hl:(M.vals (M.cls p) ++ [Tm.node g us]).length=j + 1:=by rw [List.length_append,HL.out];rfl
     refine ⟨a2,cap2,xsP ++ [⟨yk,yn,yc,yv,ya,ylen,ycap,ynm⟩],by rw [hl],E2.out.keep FXM,by rw [hl,h1],by rw [hl];exact le2,mx2,fun h=>by simp at h,fun i y t hy ht=> ?_⟩;have lp:=LP.out;by_cases hi:i < xsP.length
     ·rw [List.getElem?_append_left hi] at hy
      rw [List.getElem?_append_left (by rw [HL.out];omega)] at ht;exact (YP.out i y t hy ht).keep FY.out
     ·rw [List.getElem?_append_right (by omega)] at hy
      rw [List.getElem?_append_right (by rw [HL.out];omega),HL.out,<-lp] at ht
      have hi0:i - xsP.length=0:=by
       have:=(List.getElem?_eq_some_iff.1 hy).1;simp at this;omega
      rw [hi0] at hy ht;simp at hy ht;rw [<-hy,<-ht];exact HZ.out.keep FY.out
    have HMU:=hid hMU;clear hMU hWY FX2 FXM h1;go_wp2
    go_loopw [175] (fun i wr=> ∃(k:Nat) (M':Mg) (f':Int),k≤j∧i= .int .i64 k∧MRep ar dl wr B n M' f' (.slice da dl dc)∧Fr B.M w wr∧wr.heap[w.heap.size + 1]?=some (.cells #[.int .i64 yk,.int .i64 yn,.int .i64 yc,.bool yv,.slice ya ylen ycap,.string ynm] 26 (0,0))∧Burning fuel (0 + k) f'∧
     (0 < f'->Run D (M.put (M.cls p) (.node g us)) M' (fun u v=> ∃i:Nat,i < k/\(M.vals (M.cls p))[i]?=some u/\v= .node g us))) (fun i _=>j - (intOf i).toNat)
    case atStart=>exact ⟨0,_,fuel - 1,Nat.zero_le _,rfl,HMU.out,FY.out,BZY.out,Burning.start (by omega),fun _=>(Run.refl D _).mono fun _ _ h=>by obtain ⟨i,hi,_⟩:=h;omega⟩
    case round=>
     obtain ⟨k,M1,f1,hk,rfl,hM1,hF1,hbz,hb1,hR1⟩:=hrel;have HM2:=hid hM1;have HF2:=hid hF1;have BZ2:=hid hbz;have HB:=hid hb1;have HR:=hid hR1;clear hM1 hF1 hbz hb1 hR1;have qz:=zA BZ2.out;have szz:=bl (qz 0);dsimp only at szz;by_cases hlt:k < j
     ·obtain ⟨X,b1,o1,gX,rfl,e1⟩:=EP.out.elem (show k < xsP.length by rw [LP.out];omega)
      have e1:=e1.keep HF2.out;obtain ⟨_,a0,a1,a2,a3,a4,a5⟩:=e1;have hb1:b1 < wr.heap.size:=World.block_lt_of_cell? _ _ a0;have hle:(k:Int) < j:=by omega
      have GX:=hid gX;clear gX;obtain ⟨t,ht⟩: ∃t,(M.vals (M.cls p))[k]?=some t:=⟨(M.vals (M.cls p))[k]'(by rw [HL.out];exact hlt),by simp⟩;have T:=hid ht;clear ht;have LO:=hid (show -90000000000000000<=f1 by have:=HB.out.low;have:=HB.out.less;omega);have HI:=hid (show f1<=F by have:=HB.out.less;omega);go_wp2_with fail
      refine (IH.out t (.node g us) X ⟨yk,yn,yc,yv,ya,ylen,ycap,ynm⟩ _ B n M1 f1 HI.out (by omega) LO.out (HM2.out.keep ((Fr.refl F0 _).alloc _)) (HD.out.keep (HF2.out.alloc _)) ((YP.out k X t GX.out T.out).keep (HF2.out.alloc _)) (HZ.out.keep (HF2.out.alloc _))).mono ?_;rintro e w3 ⟨rfl,M3,f3,hM3,hF3,hB3,hR3⟩;have HM3:=hid hM3;have HF3:=hid hF3;have HB3:=hid hB3;have HR3:=hid hR3;clear hM3 hF3 hB3 hR3
      go_wp2;go_roundw
      case rel=>
       refine ⟨k + 1,M3,f3,by omega,by go_num,HM3.out,(HF2.out.alloc _).trans HF3.out,HF3.out.heap (fun hb=>NM.out _ (Nat.le_succ _) hb) ((Below.heap_alloc _ _ _ szz).trans BZ2.out),HB.out.step (by omega) HB3.out,fun h0=> ?_⟩;refine ((HR.out (by have:=HB3.out.less;omega)).step (HR3.out h0)).mono fun a b hab=> ?_
       obtain ⟨i,hi,h1,h2⟩:=hab;by_cases hij:i=k
       ·subst hij
        rw [T.out] at h1;exact .inr ⟨(Option.some.inj h1).symm,h2⟩
       ·exact .inl ⟨i,by omega,h1,h2⟩
      case measure=>simp [intOf];omega
     ·have hge: ¬(k:Int) < j:=by omega
      have hkl:k=j:=by omega
      go_wp2;refine bodyPost_ret (v:= .tuple #[]) (results_none rfl _ _ _) rfl ?_
      first
      |rename Fin 1=>tg
       refine ⟨rfl,M1,f1,HM2.out,HF2.out,HB.out.done (by omega) (by omega),fun h0=>(merged_put (HR.out h0) (fun a ha=> ?_))⟩
      |refine ⟨rfl,M1,f1,HM2.out,HF2.out,HB.out.done (by omega) (by omega),fun h0=>(merged_put (HR.out h0) (fun a ha=> ?_)).swap⟩
      obtain ⟨i,hi,hi'⟩:=List.mem_iff_getElem.1 ha;exact ⟨i,by rw [HL.out] at hi;omega,by simp [hi,hi'],rfl⟩
end
section
variable {da:Option Addr}{dl dc:Nat}{D:zE}{ar:Nat->Nat}
theorem merge_any (hD:xF dl ar D): ∀F,MStep da dl dc D ar F:=by
 intro F
 have out: ∀(s t:Tm) (x y:TyV) (w:World) (B:MB) (n:Nat) (M:Mg) (fuel:Int),fuel≤1→ -90000000000000000≤fuel→MRep ar dl w B n M fuel (.slice da dl dc)→
  Calls Tryz.prog 47 #[.pointer (some ⟨B.m,0,none⟩),x.val,y.val] w (MPost ar dl D B n (.slice da dl dc) w M fuel s t):=by
  intro s t x y w B n M fuel h1 h2 hM;refine (merge_out x y w B n M fuel _ hM h1 (by omega)).mono ?_;rintro e w' ⟨rfl,h3,h4⟩;exact ⟨rfl,M,fuel - 1,h3,h4,⟨by omega,fun _=>rfl,fun _=>by omega⟩,fun h=>by omega⟩
 induction F with
 |zero=>intro s t x y w B n M fuel h1 h2 h3 hM hd hx hy;exact out s t x y w B n M fuel (by omega) h3 hM
 |succ F ih=>
  intro s t x y w B n M fuel h1 h2 h3 hM hd hx hy;by_cases hf:fuel<=1
  ·exact out s t x y w B n M fuel hf h3 hM
  have hf2:2<=fuel:=by omega
  cases s with
  |var p=>
   cases t with
   |var q=>
    by_cases hpq:M.cls p=M.cls q
    ·exact merge_same p q x y w B n M fuel (by omega) hf2 hM hx hy hpq
    ·exact merge_union F ih p q x y w B n M fuel (by omega) (by omega) hf2 hM hd hx hy hpq
   |node g us=>exact merge_puts.1 F ih p g us x y w B n M fuel (by omega) (by omega) hf2 hM hd hx hy
  |node f ts=>
   cases t with
   |var q=>exact merge_puts.2 F ih q f ts y x w B n M fuel (by omega) (by omega) hf2 hM hd hy hx
   |node g us=>
    by_cases hf1:f.kind=1
    ·by_cases hg1:g.kind=1
     ·exact merge_named.2.2 F ih f g ts us x y w B n M fuel (by omega) (by omega) hf2 hM hd hx hy hf1 hg1
     ·by_cases hg4:g.kind < 4
      ·exact merge_named.1 F ih f g ts us x y w B n M fuel (by omega) (by omega) hf2 hM hd hx hy hf1 hg1 hg4
      ·exact merge_literal.2 hD F ih f g ts us x y w B n M fuel (by omega) (by omega) hf2 hM hd hx hy hf1 (by omega)
    ·by_cases hg1:g.kind=1
     ·by_cases hf4:f.kind < 4
      ·exact merge_named.2.1 F ih f g ts us x y w B n M fuel (by omega) (by omega) hf2 hM hd hx hy hf1 hg1 hf4
      ·exact merge_literal.1 hD F ih f g ts us x y w B n M fuel (by omega) (by omega) hf2 hM hd hx hy (by omega) hg1
     ·exact merge_plain F ih f g ts us x y w B n M fuel (by omega) (by omega) hf2 hM hd hx hy hf1 hg1
end
end Go.Proofs.YtpekidjfbinekaaGreatDoor
