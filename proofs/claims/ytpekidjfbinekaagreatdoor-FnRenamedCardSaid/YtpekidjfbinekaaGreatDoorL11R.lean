/-   The laws' other and exchanged. -/
import Derived.Test.YtpekidjfbinekaaGreatDoorL4R
set_option maxRecDepth 100000
set_option maxHeartbeats 60000000
set_option linter.all false
namespace Go.Proofs.YtpekidjfbinekaaGreatDoor
open Go.RowKit Uni
def swp (p q i:Nat):Nat:=if i=p then q else if i=q then p else i
theorem other_any (i p q:Nat)(w:World):Calls Tryz.prog 23 #[.int .i64 i,.int .i64 p,.int .i64 q] w fun e w'=>e= .returned (.int .i64 (swp p q i))/\Fr F0 w w':=by
 unfold swp;by_cases h1:i=p
 ·have e1:((i:Int)==(p:Int))=true:=by simp [h1]
  rw [if_pos h1];clear h1;go_enter Tryz.func23,Tryz.ntmps23;go_wp2;go_ret;exact ⟨rfl,Fr.refl _ _⟩
 ·have e1:((i:Int)==(p:Int))=false:=by simp;omega
  rw [if_neg h1];by_cases h2:i=q
  ·have e2:((i:Int)==(q:Int))=true:=by simp [h2]
   rw [if_pos h2];clear h1 h2;go_enter Tryz.func23,Tryz.ntmps23;go_wp2;go_ret;exact ⟨rfl,Fr.refl _ _⟩
  ·have e2:((i:Int)==(q:Int))=false:=by simp;omega
   rw [if_neg h2];clear h1 h2;go_enter Tryz.func23,Tryz.ntmps23;go_wp2;go_ret;exact ⟨rfl,Fr.refl _ _⟩
theorem exchanged_any (p q:Nat)(s:Tm): ∀(x:TyV)(w:World)(M:Nat->Prop),RT w M x s->(∀b,M b->b < w.heap.size)->
 Calls Tryz.prog 22 #[x.val,.int .i64 p,.int .i64 q] w fun e w'=> ∃r:TyV,e= .returned r.val/\r.nm=x.nm/\RT w' M r (s.sub (nums (swp p q)))/\Fr F0 w w':=by
 induction s using Tm.ind with
 |hv i=>
  intro x w M hx hM;obtain ⟨xs,fx,nx,rx,sx⟩:=hx.flat;have e1:x.k=2:=sx.1;have e2:x.n=i:=sx.2;have hl:x.len=0:=by have h1:0=xs.length:=nx;rw [<-fx.len];exact h1.symm
  clear hx fx nx rx sx hM;obtain ⟨xk,xn,xc,xv,xa,xlen,xcap,xnm⟩:=x;dsimp only at e1 e2 hl;subst e1 e2 hl;rw [Tm.sub_var];unfold TyV.val;dsimp only;go_enter Tryz.func22,Tryz.ntmps22;go_wp2_with fail
  refine (other_any i p q _).mono ?_;rintro e w2 ⟨rfl,hf2⟩;have F2:=hid (((((Fr.refl F0 w).alloc (.cells #[.int .i64 2,.int .i64 i,.int .i64 xc,.bool xv,.slice xa 0 xcap,.string xnm] 26)).alloc (.cells #[.int .i64 0,.int .i64 0,.int .i64 0,.bool false,.slice none 0 0,.string ⟨#[]⟩] 26)).alloc (.cells #[.int .i64 2,.int .i64 i,.int .i64 xc,.bool xv,.slice xa 0 xcap,.string xnm] 26)).trans hf2);have BX:=hid (hf2.heap id (show (((w.alloc (.cells #[.int .i64 2,.int .i64 i,.int .i64 xc,.bool xv,.slice xa 0 xcap,.string xnm] 26)).alloc (.cells #[.int .i64 0,.int .i64 0,.int .i64 0,.bool false,.slice none 0 0,.string ⟨#[]⟩] 26)).alloc (.cells #[.int .i64 2,.int .i64 i,.int .i64 xc,.bool xv,.slice xa 0 xcap,.string xnm] 26)).heap[w.heap.size]?=_ from (((Fr.refl F0 _).alloc _).alloc _).heap id (heap_alloc_new w _)))
  have BR:=hid (hf2.heap id (show (((w.alloc (.cells #[.int .i64 2,.int .i64 i,.int .i64 xc,.bool xv,.slice xa 0 xcap,.string xnm] 26)).alloc (.cells #[.int .i64 0,.int .i64 0,.int .i64 0,.bool false,.slice none 0 0,.string ⟨#[]⟩] 26)).alloc (.cells #[.int .i64 2,.int .i64 i,.int .i64 xc,.bool xv,.slice xa 0 xcap,.string xnm] 26)).heap[w.heap.size + 1]?=_ from ((Fr.refl F0 _).alloc _).heap id (zS w _ _)))
  have BO:=hid (hf2.heap id (heap_three w (.cells #[.int .i64 2,.int .i64 i,.int .i64 xc,.bool xv,.slice xa 0 xcap,.string xnm] 26) (.cells #[.int .i64 0,.int .i64 0,.int .i64 0,.bool false,.slice none 0 0,.string ⟨#[]⟩] 26) (.cells #[.int .i64 2,.int .i64 i,.int .i64 xc,.bool xv,.slice xa 0 xcap,.string xnm] 26)));have q0:=zA BX.out;have qo:=zA BO.out;have fo:=zC BO.out;have s0:=zF BX.out;have s2:=zF BO.out
  have q6:=zA BR.out;have f6:=zC BR.out;have s6:=zF BR.out;clear hf2;go_wp2;refine wp_loop_rounds 1 ?_;rw [rounds_succ];go_wp2;have hB:=(((Fr.refl (fun b=>b=w.heap.size + 1 + 1) w2).setCell (p:=⟨w.heap.size + 1 + 1,1,none⟩) (.inl rfl) (.int .i64 (swp p q i))).setCell (p:=⟨w.heap.size + 1 + 1,4,none⟩) (.inl rfl) (.slice none 0 0)).heap (by omega) BR.out;refine bodyPost_ret (v:= .agg #[.int .i64 2,.int .i64 (swp p q i),.int .i64 xc,.bool xv,.slice none 0 0,.string xnm]) ?_ rfl ?_
  ·exact ret6 rfl rfl (heap_set6 hB _ _ _ _ _ _)
  refine ⟨⟨2,swp p q i,xc,xv,none,0,0,xnm⟩,rfl,rfl,.var _ _ rfl rfl rfl (Nat.zero_le _),?_⟩;exact ((F2.out.setCell (p:=⟨w.heap.size + 1 + 1,1,none⟩) (.inr (show w.heap.size<=w.heap.size + 1 + 1 by omega)) _).setCell (p:=⟨w.heap.size + 1 + 1,4,none⟩) (.inr (show w.heap.size<=w.heap.size + 1 + 1 by omega)) _).set6 (.inr (Nat.le_succ _)) _ _ _ _ _ _
 |hn f ts ih=>
  intro x w M hx hM;obtain ⟨xs,fx,nx,rx,sx⟩:=hx.flat;have IH:=hid ih;clear ih;obtain ⟨hxe,lx,bx⟩:=fx;have HX:=hid hxe;have LX:=hid lx;have NX:=hid nx;have RX:=hid rx;have SX:=hid sx;have HM:=hid hM;have hb:x.len<=1954687338211:=bx.2.1
  have hkx:(x.k==(2:Int))=false:=by
   have:=sx.k;have:=sx.k2;simp;omega
  clear hxe lx nx rx sx hx hM bx;obtain ⟨xk,xn,xc,xv,xa,xlen,xcap,xnm⟩:=x;unfold TyV.val;dsimp only at *;go_enter Tryz.func22,Tryz.ntmps22;go_wp2
  go_loopw [24] (fun i wr=> ∃(j:Nat) (rs:List TyV) (ov:Value),j≤xlen∧i= .int .i64 j∧rs.length=j∧Fr F0 w wr∧w.heap.size + 2 < wr.heap.size∧
   wr.heap[w.heap.size + 1 + 1]?=some (.cells #[.int .i64 xk,.int .i64 xn,.int .i64 xc,.bool xv,ov,.string xnm] 26 (0,0))/\
   wr.heap[w.heap.size + 1]?=some (.cells #[.int .i64 0,.int .i64 0,.int .i64 0,.bool false,.slice none 0 0,.string ⟨#[]⟩] 26 (0,0))/\
   OwnT wr (w.heap.size + 3) ov rs/\rs.map TyV.nm=(xs.take j).map TyV.nm/\
   (∀(i:Nat) (r:TyV) (t:Tm),rs[i]?=some r->ts[i]?=some t->RT wr (fun b=>M b\/(w.heap.size<=b/\b<=w.heap.size + 2)\/ov.ownBlock=some b) r (t.sub (nums (swp p q)))))
   (fun i _=>xlen - (intOf i).toNat)
  case atStart=>exact ⟨0,[],.slice none 0 0,Nat.zero_le _,rfl,rfl,by repeat (first | exact Fr.refl _ _ | refine Fr.alloc ?_ _),by simp,heap_three _ _ _ _,(Below.heap_alloc _ _ _ (by simp)).trans (zS _ _ _),World.ownsRow_nil _ _ _ _,rfl,fun i r t h=>by simp at h⟩
  case round=>
   obtain ⟨j,rs,ov,hj,rfl,hrs,hf,hsz,hB8,hR6,hown,hnm,hrt⟩:=hrel;have HF:=hid hf;have HRS:=hid hrs;have HOWN:=hid hown;have HNM:=hid hnm;have HRT:=hid hrt;have B8:=hid hB8;have R6:=hid hR6;clear hR6;clear hf hrs hown hnm hrt;by_cases hlt:j < xlen
   ·obtain ⟨X,b1,o1,gX,rfl,e1⟩:=HX.out.elem (show j < xs.length by rw [LX.out];exact hlt)
    have e1:=e1.keep HF.out.sub;obtain ⟨_,a0,a1,a2,a3,a4,a5⟩:=e1;have hb1:b1 < wr.heap.size:=World.block_lt_of_cell? _ _ a0;have hle:(j:Int) < xlen:=by omega
    have GX:=hid gX;clear gX;have b8:wr.cell? ⟨w.heap.size + 1 + 1,4,none⟩=some ov:=by simp [World.cell?,hB8]
    clear hB8;have hlen1:(rs.flatMap zW).length=j * 6:=by rw [wY,HRS.out]
    have HL1:=hid hlen1;clear hlen1;obtain ⟨i0,hi0,hz0,hz1,hz2⟩:=info_parts info26;obtain ⟨t,ht⟩: ∃t,ts[j]?=some t:=⟨ts[j]'(by have:=NX.out;simp [kids] at this;rw [this,LX.out];exact hlt),by simp⟩;have T:=hid ht
    have hMb: ∀b,M b∨(w.heap.size≤b∧b≤w.heap.size + 2)∨ov.ownBlock=some b→(M b∨w.heap.size≤b)∧b < wr.heap.size:=by
     intro b hb;rcases hb with hb | hb | hb
     ·have:=HM.out b hb;have:=HF.out.size;exact ⟨.inl hb,by omega⟩
     ·exact ⟨.inr (by omega),by omega⟩
     ·have:=World.ownsRow.lt HOWN.out b hb;exact ⟨.inr (by omega),this.2⟩
    have CALL: ∀(w':World),Fr F0 wr w'→Calls Tryz.prog 22 #[.agg #[.int .i64 X.k,.int .i64 X.n,.int .i64 X.c,.bool X.v,.slice X.a X.len X.cap,.string X.nm],.int .i64 p,.int .i64 q] w' fun e w''=>
     ∃r:TyV,e= .returned (.agg #[.int .i64 r.k,.int .i64 r.n,.int .i64 r.c,.bool r.v,.slice r.a r.len r.cap,.string r.nm])∧r.nm=X.nm∧
      RT w'' (fun b=>M b\/(w.heap.size<=b/\b<=w.heap.size + 2)\/ov.ownBlock=some b) r (t.sub (nums (swp p q)))/\Fr F0 w' w'':=by
     intro w' fr;have F:=HF.out.trans fr;exact IH.out t (List.mem_of_getElem? ht) X w' _ (((RX.out j X t GX.out ht).avoid fun b hb=>(hMb b hb).1).keep F.sub) (fun b hb=>Nat.lt_of_lt_of_le (hMb b hb).2 fr.size)
    have OB:=hid (World.ownsRow.lt HOWN.out);have N63:=hid (show rs.length + 1<=maxLen by have:=HRS.out;unfold maxLen;omega);have N72:=hid (show (rs.length + 1) * 72<=140737488355328 by have:=HRS.out;omega);have CA:=hid CALL;have MB:=hid hMb;clear CALL hMb ht;go_wp2_with fail
    have e0:(wr.alloc (.cells #[.int .i64 X.k,.int .i64 X.n,.int .i64 X.c,.bool X.v,.slice X.a X.len X.cap,.string X.nm] 26)).heap[wr.heap.size]?=some (.cells #[.int .i64 X.k,.int .i64 X.n,.int .i64 X.c,.bool X.v,.slice X.a X.len X.cap,.string X.nm] 26 (0,0)):=heap_alloc_new _ _;have B8':=hid (show (wr.alloc (.cells #[.int .i64 X.k,.int .i64 X.n,.int .i64 X.c,.bool X.v,.slice X.a X.len X.cap,.string X.nm] 26)).heap[w.heap.size + 1 + 1]?=_ from (Below.heap_alloc _ _ _ (by omega)).trans B8.out)
    have E0:=hid e0;clear e0;have FRW:=hid ((Fr.refl F0 wr).alloc (.cells #[.int .i64 X.k,.int .i64 X.n,.int .i64 X.c,.bool X.v,.slice X.a X.len X.cap,.string X.nm] 26));generalize hWX:wr.alloc (.cells #[.int .i64 X.k,.int .i64 X.n,.int .i64 X.c,.bool X.v,.slice X.a X.len X.cap,.string X.nm] 26)=WX;rw [hWX] at E0 B8' FRW;clear hWX
    refine zG (Fr (fun b=>ov.ownBlock=some b) WX)
     [(0,true),(1,true),(2,true),(3,true),(4,true),(5,false),(6,false),(7,false),(8,false),(9,false)] [9] yE (by kernel_rfl) (by kernel_rfl) (by kernel_rfl) (by decide) ?_
    have nb8: ¬ov.ownBlock=some (w.heap.size + 1 + 1):=fun h=>by have:=(OB.out _ h).1;omega
    have nbe: ¬ov.ownBlock=some wr.heap.size:=fun h=>by have:=(OB.out _ h).2;omega
    have NB8:=hid nb8;have NBE:=hid nbe;clear nb8 nbe
    iterate 5
     (refine zH _ rfl (Fr.refl _ _).drew (fun w' hS=>by
      have q0:=zA (hS.heap NB8.out B8'.out);have q1:=zA (hS.heap NBE.out E0.out);clear hS;go_simp;rfl) ?_)
    go_simp;refine zB rfl ?_;go_wp2_with fail
    refine (CA.out _ FRW.out.drew).mono ?_;rintro e w2 ⟨r,rfl,hrn,hrr,hf2⟩;have HRN:=hid hrn;clear hrn;have HRR:=hid hrr;have HF2:=hid hf2;clear hrr hf2;go_wp2;refine And.intro (fun _=>(Fr.refl _ _).drew.trans HF2.out.sub) ?_;refine zB rfl ?_;go_wp2;refine And.intro (fun _=>((Fr.refl _ _).drew.trans HF2.out.sub).alloc _) ?_;refine zB rfl ?_;have OW2:=hid ((zV HOWN.out (FRW.out.drew.trans HF2.out) (fun _ _ h=>h)).alloc (.cells #[.int .i64 r.k,.int .i64 r.n,.int .i64 r.c,.bool r.v,.slice r.a r.len r.cap,.string r.nm] 26))
    have SZ:=hid (show w.heap.size + 3<=(w2.alloc (.cells #[.int .i64 r.k,.int .i64 r.n,.int .i64 r.c,.bool r.v,.slice r.a r.len r.cap,.string r.nm] 26)).heap.size by have:=(FRW.out.drew.trans HF2.out).size;simp;omega);refine wpList_append_lies _ rfl _ _ 24 rfl (w.heap.size + 3) 26 i0 _ 6 72 Tryz.underlying24 hi0 hz0 hz1 hz2 rfl (by omega) ov rs.length (rs.flatMap zW) (by rfl) OW2.out ⟨w2.heap.size,0,none⟩ 1 1 (zW r) (by rfl) (by rfl) (World.news_of_block (cs:= #[.int .i64 r.k,.int .i64 r.n,.int .i64 r.c,.bool r.v,.slice r.a r.len r.cap,.string r.nm]) (t:=26) (fr:=(0,0)) (heap_alloc_new w2 _)) (by simp [zW,Value.oneCell']) (by omega) N63.out N72.out SZ.out (w2.heap.size + 1) (by simp) ?_
    intro gg gcap w3 hown3 hgrow hat hlt3;have HAT:=hid hat;clear hat hlt3;have FW3:=hid ((((Fr.refl (fun b=>ov.ownBlock=some b) _).drew.trans HF2.out.sub).alloc (.cells #[.int .i64 r.k,.int .i64 r.n,.int .i64 r.c,.bool r.v,.slice r.a r.len r.cap,.string r.nm] 26)).trans (Fr.of_grown hgrow));have OW3:=hid hown3;have HG:=hid hgrow;clear hown3 hgrow;go_wp2;refine And.intro (fun _=>FW3.out) ?_;refine zB rfl ?_
    go_wp2;refine And.intro (fun _=>FW3.out) ?_;refine zB rfl ?_;have q3:=zA (FW3.out.heap NB8.out B8'.out) 4;have f3:=zC (FW3.out.heap NB8.out B8'.out) 4;go_wp2;refine And.intro (fun h=>absurd h (by decide)) ?_;refine zO (NoPanic.normal ?_);go_wp2;have hlr:(rs ++ [r]).length=rs.length + 1:=by simp
    have OW':OwnT w3 (w.heap.size + 3) (.slice (some ⟨gg,0,none⟩) (rs.length + 1) gcap) (rs ++ [r]):=by
     unfold OwnT;rw [hlr,List.flatMap_append];exact OW3.out
    have FWR:=hid (show Fr F0 w w3 from (HF.out.trans FRW.out).transNew FW3.out fun x hx=> .inr (by have:=(OB.out x hx).1;omega));have FWR2:=hid (show Fr (fun b=>ov.ownBlock=some b) wr w3 from FRW.out.sub.trans FW3.out);have B83:=hid (FW3.out.heap NB8.out B8'.out)
    have XT:xs.take (j + 1)=xs.take j ++ [X]:=by
     rw [List.take_succ_eq_append_getElem (by rw [LX.out];exact hlt)]
     congr 2
     have:=GX.out;rw [List.getElem?_eq_getElem (by rw [LX.out];exact hlt)] at this;exact Option.some.inj this
    have XT':=hid XT;have WRSZ:=hid (show wr.heap.size<=w2.heap.size from (FRW.out.drew.trans HF2.out).size);clear XT hlr;go_roundw
    case rel=>
     have ha8:(⟨w.heap.size + 1 + 1,4,none⟩:Addr).block=w.heap.size + 1 + 1:=rfl;refine ⟨j + 1,rs ++ [r],.slice (some ⟨gg,0,none⟩) (rs.length + 1) gcap,by omega,by go_num,by simp [HRS.out],FWR.out.setCell (.inr (show w.heap.size<=w.heap.size + 1 + 1 by omega)) _,?_,?_,?_,?_,?_,?_⟩
     ·have:=FWR2.out.size;simp [World.setCell];omega
     ·exact heap_setCell (a:=⟨w.heap.size + 1 + 1,4,none⟩) B83.out rfl
     ·have nr6: ¬ov.ownBlock=some (w.heap.size + 1):=fun h=>by have:=(OB.out _ h).1;omega
      rw [Below.heap_setCell _ _ _ _ (by show w.heap.size + 1≠w.heap.size + 1 + 1;omega)];exact FWR2.out.heap nr6 R6.out
     ·exact ownsRow_setCell_below OW' (by simp) _
     ·rw [XT'.out,List.map_append,List.map_append,HNM.out,List.map_cons,List.map_cons,HRN.out]
     ·intro i r' t' hr' ht'
      have FS:Fr (fun b=>M b∨(w.heap.size≤b∧b≤w.heap.size + 2)∨ov.ownBlock=some b) wr (w3.setCell ⟨w.heap.size + 1 + 1,4,none⟩ (.slice (some ⟨gg,0,none⟩) (rs.length + 1) gcap)):=
       (FWR2.out.mono fun _ _ h=> .inr (.inr h)).setCell (.inl (.inr (.inl (show w.heap.size<=w.heap.size + 1 + 1/\w.heap.size + 1 + 1<=w.heap.size + 2 by omega)))) _
      rw [List.getElem?_append] at hr'
      split at hr'
      ·refine ((((HRT.out i r' t' hr' ht').avoid (M':=fun b=>(M b∨(w.heap.size≤b∧b≤w.heap.size + 2)∨ov.ownBlock=some b)∨wr.heap.size≤b) fun b hb=>hb).keep (FS.mono fun _ _ h=> .inl h))).mono fun b hb=> ?_
       rcases hb with hb | hb | hb
       ·exact .inl (.inl hb)
       ·exact .inl (.inr (.inl hb))
       ·have hgb:gg=b:=by simpa [Value.ownBlock] using hb
        subst hgb;rcases HAT.out with h | h
        ·exact .inl (.inr (.inr h))
        ·exact .inr (by have:=WRSZ.out;omega)
      ·rename_i hni
       have hir:i=rs.length∧r'=r:=by
        rw [List.getElem?_cons] at hr'
        split at hr'
        ·rename_i h0;cases hr';exact ⟨by omega,rfl⟩
        ·simp at hr'
       obtain ⟨rfl,rfl⟩:=hir;have htt:t'=t:=by rw [HRS.out,T.out] at ht';exact (Option.some.inj ht').symm
       subst htt
       have FS2:Fr (fun b=>M b∨(w.heap.size≤b∧b≤w.heap.size + 2)∨ov.ownBlock=some b) w2 (w3.setCell ⟨w.heap.size + 1 + 1,4,none⟩ (.slice (some ⟨gg,0,none⟩) (rs.length + 1) gcap)):=
        ((((Fr.refl _ w2).alloc _).trans ((Fr.of_grown HG.out).mono fun _ _ h=> .inr (.inr h)))).setCell (.inl (.inr (.inl (show w.heap.size<=w.heap.size + 1 + 1/\w.heap.size + 1 + 1<=w.heap.size + 2 by omega)))) _
       refine ((HRR.out.avoid (M':=fun b=>(M b\/(w.heap.size<=b/\b<=w.heap.size + 2)\/ov.ownBlock=some b)\/w2.heap.size<=b) fun b hb=>hb).keep (FS2.mono fun _ _ h=> .inl h)).mono fun b hb=> ?_
       rcases hb with hb | hb | hb
       ·exact .inl (.inl hb)
       ·exact .inl (.inr (.inl hb))
       ·have hgb:gg=b:=by simpa [Value.ownBlock] using hb
        subst hgb;rcases HAT.out with h | h
        ·exact .inl (.inr (.inr h))
        ·exact .inr (by omega)
    case measure=>simp [intOf];omega
   ·have hj':j=xlen:=by omega
    have HJ:=hid hj';obtain ⟨oa,oc,hov,hel,hcap⟩:=HOWN.out.elems (fun b=>M b\/(w.heap.size<=b/\b<=w.heap.size + 2)) (fun g hg hm=>by have:=(World.ownsRow.lt HOWN.out g hg).1;rcases hm with hm | hm;have:=HM.out g hm;omega;omega);have HOV:=hid hov;have HEL:=hid hel;have HCAP:=hid hcap;clear hel hcap hB8 hj';subst hov;have q8:=zA B8.out;have q6:=zA R6.out;have f6:=zC R6.out;go_wp2;refine bodyPost_ret (v:= .agg #[.int .i64 xk,.int .i64 xn,.int .i64 xc,.bool xv,.slice oa rs.length oc,.string xnm]) ?_ rfl ?_
    ·exact ret6 rfl rfl (heap_set6 R6.out _ _ _ _ _ _)
    refine ⟨⟨xk,xn,xc,xv,oa,rs.length,oc,xnm⟩,rfl,rfl,?_,?_⟩
    rotate_left
    ·exact HF.out.set6 (.inr (Nat.le_succ _)) _ _ _ _ _ _
    have hS:Shape ⟨xk,xn,xc,xv,xa,xlen,xcap,xnm⟩ f xs:=SX.out;have hR:(Tm.node f ts).sub (nums (swp p q))= .node f (ts.map (Tm.sub (nums (swp p q)))):=Tm.sub_node _ f ts;rw [hR];have hnames:rs.map TyV.nm=xs.map TyV.nm:=by rw [HNM.out,List.take_of_length_le (by rw [LX.out];have:=HJ.out;omega)]
    refine .node _ f rs _ ⟨hS.k,hS.k10,hS.k2,hS.n,hS.c,?_,rfl,?_⟩ (by rw [List.length_map];have:=NX.out;simp [kids] at this;rw [this,LX.out,HRS.out];exact HJ.out.symm) ?_ ?_
    ·rw [hS.names]
     have:xs.map (fun y=>y.nm.toList)=rs.map (fun y=>y.nm.toList):=by
      have h:=congrArg (List.map ByteArray.toList) hnames;rw [List.map_map,List.map_map] at h;exact h.symm
     rw [this]
    ·have h1:=HCAP.out;have h2:=HRS.out;exact ⟨h1.1,by show rs.length<=_;omega,h1.2⟩
    ·have F6:Fr (fun b=>M b∨(w.heap.size≤b∧b≤w.heap.size + 2)) wr _:=(Fr.refl _ wr).set6 (b:=w.heap.size + 1) (.inl (.inr ⟨by omega,by omega⟩)) (.int .i64 xk) (.int .i64 xn) (.int .i64 xc) (.bool xv) (.slice oa rs.length oc) (.string xnm)
     exact (HEL.out.keep F6).avoid fun b hb=> .inl (.inl hb)
    ·have F6:Fr (fun b=>M b∨(w.heap.size≤b∧b≤w.heap.size + 2)∨(Value.slice oa rs.length oc).ownBlock=some b) wr _:=(Fr.refl _ wr).set6 (b:=w.heap.size + 1) (.inl (.inr (.inl ⟨by omega,by omega⟩))) (.int .i64 xk) (.int .i64 xn) (.int .i64 xc) (.bool xv) (.slice oa rs.length oc) (.string xnm)
     intro i y u hy hu;rw [List.getElem?_map] at hu
     cases htt:ts[i]? with
     |none=>rw [htt] at hu;cases hu
     |some t=>
      rw [htt] at hu;cases hu
      exact ((HRT.out i y t hy htt).keep F6).mono fun b hb=> .inl hb
end Go.Proofs.YtpekidjfbinekaaGreatDoor
