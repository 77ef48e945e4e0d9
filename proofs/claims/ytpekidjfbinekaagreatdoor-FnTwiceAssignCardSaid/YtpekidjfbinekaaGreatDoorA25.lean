/- J3, J4, J5 -/
import Derived.Test.YtpekidjfbinekaaGreatDoorA24
set_option maxRecDepth 100000
set_option maxHeartbeats 60000000
set_option linter.all false
namespace Go.Proofs.YtpekidjfbinekaaGreatDoor
open Go.RowKit Uni
theorem field_any (w:World)(a b off n fc i vb:Nat)(tags:Value)(hi:i < n)(h:w.heap[a]?=some (.cells #[.slice (some ⟨b,off,none⟩) n fc,tags] 223 (0,0)))(hc:w.cell? ⟨b,off + i,none⟩=some (.pointer (some ⟨vb,0,none⟩))):Calls Tryz.prog 139 #[.pointer (some ⟨a,0,none⟩),.int .i64 i] w fun e w'=>e= .returned (.pointer (some ⟨vb,0,none⟩))/\w'=w:=by
 have q:=zA h;have sz:=zF h;have s1:=World.block_lt_of_cell? _ _ hc;dsimp only at s1;have hle:(i:Int) < n:=by omega
 clear h;go_enter Tryz.func139,Tryz.ntmps139;go_wp2;go_ret;exact ⟨rfl,rfl⟩
theorem objType_any (w:World)(vb:Nat)(p0 pk nm k e0:Value)(ty:TypeId){pv:Value}(h:w.heap[vb]?=some (.cells #[p0,pk,nm,.iface ty pv,k,e0] 201 (0,0))):Calls Tryz.prog 140 #[.pointer (some ⟨vb,0,none⟩)] w fun e w'=>e= .returned (.iface ty pv)/\w'=w:=by
 have q:=zA h;have sz:=zF h;clear h;go_enter Tryz.func140,Tryz.ntmps140;go_wp2;go_ret;exact ⟨rfl,rfl⟩
theorem objName_any (w:World)(vb:Nat)(p0 pk v k e0:Value)(nm:ByteArray)(h:w.heap[vb]?=some (.cells #[p0,pk,.string nm,v,k,e0] 201 (0,0))):Calls Tryz.prog 141 #[.pointer (some ⟨vb,0,none⟩)] w fun e w'=>e= .returned (.string nm)/\w'=w:=by
 have q:=zA h;have sz:=zF h;clear h;go_enter Tryz.func141,Tryz.ntmps141;go_wp2;go_ret;exact ⟨rfl,rfl⟩
theorem backStruct_any {E:GEnv}{bb:Nat}(w:World)(M:Nat->Prop)(hM: ∀b,M b->b < w.heap.size)(f:Lab)(a:Nat)(hk:f.kind=9)(hN:Norm f)(fa:Option Addr)(fc:Nat)(vs:List Value)(ts:List Tm)(hnl:f.names.length=ts.length)
 (hs:w.heap[a]?=some (.cells #[.slice fa vs.length fc,.slice none 0 0] 223 (0,0))) (hvl:vs.length=ts.length) (hat:xJ w E fa vs f.names) (hif: ∀v∈vs,∃ty pv,v= .iface ty pv) (hlen:ts.length<=1954687338211)
 (IH: ∀(i:Nat) (v:Value) (t:Tm),vs[i]?=some v->ts[i]?=some t-> ∀(M:Nat->Prop) w',Fr F0 w w'->(∀b,M b->b < w'.heap.size)->Calls Tryz.prog 64 #[.pointer (some ⟨bb,0,none⟩),v] w' (yC w' M t)):
 Calls Tryz.prog 107 #[.pointer (some ⟨bb,0,none⟩),.pointer (some ⟨a,0,none⟩)] w (yC w M (.node f ts)):=by
 have HM:=hid hM;have HK:=hid hk;have HN:=hid hN;have NL:=hid hnl;obtain ⟨i0,hi0,hz0,hz1,hz2⟩:=info_parts info26;have VL:=hid hvl;have AT:=hid hat;have HI:=hid IH;have IF:=hid hif;obtain ⟨L,hL⟩: ∃L,L=vs.length:=⟨_,rfl⟩;have LL:=hid hL;rw [<-hL] at hs;have HS:=hid hs;have hLb:L<=1954687338211:=by omega
 clear hM hk hN hvl hat IH hif hL hlen hs hnl;go_enter Tryz.func107,Tryz.ntmps107;go_wp2_with (refine zR rfl _ _ rfl rfl (w.heap.size + 1) ⟨9,0,0,false,none,0,0,⟨#[]⟩⟩ rfl rfl (zS w (.cells yK 26) (.cells yK 26)) ?_)
 intro W1 hW fW;have f2:Fr F0 w ((w.alloc (.cells yK 26)).alloc (.cells yK 26)):=((Fr.refl F0 w).alloc _).alloc _;have z2:((w.alloc (.cells yK 26)).alloc (.cells yK 26)).heap[w.heap.size]?=some (.cells yK 26 (0,0)):=((Fr.refl F0 _).alloc (.cells yK 26)).heap id (heap_alloc_new w (.cells yK 26));have R0F:=hid (f2.transNew fW (fun x hx=> .inr (by omega)));have R0Z:=hid (fW.heap (by omega) z2);have R0B:=hid hW
 clear hW fW f2 z2;go_wp2_with fail
 refine (numFields_any a fa L fc _ _ (R0F.out.heap id HS.out)).mono ?_;rintro e w3 ⟨rfl,rfl⟩;go_wp2_with fail
 go_loopw [6,7,11] (fun _ _ i wr=> ∃(j:Nat) (ov:Value) (rs:List TyV),j<=L/\i= .int .i64 j/\Fr F0 w wr/\wr.heap[w.heap.size]?=some (.cells yK 26 (0,0))/\wr.heap[w.heap.size + 1]?=some (.cells #[.int .i64 9,.int .i64 0,.int .i64 0,.bool false,ov,.string ⟨#[]⟩] 26 (0,0))/\BRow wr (fun b=>M b\/b=w.heap.size\/b=w.heap.size + 1) (w.heap.size + 2) ov j rs ts/\rs.map (fun r=>r.nm.toList)=f.names.take j) (fun _ _ i _=>L - (intOf i).toNat)
 case atStart=>exact ⟨0,_,[],Nat.zero_le _,rfl,R0F.out,R0Z.out,R0B.out,BRow.start _ _ _ _,rfl⟩
 case round=>
  obtain ⟨WY,rfl⟩: ∃WY:World,WY=wr:=⟨wr,rfl⟩;obtain ⟨k,ov,rs,hk2,rfl,hF,hZ,hB5,hR5,hNm⟩:=hrel;have NMY:=hid hNm;clear hNm;have FY:=hid hF;have ZY:=hid hZ;have BY:=hid hB5;have RY:=hid hR5;clear hF hZ hB5 hR5
  have AB:=hid (show ∀b,(M b∨b=w.heap.size∨b=w.heap.size + 1)→b < w.heap.size + 2 from fun b hb=>by
   rcases hb with hb | hb | hb
   ·have:=HM.out b hb;omega
   ·omega
   ·omega)
  by_cases hlt2:k < L
  ·have hle2:(k:Int) < L:=by omega
   obtain ⟨v,hv⟩: ∃v,vs[k]?=some v:=⟨vs[k]'(by have:=LL.out;omega),by simp⟩;obtain ⟨t,ht⟩: ∃t,ts[k]?=some t:=⟨ts[k]'(by have:=LL.out;have:=VL.out;omega),by simp⟩;obtain ⟨b,off,rfl,_,_,hcc⟩:=AT.out.resolve_left (fun h=>by have:=LL.out;rw [h] at this;simp at this;omega);obtain ⟨vb,p0,kk,nm,hc1,_,hc2,hc3⟩:=hcc k v hv;obtain ⟨ty,pv,rfl⟩:=IF.out v (List.mem_of_getElem? hv);obtain ⟨n',hn'⟩: ∃n',f.names[k]?=some n':=⟨f.names[k]'(by have:=LL.out;have:=VL.out;have:=NL.out;omega),by simp⟩
   obtain ⟨hn1,_⟩:=hc3 n' hn';have HV:=hid hv;have HTk:=hid ht;have CC:=hid hc1;have VB:=hid hc2;have NK:=hid hn';have NE:=hid hn1;clear hc1 hc2 hc3 hn' hn1;have nB: ¬ov.ownBlock=some (w.heap.size + 1):=fun h=>by have h1:=(World.ownsRow.lt RY.out.own _ h).1;omega
   have nZ: ¬ov.ownBlock=some w.heap.size:=fun h=>by have h1:=(World.ownsRow.lt RY.out.own _ h).1;omega
   have NB:=hid nB;have NZ:=hid nZ;clear nB nZ hv ht hcc;go_wp2_with fail
   refine (field_any WY a b off L fc k vb _ hlt2 (FY.out.heap id HS.out) (FY.out.cell id CC.out)).mono ?_;rintro e w4 ⟨rfl,rfl⟩;have sv:=zF (FY.out.heap id VB.out);go_wp2_with fail
   refine (objType_any _ vb _ _ _ _ _ _ (FY.out.heap id VB.out)).mono ?_;rintro e w4' ⟨rfl,rfl⟩
   have hMX: ∀b,((M b∨b=w.heap.size∨b=w.heap.size + 1)∨ov.ownBlock=some b)→b < w4'.heap.size:=fun b hb=>by
    rcases hb with hb | hb
    ·have h1:=AB.out b hb;have h2:=zF BY.out;omega
    ·exact (World.ownsRow.lt RY.out.own _ hb).2
   have MX:=hid hMX;clear hMX sv;go_wp2_with fail
   refine (HI.out k _ t HV.out HTk.out (fun b=>(M b\/b=w.heap.size\/b=w.heap.size + 1)\/ov.ownBlock=some b) _ FY.out MX.out).mono ?_;rintro e w5 ⟨r,rfl,hr,hf5⟩;have R5:=hid hr;have F5:=hid hf5;clear hr hf5;unfold TyV.val;have FA5:=hid ((Fr.refl F0 w5).alloc (.cells yK 26));go_wp2_with (refine zR rfl _ _ rfl rfl w5.heap.size r rfl rfl (heap_alloc_new w5 (.cells yK 26)) ?_)
   intro W6 hW6 fW6;have HW6:=hid hW6;have F6a:=hid (FA5.out.transNew fW6 (fun x hx=> .inr (by omega)));clear hW6 fW6;go_wp2_with fail
   have FY6:=hid (FY.out.trans (F5.out.trans F6a.out));refine (field_any W6 a b off L fc k vb _ hlt2 (FY6.out.heap id HS.out) (FY6.out.cell id CC.out)).mono ?_;rintro e w4 ⟨rfl,rfl⟩;have sv:=zF (FY6.out.heap id VB.out);go_wp2_with fail
   refine (objName_any _ vb _ _ _ _ _ _ (FY6.out.heap id VB.out)).mono ?_;rintro e W6' ⟨rfl,rfl⟩;clear sv;have q6:=zA HW6.out;have f6:=zC HW6.out;have s6:=zF HW6.out;have FC6:Fr (fun b=>b=w5.heap.size) W6' (W6'.setCell ⟨w5.heap.size,5,none⟩ (.string nm)):=(Fr.refl (fun b=>b=w5.heap.size) W6').setCell (p:=⟨w5.heap.size,5,none⟩) (.inl rfl) _;have F7:=hid (F6a.out.transNew FC6 (fun x hx=> .inr (by omega)))
   obtain ⟨w7,hw7⟩: ∃w7,w7=W6'.setCell ⟨w5.heap.size,5,none⟩ (.string nm):=⟨_,rfl⟩;rw [<-hw7] at F7;have HW7:=hid hw7;have B6:=hid ((F5.out.trans F6a.out).heap id BY.out);have q8:=zA B6.out;have s8:=zF B6.out;have R7:=hid ((R5.out.keep F7.out.sub).rename nm);have F57:=hid (F5.out.trans F7.out);have hne5: ¬w.heap.size + 1=w5.heap.size:=by have h1:=zF BY.out;have h2:=F5.out.size;omega
   have hne6: ¬w5.heap.size=w.heap.size + 1:=fun h=>hne5 h.symm
   have S7:=hid (show w7.heap.size=W6'.heap.size by rw [hw7];simp [World.setCell]);clear FC6 hw7;have OA:=hid ((zV RY.out.own F57.out (fun _ _ h=>h)).alloc (.cells #[.int .i64 r.k,.int .i64 r.n,.int .i64 r.c,.bool r.v,.slice r.a r.len r.cap,.string nm] 26));have HRL:=hid RY.out.len;have N63:=hid (show rs.length + 1<=maxLen by have:=HRL.out;unfold maxLen;omega);have N72:=hid (show (rs.length + 1) * 72<=140737488355328 by have:=HRL.out;omega)
   have SZ2:=hid (show w.heap.size + 2<=(w7.alloc (.cells #[.int .i64 r.k,.int .i64 r.n,.int .i64 r.c,.bool r.v,.slice r.a r.len r.cap,.string nm] 26)).heap.size by have h1:=zF BY.out;have h2:=F57.out.size;simp;omega);have nB: ¬ov.ownBlock=some (w.heap.size + 1):=fun h=>by have h1:=(World.ownsRow.lt RY.out.own _ h).1;omega
   have nZ: ¬ov.ownBlock=some w.heap.size:=fun h=>by have h1:=(World.ownsRow.lt RY.out.own _ h).1;omega
   have NB:=hid nB;have NZ:=hid nZ;clear nB nZ;go_wp2_with (rw [<-HW7.out];refine wpList_append_lies _ rfl _ _ 24 rfl (w.heap.size + 2) 26 i0 _ 6 72 Tryz.underlying24 hi0 hz0 hz1 hz2 rfl (by omega) ov rs.length (rs.flatMap zW) (by rfl) OA.out ⟨W6'.heap.size,0,none⟩ 1 1 (zW {r with nm:=nm}) (by rfl) (by rfl) (World.news_of_block (cs:= #[.int .i64 r.k,.int .i64 r.n,.int .i64 r.c,.bool r.v,.slice r.a r.len r.cap,.string nm]) (t:=26) (fr:=(0,0)) (by have h:=heap_alloc_new w7 (.cells #[.int .i64 r.k,.int .i64 r.n,.int .i64 r.c,.bool r.v,.slice r.a r.len r.cap,.string nm] 26);rw [S7.out] at h;exact h)) (by simp [zW,Value.oneCell']) (by omega) N63.out N72.out SZ2.out (W6'.heap.size + 1) (by simp [S7.out]) ?_)
   intro g cap w8 hown6 hgrow hg1 hg2;have F56:Fr (fun b=>ov.ownBlock=some b) w7 w8:=(Fr.alloc (Fr.refl _ w7) _).trans (Fr.of_grown hgrow);have F6:=hid (F57.out.sub.trans F56);rw [HRL.out] at hown6
   have hown7:OwnT w8 (w.heap.size + 2) (.slice (some ⟨g,0,none⟩) (k + 1) cap) (rs ++ [{r with nm:=nm}]):=by
    unfold OwnT;rw [List.length_append,HRL.out,List.flatMap_append];simpa using hown6
   have B8:=hid (F6.out.heap NB.out BY.out);have NEXT:=hid (BRow.next RY.out F57.out HTk.out R7.out F56 hown7 (by rcases hg1 with h | h;exact .inl h;exact .inr (by have:=S7.out;omega)));have OW:=hid (World.ownsRow.lt RY.out.own);have Z8:=hid (F6.out.heap NZ.out ZY.out);clear F56 hown6 hown7 hgrow hg1 hg2 q6 f6 s6 q8 s8;rw [HRL.out];have q3:=zA B8.out;have f3:=zC B8.out;have s3:=zF B8.out;have FC:Fr (fun b=>b=w.heap.size + 1) w8 (w8.setCell ⟨w.heap.size + 1,4,none⟩ (.slice (some ⟨g,0,none⟩) (k + 1) cap)):=(Fr.refl (fun b=>b=w.heap.size + 1) w8).setCell (p:=⟨w.heap.size + 1,4,none⟩) (.inl rfl) _
   have X1:=hid (show Fr F0 w (w8.setCell ⟨w.heap.size + 1,4,none⟩ (.slice (some ⟨g,0,none⟩) (k + 1) cap)) from (FY.out.transNew F6.out (fun b hb=> .inr (by have:=(OW.out b hb).1;omega))).transNew FC (fun x hx=> .inr (by omega)));have X2:=hid (FC.heap (by omega) Z8.out);have X3:=hid (heap_setCell (a:=⟨w.heap.size + 1,4,none⟩) (v:= .slice (some ⟨g,0,none⟩) (k + 1) cap) B8.out rfl);have X4:=hid (NEXT.out.keep (FC.mono fun b _ hb=> .inr (.inr hb)) AB.out)
   have X5:=hid (show (rs ++ [{r with nm:=nm}]).map (fun r:TyV=>r.nm.toList)=f.names.take (k + 1) from by
    rw [List.map_append,NMY.out,List.take_add_one,NK.out];simp [NE.out])
   clear FC;go_wp2;go_roundw
   case rel=>exact ⟨k + 1,_,_,by omega,by go_num,X1.out,X2.out,X3.out,X4.out,X5.out⟩
   case measure=>simp [intOf];omega
  ·have hkL:k=L:=by omega
   subst hkL;have hle2: ¬(k:Int) < k:=by omega
   obtain ⟨ea,ec,hov,hel,hc1,hc2,hrt⟩:=RY.out.fin AB.out;subst hov;have EL:=hid hel;have RT5:=hid hrt;have hrl:=hid RY.out.len;have NMF:=hid (show rs.map (fun r:TyV=>r.nm.toList)=f.names from by rw [NMY.out];exact List.take_of_length_le (by have:=NL.out;have:=VL.out;have:=LL.out;omega));clear hel hrt;have q:=zA BY.out;have s5:=zF BY.out;go_wp2_with (refine zR rfl _ _ rfl rfl w.heap.size ⟨9,0,0,false,ea,k,ec,⟨#[]⟩⟩ rfl rfl ZY.out ?_)
   intro WF hWF fWF;have HW:=hid hWF;have FW:=hid (FY.out.transNew fWF (fun x hx=> .inr (by omega)));have FM:=hid (fWF.mono (M':=fun b=>M b\/b=w.heap.size\/b=w.heap.size + 1) fun b _ hb=> .inr (.inl hb));clear hWF fWF;go_wp2;refine bodyPost_ret (ret6 rfl rfl HW.out) rfl ?_;refine ⟨⟨9,0,0,false,ea,k,ec,⟨#[]⟩⟩,rfl,.node _ f rs ts ⟨by rw [HK.out];rfl,by rw [HK.out];decide,by rw [HK.out];decide,by rw [if_neg (by rw [HK.out];decide)];exact HN.out.n (by rw [HK.out];decide) (by rw [HK.out];decide) (by rw [HK.out];decide) (by rw [HK.out];decide) (by rw [HK.out];decide),by rw [if_neg (by rw [HK.out];decide)];exact HN.out.c (by rw [HK.out];decide),by rw [if_pos HK.out,<-NMF.out],hrl.out,⟨hc1,hLb,hc2⟩⟩ (by rw [hrl.out,LL.out,VL.out]) ?_ (fun i y t h1 h2=>((RT5.out i y t h1 h2).keep FM.out).mono fun b hb=> .inl hb),FW.out⟩
   rcases EL.out.keep FM.out with h | ⟨b,off,h1,h2⟩
   ·exact .inl h
   ·exact .inr ⟨b,off,h1,fun i y hy=>⟨fun hm=>(h2 i y hy).m (.inl hm),(h2 i y hy).c0,(h2 i y hy).c1,(h2 i y hy).c2,(h2 i y hy).c3,(h2 i y hy).c4,(h2 i y hy).c5⟩⟩
theorem tupElem {w:World}{E:GEnv}{pv:Value}{vs:List Value}(h:yZ w E pv vs){i:Nat}{v:Value}(hv:vs[i]?=some v): ∃vb,(∀w',Fr F0 w w'->Calls Tryz.prog 119 #[pv,.int .i64 i] w' fun e w''=>e= .returned (.pointer (some ⟨vb,0,none⟩))/\w''=w')/\
 ∃p0 nm k,w.heap[vb]?=some (.cells #[p0,E.pk,nm,v,k,.bool false] 201 (0,0)):=by
 rcases h with ⟨rfl,_⟩ | ⟨tb,va,vc,_,rfl,_,htb,_,_,hva⟩
 ·simp at hv
 ·rcases hva with rfl | ⟨ab,ao,rfl,_,_,hel⟩
  ·simp at hv
  ·obtain ⟨vb,p0,k,nm,he1,_,he2,_⟩:=hel i v hv
   exact ⟨vb,fun w' f=>tupleAt_any w' tb ab ao vs.length vc i ⟨vb,0,none⟩ (List.getElem?_eq_some_iff.1 hv).1 (f.heap id htb) (f.cell id he1),p0,_,k,he2⟩
theorem backFunc_any {E:GEnv}{bb:Nat}(w:World)(M:Nat->Prop)(hM: ∀b,M b->b < w.heap.size)(f:Lab)(a:Nat)(hk:f.kind=10)(hN:Norm f)(pp rp:Value)(vs:List Value)(ts:List Tm)(hcnt:f.cnt<=ts.length)
 (hs:w.heap[a]?=some (.cells #[.pointer none,.pointer none,pp,rp,.bool f.vari] 136 (0,0))) (hvl:vs.length=ts.length) (hp:yZ w E pp (vs.take f.cnt)) (hr:yZ w E rp (vs.drop f.cnt)) (hif: ∀v∈vs,∃ty pv,v= .iface ty pv) (hlen:ts.length<=1954687338211)
 (IH: ∀(i:Nat) (v:Value) (t:Tm),vs[i]?=some v->ts[i]?=some t-> ∀(M:Nat->Prop) w',Fr F0 w w'->(∀b,M b->b < w'.heap.size)->Calls Tryz.prog 64 #[.pointer (some ⟨bb,0,none⟩),v] w' (yC w' M t)):
 Calls Tryz.prog 108 #[.pointer (some ⟨bb,0,none⟩),.pointer (some ⟨a,0,none⟩)] w (yC w M (.node f ts)):=by
 have HM:=hid hM;have HK:=hid hk;have HN:=hid hN;obtain ⟨i0,hi0,hz0,hz1,hz2⟩:=info_parts info26;have VL:=hid hvl;have PT1:=hid hp;have RT1:=hid hr;have HI:=hid IH;have IF:=hid hif;obtain ⟨pp,rfl⟩: ∃q,pp= .pointer q:=by rcases hp with ⟨_,rfl⟩ | ⟨_,_,_,_,rfl,_⟩ <;>exact ⟨_,rfl⟩
 obtain ⟨rp,rfl⟩: ∃q,rp= .pointer q:=by rcases hr with ⟨_,rfl⟩ | ⟨_,_,_,_,rfl,_⟩ <;>exact ⟨_,rfl⟩
 obtain ⟨L,hL⟩: ∃L,L=vs.length:=⟨_,rfl⟩;have LL:=hid hL;have HS:=hid hs;have hLb:L<=1954687338211:=by omega
 have hcL:f.cnt<=L:=by omega
 clear hM hk hN hvl hp hr IH hif hL hlen hs hcnt;have FA:=hid ((Fr.refl F0 w).alloc (.cells #[.int .i64 0,.int .i64 0,.int .i64 0,.bool false,.slice none 0 0,.string ⟨#[]⟩] 26));have qs:=zA (FA.out.heap id HS.out);have ss:=zF (FA.out.heap id HS.out);go_enter Tryz.func108,Tryz.ntmps108;go_wp2_with (first | (go_at_call 142;go_in) | fail)
 refine (tupLen _ _ _ (PT1.out.keep FA.out.sub)).mono ?_;rintro e w4 ⟨rfl,hw4⟩;rw [List.length_take,<-LL.out,Nat.min_eq_left hcL];subst hw4;have z1:=heap_alloc_new w (.cells yK 26);go_wp2_with (first | (go_at_call 143;go_in) | (refine zR rfl _ _ rfl rfl (w.heap.size + 1) ⟨10,0,f.cnt,f.vari,none,0,0,⟨#[]⟩⟩ rfl rfl (zS w (.cells yK 26) (.cells yK 26)) ?_))
 intro W1 hW fW;have f2:Fr F0 w ((w.alloc (.cells yK 26)).alloc (.cells yK 26)):=((Fr.refl F0 w).alloc _).alloc _;have z2:((w.alloc (.cells yK 26)).alloc (.cells yK 26)).heap[w.heap.size]?=some (.cells yK 26 (0,0)):=((Fr.refl F0 _).alloc (.cells yK 26)).heap id (heap_alloc_new w (.cells yK 26));have R0F:=hid (f2.transNew fW (fun x hx=> .inr (by omega)));have R0Z:=hid (fW.heap (by omega) z2);have R0B:=hid hW
 clear hW fW f2 z2 z1 qs ss;have qs:=zA (R0F.out.heap id HS.out);have ss:=zF (R0F.out.heap id HS.out);go_wp2_with (first | (go_at_call 142;go_in) | fail)
 clear qs ss;refine (tupLen _ _ _ (PT1.out.keep R0F.out.sub)).mono ?_;rintro e w3 ⟨rfl,hw3⟩;rw [List.length_take,<-LL.out,Nat.min_eq_left hcL];subst hw3;go_wp2_with fail
 go_loopw [6,17] (fun _ i wr=> ∃(j:Nat) (ov:Value) (rs:List TyV),j<=f.cnt/\i= .int .i64 j/\Fr F0 w wr/\wr.heap[w.heap.size]?=some (.cells yK 26 (0,0))/\wr.heap[w.heap.size + 1]?=some (.cells #[.int .i64 10,.int .i64 0,.int .i64 f.cnt,.bool f.vari,ov,.string ⟨#[]⟩] 26 (0,0))/\BRow wr (fun b=>M b\/b=w.heap.size\/b=w.heap.size + 1) (w.heap.size + 2) ov j rs ts) (fun _ i _=>f.cnt - (intOf i).toNat)
 case atStart=>exact ⟨0,_,[],Nat.zero_le _,rfl,R0F.out,R0Z.out,R0B.out,BRow.start _ _ _ _⟩
 case round=>
  obtain ⟨WY,rfl⟩: ∃WY:World,WY=wr:=⟨wr,rfl⟩;obtain ⟨k,ov,rs,hk2,rfl,hF,hZ,hB5,hR5⟩:=hrel;have FY:=hid hF;have ZY:=hid hZ;have BY:=hid hB5;have RY:=hid hR5;clear hF hZ hB5 hR5
  have AB:=hid (show ∀b,(M b∨b=w.heap.size∨b=w.heap.size + 1)→b < w.heap.size + 2 from fun b hb=>by
   rcases hb with hb | hb | hb
   ·have:=HM.out b hb;omega
   ·omega
   ·omega)
  by_cases hlt2:k < f.cnt
  ·have hle2:(k:Int) < f.cnt:=by omega
   obtain ⟨v,hv⟩: ∃v,vs[k]?=some v:=⟨vs[k]'(by have:=LL.out;omega),by simp⟩;obtain ⟨t,ht⟩: ∃t,ts[k]?=some t:=⟨ts[k]'(by have:=LL.out;have:=VL.out;omega),by simp⟩;have hvp:(vs.take f.cnt)[k]?=some v:=by rw [List.getElem?_take,if_pos hlt2];exact hv
   obtain ⟨vb,hcall,p0,nm,kk,hvb⟩:=tupElem PT1.out hvp;obtain ⟨ty,pvv,rfl⟩:=IF.out v (List.mem_of_getElem? hv);have HV:=hid hv;have HTk:=hid ht;have TC:=hid hcall;have VB:=hid hvb;clear hv ht hvp hcall hvb;have nB: ¬ov.ownBlock=some (w.heap.size + 1):=fun h=>by have h1:=(World.ownsRow.lt RY.out.own _ h).1;omega
   have nZ: ¬ov.ownBlock=some w.heap.size:=fun h=>by have h1:=(World.ownsRow.lt RY.out.own _ h).1;omega
   have NB:=hid nB;have NZ:=hid nZ;clear nB nZ;go_wp2_with fail
   refine zG (Fr (fun b=>ov.ownBlock=some b) WY) [(0,true),(1,true),(2,true),(3,true),(5,true),(4,false),(6,false),(7,false),(8,false),(9,false),(10,false),(11,false),(12,false),(13,false),(14,false)] [13,14] yE (by kernel_rfl) (by kernel_rfl) (by kernel_rfl) (by decide) ?_
   iterate 5
    (refine zH _ rfl (Fr.refl _ _).drew (fun w' hS=>by
     have q0:=zA (hS.heap NB.out BY.out);have s0:=zF (hS.heap NB.out BY.out);clear hS;go_simp;rfl) ?_)
   go_simp;refine zB rfl ?_;have F0D:=hid ((Fr.refl F0 WY).drew);have qs:=zA ((FY.out.trans F0D.out).heap id HS.out);have ss:=zF ((FY.out.trans F0D.out).heap id HS.out);go_wp2_with (first | (go_at_call 142;go_in) | fail)
   clear qs ss;refine And.intro (fun _=>F0D.out.sub) ?_;refine zB rfl ?_;go_wp2_with fail
   refine (TC.out _ (FY.out.trans F0D.out)).mono ?_;rintro e w4 ⟨rfl,rfl⟩;have sv:=zF ((FY.out.trans F0D.out).heap id VB.out);go_wp2;refine And.intro (fun _=>F0D.out.sub) ?_;refine zB rfl ?_;go_wp2;refine And.intro (fun _=>F0D.out.sub) ?_;refine zB rfl ?_;go_wp2;refine And.intro (fun _=>F0D.out.sub) ?_;refine zB rfl ?_;go_wp2_with fail
   refine (objType_any _ vb _ _ _ _ _ _ ((FY.out.trans F0D.out).heap id VB.out)).mono ?_;rintro e w4 ⟨rfl,rfl⟩;go_wp2;refine And.intro (fun _=>F0D.out.sub) ?_;refine zB rfl ?_;clear sv
   have hMX: ∀b,((M b∨b=w.heap.size∨b=w.heap.size + 1)∨ov.ownBlock=some b)→b < WY.drew.heap.size:=fun b hb=>by
    rcases hb with hb | hb
    ·have h1:=AB.out b hb;have h2:=zF BY.out;show b < WY.heap.size;omega
    ·exact (World.ownsRow.lt RY.out.own _ hb).2
   have MX:=hid hMX;clear hMX;go_wp2_with fail
   refine (HI.out k _ t HV.out HTk.out (fun b=>(M b\/b=w.heap.size\/b=w.heap.size + 1)\/ov.ownBlock=some b) _ (FY.out.trans F0D.out) MX.out).mono ?_;rintro e w5 ⟨r,rfl,hr,hf5⟩;have R5:=hid hr;have F5:=hid (F0D.out.trans hf5);clear hr hf5;unfold TyV.val;go_wp2;refine And.intro (fun _=>F5.out.sub) ?_;refine zB rfl ?_;go_wp2;refine And.intro (fun _=>F5.out.sub.alloc _) ?_;refine zB rfl ?_;have OA:=hid ((zV RY.out.own F5.out (fun _ _ h=>h)).alloc (.cells #[.int .i64 r.k,.int .i64 r.n,.int .i64 r.c,.bool r.v,.slice r.a r.len r.cap,.string r.nm] 26))
   have hrl:=RY.out.len;have N63:=hid (show rs.length + 1<=maxLen by unfold maxLen;omega);have N72:=hid (show (rs.length + 1) * 72<=140737488355328 by omega);have SZ2:=hid (show w.heap.size + 2<=(w5.alloc (.cells #[.int .i64 r.k,.int .i64 r.n,.int .i64 r.c,.bool r.v,.slice r.a r.len r.cap,.string r.nm] 26)).heap.size by have h1:=zF BY.out;have h2:=F5.out.size;simp;omega);refine wpList_append_lies _ rfl _ _ 24 rfl (w.heap.size + 2) 26 i0 _ 6 72 Tryz.underlying24 hi0 hz0 hz1 hz2 rfl (by omega) ov rs.length (rs.flatMap zW) (by rfl) OA.out ⟨w5.heap.size,0,none⟩ 1 1 (zW r) (by rfl) (by rfl) (World.news_of_block (cs:= #[.int .i64 r.k,.int .i64 r.n,.int .i64 r.c,.bool r.v,.slice r.a r.len r.cap,.string r.nm]) (t:=26) (fr:=(0,0)) (heap_alloc_new w5 _)) (by simp [zW,Value.oneCell']) (by omega) N63.out N72.out SZ2.out (w5.heap.size + 1) (by simp) ?_
   intro g cap w6 hown6 hgrow hg1 hg2;have F56:Fr (fun b=>ov.ownBlock=some b) w5 w6:=(Fr.alloc (Fr.refl _ w5) _).trans (Fr.of_grown hgrow);have F6:=hid (F5.out.sub.trans F56);rw [hrl] at hown6
   have hown7:OwnT w6 (w.heap.size + 2) (.slice (some ⟨g,0,none⟩) (k + 1) cap) (rs ++ [r]):=by
    unfold OwnT;rw [List.length_append,hrl,List.flatMap_append];simpa using hown6
   have B6:=hid (F6.out.heap NB.out BY.out);have NEXT:=hid (BRow.next RY.out F5.out HTk.out R5.out F56 hown7 (by rcases hg1 with h | h;exact .inl h;exact .inr (by omega)));have OW:=hid (World.ownsRow.lt RY.out.own);have Z6:=hid (F6.out.heap NZ.out ZY.out);clear F56 hown6 hown7 hgrow hg1 hg2;rw [hrl];go_wp2;refine And.intro (fun _=>F6.out) ?_;refine zB rfl ?_;go_wp2;refine And.intro (fun h=>absurd h (by decide)) ?_
   refine zB rfl ?_;have q3:=zA B6.out;have f3:=zC B6.out;have s3:=zF B6.out;go_wp2;refine And.intro (fun h=>absurd h (by decide)) ?_;refine zO (NoPanic.normal ?_);clear q3 f3 s3;have FC:Fr (fun b=>b=w.heap.size + 1) w6 (w6.setCell ⟨w.heap.size + 1,4,none⟩ (.slice (some ⟨g,0,none⟩) (k + 1) cap)):=(Fr.refl (fun b=>b=w.heap.size + 1) w6).setCell (p:=⟨w.heap.size + 1,4,none⟩) (.inl rfl) _;have X1:=hid (show Fr F0 w (w6.setCell ⟨w.heap.size + 1,4,none⟩ (.slice (some ⟨g,0,none⟩) (k + 1) cap)) from (FY.out.transNew F6.out (fun b hb=> .inr (by have:=(OW.out b hb).1;omega))).transNew FC (fun x hx=> .inr (by omega)))
   have X2:=hid (FC.heap (by omega) Z6.out);have X3:=hid (heap_setCell (a:=⟨w.heap.size + 1,4,none⟩) (v:= .slice (some ⟨g,0,none⟩) (k + 1) cap) B6.out rfl);have X4:=hid (NEXT.out.keep (FC.mono fun b _ hb=> .inr (.inr hb)) AB.out);clear FC;go_wp2;go_roundw
   case rel=>exact ⟨k + 1,_,_,by omega,by go_num,X1.out,X2.out,X3.out,X4.out⟩
   case measure=>simp [intOf];omega
  ·have hkL:k=f.cnt:=by omega
   subst hkL;have hle2: ¬((f.cnt:Nat):Int) < f.cnt:=by omega
   have qs:=zA (FY.out.heap id HS.out);have ss:=zF (FY.out.heap id HS.out);go_wp2_with (first | (go_at_call 144;go_in) | fail)
   clear qs ss;refine (tupLen _ _ _ (RT1.out.keep FY.out.sub)).mono ?_;rintro e w4 ⟨rfl,rfl⟩;obtain ⟨N2,hN2⟩: ∃N2,N2=L - f.cnt:=⟨_,rfl⟩;rw [List.length_drop,<-LL.out,<-hN2];have NN2:=hid hN2;have hN2b:N2<=L:=by omega
   clear hN2;go_wp2_with fail
   go_loopw [7,38] (fun _ i wr=> ∃(j:Nat) (ov:Value) (rs:List TyV),j<=N2/\i= .int .i64 j/\Fr F0 w wr/\wr.heap[w.heap.size]?=some (.cells yK 26 (0,0))/\wr.heap[w.heap.size + 1]?=some (.cells #[.int .i64 10,.int .i64 0,.int .i64 f.cnt,.bool f.vari,ov,.string ⟨#[]⟩] 26 (0,0))/\BRow wr (fun b=>M b\/b=w.heap.size\/b=w.heap.size + 1) (w.heap.size + 2) ov (f.cnt + j) rs ts) (fun _ i _=>N2 - (intOf i).toNat)
   case atStart=>exact ⟨0,_,rs,Nat.zero_le _,rfl,FY.out,ZY.out,BY.out,by have h:=RY.out;exact h⟩
   case round=>
    obtain ⟨WY,rfl⟩: ∃WY:World,WY=wr:=⟨wr,rfl⟩;obtain ⟨k,ov,rs,hk2,rfl,hF,hZ,hB5,hR5⟩:=hrel;have FY:=hid hF;have ZY:=hid hZ;have BY:=hid hB5;have RY:=hid hR5;clear hF hZ hB5 hR5
    have AB:=hid (show ∀b,(M b∨b=w.heap.size∨b=w.heap.size + 1)→b < w.heap.size + 2 from fun b hb=>by
     rcases hb with hb | hb | hb
     ·have:=HM.out b hb;omega
     ·omega
     ·omega)
    by_cases hlt2:k < N2
    ·have hle2:(k:Int) < N2:=by omega
     obtain ⟨v,hv⟩: ∃v,vs[f.cnt + k]?=some v:=⟨vs[f.cnt + k]'(by have:=LL.out;have:=NN2.out;omega),by simp⟩;obtain ⟨t,ht⟩: ∃t,ts[f.cnt + k]?=some t:=⟨ts[f.cnt + k]'(by have:=LL.out;have:=VL.out;have:=NN2.out;omega),by simp⟩;have hvp:(vs.drop f.cnt)[k]?=some v:=by rw [List.getElem?_drop];exact hv
     obtain ⟨vb,hcall,p0,nm,kk,hvb⟩:=tupElem RT1.out hvp;obtain ⟨ty,pvv,rfl⟩:=IF.out v (List.mem_of_getElem? hv);have HV:=hid hv;have HTk:=hid ht;have TC:=hid hcall;have VB:=hid hvb;clear hv ht hvp hcall hvb;have nB: ¬ov.ownBlock=some (w.heap.size + 1):=fun h=>by have h1:=(World.ownsRow.lt RY.out.own _ h).1;omega
     have nZ: ¬ov.ownBlock=some w.heap.size:=fun h=>by have h1:=(World.ownsRow.lt RY.out.own _ h).1;omega
     have NB:=hid nB;have NZ:=hid nZ;clear nB nZ;go_wp2_with fail
     refine zG (Fr (fun b=>ov.ownBlock=some b) WY) [(0,true),(1,true),(2,true),(3,true),(5,true),(4,false),(6,false),(7,false),(8,false),(9,false),(10,false),(11,false),(12,false),(13,false),(14,false)] [13,14] yE (by kernel_rfl) (by kernel_rfl) (by kernel_rfl) (by decide) ?_
     iterate 5
      (refine zH _ rfl (Fr.refl _ _).drew (fun w' hS=>by
       have q0:=zA (hS.heap NB.out BY.out);have s0:=zF (hS.heap NB.out BY.out);clear hS;go_simp;rfl) ?_)
     go_simp;refine zB rfl ?_;have F0D:=hid ((Fr.refl F0 WY).drew);have qs:=zA ((FY.out.trans F0D.out).heap id HS.out);have ss:=zF ((FY.out.trans F0D.out).heap id HS.out);go_wp2_with (first | (go_at_call 144;go_in) | fail)
     clear qs ss;refine And.intro (fun _=>F0D.out.sub) ?_;refine zB rfl ?_;go_wp2_with fail
     refine (TC.out _ (FY.out.trans F0D.out)).mono ?_;rintro e w4 ⟨rfl,rfl⟩;have sv:=zF ((FY.out.trans F0D.out).heap id VB.out);go_wp2;refine And.intro (fun _=>F0D.out.sub) ?_;refine zB rfl ?_;go_wp2;refine And.intro (fun _=>F0D.out.sub) ?_;refine zB rfl ?_;go_wp2;refine And.intro (fun _=>F0D.out.sub) ?_;refine zB rfl ?_;go_wp2_with fail
     refine (objType_any _ vb _ _ _ _ _ _ ((FY.out.trans F0D.out).heap id VB.out)).mono ?_;rintro e w4 ⟨rfl,rfl⟩;go_wp2;refine And.intro (fun _=>F0D.out.sub) ?_;refine zB rfl ?_;clear sv
     have hMX: ∀b,((M b∨b=w.heap.size∨b=w.heap.size + 1)∨ov.ownBlock=some b)→b < WY.drew.heap.size:=fun b hb=>by
      rcases hb with hb | hb
      ·have h1:=AB.out b hb;have h2:=zF BY.out;show b < WY.heap.size;omega
      ·exact (World.ownsRow.lt RY.out.own _ hb).2
     have MX:=hid hMX;clear hMX;go_wp2_with fail
     refine (HI.out (f.cnt + k) _ t HV.out HTk.out (fun b=>(M b\/b=w.heap.size\/b=w.heap.size + 1)\/ov.ownBlock=some b) _ (FY.out.trans F0D.out) MX.out).mono ?_;rintro e w5 ⟨r,rfl,hr,hf5⟩;have R5:=hid hr;have F5:=hid (F0D.out.trans hf5);clear hr hf5;unfold TyV.val;go_wp2;refine And.intro (fun _=>F5.out.sub) ?_;refine zB rfl ?_;go_wp2;refine And.intro (fun _=>F5.out.sub.alloc _) ?_;refine zB rfl ?_;have OA:=hid ((zV RY.out.own F5.out (fun _ _ h=>h)).alloc (.cells #[.int .i64 r.k,.int .i64 r.n,.int .i64 r.c,.bool r.v,.slice r.a r.len r.cap,.string r.nm] 26))
     have hrl:=RY.out.len;have N63:=hid (show rs.length + 1<=maxLen by have:=NN2.out;unfold maxLen;omega);have N72:=hid (show (rs.length + 1) * 72<=140737488355328 by have:=NN2.out;omega);have SZ2:=hid (show w.heap.size + 2<=(w5.alloc (.cells #[.int .i64 r.k,.int .i64 r.n,.int .i64 r.c,.bool r.v,.slice r.a r.len r.cap,.string r.nm] 26)).heap.size by have h1:=zF BY.out;have h2:=F5.out.size;simp;omega)
     refine wpList_append_lies _ rfl _ _ 24 rfl (w.heap.size + 2) 26 i0 _ 6 72 Tryz.underlying24 hi0 hz0 hz1 hz2 rfl (by omega) ov rs.length (rs.flatMap zW) (by rfl) OA.out ⟨w5.heap.size,0,none⟩ 1 1 (zW r) (by rfl) (by rfl) (World.news_of_block (cs:= #[.int .i64 r.k,.int .i64 r.n,.int .i64 r.c,.bool r.v,.slice r.a r.len r.cap,.string r.nm]) (t:=26) (fr:=(0,0)) (heap_alloc_new w5 _)) (by simp [zW,Value.oneCell']) (by omega) N63.out N72.out SZ2.out (w5.heap.size + 1) (by simp) ?_
     intro g cap w6 hown6 hgrow hg1 hg2;have F56:Fr (fun b=>ov.ownBlock=some b) w5 w6:=(Fr.alloc (Fr.refl _ w5) _).trans (Fr.of_grown hgrow);have F6:=hid (F5.out.sub.trans F56);rw [hrl] at hown6
     have hown7:OwnT w6 (w.heap.size + 2) (.slice (some ⟨g,0,none⟩) (f.cnt + k + 1) cap) (rs ++ [r]):=by
      unfold OwnT;rw [List.length_append,hrl,List.flatMap_append];simpa using hown6
     have B6:=hid (F6.out.heap NB.out BY.out);have NEXT:=hid (BRow.next RY.out F5.out HTk.out R5.out F56 hown7 (by rcases hg1 with h | h;exact .inl h;exact .inr (by omega)));have OW:=hid (World.ownsRow.lt RY.out.own);have Z6:=hid (F6.out.heap NZ.out ZY.out);clear F56 hown6 hown7 hgrow hg1 hg2;rw [hrl];go_wp2;refine And.intro (fun _=>F6.out) ?_;refine zB rfl ?_;go_wp2;refine And.intro (fun h=>absurd h (by decide)) ?_
     refine zB rfl ?_;have q3:=zA B6.out;have f3:=zC B6.out;have s3:=zF B6.out;go_wp2;refine And.intro (fun h=>absurd h (by decide)) ?_;refine zO (NoPanic.normal ?_);clear q3 f3 s3;have FC:Fr (fun b=>b=w.heap.size + 1) w6 (w6.setCell ⟨w.heap.size + 1,4,none⟩ (.slice (some ⟨g,0,none⟩) (f.cnt + k + 1) cap)):=(Fr.refl (fun b=>b=w.heap.size + 1) w6).setCell (p:=⟨w.heap.size + 1,4,none⟩) (.inl rfl) _;have X1:=hid (show Fr F0 w (w6.setCell ⟨w.heap.size + 1,4,none⟩ (.slice (some ⟨g,0,none⟩) (f.cnt + k + 1) cap)) from (FY.out.transNew F6.out (fun b hb=> .inr (by have:=(OW.out b hb).1;omega))).transNew FC (fun x hx=> .inr (by omega)))
     have X2:=hid (FC.heap (by omega) Z6.out);have X3:=hid (heap_setCell (a:=⟨w.heap.size + 1,4,none⟩) (v:= .slice (some ⟨g,0,none⟩) (f.cnt + k + 1) cap) B6.out rfl);have X4:=hid (NEXT.out.keep (FC.mono fun b _ hb=> .inr (.inr hb)) AB.out);clear FC;go_wp2;go_roundw
     case rel=>exact ⟨k + 1,_,_,by omega,by go_num,X1.out,X2.out,X3.out,X4.out⟩
     case measure=>simp [intOf];omega
    ·have hkL:k=N2:=by omega
     subst hkL;have hle2: ¬(k:Int) < k:=by omega
     have RZ:=RY.out;rw [show f.cnt + k=L by have:=NN2.out;omega] at RZ;obtain ⟨ea,ec,hov,hel,hc1,hc2,hrt⟩:=RZ.fin AB.out;subst hov;have EL:=hid hel;have RT5:=hid hrt;have hrl:=hid RZ.len;clear hel hrt RZ;have q:=zA BY.out;have s5:=zF BY.out;go_wp2_with (refine zR rfl _ _ rfl rfl w.heap.size ⟨10,0,f.cnt,f.vari,ea,L,ec,⟨#[]⟩⟩ rfl rfl ZY.out ?_)
     intro WF hWF fWF;have HW:=hid hWF;have FW:=hid (FY.out.transNew fWF (fun x hx=> .inr (by omega)));have FM:=hid (fWF.mono (M':=fun b=>M b\/b=w.heap.size\/b=w.heap.size + 1) fun b _ hb=> .inr (.inl hb));clear hWF fWF;go_wp2;refine bodyPost_ret (ret6 rfl rfl HW.out) rfl ?_;refine ⟨⟨10,0,f.cnt,f.vari,ea,L,ec,⟨#[]⟩⟩,rfl,.node _ f rs ts ⟨by rw [HK.out];rfl,by rw [HK.out];decide,by rw [HK.out];decide,by rw [if_neg (by rw [HK.out];decide)];exact HN.out.n (by rw [HK.out];decide) (by rw [HK.out];decide) (by rw [HK.out];decide) (by rw [HK.out];decide) (by rw [HK.out];decide),by rw [if_pos HK.out];exact ⟨rfl,rfl⟩,by rw [if_neg (by rw [HK.out];decide)];exact HN.out.names (by rw [HK.out];decide),hrl.out,⟨hc1,hLb,hc2⟩⟩ (by rw [hrl.out,LL.out,VL.out]) ?_ (fun i y t h1 h2=>((RT5.out i y t h1 h2).keep FM.out).mono fun b hb=> .inl hb),FW.out⟩
     rcases EL.out.keep FM.out with h | ⟨b,off,h1,h2⟩
     ·exact .inl h
     ·exact .inr ⟨b,off,h1,fun i y hy=>⟨fun hm=>(h2 i y hy).m (.inl hm),(h2 i y hy).c0,(h2 i y hy).c1,(h2 i y hy).c2,(h2 i y hy).c3,(h2 i y hy).c4,(h2 i y hy).c5⟩⟩
theorem vs_iface {w:World}{E:GEnv}{vs:List Value}{ts:List Tm}(hl:vs.length=ts.length)(h: ∀(i:Nat)(v:Value)(t:Tm),vs[i]?=some v->ts[i]?=some t->PT w E v t): ∀v∈vs,∃ty pv,v= .iface ty pv:=by
 intro v hv;obtain ⟨i,hi,rfl⟩:=List.getElem_of_mem hv;have:=h i vs[i] (ts[i]'(by omega)) (by simp [hi]) (by simp);generalize ts[i]'(by omega)=t at this;generalize vs[i]=v at this
 cases this <;>exact ⟨_,_,rfl⟩
theorem back_any {E:GEnv}{bb:Nat}{da:Option Addr}{dl dc:Nat}{ar:Nat->Nat}(hnd:E.nd<=16): ∀t,BackAt E bb da dl dc ar t:=by
 intro t
 induction t using Tm.ind with
 |hv p=>
  intro w M v hB hp hM
  cases hp with
  |var _ h=>exact back_var w M hB p h
 |hn f ts ih=>
  intro w M v hB hp hM
  have kid: ∀ {t:Tm},t∈ts→ ∀ {v:Value},PT w E v t→ ∀(M:Nat→Prop) w',Fr F0 w w'→(∀b,M b→b < w'.heap.size)→Calls Tryz.prog 64 #[.pointer (some ⟨bb,0,none⟩),v] w' (yC w' M t):=
   fun {t} ht {v} hv M' w' f' hM'=>ih t ht w' M' v (hB.keep f') (hv.keep f'.sub) hM'
  have hif: ∀ {v:Value} {t:Tm},PT w E v t-> ∃ty pv,v= .iface ty pv:=fun {v t} h=>by cases h <;>exact ⟨_,_,rfl⟩
  cases hp with
  |basic _ a i nm h1 h2 h3 h4=>exact back_basic w M hB hM f a i nm h1 h2.norm h4 (h2.sm.2.1 h1)
  |ptr _ a v t h1 h2 h3 h4 h5=>obtain ⟨ty,pv,rfl⟩:=hif h5;exact (back_one w M hB hM).1 f a ty pv t h1 h2.norm h4 (kid (by simp) h5)
  |slice _ a v t h1 h2 h3 h4 h5=>obtain ⟨ty,pv,rfl⟩:=hif h5;exact (back_one w M hB hM).2.1 f a ty pv t h1 h2.norm h4 (kid (by simp) h5)
  |array _ a v t h1 h2 h3 h4 h5=>obtain ⟨ty,pv,rfl⟩:=hif h5;exact (back_one w M hB hM).2.2.1 f a ty pv t h1 h2.norm h4 (kid (by simp) h5)
  |chan _ a v t h1 h2 h3 h4 h5=>obtain ⟨ty,pv,rfl⟩:=hif h5;exact (back_one w M hB hM).2.2.2 f a ty pv t h1 h2.norm h4 (h2.sm.2.2 h1) (kid (by simp) h5)
  |map _ a v v' t t' h1 h2 h3 h4 h5 h6=>
   obtain ⟨ty,pv,rfl⟩:=hif h5;obtain ⟨ty',pv',rfl⟩:=hif h6;exact back_map w M hB hM f a ty pv t ty' pv' t' h1 h2.norm h4 (kid (by simp) h5) (kid (by simp) h6)
  |struct _ a fa fc vs _ h1 h2 hn h3 h4 h5 h6 h7 h8 h9=>
   refine (back_three w M).2.1 hM _ _ fun M' w' f' hM'=> ?_
   exact backStruct_any w' M' hM' f a h1 h2.norm fa fc vs ts hn (f'.heap id h4) h5 (h8.keep f'.sub) (vs_iface h5 h9) h2.sm.1 fun i v t hv ht M'' w'' f'' hM''=>kid (List.mem_of_getElem? ht) (h9 i v t hv ht) M'' w'' (f'.trans f'') hM''
  |func _ a pp rp vs _ h1 h2 hn h3 h4 h5 h6 h7 h8=>
   refine (back_three w M).2.2 hM _ _ fun M' w' f' hM'=> ?_
   exact backFunc_any w' M' hM' f a h1 h2.norm pp rp vs ts hn (f'.heap id h4) h5 (h6.keep f'.sub) (h7.keep f'.sub) (vs_iface h5 h8) h2.sm.1 fun i v t hv ht M'' w'' f'' hM''=>kid (List.mem_of_getElem? ht) (h8 i v t hv ht) M'' w'' (f'.trans f'') hM''
  |named0 _ c0 c1 c2 c4 c5 u c9 c10 st h1 h2 h3 h4 h5 h6 h7=>
   refine (back_three w M).1 hM _ _ fun M' w' f' hM'=> ?_
   refine backNamed_nil w' M' (hB.keep f') hM' f _ h1 h2.norm h3 hnd (fun w'' f''=> ?_) (fun w'' f''=> ?_)
   ·exact origin_none _ _ _ _ _ _ _ _ _ _ _ w'' ((f'.trans f'').heap id h5)
   ·exact typeArgs_none _ _ _ _ _ _ _ _ _ _ _ w'' ((f'.trans f'').heap id h5)
  |named _ a ib lb ta tc c0 c1 c2 c4 c5 u c9 c10 st vs _ h1 h2 h3 hne h4 h5 h6 h7 h8 h9 h10 h11 h12 h13 h14 h15 h16=>
   refine (back_three w M).1 hM _ _ fun M' w' f' hM'=> ?_
   refine backNamed_any w' M' (hB.keep f') hM' f a h1 h2.norm h3 hnd lb ta tc vs ts (fun w'' f''=> ?_) (fun w'' f''=> ?_) (f'.heap id h10) h11 (h14.keep f'.sub) (vs_iface h11 h15) h2.sm.1 fun i v t hv ht M'' w'' f'' hM''=>kid (List.mem_of_getElem? ht) (h15 i v t hv ht) M'' w'' (f'.trans f'') hM''
   ·exact origin_some _ ib _ _ _ _ _ _ _ _ _ _ _ _ w'' ((f'.trans f'').heap id h5) ((f'.trans f'').heap id h8)
   ·exact typeArgs_some _ ib _ _ _ _ _ _ _ _ _ _ _ _ w'' ((f'.trans f'').heap id h5) ((f'.trans f'').heap id h8)
end Go.Proofs.YtpekidjfbinekaaGreatDoor
