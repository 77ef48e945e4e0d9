/-   The law FnRenamed. -/
import Derived.Test.YtpekidjfbinekaaGreatDoorL12R
set_option maxRecDepth 100000
set_option maxHeartbeats 60000000
set_option linter.all false
namespace Go.Proofs.YtpekidjfbinekaaGreatDoor
open Go.RowKit Uni
theorem fnRenamed {da:Option Addr}{dl dc:Nat}(n:Int)(w:World)(h:ArgIn w da dl dc)(x y:TyV)(hx:Raw w x)(hy:Raw w y)(z z2:Int):
 Calls Tryz.prog 5 #[.slice da dl dc,.int .i64 n,x.val,y.val,.int .i64 z,.int .i64 z2] w (YesB w):=by
 have HH:=hid h;have HX:=hid hx;have HY:=hid hy;clear h hx hy;unfold TyV.val;have FW:=hid (((Fr.refl F0 w).alloc (.cells #[.int .i64 x.k,.int .i64 x.n,.int .i64 x.c,.bool x.v,.slice x.a x.len x.cap,.string x.nm] 26)).alloc (.cells #[.int .i64 y.k,.int .i64 y.n,.int .i64 y.c,.bool y.v,.slice y.a y.len y.cap,.string y.nm] 26));by_cases hbig:(2147483647:Int) < dl
 ·go_enter Tryz.func5,Tryz.ntmps5
  go_wp2;go_ret;exact ⟨rfl,FW.out⟩
 have BIG:decide ((2147483647:Int) < dl)=false:=by simpa using hbig
 clear hbig;go_enter Tryz.func5,Tryz.ntmps5;go_wp2_with fail
 refine (fits_any x _ HX.out.small).mono ?_;rintro e w1 ⟨b1,rfl,hf1⟩;have F1:=hid (FW.out.trans hf1);have BX1:=hid (hf1.heap id (show ((w.alloc (.cells #[.int .i64 x.k,.int .i64 x.n,.int .i64 x.c,.bool x.v,.slice x.a x.len x.cap,.string x.nm] 26)).alloc (.cells #[.int .i64 y.k,.int .i64 y.n,.int .i64 y.c,.bool y.v,.slice y.a y.len y.cap,.string y.nm] 26)).heap[w.heap.size]?=_ from ((Fr.refl F0 _).alloc _).heap id (heap_alloc_new w _)))
 have BY1:=hid (hf1.heap id (zS w (.cells #[.int .i64 x.k,.int .i64 x.n,.int .i64 x.c,.bool x.v,.slice x.a x.len x.cap,.string x.nm] 26) (.cells #[.int .i64 y.k,.int .i64 y.n,.int .i64 y.c,.bool y.v,.slice y.a y.len y.cap,.string y.nm] 26)));clear hf1;cases b1
 ·go_wp2
  go_ret;exact ⟨rfl,F1.out⟩
 have y1:=zA BY1.out;have s1:=bl (y1 0);go_wp2_with fail
 refine (fits_any y _ HY.out.small).mono ?_;rintro e w2 ⟨b2,rfl,hf2⟩;have F2:=hid (F1.out.trans hf2);have BX2:=hid (hf2.heap id BX1.out);have BY2:=hid (hf2.heap id BY1.out);clear hf2 y1 s1;cases b2
 ·go_wp2
  go_ret;exact ⟨rfl,F2.out⟩
 have x2:=zA BX2.out;have y2:=zA BY2.out;have s2:=bl (x2 0);have t2:=bl (y2 0);obtain ⟨ps,hps⟩:=HH.out.d;have PS:=hid hps;clear hps;by_cases hn1:n < 1
 ·have KN:decide (n < 1)=true:=by simpa using hn1
  clear hn1;go_wp2;go_ret;exact ⟨rfl,F2.out⟩
 have KN:decide (n < 1)=false:=by simpa using hn1
 have N1:=hid hn1;clear hn1;go_wp2_with fail
 have FA:=hid (F2.out.alloc (.cells (arr12 x y) 26));refine (valid_any da dl dc n (some ⟨w2.heap.size,0,none⟩) 2 2 ps [x,y] (w2.alloc (.cells (arr12 x y) 26)) (PS.out.keep FA.out) (rawL_two (heap_alloc_new w2 _) (HX.out.keep FA.out) (HY.out.keep FA.out))).mono ?_;rintro e w3 ⟨b3,rfl,hf3,hv⟩;have F3:=hid (FA.out.trans hf3);have BX3:=hid (hf3.heap id (((Fr.refl F0 w2).alloc _).heap id BX2.out));have BY3:=hid (hf3.heap id (((Fr.refl F0 w2).alloc _).heap id BY2.out))
 cases b3
 ·clear hf3 hv x2 y2 s2 t2
  go_wp2;go_ret;exact ⟨rfl,F3.out⟩
 obtain ⟨N,ar,D,s,t,rfl,hL,hS,hT⟩:=valid_two (hv rfl) (HH.out.tab.keep FA.out) hf3;have LI:=hid hL;have HS:=hid hS;have HT:=hid hT;clear hf3 hv x2 y2 s2 t2 hL hS hT;have hN1:1<=N:=by have:=N1.out;omega
 have hn8:=LI.out.n8;have N8:=hid hn8;clear KN;go_wp2_with fail
 refine (place_any z N w3 hN1 hn8).mono ?_;rintro e wa ⟨p,hp,rfl,hfa⟩;have FAA:=hid hfa;clear hfa;go_wp2_with fail
 refine (place_any z2 N wa hN1 hn8).mono ?_;rintro e w4 ⟨q,hq,rfl,hf4⟩;have F4:=hid (FAA.out.trans hf4);have HP:=hid hp;have HQ:=hid hq;clear hf4 hp hq hN1;go_wp2_with fail
 refine (ref_new dc (LI.out.keep F4.out) (HS.out.keep F4.out) (HT.out.keep F4.out)).mono ?_;rintro e w5 ⟨B,rfl,hR,hf5,hM⟩;have F5:=hid (F4.out.trans hf5);have RI:=hid hR;have HM:=hid hM;clear hR hf5 hM;have x5:=zA (F5.out.heap id BX3.out);have y5:=zA (F5.out.heap id BY3.out);have s5:=bl (x5 0);have t5:=bl (y5 0);go_wp2_with fail
 refine (ref_unify LI.out.d.goodD LI.out.d.ok .exact RI.out).mono ?_;rintro e w6 ⟨b6,sil,rfl,hf6,hc,ho⟩;have F6:=hid (F5.out.transNew hf6 fun b hb=> .inr (Nat.le_trans F4.out.size (HM.out b hb).1));have szb:=World.block_lt_of_cell? _ _ hc;dsimp only at szb;have RO:=hid ho;clear hf6 ho x5 y5 s5 t5;cases sil
 case true=>
  go_wp2_with fail
  refine (works_any w6 (LI.out.tab.keep F6.out)).mono ?_;rintro e wz ⟨rfl,hfz⟩;have FZ:=hid (F3.out.trans (F6.out.trans hfz));clear hfz;go_wp2;go_ret;exact ⟨rfl,FZ.out⟩
 obtain ⟨o,hfact,_,hout⟩:=RO.out rfl;have FACT:=hid hfact;have OUT:=hid hout;clear hfact hout;have x6:=zA (F6.out.heap id BX3.out);have y6:=zA (F6.out.heap id BY3.out);have s6:=bl (x6 0);have t6:=bl (y6 0);go_wp2_with fail
 refine (impl_self (dc:=dc) (LI.out.keep F6.out) (HS.out.keep F6.out) (HT.out.keep F6.out) FACT.out).mono ?_;rintro e w7 ⟨la,lc,ls,rfl,hf7,hlc,hll,hinf⟩;have F7:=hid (F6.out.trans hf7);have H67:=hid hf7;have LL:=hid hll;have INF:=hid hinf;have BX7:=hid (F7.out.heap id BX3.out);have BY7:=hid (F7.out.heap id BY3.out);clear x6 y6 s6 t6 hc szb hf7 hll hinf;have EX:=hid (fun (w':World) (f':Fr F0 w7 w')=>exchanged_any p q s x w' F0 (HS.out.r.keep (F7.out.trans f')) (fun _ h=>h.elim))
 have EY:=hid (fun (w':World) (f':Fr F0 w7 w')=>exchanged_any p q t y w' F0 (HT.out.r.keep (F7.out.trans f')) (fun _ h=>h.elim));unfold TyV.val at EX EY;go_wp2_with fail
 refine zG (Fr F0 w7) [(0,true),(1,true),(2,true),(3,true),(4,true),(6,true),(7,true),(8,true),(5,false),(9,false),(10,false),(11,false),(12,true),(13,true),(14,false),(15,false)] [15] yE (by kernel_rfl) (by kernel_rfl) (by kernel_rfl) (by decide) ?_
 iterate 8
  (refine zH _ rfl (Fr.refl _ _).drew (fun w' hS=>by
   have q0:=zA (hS.heap id BX7.out);have s0:=zF (hS.heap id BX7.out);have q1:=zA (hS.heap id BY7.out);have s1:=zF (hS.heap id BY7.out);clear hS;go_simp;rfl) ?_)
 go_simp;refine zB rfl ?_;go_wp2_with fail
 refine (EX.out _ (Fr.refl F0 w7).drew).mono ?_;rintro e v1 ⟨r,rfl,hnm,hr,hg1⟩;clear hnm;have G1:=hid ((Fr.refl F0 w7).drew.trans hg1);have R1:=hid hr;clear hr hg1;go_wp2;refine And.intro (fun _=>G1.out) ?_;refine zB rfl ?_;go_wp2_with fail
 refine (EY.out _ G1.out).mono ?_;rintro e v2 ⟨r2,rfl,hnm,hr2,hg2⟩;clear hnm;have G2:=hid (G1.out.trans hg2);have R2:=hid hr2;have R12:=hid (R1.out.keep hg2);clear hr2 hg2;go_wp2;refine And.intro (fun _=>G2.out) ?_;have SWL:=hid (fun (i:Nat) (h:i < N)=>swp_lt HP.out HQ.out h);have IS:=hid (impl_swap (dc:=dc) (LI.out.keep (F7.out.trans G2.out)) (HS.out.keep (F7.out.trans G2.out)) (HT.out.keep (F7.out.trans G2.out)) (TIn.nums (HS.out.keep F7.out) SWL.out R12.out) (TIn.nums (HT.out.keep F7.out) SWL.out R2.out) FACT.out)
 unfold TyV.val at IS;refine zB rfl ?_;go_wp2_with fail
 refine IS.out.mono ?_;rintro e w8 ⟨ka,kc,ks,rfl,hf8,hkc,hkl,hkinf⟩;have G8:=hid (G2.out.trans hf8);have F8:=hid (F7.out.trans (G2.out.trans hf8));have KL:=hid hkl;have KINF:=hid hkinf;clear hf8 hkl hkinf;go_wp2;refine And.intro (fun _=>G8.out) ?_;refine zB rfl ?_;go_wp2;refine And.intro (fun _=>G8.out) ?_
 iterate 2
  (refine zH _ rfl G8.out (fun w' hS=>by
   clear hS;go_simp;rfl) ?_)
 go_simp;refine zB rfl ?_;go_wp2;refine And.intro (fun _=>G8.out) ?_;refine zB rfl ?_;go_wp2;refine And.intro (fun h=>absurd h (by decide)) ?_;refine zO (NoPanic.normal ?_)
 cases o with
 |none=>
  go_wp2_with fail
  refine (works_any w8 (LI.out.tab.keep F8.out)).mono ?_;rintro e wz ⟨rfl,hfz⟩;have FZ:=hid (F3.out.trans (F8.out.trans hfz));clear hfz;go_wp2;go_ret;exact ⟨rfl,FZ.out⟩
 |some s1=>
  simp only [Option.isSome_some];obtain ⟨B',pv,hBu,hE,hBM⟩:=OUT.out s1 rfl;obtain ⟨s2,hi2,hren⟩:=KINF.out s1 rfl;obtain ⟨_,hwq,M,hinv,hliv⟩:=exact_facts LI.out HS.out HT.out FACT.out;have UE:=hid hE;have I2:=hid hi2;have REN:=hid hren;have WQS:=hid hwq;have INV:=hid hinv;have LIV:=hid hliv;have BU:=hid hBu;have I1:=hid (INF.out s1 rfl);clear hE hBM hi2 hren hwq hinv hliv hBu;have hself:((N:Int) !=(N:Int))=false:=by simp
  obtain ⟨i1,hi1,hy0,hy1,hy2⟩:=info_parts info45;go_wp2;clear hself;go_loopw [18,19,109] (fun o _ i wr=> ∃(k:Nat) (bs:List (Bool × TyV)),k<=N/\i= .int .i64 k/\Fr F0 w8 wr/\IRow wr w8.heap.size o k bs ((List.range N).map fun p=>s1.v (s1.j p))) (fun _ _ i _=>N - (intOf i).toNat)
  case atStart=>exact ⟨0,[],Nat.zero_le _,rfl,Fr.refl _ _,IRow.start _ _ _⟩
  case round=>
   obtain ⟨k,bs,hk,rfl,hF,hI⟩:=hrel;have FY:=hid hF;have IY:=hid hI;clear hF hI;by_cases hlt:k < N
   ·have hle:(k:Int) < N:=by omega
    have hsl:=SWL.out k hlt;obtain ⟨b1,o1,rfl,hIa⟩:=I2.out.1.resolve_left (fun h=>by have:=KL.out;rw [h] at this;simp at this;omega);obtain ⟨pr,hpr⟩: ∃pr,ks[swp p q k]?=some pr:=⟨ks[swp p q k]'(by rw [KL.out];exact hsl),by simp⟩;obtain ⟨h1,h2⟩:=I2.out.2 (swp p q k) pr (s2.v (s2.j (swp p q k))) hpr (by simp [hsl]);rw [REN.out.v k] at h1 h2;have e:=(hIa _ pr hpr).keep FY.out id;obtain ⟨kb,Y⟩:=pr;dsimp only at h1 h2 e
    obtain ⟨i7,a0,a1,a2,a3,a4,a5⟩:=e;have hb1:b1 < wr.heap.size:=World.block_lt_of_cell? _ _ i7;have hkb:kb=(s1.v (s1.j k)).isSome:=by rw [h1];cases s1.v (s1.j k) <;>rfl
    have YR:=hid (show RT w8 F0 Y (((s1.v (s1.j k)).getD tz).sub (nums (swp p q))) from by
     cases hv:s1.v (s1.j k) with
     |none=>exact h2 _ (.inr ⟨by rw [hv];rfl,by simp [tz,Tm.sub]⟩)
     |some t=>exact h2 _ (.inl (by rw [hv];rfl)))
    have KB:=hid hkb;have OB:=hid (World.ownsRow.lt IY.out.own);have hx:((List.range N).map fun p=>s1.v (s1.j p))[k]?=some (s1.v (s1.j k)):=by simp [hlt]
    have HXk:=hid hx;have N63:=hid (show k + 1<=maxLen by unfold maxLen;omega);have N72:=hid (show (k + 1) * 80<=140737488355328 by omega);have hsl2:((swp p q k:Nat):Int) < N:=by omega
    have hsl0:(0:Int)<=((swp p q k:Nat):Int):=by omega
    have SF:=FY.out.size;clear h1 h2 hIa hpr hkb hx;go_wp2_with fail
    refine (other_any k p q wr).mono ?_;rintro e v3 ⟨rfl,hg3⟩;have G3:=hid hg3;have j7:=hg3.cell id i7;have j0:=hg3.cell id a0;have j1:=hg3.cell id a1;have j2:=hg3.cell id a2;have j3:=hg3.cell id a3;have j4:=hg3.cell id a4;have j5:=hg3.cell id a5;have hb3:b1 < v3.heap.size:=World.block_lt_of_cell? _ _ j7;clear hg3 i7 a0 a1 a2 a3 a4 a5 hb1;go_wp2_with fail
    obtain ⟨WX,hWX⟩: ∃WX,WX=v3.alloc (.cells #[.bool kb,.int .i64 Y.k,.int .i64 Y.n,.int .i64 Y.c,.bool Y.v,.slice Y.a Y.len Y.cap,.string Y.nm] 45):=⟨_,rfl⟩;have BY1:=hid (show WX.heap[v3.heap.size]?=some (.cells #[.bool kb,.int .i64 Y.k,.int .i64 Y.n,.int .i64 Y.c,.bool Y.v,.slice Y.a Y.len Y.cap,.string Y.nm] 45 (0,0)) by rw [hWX];exact heap_alloc_new v3 _);have FX:=hid (show Fr F0 wr WX by rw [hWX];exact G3.out.alloc _)
    rw [<-hWX];clear hWX j7 j0 j1 j2 j3 j4 j5 hb3;have NB:=hid (show ¬u18.ownBlock=some v3.heap.size from fun h=>by have:=(OB.out _ h).2;have:=G3.out.size;omega);have EZ:=hid (fun (w':World) (f':Fr F0 WX w')=>exchanged_any p q _ Y w' (fun b=>u18.ownBlock=some b) ((YR.out.avoid fun b hb=> .inr (OB.out b hb).1).keep (FY.out.trans (FX.out.trans f')).sub) (fun b hb=>by have:=(OB.out b hb).2;have:=(FX.out.trans f').size;omega))
    rw [sub_swp] at EZ;unfold TyV.val at EZ;refine zG (Fr (fun b=>u18.ownBlock=some b) WX) [(0,true),(1,true),(2,true),(3,true),(4,true),(5,true),(6,true),(7,false),(8,false),(9,false),(10,false),(11,false)] [11] yE (by kernel_rfl) (by kernel_rfl) (by kernel_rfl) (by decide) ?_
    iterate 7
     (refine zH _ rfl (Fr.refl _ _).drew (fun w' hS=>by
      have q0:=zA (hS.heap NB.out BY1.out);have s0:=zF (hS.heap NB.out BY1.out);clear hS;go_simp;rfl) ?_)
    go_simp;refine zB rfl ?_;go_wp2_with fail
    refine (EZ.out _ (Fr.refl F0 WX).drew).mono ?_;rintro e v4 ⟨rr,rfl,hnm,hrr,hg4⟩;clear hnm;have G4:=hid ((Fr.refl F0 WX).drew.trans hg4);have RR:=hid hrr;clear hrr hg4;go_wp2;refine And.intro (fun _=>G4.out.sub) ?_;refine zB rfl ?_;go_wp2;refine And.intro (fun _=>G4.out.sub) ?_;refine zB rfl ?_;go_wp2;refine And.intro (fun _=>G4.out.sub.alloc _) ?_;refine zB rfl ?_;have OA:=hid ((zV IY.out.own (FX.out.trans G4.out) (fun _ _ h=>h)).alloc (.cells #[.bool kb,.int .i64 rr.k,.int .i64 rr.n,.int .i64 rr.c,.bool rr.v,.slice rr.a rr.len rr.cap,.string rr.nm] 45))
    have SZ2:=hid (show w8.heap.size<=(v4.alloc (.cells #[.bool kb,.int .i64 rr.k,.int .i64 rr.n,.int .i64 rr.c,.bool rr.v,.slice rr.a rr.len rr.cap,.string rr.nm] 45)).heap.size by have h1:=(FY.out.trans (FX.out.trans G4.out)).size;simp;omega);go_wp2_with (refine wpList_append_lies _ rfl _ _ 34 rfl w8.heap.size 45 i1 _ 7 80 under34b hi1 hy0 hy1 hy2 rfl (by omega) u18 k (bs.flatMap wE) (by rfl) OA.out ⟨v4.heap.size,0,none⟩ 1 1 (wE (kb,rr)) (by rfl) (by rfl) (World.news_of_block (cs:= #[.bool kb,.int .i64 rr.k,.int .i64 rr.n,.int .i64 rr.c,.bool rr.v,.slice rr.a rr.len rr.cap,.string rr.nm]) (t:=45) (fr:=(0,0)) (heap_alloc_new v4 _)) (by simp [wE,Value.oneCell']) (by omega) N63.out N72.out SZ2.out (v4.heap.size + 1) (by simp) ?_)
    intro g cap v5 hown5 hgrow hg1 hg2;have F45:Fr (fun b=>u18.ownBlock=some b) v4 v5:=(Fr.alloc (Fr.refl _ v4) _).trans (Fr.of_grown hgrow);have FS5:=hid (show Fr (fun b=>u18.ownBlock=some b) WX v5 from G4.out.sub.trans F45);have F5':=hid ((FY.out.trans (FX.out.trans G4.out)).transNew F45 (fun b hb=> .inr (OB.out b hb).1))
    have NEXT:=hid (IRow.next IY.out (FX.out.trans G4.out) HXk.out (p:=(kb,rr)) ⟨KB.out,fun t ht=>by
     have e:t=(s1.v (s1.j k)).getD tz:=by rcases ht with h | ⟨h,h'⟩ <;>rw [h];rfl;exact h'
     rw [e];exact RR.out⟩ F45 hown5 (by rcases hg1 with h | h;exact .inl h;exact .inr (by omega)))
    clear F45 hown5 hgrow hg1 hg2;go_wp2;refine And.intro (fun _=>FS5.out) ?_;refine zB rfl ?_;go_wp2;refine And.intro (fun h=>absurd h (by decide)) ?_;refine zO (NoPanic.normal ?_);go_wp2;go_roundw
    case rel=>exact ⟨k + 1,_,by omega,by go_num,F5'.out,NEXT.out⟩
    case measure=>simp [intOf];omega
   ·have hkn:k=N:=by omega
    subst hkn;have hle: ¬(k:Int) < k:=by omega
    obtain ⟨ia,ic,hov,hinf,hic⟩:=IY.out.fin;have BINF:=hid hinf;have BL:=hid IY.out.len;have F9:=hid (F8.out.trans FY.out);have A1:=hid (agrees_self UE.out INV.out LIV.out WQS.out wr (H67.out.trans (G8.out.trans FY.out)) la lc ls LL.out (I1.out.keep (G8.out.trans FY.out)));have A2:=hid (fun (w':World) (f':Fr F0 wr w')=>agrees_self UE.out INV.out LIV.out WQS.out w' ((H67.out.trans (G8.out.trans FY.out)).trans f') ia ic bs BL.out (BINF.out.keep f'))
    rw [BU.out] at A1 A2;subst hov;clear hinf;go_wp2_with fail
    refine A1.out.mono ?_;rintro e v3 ⟨rfl,hg3⟩;have G3:=hid hg3;clear hg3;go_wp2_with fail
    refine (A2.out _ G3.out).mono ?_;rintro e v4 ⟨rfl,hg4⟩;have F10:=hid (F9.out.trans (G3.out.trans hg4));clear hg4;go_wp2_with fail
    refine (works_any v4 (LI.out.tab.keep F10.out)).mono ?_;rintro e wz ⟨rfl,hfz⟩;have FZ:=hid (F3.out.trans (F10.out.trans hfz));clear hfz;go_wp2;go_ret;exact ⟨rfl,FZ.out⟩
end Go.Proofs.YtpekidjfbinekaaGreatDoor
