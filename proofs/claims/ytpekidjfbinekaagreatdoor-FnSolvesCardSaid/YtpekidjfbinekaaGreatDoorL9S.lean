/-   Applied and the laws' solved. -/
import Derived.Test.YtpekidjfbinekaaGreatDoorL4S
import Derived.Test.YtpekidjfbinekaaGreatDoorP14S
set_option maxRecDepth 100000
set_option maxHeartbeats 60000000
set_option linter.all false
namespace Go.Proofs.YtpekidjfbinekaaGreatDoor
open Go.RowKit Uni
theorem repl_sub {w:World}{M:Nat->Prop}{x:TyV}{t:Tm}(h:RT w M x t){n:Nat}{us:List Tm}{θ:Nat->Tm}(hu: ∀p,p < n->us[p]?=some (θ p))(hh:Holes 2 n t):repl 2 us t=t.sub θ:=by
 induction h with
 |var x p=>
  rw [repl_var,if_pos rfl,Tm.sub_var,List.getD_eq_getElem?_getD,hu p hh.var2];rfl
 |node x f xs ts hs hl _ _ ih=>
  rw [repl_node,if_neg (fun e=>hs.k2 e.symm),Tm.sub_node]
  congr 1
  refine List.map_congr_left fun t ht=> ?_
  obtain ⟨i,hi,rfl⟩:=List.mem_iff_getElem.mp ht;exact ih i (xs[i]'(by omega)) ts[i] (by simp [show i < xs.length by omega]) (by simp [hi]) (hh.kid ht)
theorem applied_any (M:Nat->Prop)(s:Tm)(ls:List TyV)(us:List Tm)(la:Option Addr)(ll lc:Nat)(x:TyV)(w:World)(hM: ∀b,M b->b < w.heap.size)(hx:RT w M x s)(hh:Holes 2 us.length s)(hls:xB w M la ls)(hll:ls.length=ll)(hul:us.length=ll)
 (hus: ∀(i:Nat) (y:TyV) (u:Tm),ls[i]?=some y->us[i]?=some u->RT w M y u):
 Calls Tryz.prog 41 #[x.val,.slice la ll lc] w fun e w'=> ∃r:TyV,e= .returned r.val/\RT w' M r (repl 2 us s)/\Fr F0 w w':=by
 have hMb: ∀b,(M b\/b=w.heap.size + 1)->M b\/w.heap.size<=b:=fun b hb=>hb.imp id fun h=>by omega
 have RE:=hid (fun (w':World) (f':Fr F0 w w') (hs:w.heap.size + 1 < w'.heap.size)=>replaced_any 2 (.inl rfl) s ls us la ll lc x w' (fun b=>M b\/b=w.heap.size + 1) ((hx.avoid hMb).keep f'.sub) hh ((hls.avoid hMb).keep f'.sub) hll hul (fun i y u h h'=>((hus i y u h h').avoid hMb).keep f'.sub) (fun b hb=>by rcases hb with hb | hb;have:=hM b hb;omega;omega));clear hx hh hls hll hul hus hMb hM;unfold TyV.val at *
 go_enter Tryz.func41,Tryz.ntmps41;go_wp2_with fail
 refine (RE.out _ (((Fr.refl F0 w).alloc _).alloc _) (by simp)).mono ?_;rintro e w2 ⟨r,rfl,hnm,hr,hf2⟩;clear hnm;have HR:=hid hr;have F2:=hid hf2;have Z2:=hid (hf2.heap id (zS w (.cells #[.int .i64 x.k,.int .i64 x.n,.int .i64 x.c,.bool x.v,.slice x.a x.len x.cap,.string x.nm] 26) (.cells #[.int .i64 0,.int .i64 0,.int .i64 0,.bool false,.slice none 0 0,.string ⟨#[]⟩] 26)));clear hr hf2;go_wp2_with (refine zR rfl _ _ rfl rfl (w.heap.size + 1) r rfl rfl Z2.out ?_)
 intro W3 hR3 hf3;have F3:=hid (((((Fr.refl F0 w).alloc _).alloc _).trans F2.out).transNew hf3 fun b hb=> .inr (by subst hb;omega));have R3:=hid hR3;have HR3:=hid (HR.out.keep (hf3.mono fun _ _ h=> .inr h));go_wp2;refine bodyPost_ret (v:= .agg #[.int .i64 r.k,.int .i64 r.n,.int .i64 r.c,.bool r.v,.slice r.a r.len r.cap,.string r.nm]) ?_ rfl ?_
 ·exact ret6 rfl rfl R3.out
 exact ⟨r,rfl,HR3.out.mono (fun _ h=> .inl h),F3.out⟩
structure SolRel (M:Nat→Prop) (w wr:World) (s:St) (x:TyV) (o:Value) (rs:List TyV):Prop where
 f:Fr F0 w wr
 bx:wr.heap[w.heap.size]?=some (.cells #[.int .i64 x.k,.int .i64 x.n,.int .i64 x.c,.bool x.v,.slice x.a x.len x.cap,.string x.nm] 26 (0,0))
 bz:wr.heap[w.heap.size + 1]?=some (.cells #[.int .i64 0,.int .i64 0,.int .i64 0,.bool false,.slice none 0 0,.string ⟨#[]⟩] 26 (0,0))
 own:OwnT wr (w.heap.size + 2) o rs
 r: ∀(i:Nat) (r:TyV),rs[i]?=some r->RT wr (fun b=>(M b\/b=w.heap.size + 1)\/o.ownBlock=some b) r (tau s i)
theorem SolRel.next {M:Nat->Prop}{w wr w2 w3:World}{s:St}{x:TyV}{o:Value}{rs:List TyV}(h:SolRel M w wr s x o rs)(f2:Fr F0 wr w2){r:TyV}(hr:RT w2 (fun b=>(M b\/b=w.heap.size + 1)\/o.ownBlock=some b) r (tau s rs.length))(f3:Fr (fun b=>o.ownBlock=some b) w2 w3){g cap:Nat}
 (hown:w3.ownsRow (w.heap.size + 2) 26 6 (.slice (some ⟨g,0,none⟩) (rs.length + 1) cap) (rs.length + 1) (rs.flatMap zW ++ zW r)) (hg:o.ownBlock=some g\/w2.heap.size<=g):
 SolRel M w w3 s x (.slice (some ⟨g,0,none⟩) (rs.length + 1) cap) (rs ++ [r]):=by
 have OB:=World.ownsRow.lt h.own;have s1:=h.f.size;have s2:=f2.size;have lx:=zF h.bz;refine ⟨(h.f.trans f2).transNew f3 fun b hb=> .inr (by have:=(OB b hb).1;omega),f3.heap (fun hb=>by have:=(OB _ hb).1;omega) (f2.heap id h.bx),f3.heap (fun hb=>by have:=(OB _ hb).1;omega) (f2.heap id h.bz),?_,fun i r' hr'=> ?_⟩
 ·unfold OwnT;rw [List.length_append,List.flatMap_append];simpa using hown
 ·have go: ∀ {y:TyV} {t:Tm},RT w2 (fun b=>(M b∨b=w.heap.size + 1)∨o.ownBlock=some b) y t→RT w3 (fun b=>(M b∨b=w.heap.size + 1)∨(Value.slice (some ⟨g,0,none⟩) (rs.length + 1) cap).ownBlock=some b) y t:=fun hy=>by
   refine ((hy.avoid (M':=fun b=>((M b\/b=w.heap.size + 1)\/o.ownBlock=some b)\/w2.heap.size<=b) fun b hb=>hb).keep (f3.mono fun _ _ hb=> .inl (.inr hb))).mono fun b hb=> ?_
   rcases hb with hb | hb
   ·exact .inl (.inl hb)
   have hgb:g=b:=by simpa [Value.ownBlock] using hb
   subst hgb;exact hg.imp .inr id
  rw [List.getElem?_append] at hr'
  split at hr'
  ·exact go ((h.r i r' hr').keep f2.sub)
  ·rename_i hni
   have hir:i=rs.length∧r'=r:=by
    rw [List.getElem?_cons] at hr'
    split at hr'
    ·rename_i h0;cases hr';exact ⟨by omega,rfl⟩
    ·simp at hr'
   obtain ⟨rfl,rfl⟩:=hir;exact go hr
theorem solved_any (M:Nat->Prop){B:UB}{n:Nat}{s:St}{dv pv:Value}{w0 w1:World}(hU:URep w0 B n s dv pv false)(hBM: ∀b,B.M b->b < w0.heap.size)(w:World)(hF0:Fr F0 w0 w1)(hF1:Fr F0 w1 w)(hM: ∀b,M b->w1.heap.size<=b/\b < w.heap.size)(la:Option Addr)(lc:Nat)(ls:List (Bool × TyV))(hll:ls.length=n)
 (hinf:InfOf w1 la ls ((List.range n).map fun p=>s.v (s.j p))) (x:TyV) (t:Tm) (hx:RT w M x t) (hh:Holes 2 n t):
 Calls Tryz.prog 25 #[.pointer (some ⟨B.u,0,none⟩),.slice la n lc,x.val] w fun e w'=> ∃r:TyV,e= .returned r.val/\RT w' M r (t.sub (tau s))/\Fr F0 w w':=by
 have hn8:=hU.n8;have IN:=hid hinf;have LL:=hid hll;have HX:=hid hx;have HH:=hid hh;have AR:=hid (fun (p:Nat) (hp:p < n) (hv:s.v (s.j p)=none) (w':World) (f':Fr F0 w w') (M:Nat->Prop) (hM: ∀b,M b->(B.M b\/w0.heap.size<=b)/\b < w'.heap.size)=>argument_any hU 0 p hp (fun k hk=>by rw [hv] at hk;cases hk) w' M ((hF0.trans hF1).trans f') hM);have S0:=hid (hF0.trans hF1).size;have S01:=hid hF0.size;have F1:=hid hF1;have HM:=hid hM
 clear hU hBM hF0 hF1 hinf hll hx hh hM;obtain ⟨i0,hi0,hz0,hz1,hz2⟩:=info_parts info26;unfold TyV.val at *;go_enter Tryz.func25,Tryz.ntmps25;go_wp2;go_loopw [7,8,12] (fun o _ i wr=> ∃(j:Nat) (rs:List TyV),j<=n/\i= .int .i64 j/\rs.length=j/\SolRel M w wr s x o rs) (fun _ _ i _=>n - (intOf i).toNat)
 case atStart=>exact ⟨0,[],Nat.zero_le _,rfl,rfl,((Fr.refl F0 w).alloc _).alloc _,((Fr.refl F0 _).alloc _).heap id (heap_alloc_new w _),zS w _ _,World.ownsRow_nil _ _ _ _,fun i r h=>by simp at h⟩
 case round=>
  obtain ⟨j,rs,hj,rfl,hrs,hrel'⟩:=hrel;have SR:=hid hrel';have RS:=hid hrs;clear hrel' hrs;by_cases hlt:j < n
  ·obtain ⟨b1,o1,rfl,hI⟩:=IN.out.1.resolve_left (fun h=>by have:=LL.out;rw [h] at this;simp at this;omega)
   obtain ⟨p,hp⟩: ∃p,ls[j]?=some p:=⟨ls[j]'(by rw [LL.out];exact hlt),by simp⟩;obtain ⟨h1,h2⟩:=IN.out.2 j p (s.v (s.j j)) hp (by simp [hlt]);have e:=(hI j p hp).keep (F1.out.trans SR.out.f) id;obtain ⟨kb,Y⟩:=p;dsimp only at h1 h2 e;obtain ⟨i1,a0,a1,a2,a3,a4,a5⟩:=e;have hb1:b1 < wr.heap.size:=World.block_lt_of_cell? _ _ i1;have hle:(j:Int) < n:=by omega
   have H2:=hid h2;have H1:=hid h1;have OWN:=hid SR.out.own;have N63:=hid (show rs.length + 1<=maxLen by have:=RS.out;unfold maxLen;omega);have N72:=hid (show (rs.length + 1) * 72<=140737488355328 by have:=RS.out;omega);have OB:=hid (World.ownsRow.lt SR.out.own);have L2:=hid (show w.heap.size + 1 < wr.heap.size from zF SR.out.bz);clear h2 hI hp h1
   cases hkb:kb with
   |true=>
    subst hkb;obtain ⟨u,hu⟩: ∃u,s.v (s.j j)=some u:=Option.isSome_iff_exists.mp H1.out.symm;have RY:=hid (H2.out u hu);have TU:=hid (show tau s rs.length=u by rw [RS.out];unfold tau;rw [hu];rfl);clear hu;go_wp2_with (refine wpList_append_lies _ rfl _ _ 24 rfl (w.heap.size + 2) 26 i0 _ 6 72 Tryz.underlying24 hi0 hz0 hz1 hz2 rfl (by omega) u7 rs.length (rs.flatMap zW) (by rfl) ((OWN.out.alloc (.cells #[.bool true,.int .i64 Y.k,.int .i64 Y.n,.int .i64 Y.c,.bool Y.v,.slice Y.a Y.len Y.cap,.string Y.nm] 45)).alloc (.cells #[.int .i64 Y.k,.int .i64 Y.n,.int .i64 Y.c,.bool Y.v,.slice Y.a Y.len Y.cap,.string Y.nm] 26)) ⟨wr.heap.size + 1,0,none⟩ 1 1 (zW Y) (by rfl) (by rfl) (World.news_of_block (cs:= #[.int .i64 Y.k,.int .i64 Y.n,.int .i64 Y.c,.bool Y.v,.slice Y.a Y.len Y.cap,.string Y.nm]) (t:=26) (fr:=(0,0)) (zS wr _ _)) (by simp [zW,Value.oneCell']) (by omega) N63.out N72.out (by have:=L2.out;simp;omega) (wr.heap.size + 2) (by simp) ?_)
    intro g cap w3 hown3 hgrow hg1 hg2;have NX:=hid (SR.out.next (((Fr.refl F0 wr).alloc (.cells #[.bool true,.int .i64 Y.k,.int .i64 Y.n,.int .i64 Y.c,.bool Y.v,.slice Y.a Y.len Y.cap,.string Y.nm] 45)).alloc (.cells #[.int .i64 Y.k,.int .i64 Y.n,.int .i64 Y.c,.bool Y.v,.slice Y.a Y.len Y.cap,.string Y.nm] 26)) (TU.out.symm ▸ ((RY.out.avoid (M':=fun b=>(M b\/b=w.heap.size + 1)\/u7.ownBlock=some b) (fun b hb=> .inr (by have h1:=F1.out.size;rcases hb with (hb | hb) | hb;exact (HM.out b hb).1;omega;have:=(OB.out b hb).1;omega))).keep (F1.out.trans SR.out.f).sub).keep (((Fr.refl _ wr).alloc _).alloc _)) (Fr.of_grown hgrow) hown3 (hg1.imp id fun h=>by simp;omega))
    clear hown3 hgrow hg1 hg2;go_wp2;go_roundw
    case rel=>exact ⟨j + 1,rs ++ [Y],by omega,by go_num,by simp [RS.out],NX.out⟩
    case measure=>simp [intOf];omega
   |false=>
    subst hkb;have hv:s.v (s.j j)=none:=by cases h:s.v (s.j j) with | none=>rfl | some u=>have:=H1.out;rw [h] at this;cases this
    have TU:=hid (show argS 0 s j=tau s rs.length by rw [RS.out];unfold argS tau;rw [hv];rfl);have AJ:=hid (AR.out j hlt hv);clear hv;go_wp2_with fail
    refine (AJ.out _ (SR.out.f.alloc _) (fun b=>(M b\/b=w.heap.size + 1)\/u7.ownBlock=some b) (fun b hb=>by rcases hb with (hb | hb) | hb;exact ⟨.inr (by have:=(HM.out b hb).1;have:=S01.out;omega),by have:=(HM.out b hb).2;have:=SR.out.f.size;simp;omega⟩;exact ⟨.inr (by have:=S0.out;omega),by have:=L2.out;simp;omega⟩;exact ⟨.inr (by have:=(OB.out b hb).1;have:=S0.out;omega),by have:=(OB.out b hb).2;simp;omega⟩)).mono ?_
    rintro e w2 ⟨r,rfl,hr,hf2⟩;have HR:=hid hr;have F2:=hid (((Fr.refl F0 wr).alloc (.cells #[.bool false,.int .i64 Y.k,.int .i64 Y.n,.int .i64 Y.c,.bool Y.v,.slice Y.a Y.len Y.cap,.string Y.nm] 45)).trans hf2);have OW2:=hid (zV OWN.out F2.out (fun _ _ h=>h));have SZ2:=hid F2.out.size;clear hr hf2;go_wp2_with (refine wpList_append_lies _ rfl _ _ 24 rfl (w.heap.size + 2) 26 i0 _ 6 72 Tryz.underlying24 hi0 hz0 hz1 hz2 rfl (by omega) u7 rs.length (rs.flatMap zW) (by rfl) (OW2.out.alloc (.cells #[.int .i64 r.k,.int .i64 r.n,.int .i64 r.c,.bool r.v,.slice r.a r.len r.cap,.string r.nm] 26)) ⟨w2.heap.size,0,none⟩ 1 1 (zW r) (by rfl) (by rfl) (World.news_of_block (cs:= #[.int .i64 r.k,.int .i64 r.n,.int .i64 r.c,.bool r.v,.slice r.a r.len r.cap,.string r.nm]) (t:=26) (fr:=(0,0)) (heap_alloc_new w2 _)) (by simp [zW,Value.oneCell']) (by omega) N63.out N72.out (by have:=L2.out;have:=SZ2.out;simp;omega) (w2.heap.size + 1) (by simp) ?_)
    intro g cap w3 hown3 hgrow hg1 hg2;have NX:=hid (SR.out.next (F2.out.alloc (.cells #[.int .i64 r.k,.int .i64 r.n,.int .i64 r.c,.bool r.v,.slice r.a r.len r.cap,.string r.nm] 26)) (TU.out ▸ HR.out.keep ((Fr.refl _ w2).alloc _)) (Fr.of_grown hgrow) hown3 (hg1.imp id fun h=>by simp;omega));clear hown3 hgrow hg1 hg2;go_wp2;go_roundw
    case rel=>exact ⟨j + 1,rs ++ [r],by omega,by go_num,by simp [RS.out],NX.out⟩
    case measure=>simp [intOf];omega
  ·have hjn:j=n:=by omega
   have hle: ¬(j:Int) < n:=by omega
   obtain ⟨ea,ec,hov,hel,hc1,hc2⟩:=OwnT.elems SR.out.own (fun b=>M b\/b=w.heap.size + 1) (fun g hg h=>by have:=(World.ownsRow.lt SR.out.own g hg).1;rcases h with h | h;have:=(HM.out g h).2;omega;omega);rw [RS.out] at hov;subst hjn;subst hov;have hxr:RT wr (fun b=>M b\/b=w.heap.size + 1) x t:=(HX.out.avoid fun b hb=>hb.imp id fun h=>by omega).keep SR.out.f.sub;have us: ∀p,p < j->((List.range j).map (tau s))[p]?=some (tau s p):=fun p hp=>by simp [hp]
   have AP:=hid (applied_any (fun b=>M b∨b=w.heap.size + 1) t rs ((List.range j).map (tau s)) ea j ec x wr (fun b hb=>by rcases hb with hb | hb;have:=(HM.out b hb).2;have:=SR.out.f.size;omega;subst hb;exact zF SR.out.bz) hxr (by simpa using HH.out) hel RS.out (by simp) (fun i y u hy hu=>by
    have hi:i < j:=by have:=(List.getElem?_eq_some_iff.mp hy).1;have:=RS.out;omega
    rw [us i hi] at hu;cases hu;exact (SR.out.r i y hy).mono fun _ h=> .inl h))
   rw [repl_sub hxr us HH.out] at AP;unfold TyV.val at AP;have BZ:=hid SR.out.bz;have q0:=zA SR.out.bx;have s0:=bl (q0 0);clear hel hc1 hc2 hxr us;go_wp2_with fail
   refine AP.out.mono ?_;rintro e w2 ⟨r,rfl,hr,hf2⟩;have HR:=hid hr;have F2:=hid hf2;have Z2:=hid (hf2.heap id BZ.out);clear hr hf2 q0 s0;go_wp2_with (refine zR rfl _ _ rfl rfl (w.heap.size + 1) r rfl rfl Z2.out ?_)
   intro W3 hR3 hf3;have F3:=hid ((SR.out.f.trans F2.out).transNew hf3 fun b hb=> .inr (by subst hb;omega));have R3:=hid hR3;have HR3:=hid (HR.out.keep (hf3.mono fun _ _ h=> .inr h));go_wp2;refine bodyPost_ret (v:= .agg #[.int .i64 r.k,.int .i64 r.n,.int .i64 r.c,.bool r.v,.slice r.a r.len r.cap,.string r.nm]) ?_ rfl ?_
   ·exact ret6 rfl rfl R3.out
   exact ⟨r,rfl,HR3.out.mono (fun _ h=> .inl h),F3.out⟩
end Go.Proofs.YtpekidjfbinekaaGreatDoor
