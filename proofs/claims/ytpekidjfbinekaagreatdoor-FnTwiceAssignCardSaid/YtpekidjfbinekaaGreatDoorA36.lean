/- W34, W35, W36 -/
import Derived.Test.YtpekidjfbinekaaGreatDoorA03
import Derived.Test.YtpekidjfbinekaaGreatDoorA29
import Derived.Test.YtpekidjfbinekaaGreatDoorA35
set_option maxRecDepth 100000
set_option maxHeartbeats 60000000
set_option linter.all false
namespace Go.Proofs.YtpekidjfbinekaaGreatDoor
open Go.RowKit Uni
theorem info64:(Tryz.prog.info? 64).map (fun i=>(i.zero,i.size,i.bytes))=some (some (.agg #[.int .i64 0,.int .i64 0,.int .i64 0,.bool false,.slice none 0 0,.string ⟨#[]⟩,.int .i64 0,.int .i64 0,.int .i64 0,.bool false,.slice none 0 0,.string ⟨#[]⟩]),12,144):=by kernel_rfl
theorem under35:Tryz.prog.underlying 35=some (.slice 64):=by kernel_rfl
def wI (p:TyV × TyV):List Value:= [.int .i64 p.1.k,.int .i64 p.1.n,.int .i64 p.1.c,.bool p.1.v,.slice p.1.a p.1.len p.1.cap,.string p.1.nm,.int .i64 p.2.k,.int .i64 p.2.n,.int .i64 p.2.c,.bool p.2.v,.slice p.2.a p.2.len p.2.cap,.string p.2.nm]
theorem flat12_get: ∀(rs:List (TyV × TyV))(i j:Nat)(y:TyV × TyV),rs[i]?=some y->j < 12->(rs.flatMap wI)[i * 12 + j]?=(wI y)[j]?:=by
 intro rs
 induction rs with
 |nil=>intro i j y h;simp at h
 |cons r rs ih=>
  intro i j y h hj;rw [List.flatMap_cons]
  cases i with
  |zero=>
   simp at h;subst h;rw [List.getElem?_append_left (by simp [wI];omega)];simp
  |succ i=>
   rw [List.getElem?_append_right (by simp [wI];omega)];rw [<-ih i j y (by simpa using h) hj]
   congr 1
   simp [wI];omega
structure PairsOf (ar:Nat→Nat) (dl:Nat) (w:World) (A:Nat→Prop) (n:Nat) (pv:Value) (qs:List (Tm × Tm)) (ps:List (TyV × TyV)):Prop where
 len:ps.length=qs.length
 own:w.ownsRow 0 64 12 pv qs.length (ps.flatMap wI)
 ins: ∀(i:Nat) (p:TyV × TyV) (q:Tm × Tm),ps[i]?=some p->qs[i]?=some q->HIn ar dl w A n p.1 q.1/\HIn ar dl w A n p.2 q.2
theorem own12_pairs {w:World}{B:Nat}{v:Value}{ps:List (TyV × TyV)}{m:Nat}(h:w.ownsRow B 64 12 v m (ps.flatMap wI))(hm:ps.length=m): ∃a cap,v= .slice a m cap/\PairsAt w a ps:=by
 have hc:=h;obtain ⟨hl,h | ⟨g,cap,cur,hv,hB,hg,hn,hm,hs,ht⟩⟩:=h
 ·obtain ⟨hv,hn⟩:=h
  have:ps= []:=List.eq_nil_of_length_eq_zero (by omega);exact ⟨none,0,by rw [hv,hn],.inl this⟩
 ·refine ⟨_,cap,hv,.inr ⟨g,0,rfl,fun i y hy=> ?_⟩⟩
  have hcell: ∀j,j < 12→w.cell? ⟨g,0 + i * 12 + j,none⟩=(wI y)[j]?:=by
   intro j hj;have h1:=flat12_get ps i j y hy hj;have h2:=World.ownsRow.cells hc (g:=g) (by rw [hv];rfl) (i * 12 + j);have hadd:(⟨g,0,none⟩:Addr).add (i * 12 + j)=⟨g,0 + i * 12 + j,none⟩:=by unfold Addr.add;split <;>simp_all
   rw [hadd] at h2;rw [h1] at h2;have h3:((wI y)[j]?).isSome:=by simp [wI];omega
   obtain ⟨u,hu⟩:=Option.isSome_iff_exists.1 h3;rw [hu];exact h2 u hu
  exact ⟨hcell 0 (by omega),hcell 1 (by omega),hcell 2 (by omega),hcell 3 (by omega),hcell 4 (by omega),hcell 5 (by omega),hcell 6 (by omega),hcell 7 (by omega),hcell 8 (by omega),hcell 9 (by omega),hcell 10 (by omega),hcell 11 (by omega)⟩
theorem URep.pairs {w w':World}{B:UB}{n:Nat}{s:St}{dv pv pv':Value}{sil:Bool}{g:Nat}{o:Obj}(h:URep w B n s dv pv sil)(hBM: ∀b,B.M b->b < w.heap.size)(F:Fr (fun b=>b=B.u\/(B.po.isSome=true/\b=B.p)\/b=g) w w')
 (hu: ∀ja cj ka ck,w.heap[B.u]?=some (.cells #[dv,.slice ja n cj,.slice ka n ck,pv,.bool sil] 37 (0,0))->w'.heap[B.u]?=some (.cells #[dv,.slice ja n cj,.slice ka n ck,pv',.bool sil] 37 (0,0)))
 (hg:w'.heap[g]?=some o) (hgn:(B.po.isSome=true/\g=B.p)\/w.heap.size<=g):URep w' {B with p:=g,po:=some o} n s dv pv' sil:=by
 have hpo: ∀b,(B.po.isSome=true∧b=B.p)→b≠B.u∧(0 < n→b≠B.j∧b≠B.k):=fun b hb=>by
  obtain ⟨o',ho'⟩:=Option.isSome_iff_exists.1 hb.1;have:=h.pr o' ho';rw [hb.2];exact this.2
 have hsz:B.u < w.heap.size:=h.size.1
 have gne:g≠B.u∧(0 < n→g≠B.j∧g≠B.k):=by
  rcases hgn with h1 | h1
  ·exact hpo g h1
  ·exact ⟨by omega,fun hn=>⟨by have:=(h.size.2 hn).1;omega,by have:=(h.size.2 hn).2;omega⟩⟩
 have ne: ∀b,b≠B.u→(0 < n→True)→((B.po.isSome=true∧b=B.p)→False)→b≠g→ ¬(b=B.u∨(B.po.isSome=true∧b=B.p)∨b=g):=fun b h1 _ h2 h3 hb=>by
  rcases hb with hb | hb | hb
  ·exact h1 hb
  ·exact h2 hb
  ·exact h3 hb
 have A: ∀ {y:TyV} {t:Tm},RT w B.M y t→RT w' (UB.M {B with p:=g,po:=some o}) y t:=fun {y t} hr=>by
  have h1:=hr.avoid (M':=fun b=>B.M b∨b=g) fun b hb=>by
   rcases hb with hb | hb
   ·exact .inl hb
   ·rcases hgn with h2 | h2
    ·exact .inl (.inr (.inr (.inr (by rw [hb,h2.2]))))
    ·exact .inr (by rw [hb];exact h2)
  have h2:=h1.keep (F.mono fun b _ hb=>by
   rcases hb with hb | hb | hb
   ·exact .inl (.inl hb)
   ·exact .inl (.inr (.inr (.inr hb.2)))
   ·exact .inr hb)
  refine h2.mono fun b hb=> ?_
  rcases hb with hb | hb | hb | hb
  ·exact .inl (.inl hb)
  ·exact .inl (.inr (.inl hb))
  ·exact .inl (.inr (.inr (.inl hb)))
  ·exact .inr hb
 obtain ⟨hu0,hj,hk,h1,h2,h3,h4,h5,h6⟩:=h;refine ⟨?_,fun hn=> ?_,fun hn=> ?_,h1,h2,h3,h4,⟨Nat.lt_of_lt_of_le h5.1 F.size,fun hn=>⟨Nat.lt_of_lt_of_le (h5.2 hn).1 F.size,Nat.lt_of_lt_of_le (h5.2 hn).2 F.size⟩⟩,fun o' ho'=>by cases ho';exact ⟨hg,gne⟩⟩
 ·obtain ⟨ja,cj,ka,ck,h,h'⟩:=hu0
  exact ⟨ja,cj,ka,ck,hu _ _ _ _ h,h'⟩
 ·obtain ⟨c,h,h'⟩:=hj hn
  exact ⟨c,F.heap (ne _ (Ne.symm (h4 hn).1) (fun _=>trivial) (fun hb=>((hpo _ hb).2 hn).1 rfl) (Ne.symm (gne.2 hn).1)) h,h'⟩
 ·obtain ⟨c,h,h'⟩:=hk hn
  refine ⟨c,F.heap (ne _ (Ne.symm (h4 hn).2.1) (fun _=>trivial) (fun hb=>((hpo _ hb).2 hn).2 rfl) (Ne.symm (gne.2 hn).2)) h,fun p hp=> ?_⟩;obtain ⟨y,a0,a1,a2,a3,a4,a5,a6,a7⟩:=h' p hp;exact ⟨y,a0,a1,a2,a3,a4,a5,a6,fun t ht=>A (a7 t ht)⟩
theorem unify_silent {B:UB}{n:Nat}{s:St}{dv pv:Value}(x y:TyV)(m:Int)(w:World)(hU:URep w B n s dv pv true):
 Calls Tryz.prog 35 #[.pointer (some ⟨B.u,0,none⟩),x.val,y.val,.int .i64 m] w fun e w'=>e= .returned (.bool false)/\Fr F0 w w':=by
 obtain ⟨ja,cj,ka,ck,hu,_⟩:=hU.u;have qu:=zA hu;have szu:=bl (qu 0);dsimp only at szu;clear hU hu;obtain ⟨xk,xn,xc,xv,xa,xlen,xcap,xnm⟩:=x;obtain ⟨yk,yn,yc,yv,ya,ylen,ycap,ynm⟩:=y;unfold TyV.val;go_enter Tryz.func35,Tryz.ntmps35;go_wp2;go_ret;exact ⟨rfl,((Fr.refl F0 w).alloc _).alloc _⟩
section
variable {B:UB}{n:Nat}{s:St}{dv pv:Value}{sil:Bool}{w0:World}
def SimpleStep (w0:World)(B:UB)(n:Nat)(s:St)(N:Nat):Prop:=
 ∀(t:Tm) (x:TyV) (w:World) (M:Nat→Prop),Fr F0 w0 w→(∀b,M b→(B.M b∨w0.heap.size≤b)∧b < w.heap.size)→RT w M x t→Holes 2 n t→simS N s t=some (simF N s t)→
  Calls Tryz.prog 39 #[.pointer (some ⟨B.u,0,none⟩),x.val] w fun e w'=> ∃r:TyV,e= .returned r.val/\r.nm=x.nm/\RT w' M r (simF N s t)/\Fr F0 w w'
theorem simple_node (N:Nat)(IH_:SimpleStep w0 B n s N)(f:Lab)(ts:List Tm)(x:TyV)(w:World)(M:Nat->Prop)(hF0:Fr F0 w0 w)(hM: ∀b,M b->(B.M b\/w0.heap.size<=b)/\b < w.heap.size)(hx:RT w M x (.node f ts))(hh:Holes 2 n (.node f ts))(hs:simS (N + 1) s (.node f ts)=some (simF (N + 1) s (.node f ts))):
 Calls Tryz.prog 39 #[.pointer (some ⟨B.u,0,none⟩),x.val] w fun e w'=> ∃r:TyV,e= .returned r.val/\r.nm=x.nm/\RT w' M r (simF (N + 1) s (.node f ts))/\Fr F0 w w':=by
 obtain ⟨xs,fx,nx,rx,sx⟩:=hx.flat;obtain ⟨ne,ss⟩:=simS_node hs;have NE:=hid ne;have SS:=hid ss;have IH:=hid IH_;have F0W:=hid hF0;obtain ⟨hxe,lx,bx⟩:=fx;have HX:=hid hxe;have LX:=hid lx;have NX:=hid nx;have RX:=hid rx;have SX:=hid sx;have HH:=hid hh;have HM:=hid hM;have hb:x.len<=1954687338211:=bx.2.1
 have hkx:(x.k==2)=false:=by
  have:=sx.k;have:=sx.k2;simp;omega
 clear hxe lx nx rx sx hx hh hM bx ne ss hs IH_ hF0;obtain ⟨xk,xn,xc,xv,xa,xlen,xcap,xnm⟩:=x;unfold TyV.val;dsimp only at *;go_enter Tryz.func39,Tryz.ntmps39;go_wp2
 go_loopw [25] (fun i wr=> ∃(j:Nat) (rs:List TyV) (ov:Value),j≤xlen∧i= .int .i64 j∧rs.length=j∧Fr F0 w wr∧w.heap.size + 2 < wr.heap.size∧
  wr.heap[w.heap.size + 1 + 1]?=some (.cells #[.int .i64 xk,.int .i64 xn,.int .i64 xc,.bool xv,ov,.string xnm] 26 (0,0))/\
  wr.heap[w.heap.size + 1]?=some (.cells #[.int .i64 0,.int .i64 0,.int .i64 0,.bool false,.slice none 0 0,.string ⟨#[]⟩] 26 (0,0))/\
  OwnT wr (w.heap.size + 3) ov rs/\rs.map TyV.nm=(xs.take j).map TyV.nm/\
  (∀(i:Nat) (r:TyV) (t:Tm),rs[i]?=some r->ts[i]?=some t->RT wr (fun b=>M b\/(w.heap.size<=b/\b<=w.heap.size + 2)\/ov.ownBlock=some b) r (simF N s t)))
  (fun i _=>xlen - (intOf i).toNat)
 case atStart=>exact ⟨0,[],.slice none 0 0,Nat.zero_le _,rfl,rfl,by repeat (first | exact Fr.refl _ _ | refine Fr.alloc ?_ _),by simp,heap_three _ _ _ _,(Below.heap_alloc _ _ _ (by simp)).trans (zS _ _ _),World.ownsRow_nil _ _ _ _,rfl,fun i r t h=>by simp at h⟩
 case round=>
  obtain ⟨j,rs,ov,hj,rfl,hrs,hf,hsz,hB8,hR6,hown,hnm,hrt⟩:=hrel;have HF:=hid hf;have HRS:=hid hrs;have HOWN:=hid hown;have HNM:=hid hnm;have HRT:=hid hrt;have B8:=hid hB8;have R6:=hid hR6;clear hR6;clear hf hrs hown hnm hrt;by_cases hlt:j < xlen
  ·obtain ⟨X,b1,o1,gX,rfl,e1⟩:=HX.out.elem (show j < xs.length by rw [LX.out];exact hlt)
   have e1:=e1.keep HF.out.sub;obtain ⟨_,a0,a1,a2,a3,a4,a5⟩:=e1;have hb1:b1 < wr.heap.size:=World.block_lt_of_cell? _ _ a0;have hle:(j:Int) < xlen:=by omega
   have GX:=hid gX;clear gX;have b8:wr.cell? ⟨w.heap.size + 1 + 1,4,none⟩=some ov:=by simp [World.cell?,hB8]
   clear hB8;have hlen1:(rs.flatMap zW).length=j * 6:=by rw [wY,HRS.out]
   have HL1:=hid hlen1;clear hlen1;obtain ⟨i0,hi0,hz0,hz1,hz2⟩:=info_parts info26;obtain ⟨t,ht⟩: ∃t,ts[j]?=some t:=⟨ts[j]'(by have:=NX.out;simp [kids] at this;rw [this,LX.out];exact hlt),by simp⟩;have T:=hid ht
   have hMb: ∀b,M b∨(w.heap.size≤b∧b≤w.heap.size + 2)∨ov.ownBlock=some b→(M b∨w.heap.size≤b)∧b < wr.heap.size:=by
    intro b hb;rcases hb with hb | hb | hb
    ·have:=(HM.out b hb).2;have:=HF.out.size;exact ⟨.inl hb,by omega⟩
    ·exact ⟨.inr (by omega),by omega⟩
    ·have:=World.ownsRow.lt HOWN.out b hb;exact ⟨.inr (by omega),this.2⟩
   have CALL: ∀(w':World),Fr F0 wr w'→Calls Tryz.prog 39 #[.pointer (some ⟨B.u,0,none⟩),.agg #[.int .i64 X.k,.int .i64 X.n,.int .i64 X.c,.bool X.v,.slice X.a X.len X.cap,.string X.nm]] w' fun e w''=>
    ∃r:TyV,e= .returned (.agg #[.int .i64 r.k,.int .i64 r.n,.int .i64 r.c,.bool r.v,.slice r.a r.len r.cap,.string r.nm])∧r.nm=X.nm∧
     RT w'' (fun b=>M b\/(w.heap.size<=b/\b<=w.heap.size + 2)\/ov.ownBlock=some b) r (simF N s t)/\Fr F0 w' w'':=by
    intro w' fr;have F:=HF.out.trans fr;refine IH.out t X w' _ (F0W.out.trans F) (fun b hb=> ?_) (((RX.out j X t GX.out ht).avoid fun b hb=>(hMb b hb).1).keep F.sub) (HH.out.kid (List.mem_of_getElem? ht)) (SS.out t (List.mem_of_getElem? ht));refine ⟨?_,Nat.lt_of_lt_of_le (hMb b hb).2 fr.size⟩;rcases (hMb b hb).1 with h | h
    ·exact (HM.out b h).1
    ·exact .inr (Nat.le_trans F0W.out.size h)
   have OB:=hid (World.ownsRow.lt HOWN.out);have N63:=hid (show rs.length + 1<=maxLen by have:=HRS.out;unfold maxLen;omega);have N72:=hid (show (rs.length + 1) * 72<=140737488355328 by have:=HRS.out;omega);have CA:=hid CALL;have MB:=hid hMb;clear CALL hMb ht;go_wp2_with fail
   have e0:(wr.alloc (.cells #[.int .i64 X.k,.int .i64 X.n,.int .i64 X.c,.bool X.v,.slice X.a X.len X.cap,.string X.nm] 26)).heap[wr.heap.size]?=some (.cells #[.int .i64 X.k,.int .i64 X.n,.int .i64 X.c,.bool X.v,.slice X.a X.len X.cap,.string X.nm] 26 (0,0)):=heap_alloc_new _ _;have B8':=hid (show (wr.alloc (.cells #[.int .i64 X.k,.int .i64 X.n,.int .i64 X.c,.bool X.v,.slice X.a X.len X.cap,.string X.nm] 26)).heap[w.heap.size + 1 + 1]?=_ from (Below.heap_alloc _ _ _ (by omega)).trans B8.out)
   have E0:=hid e0;clear e0;have FRW:=hid ((Fr.refl F0 wr).alloc (.cells #[.int .i64 X.k,.int .i64 X.n,.int .i64 X.c,.bool X.v,.slice X.a X.len X.cap,.string X.nm] 26));generalize hWX:wr.alloc (.cells #[.int .i64 X.k,.int .i64 X.n,.int .i64 X.c,.bool X.v,.slice X.a X.len X.cap,.string X.nm] 26)=WX;rw [hWX] at E0 B8' FRW;clear hWX
   refine zG (Fr (fun b=>ov.ownBlock=some b) WX)
    [(0,true),(1,true),(2,true),(3,true),(4,false),(5,false),(6,false),(7,false),(8,false)] [7,8] yE (by kernel_rfl) (by kernel_rfl) (by kernel_rfl) (by decide) ?_
   have nb8: ¬ov.ownBlock=some (w.heap.size + 1 + 1):=fun h=>by have:=(OB.out _ h).1;omega
   have nbe: ¬ov.ownBlock=some wr.heap.size:=fun h=>by have:=(OB.out _ h).2;omega
   have NB8:=hid nb8;have NBE:=hid nbe;clear nb8 nbe
   iterate 4
    (refine zH _ rfl (Fr.refl _ _).drew (fun w' hS=>by
     have q0:=zA (hS.heap NB8.out B8'.out);have q1:=zA (hS.heap NBE.out E0.out);clear hS;go_simp;rfl) ?_)
   go_simp;refine zB rfl ?_;go_wp2_with fail
   refine (CA.out _ FRW.out.drew).mono ?_;rintro e w2 ⟨r,rfl,hrn,hrr,hf2⟩;have HRN:=hid hrn;clear hrn;have HRR:=hid hrr;have HF2:=hid hf2;clear hrr hf2;go_wp2;refine And.intro (fun _=>(Fr.refl _ _).drew.trans HF2.out.sub) ?_;refine zB rfl ?_;go_wp2;refine And.intro (fun _=>((Fr.refl _ _).drew.trans HF2.out.sub).alloc _) ?_;refine zB rfl ?_;have OW2:=hid ((zV HOWN.out (FRW.out.drew.trans HF2.out) (fun _ _ h=>h)).alloc (.cells #[.int .i64 r.k,.int .i64 r.n,.int .i64 r.c,.bool r.v,.slice r.a r.len r.cap,.string r.nm] 26))
   have SZ:=hid (show w.heap.size + 3<=(w2.alloc (.cells #[.int .i64 r.k,.int .i64 r.n,.int .i64 r.c,.bool r.v,.slice r.a r.len r.cap,.string r.nm] 26)).heap.size by have:=(FRW.out.drew.trans HF2.out).size;simp;omega);refine wpList_append_lies _ rfl _ _ 24 rfl (w.heap.size + 3) 26 i0 _ 6 72 Tryz.underlying24 hi0 hz0 hz1 hz2 rfl (by omega) ov rs.length (rs.flatMap zW) (by rfl) OW2.out ⟨w2.heap.size,0,none⟩ 1 1 (zW r) (by rfl) (by rfl) (World.news_of_block (cs:= #[.int .i64 r.k,.int .i64 r.n,.int .i64 r.c,.bool r.v,.slice r.a r.len r.cap,.string r.nm]) (t:=26) (fr:=(0,0)) (heap_alloc_new w2 _)) (by simp [zW,Value.oneCell']) (by omega) N63.out N72.out SZ.out (w2.heap.size + 1) (by simp) ?_
   intro gg gcap w3 hown3 hgrow hat hlt3;have HAT:=hid hat;clear hat hlt3;have FW3:=hid ((((Fr.refl (fun b=>ov.ownBlock=some b) _).drew.trans HF2.out.sub).alloc (.cells #[.int .i64 r.k,.int .i64 r.n,.int .i64 r.c,.bool r.v,.slice r.a r.len r.cap,.string r.nm] 26)).trans (Fr.of_grown hgrow));have OW3:=hid hown3;have HG:=hid hgrow;clear hown3 hgrow;go_wp2;refine And.intro (fun _=>FW3.out) ?_;refine zB rfl ?_
   go_wp2;refine And.intro (fun h=>absurd h (by decide)) ?_;refine zB rfl ?_;have q3:=zA (FW3.out.heap NB8.out B8'.out) 4;have f3:=zC (FW3.out.heap NB8.out B8'.out) 4;go_wp2;refine And.intro (fun h=>absurd h (by decide)) ?_;refine zO (NoPanic.normal ?_);go_wp2;have hlr:(rs ++ [r]).length=rs.length + 1:=by simp
   have OW':OwnT w3 (w.heap.size + 3) (.slice (some ⟨gg,0,none⟩) (rs.length + 1) gcap) (rs ++ [r]):=by
    unfold OwnT;rw [hlr,List.flatMap_append];exact OW3.out
   have FWR:=hid (show Fr F0 w w3 from (HF.out.trans FRW.out).transNew FW3.out fun x hx=> .inr (by have:=(OB.out x hx).1;omega));have FWR2:=hid (show Fr (fun b=>ov.ownBlock=some b) wr w3 from FRW.out.sub.trans FW3.out);have B83:=hid (FW3.out.heap NB8.out B8'.out)
   have XT:xs.take (j + 1)=xs.take j ++ [X]:=by
    rw [List.take_succ_eq_append_getElem (by rw [LX.out];exact hlt)]
    congr 2
    have:=GX.out;rw [List.getElem?_eq_getElem (by rw [LX.out];exact hlt)] at this;exact Option.some.inj this
   have XT':=hid XT;have WRSZ:=hid (show wr.heap.size<=w2.heap.size from (FRW.out.drew.trans HF2.out).size);clear XT hlr;go_roundw
   case rel=>
    have ha8:(⟨w.heap.size + 1 + 1,4,none⟩:Addr).block=w.heap.size + 1 + 1:=rfl;refine ⟨j + 1,rs ++ [r],.slice (some ⟨gg,0,none⟩) (rs.length + 1) gcap,by omega,by go_num,by simp [HRS.out],FWR.out.setCell (.inr (show w.heap.size<=w.heap.size + 1 + 1 by omega)) _,?_,?_,?_,?_,?_,?_⟩
    ·have:=FWR2.out.size;simp [World.setCell];omega
    ·exact heap_setCell (a:=⟨w.heap.size + 1 + 1,4,none⟩) B83.out rfl
    ·have nr6: ¬ov.ownBlock=some (w.heap.size + 1):=fun h=>by have:=(OB.out _ h).1;omega
     rw [Below.heap_setCell _ _ _ _ (by show w.heap.size + 1≠w.heap.size + 1 + 1;omega)];exact FWR2.out.heap nr6 R6.out
    ·exact ownsRow_setCell_below OW' (by simp) _
    ·rw [XT'.out,List.map_append,List.map_append,HNM.out,List.map_cons,List.map_cons,HRN.out]
    ·intro i r' t' hr' ht'
     have FS:Fr (fun b=>M b∨(w.heap.size≤b∧b≤w.heap.size + 2)∨ov.ownBlock=some b) wr (w3.setCell ⟨w.heap.size + 1 + 1,4,none⟩ (.slice (some ⟨gg,0,none⟩) (rs.length + 1) gcap)):=
      (FWR2.out.mono fun _ _ h=> .inr (.inr h)).setCell (.inl (.inr (.inl (show w.heap.size<=w.heap.size + 1 + 1/\w.heap.size + 1 + 1<=w.heap.size + 2 by omega)))) _
     rw [List.getElem?_append] at hr'
     split at hr'
     ·refine ((((HRT.out i r' t' hr' ht').avoid (M':=fun b=>(M b∨(w.heap.size≤b∧b≤w.heap.size + 2)∨ov.ownBlock=some b)∨wr.heap.size≤b) fun b hb=>hb).keep (FS.mono fun _ _ h=> .inl h))).mono fun b hb=> ?_
      rcases hb with hb | hb | hb
      ·exact .inl (.inl hb)
      ·exact .inl (.inr (.inl hb))
      ·have hgb:gg=b:=by simpa [Value.ownBlock] using hb
       subst hgb;rcases HAT.out with h | h
       ·exact .inl (.inr (.inr h))
       ·exact .inr (by have:=WRSZ.out;omega)
     ·rename_i hni
      have hir:i=rs.length∧r'=r:=by
       rw [List.getElem?_cons] at hr'
       split at hr'
       ·rename_i h0;cases hr';exact ⟨by omega,rfl⟩
       ·simp at hr'
      obtain ⟨rfl,rfl⟩:=hir;have htt:t'=t:=by rw [HRS.out,T.out] at ht';exact (Option.some.inj ht').symm
      subst htt
      have FS2:Fr (fun b=>M b∨(w.heap.size≤b∧b≤w.heap.size + 2)∨ov.ownBlock=some b) w2 (w3.setCell ⟨w.heap.size + 1 + 1,4,none⟩ (.slice (some ⟨gg,0,none⟩) (rs.length + 1) gcap)):=
       ((((Fr.refl _ w2).alloc _).trans ((Fr.of_grown HG.out).mono fun _ _ h=> .inr (.inr h)))).setCell (.inl (.inr (.inl (show w.heap.size<=w.heap.size + 1 + 1/\w.heap.size + 1 + 1<=w.heap.size + 2 by omega)))) _
      refine ((HRR.out.avoid (M':=fun b=>(M b\/(w.heap.size<=b/\b<=w.heap.size + 2)\/ov.ownBlock=some b)\/w2.heap.size<=b) fun b hb=>hb).keep (FS2.mono fun _ _ h=> .inl h)).mono fun b hb=> ?_
      rcases hb with hb | hb | hb
      ·exact .inl (.inl hb)
      ·exact .inl (.inr (.inl hb))
      ·have hgb:gg=b:=by simpa [Value.ownBlock] using hb
       subst hgb;rcases HAT.out with h | h
       ·exact .inl (.inr (.inr h))
       ·exact .inr (by omega)
   case measure=>simp [intOf];omega
  ·have hj':j=xlen:=by omega
   have HJ:=hid hj';obtain ⟨oa,oc,hov,hel,hcap⟩:=HOWN.out.elems (fun b=>M b\/(w.heap.size<=b/\b<=w.heap.size + 2)) (fun g hg hm=>by have:=(World.ownsRow.lt HOWN.out g hg).1;rcases hm with hm | hm;have:=(HM.out g hm).2;omega;omega);have HOV:=hid hov;have HEL:=hid hel;have HCAP:=hid hcap;clear hel hcap hB8 hj';subst hov;have q8:=zA B8.out;have q6:=zA R6.out;have f6:=zC R6.out;go_wp2;refine bodyPost_ret (v:= .agg #[.int .i64 xk,.int .i64 xn,.int .i64 xc,.bool xv,.slice oa rs.length oc,.string xnm]) ?_ rfl ?_
   ·exact ret6 rfl rfl (heap_set6 R6.out _ _ _ _ _ _)
   refine ⟨⟨xk,xn,xc,xv,oa,rs.length,oc,xnm⟩,rfl,rfl,?_,?_⟩
   rotate_left
   ·exact HF.out.set6 (.inr (Nat.le_succ _)) _ _ _ _ _ _
   have hS:Shape ⟨xk,xn,xc,xv,xa,xlen,xcap,xnm⟩ f xs:=SX.out;have hR:simF (N + 1) s (.node f ts)= .node f (ts.map (simF N s)):=NE.out;rw [hR];have hnames:rs.map TyV.nm=xs.map TyV.nm:=by rw [HNM.out,List.take_of_length_le (by rw [LX.out];have:=HJ.out;omega)]
   refine .node _ f rs _ ⟨hS.k,hS.k10,hS.k2,hS.n,hS.c,?_,rfl,?_⟩ (by rw [List.length_map];have:=NX.out;simp [kids] at this;rw [this,LX.out,HRS.out];exact HJ.out.symm) ?_ ?_
   ·rw [hS.names]
    have:xs.map (fun y=>y.nm.toList)=rs.map (fun y=>y.nm.toList):=by
     have h:=congrArg (List.map ByteArray.toList) hnames;rw [List.map_map,List.map_map] at h;exact h.symm
    rw [this]
   ·have h1:=HCAP.out;have h2:=HRS.out;exact ⟨h1.1,by show rs.length<=_;omega,h1.2⟩
   ·have F6:Fr (fun b=>M b∨(w.heap.size≤b∧b≤w.heap.size + 2)) wr _:=(Fr.refl _ wr).set6 (b:=w.heap.size + 1) (.inl (.inr ⟨by omega,by omega⟩)) (.int .i64 xk) (.int .i64 xn) (.int .i64 xc) (.bool xv) (.slice oa rs.length oc) (.string xnm)
    exact (HEL.out.keep F6).avoid fun b hb=> .inl (.inl hb)
   ·have F6:Fr (fun b=>M b∨(w.heap.size≤b∧b≤w.heap.size + 2)∨(Value.slice oa rs.length oc).ownBlock=some b) wr _:=(Fr.refl _ wr).set6 (b:=w.heap.size + 1) (.inl (.inr (.inl ⟨by omega,by omega⟩))) (.int .i64 xk) (.int .i64 xn) (.int .i64 xc) (.bool xv) (.slice oa rs.length oc) (.string xnm)
    intro i y u hy hu;rw [List.getElem?_map] at hu
    cases htt:ts[i]? with
    |none=>rw [htt] at hu;cases hu
    |some t=>
     rw [htt] at hu;cases hu
     exact ((HRT.out i y t hy htt).keep F6).mono fun b hb=> .inl hb
theorem simple_avoid {M:Nat->Prop}{b0:Nat}{w w1:World}(hM: ∀b,M b->(B.M b\/w0.heap.size<=b)/\b < w.heap.size)(h0:w0.heap.size<=b0)(h1:b0 < w1.heap.size)(h2:w.heap.size<=w1.heap.size): ∀b,(M b\/b=b0)->(B.M b\/w0.heap.size<=b)/\b < w1.heap.size:=by
 intro b hb;rcases hb with hb | hb
 ·exact ⟨(hM b hb).1,Nat.lt_of_lt_of_le (hM b hb).2 h2⟩
 ·rw [hb];exact ⟨.inr h0,h1⟩
theorem argument_known (N:Nat)(IH_:SimpleStep w0 B n s N)(hU:URep w0 B n s dv pv sil)(p:Nat)(hp:p < n)(k:Tm)(hk:s.v (s.j p)=some k)(hs:simS N s k=some (simF N s k))(w:World)(M:Nat->Prop)(hF0:Fr F0 w0 w)(hM: ∀b,M b->(B.M b\/w0.heap.size<=b)/\b < w.heap.size):
 Calls Tryz.prog 40 #[.pointer (some ⟨B.u,0,none⟩),.int .i64 p] w fun e w'=> ∃r:TyV,e= .returned r.val/\RT w' M r (simF N s k)/\Fr F0 w w':=by
 have hP:=hU.lt p hp;obtain ⟨cj,ck,y,hu,hk0,hk6,hky,szu,szk⟩:=hU.known hP;obtain ⟨cj',hj,hj'⟩:=hU.j (by omega);have hjp:=hF0.cell (p:=⟨B.j,p,none⟩) id ((zA hj p).trans (hj' p hp));rw [hk] at hk0;have hk0:=hF0.cell id hk0;have hk6:=hk6.keep hF0 id;have qu:=zA (hF0.heap id hu);have szj:=World.block_lt_of_cell? _ _ hjp;have szk:=World.block_lt_of_cell? _ _ hk0;have szu:=bl (qu 0);dsimp only at szj szk szu
 have KY:=hid (fun (w1:World) (f:Fr F0 w w1)=>((((hky k hk).1.avoid (M':=fun b=>M b\/b=w.heap.size) fun b hb=>by rcases hb with hb | hb;exact (hM b hb).1;exact .inr (by rw [hb];exact hF0.size)).keep hF0.sub).keep f.sub:RT w1 (fun b=>M b\/b=w.heap.size) y k));have HH:=hid (hky k hk).2;have IH:=hid IH_;have F0W:=hid hF0;have HM:=hid hM;have HS:=hid hs;have hpn:(p:Int) < n:=by omega
 have hPn:((s.j p:Nat):Int) < n:=by omega
 obtain ⟨a0,a1,a2,a3,a4,a5⟩:=hk6;clear hU hky hj hj' hu IH_ hM hs hF0;go_enter Tryz.func40,Tryz.ntmps40;go_wp2_with fail
 refine (IH.out k y _ (fun b=>M b\/b=w.heap.size) (F0W.out.alloc _) (simple_avoid HM.out F0W.out.size (by simp) (by simp)) (KY.out _ ((Fr.refl _ w).alloc _)) HH.out HS.out).mono ?_;rintro e w1 ⟨r,rfl,hnm,hrr,hf1⟩;clear hnm;unfold TyV.val;have B4:=hid (hf1.heap (b:=w.heap.size) id (heap_alloc_new w _));have FW:=hid (((Fr.refl F0 w).alloc _).trans hf1);have HR:=hid hrr;have q4:=zA B4.out;have f4:=zC B4.out
 have sz4:=bl (q4 0);dsimp only at sz4;clear hrr hf1;go_wp2;refine bodyPost_ret (v:= .agg #[.int .i64 r.k,.int .i64 r.n,.int .i64 r.c,.bool r.v,.slice r.a r.len r.cap,.string r.nm]) ?_ rfl ?_
 ·exact ret6 rfl rfl (heap_set6 B4.out _ _ _ _ _ _)
 ·exact ⟨r,rfl,(HR.out.keep ((Fr.refl _ w1).set6 (b:=w.heap.size) (.inl (.inr rfl)) _ _ _ _ _ _)).mono fun b hb=> .inl hb,FW.out.set6 (.inr (Nat.le_refl _)) _ _ _ _ _ _⟩
theorem argument_none (hU:URep w0 B n s dv pv sil)(p:Nat)(hp:p < n)(hk:s.v (s.j p)=none)(w:World)(M:Nat->Prop)(hF0:Fr F0 w0 w):
 Calls Tryz.prog 40 #[.pointer (some ⟨B.u,0,none⟩),.int .i64 p] w fun e w'=> ∃r:TyV,e= .returned r.val/\RT w' M r (.var (s.j p))/\Fr F0 w w':=by
 have hP:=hU.lt p hp;obtain ⟨cj,ck,y,hu,hk0,hk6,hky,szu,szk⟩:=hU.known hP;obtain ⟨cj',hj,hj'⟩:=hU.j (by omega);have hjp:=hF0.cell (p:=⟨B.j,p,none⟩) id ((zA hj p).trans (hj' p hp));rw [hk] at hk0;have hk0:=hF0.cell id hk0;have qu:=zA (hF0.heap id hu);have szj:=World.block_lt_of_cell? _ _ hjp;have szk:=World.block_lt_of_cell? _ _ hk0;have szu:=bl (qu 0);dsimp only at szj szk szu;have hpn:(p:Int) < n:=by omega
 have hPn:((s.j p:Nat):Int) < n:=by omega
 clear hU hky hj hj' hu hF0 hk6;go_enter Tryz.func40,Tryz.ntmps40;go_wp2;refine bodyPost_ret (v:= .agg #[.int .i64 2,.int .i64 (s.j p),.int .i64 0,.bool false,.slice none 0 0,.string ⟨#[]⟩]) ?_ rfl ?_
 ·exact ret6 rfl rfl (heap_alloc_new w _)
 ·exact ⟨⟨2,s.j p,0,false,none,0,0,⟨#[]⟩⟩,rfl,.var _ _ rfl rfl rfl (Nat.zero_le _),(Fr.refl _ w).alloc _⟩
theorem simple_var (p:Nat)(u:Tm)(hA: ∀(w:World)(M:Nat->Prop),Fr F0 w0 w->(∀b,M b->(B.M b\/w0.heap.size<=b)/\b < w.heap.size)->Calls Tryz.prog 40 #[.pointer (some ⟨B.u,0,none⟩),.int .i64 p] w fun e w'=> ∃r:TyV,e= .returned r.val/\RT w' M r u/\Fr F0 w w')
 (x:TyV) (w:World) (M:Nat->Prop) (hF0:Fr F0 w0 w) (hM: ∀b,M b->(B.M b\/w0.heap.size<=b)/\b < w.heap.size) (hx:RT w M x (.var p)):
 Calls Tryz.prog 39 #[.pointer (some ⟨B.u,0,none⟩),x.val] w fun e w'=> ∃r:TyV,e= .returned r.val/\r.nm=x.nm/\RT w' M r u/\Fr F0 w w':=by
 have kx:x.k=2:=hx.kind;have xn:x.n=p:=by obtain ⟨xs,_,_,_,sx⟩:=hx.flat;exact sx.2
 have HA:=hid hA;have F0W:=hid hF0;have HM:=hid hM;clear hA hF0 hM hx;obtain ⟨xk,xn,xc,xv,xa,xlen,xcap,xnm⟩:=x;unfold TyV.val at *;dsimp only at *;subst kx xn;go_enter Tryz.func39,Tryz.ntmps39;go_wp2_with fail
 refine (HA.out _ (fun b=>M b\/w.heap.size<=b/\b < w.heap.size + 2) ((F0W.out.alloc _).alloc _) ?_).mono ?_
 ·intro b hb
  rcases hb with hb | hb
  ·exact ⟨(HM.out b hb).1,by have:=(HM.out b hb).2;simp;omega⟩
  ·exact ⟨.inr (by have:=F0W.out.size;omega),by simp;omega⟩
 rintro e w1 ⟨r,rfl,hrr,hf1⟩;have FW:=hid ((((Fr.refl F0 w).alloc _).alloc _).trans hf1);have HR:=hid hrr;have BX:=hid (hf1.heap (b:=w.heap.size) id ((Below.heap_alloc _ _ _ (by simp)).trans (heap_alloc_new w _)));have BR:=hid (hf1.heap (b:=w.heap.size + 1) id (zS w _ _));have qx:=zA BX.out;have qr:=zA BR.out;have fr:=zC BR.out;have szx:=bl (qx 0);have szr:=bl (qr 0);dsimp only at szx szr;clear hrr hf1
 go_wp2;refine bodyPost_ret (v:= .agg #[.int .i64 r.k,.int .i64 r.n,.int .i64 r.c,.bool r.v,.slice r.a r.len r.cap,.string xnm]) ?_ rfl ?_
 ·refine ret6 rfl rfl (b:=w.heap.size + 1) ((Below.heap_alloc _ _ _ ?_).trans (heap_set6 BR.out _ _ _ _ _ _))
  simp [World.setCell];omega
 ·exact ⟨{r with nm:=xnm},rfl,rfl,((HR.out.rename xnm).keep (((Fr.refl _ w1).set6 (b:=w.heap.size + 1) (.inl (.inr ⟨by omega,by omega⟩)) _ _ _ _ _ _).alloc _)).mono fun b hb=> .inl hb,(FW.out.set6 (.inr (by omega)) _ _ _ _ _ _).alloc _⟩
theorem simple_any (hU:URep w0 B n s dv pv sil): ∀N,SimpleStep w0 B n s N:=by
 intro N
 induction N with
 |zero=>intro t x w M hF hM hx hh hs;cases hs
 |succ N ih=>
  intro t x w M hF hM hx hh hs
  cases t with
  |node f ts=>exact simple_node N ih f ts x w M hF hM hx hh hs
  |var p=>
   have hp:=hh.var2;refine simple_var p _ (fun w M hF hM=> ?_) x w M hF hM hx
   cases hk:s.v (s.j p) with
   |some k=>
    have e:simS (N + 1) s (.var p)=simS N s k:=by rw [simS,hk]
    have e':simF (N + 1) s (.var p)=simF N s k:=by unfold simF;rw [e]
    rw [e'];exact argument_known N ih hU p hp k hk (by rw [<-e',<-e];exact hs) w M hF hM
   |none=>
    have e':simF (N + 1) s (.var p)= .var (s.j p):=by unfold simF;rw [simS,hk];rfl
    rw [e'];exact argument_none hU p hp hk w M hF
theorem argument_any (hU:URep w0 B n s dv pv sil)(N p:Nat)(hp:p < n)(hs: ∀k,s.v (s.j p)=some k->simS N s k=some (simF N s k))(w:World)(M:Nat->Prop)(hF0:Fr F0 w0 w)(hM: ∀b,M b->(B.M b\/w0.heap.size<=b)/\b < w.heap.size):
 Calls Tryz.prog 40 #[.pointer (some ⟨B.u,0,none⟩),.int .i64 p] w fun e w'=> ∃r:TyV,e= .returned r.val/\RT w' M r (argS N s p)/\Fr F0 w w':=by
 unfold argS
 cases hk:s.v (s.j p) with
 |some k=>exact argument_known N (simple_any hU N) hU p hp k hk (hs k hk) w M hF0 hM
 |none=>exact argument_none hU p hp hk w M hF0
theorem known_any (hU:URep w0 B n s dv pv sil)(p:Nat)(hp:p < n)(w:World)(hF0:Fr F0 w0 w):
 Calls Tryz.prog 38 #[.pointer (some ⟨B.u,0,none⟩),.int .i64 p] w fun e w'=>e= .returned (.bool (s.v (s.j p)).isSome)/\Fr F0 w w':=by
 have hP:=hU.lt p hp;obtain ⟨cj,ck,y,hu,hk0,hk6,hky,szu,szk⟩:=hU.known hP;obtain ⟨cj',hj,hj'⟩:=hU.j (by omega);have hjp:=hF0.cell (p:=⟨B.j,p,none⟩) id ((zA hj p).trans (hj' p hp));have hk0:=hF0.cell id hk0;have qu:=zA (hF0.heap id hu);have szj:=World.block_lt_of_cell? _ _ hjp;have szk:=World.block_lt_of_cell? _ _ hk0;have szu:=bl (qu 0);dsimp only at szj szk szu;have hpn:(p:Int) < n:=by omega
 have hPn:((s.j p:Nat):Int) < n:=by omega
 clear hU hky hj hj' hu hF0 hk6;go_enter Tryz.func38,Tryz.ntmps38;go_wp2;go_quiet (fail);go_wp2;go_ret;exact ⟨rfl,(Fr.refl F0 w).drawn _⟩
end
structure Inf7 (w:World) (b off i:Nat) (k:Bool) (y:TyV):Prop where
 c:w.cell? ⟨b,off + i * 7,none⟩=some (.bool k)
 c0:w.cell? ⟨b,off + i * 7 + 1,none⟩=some (.int .i64 y.k)
 c1:w.cell? ⟨b,off + i * 7 + 2,none⟩=some (.int .i64 y.n)
 c2:w.cell? ⟨b,off + i * 7 + 3,none⟩=some (.int .i64 y.c)
 c3:w.cell? ⟨b,off + i * 7 + 4,none⟩=some (.bool y.v)
 c4:w.cell? ⟨b,off + i * 7 + 5,none⟩=some (.slice y.a y.len y.cap)
 c5:w.cell? ⟨b,off + i * 7 + 6,none⟩=some (.string y.nm)
theorem Inf7.keep {w w':World}{b off i:Nat}{k:Bool}{y:TyV}(h:Inf7 w b off i k y){M:Nat->Prop}(f:Fr M w w')(hb: ¬M b):Inf7 w' b off i k y:=
 ⟨f.cell hb h.c,f.cell hb h.c0,f.cell hb h.c1,f.cell hb h.c2,f.cell hb h.c3,f.cell hb h.c4,f.cell hb h.c5⟩
def InfsAt (w:World)(a:Option Addr)(ls:List (Bool × TyV)):Prop:=ls= []\/ ∃b off,a=some ⟨b,off,none⟩/\ ∀i p,ls[i]?=some p->Inf7 w b off i p.1 p.2
section
variable {B:UB}{n:Nat}{s:St}{dv pv:Value}{sil:Bool}{w0:World}
theorem agrees_any (hU:URep w0 B n s dv pv sil)(N:Nat)(hBM: ∀b,B.M b->b < w0.heap.size)(w:World)(hF0:Fr F0 w0 w)(la:Option Addr)(lc:Nat)(ls:List (Bool × TyV))(os:List (Option Tm))(hl:InfsAt w la ls)(hll:ls.length=n)(hol:os.length=n)
 (hin: ∀(i:Nat) (p:Bool × TyV) (o:Option Tm),ls[i]?=some p->os[i]?=some o->p.1=o.isSome/\(o.isSome=(s.v (s.j i)).isSome)/\ ∀t,o=some t->RT w F0 p.2 t/\Holes 2 n t/\simS N s t=some (simF N s t)/\(∀k,s.v (s.j i)=some k->simS N s k=some (simF N s k))/\simF N s t=argS N s i):
 Calls Tryz.prog 24 #[.pointer (some ⟨B.u,0,none⟩),.slice la n lc] w fun e w'=>e= .returned (.bool true)/\Fr F0 w w':=by
 have HL:=hid hl;have LL:=hid hll;have OL:=hid hol;have HI:=hid hin;have HU:=hid hU;have F0W:=hid hF0;have BM:=hid hBM;have hn8:=hU.n8;obtain ⟨ja,cj,ka,ck,hu,_⟩:=hU.u;have qu:=zA (hF0.heap id hu);have szu:=bl (qu 0);dsimp only at szu;clear hl hll hol hin hU hF0 hu hBM;go_enter Tryz.func24,Tryz.ntmps24;go_wp2;go_loopw [5,17] (fun _ i wr=> ∃j:Nat,j<=n/\i= .int .i64 j/\Fr F0 w wr) (fun _ i _=>n - (intOf i).toNat)
 case atStart=>exact ⟨0,Nat.zero_le _,rfl,Fr.refl _ _⟩
 case round=>
  obtain ⟨W1,rfl⟩: ∃W1:World,W1=wr:=⟨wr,rfl⟩;obtain ⟨j,hj,rfl,hF⟩:=hrel;have HF:=hid hF;clear hF;by_cases hlt:j < n
  ·obtain ⟨b1,o1,rfl,hc⟩:=HL.out.resolve_left (fun h=>by have:=LL.out;rw [h] at this;simp at this;omega)
   obtain ⟨p,hp⟩: ∃p,ls[j]?=some p:=⟨ls[j]'(by rw [LL.out];exact hlt),by simp⟩;obtain ⟨o,ho⟩: ∃o,os[j]?=some o:=⟨os[j]'(by rw [OL.out];exact hlt),by simp⟩;have e:=(hc j p hp).keep HF.out id;obtain ⟨h1,h2,h3⟩:=HI.out j p o hp ho;obtain ⟨kb,y⟩:=p;dsimp only at h1 h2 h3 e;subst h1;obtain ⟨a,a0,a1,a2,a3,a4,a5⟩:=e;have hb1:b1 < W1.heap.size:=World.block_lt_of_cell? _ _ a;have hle:(j:Int) < n:=by omega
   have H3:=hid h3;have H2:=hid h2;clear h3 h2 hc hp ho;have KN:=hid (fun (w':World) (f:Fr F0 w w')=>known_any HU.out j hlt w' (F0W.out.trans f));go_wp2_with fail
   obtain ⟨WX,hWX⟩: ∃WX,WX=W1.alloc (.cells #[.bool o.isSome,.int .i64 y.k,.int .i64 y.n,.int .i64 y.c,.bool y.v,.slice y.a y.len y.cap,.string y.nm] 45):=⟨_,rfl⟩;have BX:=hid (show WX.heap[W1.heap.size]?=some (.cells #[.bool o.isSome,.int .i64 y.k,.int .i64 y.n,.int .i64 y.c,.bool y.v,.slice y.a y.len y.cap,.string y.nm] 45 (0,0)) by rw [hWX];exact heap_alloc_new W1 _);have FX:=hid (show Fr F0 w WX by rw [hWX];exact HF.out.alloc _)
   rw [<-hWX];clear hWX a a0 a1 a2 a3 a4 a5 hb1;refine zG (Fr F0 WX) [(0,true),(1,true),(2,true),(3,true),(4,false),(5,false),(6,false),(7,false),(8,false),(9,false),(10,true),(11,true),(12,true),(14,true),(15,true),(13,false),(16,false),(17,false),(18,false),(19,false),(20,false)] [] yE (by kernel_rfl) (by kernel_rfl) (by kernel_rfl) (by decide) ?_
   iterate 4
    (refine zH _ rfl (Fr.refl _ _).drew (fun w' hS=>by
     have q0:=zA (hS.heap (b:=W1.heap.size) id BX.out);have szw:=bl (q0 0);clear hS;go_simp;rfl) ?_)
   go_simp;refine zB rfl ?_;go_wp2_with fail
   refine (KN.out _ FX.out.drew).mono ?_;rintro e w2 ⟨rfl,hf2⟩;rw [<-H2.out];have S2:=hid ((Fr.refl F0 WX).drew.trans hf2);clear hf2;go_wp2;refine And.intro (fun _=>S2.out) ?_;have q0:=zA (S2.out.heap (b:=W1.heap.size) id BX.out);have szw:=bl (q0 0);dsimp only at szw
   cases o with
   |none=>
    iterate 5
     (refine zB rfl ?_
      go_wp2;refine And.intro (fun _=>S2.out) ?_)
    iterate 5
     (refine zH _ rfl S2.out (fun w' hS=>by
      have q0:=zA (hS.heap (b:=W1.heap.size) id BX.out);have szw:=bl (q0 0);dsimp only at szw;clear hS;go_simp;rfl) ?_)
    go_simp
    iterate 6
     (refine zB rfl ?_
      go_wp2;refine And.intro (fun _=>S2.out) ?_)
    refine zO (NoPanic.normal ?_);go_wp2;go_roundw
    case rel=>exact ⟨j + 1,by omega,by go_num,FX.out.trans S2.out⟩
    case measure=>simp [intOf];omega
   |some t=>
    obtain ⟨r1,r2,r3,r4,r5⟩:=H3.out t rfl;have R1:=hid r1;have R2:=hid r2;have R3:=hid r3;have R4:=hid r4;have R5:=hid r5;clear r1 r2 r3 r4 r5
    iterate 5
     (refine zB rfl ?_
      go_wp2;refine And.intro (fun _=>S2.out) ?_)
    iterate 5
     (refine zH _ rfl S2.out (fun w' hS=>by
      have q0:=zA (hS.heap (b:=W1.heap.size) id BX.out);have szw:=bl (q0 0);dsimp only at szw;clear hS;go_simp;rfl) ?_)
    go_simp;refine zB rfl ?_;go_wp2_with fail
    refine (simple_any HU.out N t y _ F0 (F0W.out.trans (FX.out.trans S2.out)) (fun b hb=>hb.elim) (R1.out.keep (FX.out.trans S2.out)) R2.out R3.out).mono ?_;rintro e w3 ⟨r,rfl,hnm,hr,hf3⟩;unfold TyV.val;have HR:=hid hr;have S3:=hid (S2.out.trans hf3);clear hnm hr hf3;go_wp2;refine And.intro (fun _=>S3.out) ?_;refine zB rfl ?_;go_wp2_with fail
    refine (argument_any HU.out N j hlt R4.out _ F0 (F0W.out.trans (FX.out.trans S3.out)) (fun b hb=>hb.elim)).mono ?_;rintro e w4 ⟨r2,rfl,hr2,hf4⟩;unfold TyV.val;have HR2:=hid hr2;have S4:=hid (S3.out.trans hf4);have HR3:=hid (HR.out.keep hf4);clear hr2 hf4;go_wp2;refine And.intro (fun _=>S4.out) ?_;refine zB rfl ?_;go_wp2_with fail
    refine (wK _ _ r r2 _ F0 HR3.out HR2.out).mono ?_;rintro e w5 ⟨rfl,hf5⟩;rw [R5.out,show same (argS N s j) (argS N s j)=true from by simp [same]];have S5:=hid (S4.out.trans hf5);clear hf5;go_wp2;refine And.intro (fun _=>S5.out) ?_
    iterate 3
     (refine zB rfl ?_
      go_wp2;refine And.intro (fun _=>S5.out) ?_)
    refine zO (NoPanic.normal ?_);go_wp2;go_roundw
    case rel=>exact ⟨j + 1,by omega,by go_num,FX.out.trans S5.out⟩
    case measure=>simp [intOf];omega
  ·have hge: ¬(j:Int) < n:=by omega
   go_wp2;go_ret;exact ⟨rfl,HF.out⟩
end
end Go.Proofs.YtpekidjfbinekaaGreatDoor
