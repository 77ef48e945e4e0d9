/- W9, W17, G21, G9, G10, G11 -/
import Derived.Defers
import Derived.BigQuiet
import Derived.Test.YtpekidjfbinekaaGreatDoorA08
import Derived.Test.YtpekidjfbinekaaGreatDoorA12
set_option maxRecDepth 100000
set_option maxHeartbeats 60000000
set_option linter.all false
namespace Go.Proofs.YtpekidjfbinekaaGreatDoor
open Go.RowKit Uni
theorem URep.hush {w:World}{B:UB}{n:Nat}{s:St}{dv pv:Value}{sil:Bool}(h:URep w B n s dv pv sil)(sil':Bool):URep (w.setCell ⟨B.u,4,none⟩ (.bool sil')) B n s dv pv sil':=by
 obtain ⟨hu,hj,hk,h1,h2,h3,h4,h5,h6⟩:=h;have F:Fr B.M w (w.setCell ⟨B.u,4,none⟩ (.bool sil')):=(Fr.refl _ w).setCell (.inl (.inl rfl)) _;have G:Fr (fun b=>b=B.u) w (w.setCell ⟨B.u,4,none⟩ (.bool sil')):=(Fr.refl (fun b=>b=B.u) w).setCell (p:=⟨B.u,4,none⟩) (.inl rfl) _;refine ⟨?_,fun hn=> ?_,fun hn=> ?_,h1,h2,h3,h4,⟨Nat.lt_of_lt_of_le h5.1 F.size,fun hn=>⟨Nat.lt_of_lt_of_le (h5.2 hn).1 F.size,Nat.lt_of_lt_of_le (h5.2 hn).2 F.size⟩⟩,fun o ho=>⟨G.heap (h6 o ho).2.1 (h6 o ho).1,(h6 o ho).2⟩⟩
 ·obtain ⟨ja,cj,ka,ck,h,h'⟩:=hu
  exact ⟨ja,cj,ka,ck,heap_setCell (a:=⟨B.u,4,none⟩) h rfl,h'⟩
 ·obtain ⟨c,h,h'⟩:=hj hn
  exact ⟨c,G.heap (Ne.symm (h4 hn).1) h,h'⟩
 ·obtain ⟨c,h,h'⟩:=hk hn
  exact ⟨c,G.heap (Ne.symm (h4 hn).2.1) h,fun p hp=>(h' p hp).keep F⟩
theorem RT.kind {w:World}{M:Nat->Prop}{x:TyV}{t:Tm}(h:RT w M x t):x.k=t.kind:=by
 cases h with
 |var _ p h1 h2 h3 h4=>exact h1
 |node _ f xs ts h1 h2 h3 h4=>exact h1.k
theorem URep.known {w:World}{B:UB}{n:Nat}{s:St}{dv pv:Value}{sil:Bool}(h:URep w B n s dv pv sil){P:Nat}(hP:P < n): ∃cj ck,∃y:TyV,
 w.heap[B.u]?=some (.cells #[dv,.slice (some ⟨B.j,0,none⟩) n cj,.slice (some ⟨B.k,0,none⟩) n ck,pv,.bool sil] 37 (0,0))/\
 w.cell? ⟨B.k,P * 7,none⟩=some (.bool (s.v P).isSome)/\At6 w B.k (P * 7 + 1) y/\(∀t,s.v P=some t->RT w B.M y t/\Holes 2 n t)/\B.u < w.heap.size/\B.k < w.heap.size:=by
 obtain ⟨ja,cj,ka,ck,hu,hjk⟩:=h.u;obtain ⟨rfl,rfl⟩:=hjk (by omega);obtain ⟨c2,hk,hk'⟩:=h.k (by omega);obtain ⟨y,a0,a1,a2,a3,a4,a5,a6,a7⟩:=hk' P hP;have qk:=fun i=>zA hk i
 exact ⟨cj,ck,y,hu,(qk _).trans a0,⟨(qk _).trans a1,(qk _).trans a2,(qk _).trans a3,(qk _).trans a4,(qk _).trans a5,(qk _).trans a6⟩,fun t ht=>⟨a7 t ht,h.holes P t hP ht⟩,h.size.1,(h.size.2 (by omega)).2⟩
section
variable {da:Option Addr}{dl dc:Nat}{D:zE}{ar:Nat->Nat}
theorem match_none (N:Nat)(t:Tm)(x:TyV)(m:Uni.Mode)(P:Nat)(w:World)(B:UB)(n:Nat)(st:St)(pv:Value)(r:Res)
 (hr:zX N (zI D N) st P t m=some r) (hP:P < n) (hE:UEnv da dl dc D ar w B n st pv) (hx:XIn ar dl w B n x t) (hv:st.v P=none):
 Calls Tryz.prog 50 #[.pointer (some ⟨B.u,0,none⟩),.int .i64 P,x.val,.int .i64 (zU m)] w (xK B n (.slice da dl dc) pv w r):=by
 unfold zX at hr;rw [hv] at hr;dsimp only at hr;have hcs:xI N st t P=some false/\r= .ok (st.putAt P t):=by
  split at hr
  ·exact ⟨‹_›,(Option.some.inj hr).symm⟩
  ·cases hr
 obtain ⟨hc,rfl⟩:=hcs;have SET:=hid (fun (w':World) (f:Fr F0 w w')=>set_any N t x P w' B n st (.slice da dl dc) pv false hc hP (hE.U.keep f) (hx.r.keep f.sub) hx.h);obtain ⟨cj,ck,y,hu,k0,_,_,szu,szk⟩:=hE.U.known hP;rw [hv] at k0;have u2:=zA hu 2;have hPn:(P:Int) < n:=by omega
 clear hr hc hE hx hv hu;obtain ⟨xk,xn,xc,xv,xa,xlen,xcap,xnm⟩:=x;unfold TyV.val at *;dsimp only at *;have FX:=hid ((Fr.refl F0 w).alloc (.cells #[.int .i64 xk,.int .i64 xn,.int .i64 xc,.bool xv,.slice xa xlen xcap,.string xnm] 26));go_enter Tryz.func50,Tryz.ntmps50;go_wp2_with fail
 refine (SET.out _ FX.out).mono ?_;rintro e w1 ⟨rfl,hU,hf1⟩;have F1:=hid (FX.out.sub.trans hf1);have HU:=hid hU;clear hf1 hU;go_wp2;go_ret;exact ⟨F1.out,rfl,HU.out⟩
theorem match_some (hD:xF dl ar D)(N:Nat)(ih:wL da dl dc D ar N)(t k:Tm)(x:TyV)(m:Uni.Mode)(P:Nat)(w:World)(B:UB)(n:Nat)(st:St)(pv:Value)(r:Res)
 (hr:zX N (zI D N) st P t m=some r) (hP:P < n) (hE:UEnv da dl dc D ar w B n st pv) (hx:XIn ar dl w B n x t) (hv:st.v P=some k):
 Calls Tryz.prog 50 #[.pointer (some ⟨B.u,0,none⟩),.int .i64 P,x.val,.int .i64 (zU m)] w (xK B n (.slice da dl dc) pv w r):=by
 unfold zX at hr;rw [hv] at hr;dsimp only at hr;obtain ⟨cj,ck,y,hu,k0,⟨a0,a1,a2,a3,a4,a5⟩,hk,szu,szk⟩:=hE.U.known hP;obtain ⟨hky,hkh⟩:=hk k hv;rw [hv] at k0;have hkx:XIn ar dl w B n y k:=⟨hky,hE.g P k hv,hkh⟩;have u2:=zA hu 2;have hPn:(P:Int) < n:=by omega
 have KX:=hid hx.r.kind;have KY:=hid hky.kind;have SET:=hid (fun (s2:St) (w':World) (hc:xI N s2 t P=some false) (hU:URep w' B n s2 (.slice da dl dc) pv false) (f:Fr B.M w w')=>set_any N t x P w' B n s2 (.slice da dl dc) pv false hc hP hU (hx.r.keep f) hx.h);have ID:=hid (fun (w':World) (f:Fr B.M w w')=>wK k t y x w' B.M (hky.keep f) (hx.r.keep f));have HE:=hid hE;have HX:=hid hx;have HKX:=hid hkx;have IH:=hid ih;have HDD:=hid hD
 cases hcs:zI D N st k t m with
 |none=>rw [hcs] at hr;cases hr
 |some r1=>
  have HCS:=hid hcs;rw [hcs] at hr;have HR:=hid hr;have NM:=hid (fun b (h:w.heap.size<=b) (hb:B.M b)=>(Nat.not_lt.2 h (hE.M b hb):False));clear hcs hr hE hx hkx hky hkh hk hv ih hD hu;obtain ⟨xk,xn,xc,xv,xa,xlen,xcap,xnm⟩:=x;obtain ⟨yk,yn,yc,yv,ya,ylen,ycap,ynm⟩:=y;unfold TyV.val at *;dsimp only at *;have FX:=hid (((Fr.refl F0 w).alloc (.cells #[.int .i64 xk,.int .i64 xn,.int .i64 xc,.bool xv,.slice xa xlen xcap,.string xnm] 26)).alloc (.cells #[.int .i64 yk,.int .i64 yn,.int .i64 yc,.bool yv,.slice ya ylen ycap,.string ynm] 26))
  have BX:=hid ((Below.heap_alloc _ _ _ (by simp)).trans (heap_alloc_new w (.cells #[.int .i64 xk,.int .i64 xn,.int .i64 xc,.bool xv,.slice xa xlen xcap,.string xnm] 26)):((w.alloc (.cells #[.int .i64 xk,.int .i64 xn,.int .i64 xc,.bool xv,.slice xa xlen xcap,.string xnm] 26)).alloc (.cells #[.int .i64 yk,.int .i64 yn,.int .i64 yc,.bool yv,.slice ya ylen ycap,.string ynm] 26)).heap[w.heap.size]?=some (.cells #[.int .i64 xk,.int .i64 xn,.int .i64 xc,.bool xv,.slice xa xlen xcap,.string xnm] 26 (0,0)))
  have BY:=hid (zS w (.cells #[.int .i64 xk,.int .i64 xn,.int .i64 xc,.bool xv,.slice xa xlen xcap,.string xnm] 26) (.cells #[.int .i64 yk,.int .i64 yn,.int .i64 yc,.bool yv,.slice ya ylen ycap,.string ynm] 26));go_enter Tryz.func50,Tryz.ntmps50;go_wp2_with fail
  refine (IH.out k t ⟨yk,yn,yc,yv,ya,ylen,ycap,ynm⟩ ⟨xk,xn,xc,xv,xa,xlen,xcap,xnm⟩ m _ B n st pv r1 HCS.out (HE.out.keep FX.out) (HKX.out.keep FX.out.sub) (HX.out.keep FX.out.sub)).mono ?_;rintro e w2 hp
  cases r1 with
  |silent=>
   obtain ⟨hf2,rfl,hU⟩:=hp;have HF2:=hid hf2;have HU:=hid hU;clear hf2 hU;have hr:r= .silent:=by have:=HR.out;dsimp only at this;exact (Option.some.inj this).symm
   subst hr;go_wp2;go_ret;exact ⟨FX.out.sub.trans HF2.out,rfl,HU.out⟩
  |fail=>
   obtain ⟨hf2,rfl,hU⟩:=hp;have HF2:=hid hf2;have HU:=hid hU;clear hf2 hU;have hr:r= .fail:=by have:=HR.out;dsimp only at this;exact (Option.some.inj this).symm
   subst hr;go_wp2;go_ret;exact ⟨FX.out.sub.trans HF2.out,rfl,HU.out⟩
  |ok s2=>
   obtain ⟨hf2,rfl,hU⟩:=hp;have qx:=zA (hf2.heap (b:=w.heap.size) (NM.out _ (Nat.le_refl _)) BX.out);have qy:=zA (hf2.heap (b:=w.heap.size + 1) (NM.out _ (Nat.le_succ _)) BY.out);have sz2:w.heap.size + 2<=w2.heap.size:=by have:=hf2.size;simp at this;omega
   have HF2:=hid hf2;have HU2:=hid hU;clear hf2 hU;have F2:=hid (FX.out.sub.trans HF2.out);have HR2:=hid HR.out;clear HR;obtain ⟨_,_,_,hu2,_,_,_,szu2,_⟩:=HU2.out.known hP;have v4:=zA hu2 4;have g4:=zC hu2 4;clear u2 k0 a0 a1 a2 a3 a4 a5 hu2
   cases m with
   |exact=>
    have hr:r= .ok s2:=by have:=HR2.out;simp at this;exact this.symm
    subst hr;unfold zU;go_wp2;go_ret;exact ⟨F2.out,rfl,HU2.out⟩
   |assign=>
    unfold zU;by_cases h1:t.kind=1
    ·have t1:xk=1:=by rw [KX.out,h1];rfl
     have hr:xI N s2 t P=some false/\r= .ok (s2.putAt P t):=by
      have:=HR2.out;simp only [reduceCtorEq,false_and,if_false,h1,ne_eq,not_true,or_self] at this
      split at this
      ·exact ⟨‹_›,(Option.some.inj this).symm⟩
      ·cases this
     obtain ⟨hc,rfl⟩:=hr;have HR3:=hid hc;clear h1 hc;subst t1;go_wp2_with fail
     refine (SET.out s2 w2 HR3.out HU2.out F2.out).mono ?_;rintro e w3 ⟨rfl,hU3,hf3⟩;have F3:=hid hf3;have HU3:=hid hU3;clear hf3 hU3;go_wp2;go_ret;exact ⟨F2.out.trans F3.out,rfl,HU3.out⟩
    ·have t1:(xk==1)=false:=by rw [KX.out];simp;omega
     have t1':(xk !=1)=true:=by rw [KX.out];simp;omega
     have hr:r= .ok s2:=by have:=HR2.out;simp [h1] at this;exact this.symm
     subst hr;clear h1;go_wp2;go_ret;exact ⟨F2.out,rfl,HU2.out⟩
   |loose=>
    unfold zU;have BX2:=hid (HF2.out.heap (b:=w.heap.size) (NM.out _ (Nat.le_refl _)) BX.out);obtain ⟨_,_,_,hu2,_⟩:=HU2.out.known hP;have BU2:=hid hu2;clear hu2;by_cases heq:k.kind=t.kind
    ·have te:xk=yk:=by rw [KX.out,KY.out,heq]
     have HEQ:=hid heq;clear heq;subst te;by_cases h1:t.kind=1
     ·have t1:xk=1:=by rw [KX.out,h1];rfl
      have H1:=hid h1;clear h1;subst t1;go_wp2_with fail
      refine (ID.out _ F2.out).mono ?_;rintro e w3 ⟨rfl,hf3⟩;have qx:=zA (hf3.heap (b:=w.heap.size) id BX2.out);have v4:=zA (hf3.heap (b:=B.u) id BU2.out) 4;have g4:=zC (hf3.heap (b:=B.u) id BU2.out) 4;have szu3:=World.block_lt_of_cell? _ _ v4;have sz3:w.heap.size + 2<=w3.heap.size:=by have:=hf3.size;omega
      have HF3:=hid hf3;clear hf3;by_cases hkt:k=t
      ·have sm:same k t=true:=by simp [same,hkt]
       rw [sm];have hr:xI N s2 t P=some false/\r= .ok (s2.putAt P t):=by
        have:=HR2.out;simp only [hkt,ne_eq,not_true,and_false,if_false,H1.out,reduceCtorEq,or_self] at this
        split at this
        ·exact ⟨‹_›,(Option.some.inj this).symm⟩
        ·cases this
       obtain ⟨hc,rfl⟩:=hr;have HR3:=hid hc;clear hc sm hkt;go_wp2_with fail
       refine (SET.out s2 w3 HR3.out (HU2.out.keep HF3.out) (F2.out.trans HF3.out.sub)).mono ?_;rintro e w4 ⟨rfl,hU3,hf3⟩;have F3:=hid hf3;have HU3:=hid hU3;clear hf3 hU3;go_wp2;go_ret;exact ⟨(F2.out.trans HF3.out.sub).trans F3.out,rfl,HU3.out⟩
      ·have sm:same k t=false:=by simp [same,hkt]
       rw [sm];have hr:r= .silent:=by
        have:=HR2.out;rw [if_pos ⟨rfl,HEQ.out,.inl H1.out,hkt⟩] at this;exact (Option.some.inj this).symm
       subst hr;clear sm hkt;go_wp2;go_ret;exact ⟨(F2.out.trans HF3.out.sub).setCell (.inl (.inl rfl)) _,rfl,s2,(HU2.out.keep HF3.out).hush true⟩
     ·have t1:(xk==1)=false:=by rw [KX.out];simp;omega
      have t1':(xk !=1)=true:=by rw [KX.out];simp;omega
      have H1:=hid h1;clear h1;by_cases h8:t.kind=8
      ·have t8:xk=8:=by rw [KX.out,h8];rfl
       have H8:=hid h8;clear h8;subst t8;go_wp2_with fail
       refine (ID.out _ F2.out).mono ?_;rintro e w3 ⟨rfl,hf3⟩;have qx:=zA (hf3.heap (b:=w.heap.size) id BX2.out);have v4:=zA (hf3.heap (b:=B.u) id BU2.out) 4;have g4:=zC (hf3.heap (b:=B.u) id BU2.out) 4;have szu3:=World.block_lt_of_cell? _ _ v4;have sz3:w.heap.size + 2<=w3.heap.size:=by have:=hf3.size;omega
       have HF3:=hid hf3;clear hf3;by_cases hkt:k=t
       ·have sm:same k t=true:=by simp [same,hkt]
        rw [sm];have hr:r= .ok s2:=by
         have:=HR2.out;rw [if_neg (fun h=>h.2.2.2 hkt),if_pos (.inr H1.out)] at this;exact (Option.some.inj this).symm
        subst hr;clear sm hkt;go_wp2;go_ret;exact ⟨F2.out.trans HF3.out.sub,rfl,HU2.out.keep HF3.out⟩
       ·have sm:same k t=false:=by simp [same,hkt]
        rw [sm];have hr:r= .silent:=by
         have:=HR2.out;rw [if_pos ⟨rfl,HEQ.out,.inr H8.out,hkt⟩] at this;exact (Option.some.inj this).symm
        subst hr;clear sm hkt;go_wp2;go_ret;exact ⟨(F2.out.trans HF3.out.sub).setCell (.inl (.inl rfl)) _,rfl,s2,(HU2.out.keep HF3.out).hush true⟩
      ·have t8:(xk==8)=false:=by rw [KX.out];simp;omega
       have H8:=hid h8;clear h8;have hr:r= .ok s2:=by
        have:=HR2.out
        (try dsimp only at this);rw [if_neg (fun h=>h.2.2.1.elim H1.out H8.out),if_pos (.inr H1.out)] at this
        exact (Option.some.inj this).symm
       subst hr;go_wp2;go_ret;exact ⟨F2.out,rfl,HU2.out⟩
    ·have te:(yk==xk)=false:=by rw [KX.out,KY.out];simp;omega
     have HEQ:=hid heq;clear heq;by_cases h1:t.kind=1
     ·have t1:xk=1:=by rw [KX.out,h1];rfl
      have H1:=hid h1;clear h1;subst t1;have hr:xI N s2 t P=some false/\r= .ok (s2.putAt P t):=by
       have:=HR2.out
       (try dsimp only at this);rw [if_neg (fun h=>HEQ.out h.2.1),if_neg (by rintro (h | h);cases h;exact h H1.out)] at this
       split at this
       ·exact ⟨‹_›,(Option.some.inj this).symm⟩
       ·cases this
      obtain ⟨hc,rfl⟩:=hr;have HR3:=hid hc;clear hc;go_wp2_with fail
      refine (SET.out s2 w2 HR3.out HU2.out F2.out).mono ?_;rintro e w3 ⟨rfl,hU3,hf3⟩;have F3:=hid hf3;have HU3:=hid hU3;clear hf3 hU3;go_wp2;go_ret;exact ⟨F2.out.trans F3.out,rfl,HU3.out⟩
     ·have t1:(xk==1)=false:=by rw [KX.out];simp;omega
      have t1':(xk !=1)=true:=by rw [KX.out];simp;omega
      have H1:=hid h1;clear h1;have hr:r= .ok s2:=by
       have:=HR2.out
       (try dsimp only at this);rw [if_neg (fun h=>HEQ.out h.2.1),if_pos (.inr H1.out)] at this
       exact (Option.some.inj this).symm
      subst hr;go_wp2;go_ret;exact ⟨F2.out,rfl,HU2.out⟩
end
theorem info45:(Tryz.prog.info? 45).map (fun i=>(i.zero,i.size,i.bytes))=some (some (.agg #[.bool false,.int .i64 0,.int .i64 0,.int .i64 0,.bool false,.slice none 0 0,.string ⟨#[]⟩]),7,80):=by kernel_rfl
theorem info3:(Tryz.prog.info? 3).map (fun i=>(i.zero,i.size,i.bytes))=some (some (.int .i64 0),1,8):=by kernel_rfl
theorem under34:Tryz.prog.underlying 34=some (.slice 45):=by kernel_rfl
theorem under33:Tryz.prog.underlying 33=some (.slice 3):=by kernel_rfl
def ints (n:Nat):List Value:=(List.range n).map fun (i:Nat)=> .int .i64 i
theorem ints_succ (n:Nat):ints (n + 1)=ints n ++ [.int .i64 n]:=by simp [ints,List.range_succ]
theorem made_get (z:Array Value)(n p i:Nat)(hp:p < n)(hi:i < z.size):(madeCells z (n * z.size))[p * z.size + i]?=z[i]?:=by
 have h1:p * z.size + i < n * z.size:=by
  have:p * z.size + z.size<=n * z.size:=by rw [<-Nat.succ_mul];exact Nat.mul_le_mul_right _ hp
  omega
 have h2:(p * z.size + i) % z.size=i:=by rw [Nat.mul_comm,Nat.mul_add_mod,Nat.mod_eq_of_lt hi]
 simp [madeCells,h1,h2,hi]
theorem new_any (n:Nat)(da:Option Addr)(dl dc:Nat)(w:World)(hn8:n<=8):Calls Tryz.prog 17 #[.slice da dl dc,.int .i64 n] w fun e w'=> ∃B:UB,e= .returned (.pointer (some ⟨B.u,0,none⟩))/\URep w' B n St.init (.slice da dl dc) (.slice none 0 0) false/\Fr F0 w w'/\
 (∀b,B.M b->w.heap.size<=b/\b < w'.heap.size)/\B.po=none:=by
 obtain ⟨i0,hi0,hz0,hz1,hz2⟩:=info_parts info45;go_enter Tryz.func17,Tryz.ntmps17;have B2:=hid (show i0.bytes * n<=281474976710656 by rw [hz2];omega);have B3:=hid (show n<=maxLen by unfold maxLen;omega);go_wp2_with (refine wpList_make_full _ rfl _ _ 34 rfl w.heap.size 45 i0 _ 7 under34 hi0 hz0 hz1 .i64 .i64 n n n rfl rfl rfl rfl B2.out B3.out (Nat.le_refl _) ?_)
 intro w1 hown hgr;obtain ⟨hl,h | ⟨g,cap,cur,hv,hB,hg,hn,hm,hs,ht⟩⟩:=hown
 ·exact absurd h.1 (by simp)
 have e1:=hv;simp at e1;obtain ⟨rfl,rfl⟩:=e1;have hcur:cur=madeCells #[.bool false,.int .i64 0,.int .i64 0,.int .i64 0,.bool false,.slice none 0 0,.string ⟨#[]⟩] (n * 7):=by
  refine Array.ext' ?_;rw [List.take_of_length_le (by simp [hs])] at ht;exact ht
 subst hcur;have KB:=hid hg;have FG:=hid ((Fr.of_grown hgr).mono (M':=F0) fun b _ hb=>by cases hb);have SZ1:=hid (show w.heap.size < w1.heap.size from by rcases Nat.lt_or_ge w.heap.size w1.heap.size with h | h;exact h;rw [Array.getElem?_eq_none h] at hg;cases hg);clear hl hv hB hg hn hm hs ht hgr hi0 hz0 hz1 hz2;obtain ⟨i3,hi0,hz0,hz1,hz2⟩:=info_parts info3;go_wp2;go_loopw [13] (fun i wr=> ∃(k:Nat) (jv:Value),k<=n/\i= .int .i64 k/\Fr F0 w1 wr/\wr.heap[w1.heap.size]?=some (.cells #[.slice da dl dc,jv,.slice (some ⟨w.heap.size,0,none⟩) n n,.slice none 0 0,.bool false] 37 (0,0))/\wr.ownsRow (w1.heap.size + 1) 3 1 jv k (ints k)) (fun i _=>n - (intOf i).toNat)
 case atStart=>exact ⟨0,.slice none 0 0,Nat.zero_le _,rfl,(Fr.refl _ _).alloc _,heap_alloc_new w1 _,World.ownsRow_nil _ _ _ _⟩
 case round=>
  obtain ⟨k,jv,hk,rfl,hf,hu,ho⟩:=hrel;have HF:=hid hf;have HU:=hid hu;have HO:=hid ho;clear hf hu ho;have qu:=zA HU.out;have fu:=zC HU.out;have szu:w1.heap.size < wr.heap.size:=bl (qu 1);have SZU:=hid szu;by_cases hlt:k < n
  ·have hle:(k:Int) < n:=by omega
   have N63:=hid (show k + 1<=maxLen by unfold maxLen;omega);have N8:=hid (show (k + 1) * 8<=140737488355328 by omega);have SZA:=hid (show w1.heap.size + 1<=(wr.alloc (.cells #[.int .i64 k] 3)).heap.size by have:=SZU.out;simp;omega);go_wp2_with (refine wpList_append_lies _ rfl _ _ 33 rfl (w1.heap.size + 1) 3 i3 _ 1 8 under33 hi0 hz0 hz1 hz2 rfl (by omega) jv k (ints k) (by rfl) (HO.out.alloc _) ⟨wr.heap.size,0,none⟩ 1 1 [.int .i64 k] (by rfl) (by rfl) (World.news_of_block (cs:= #[.int .i64 k]) (t:=3) (fr:=(0,0)) (heap_alloc_new wr _)) (by simp [Value.oneCell']) (by omega) N63.out N8.out SZA.out (wr.heap.size + 1) (by simp) ?_)
   intro g cap w3 hown3 hgrow _ _;have OB:=hid (World.ownsRow.lt HO.out);have U3:=hid ((Fr.of_grown hgrow).heap (b:=w1.heap.size) (fun h=>by have:=(OB.out _ h).1;omega) ((Below.heap_alloc _ _ _ SZU.out).trans HU.out));have F3:=hid ((HF.out.alloc (.cells #[.int .i64 k] 3)).transNew (Fr.of_grown hgrow) fun b hb=> .inr (by have:=(OB.out b hb).1;omega));have O3:=hid (show w3.ownsRow (w1.heap.size + 1) 3 1 (.slice (some ⟨g,0,none⟩) (k + 1) cap) (k + 1) (ints (k + 1)) by rw [ints_succ];exact hown3)
   clear hown3 hgrow qu fu;have qu:=zA U3.out;have fu:=zC U3.out;go_wp2;go_roundw
   case rel=>
    exact ⟨k + 1,.slice (some ⟨g,0,none⟩) (k + 1) cap,by omega,by go_num,F3.out.setCell (.inr (Nat.le_refl _)) _,heap_setCell (a:=⟨w1.heap.size,1,none⟩) U3.out rfl,ownsRow_setCell_below O3.out (by show w1.heap.size < _;omega) _⟩
   case measure=>simp [intOf];omega
  ·have hge: ¬(k:Int) < n:=by omega
   have hkn:k=n:=by omega
   subst hkn;go_wp2;go_ret;have FR:Fr F0 w wr:=FG.out.trans HF.out;have hK:wr.heap[w.heap.size]?=some (.cells (madeCells #[.bool false,.int .i64 0,.int .i64 0,.int .i64 0,.bool false,.slice none 0 0,.string ⟨#[]⟩] (k * 7)) 45 (0,0)):=HF.out.heap id KB.out;by_cases h0:k=0
   ·subst h0
    obtain ⟨ja,cj,rfl⟩: ∃ja cj,jv= .slice ja 0 cj:=by
     rcases HO.out.2 with h | ⟨g,cap,_,h,_⟩
     ·exact ⟨none,0,h.1⟩
     ·exact ⟨_,cap,h⟩
    exact ⟨⟨w1.heap.size,w1.heap.size,w1.heap.size,w1.heap.size,none⟩,rfl,⟨⟨ja,cj,_,_,HU.out,fun h=>by omega⟩,fun h=>by omega,fun h=>by omega,fun p hp=>by omega,fun p t hp=>by omega,by omega,fun h=>by omega,⟨SZU.out,fun h=>by omega⟩,fun o ho=>by cases ho⟩,FR,(fun b hb=>by
     rcases hb with hb | hb | hb | hb <;>subst hb <;>exact ⟨Nat.le_of_lt SZ1.out,SZU.out⟩),rfl⟩
   ·obtain ⟨g,cap,cur,rfl,hb,hg,hn,hm,hs,ht⟩:=HO.out.2.resolve_left fun h=>h0 h.2
    have hgs:g < wr.heap.size:=by rcases Nat.lt_or_ge g wr.heap.size with h | h;exact h;rw [Array.getElem?_eq_none h] at hg;cases hg
    have hks:w.heap.size < wr.heap.size:=by have:=SZU.out;have:=SZ1.out;omega
    have s1:=SZ1.out;refine ⟨⟨w1.heap.size,g,w.heap.size,w1.heap.size,none⟩,rfl,⟨⟨_,_,_,_,HU.out,fun _=>⟨rfl,rfl⟩⟩,fun _=>⟨cur,hg,fun p hp=> ?_⟩,fun _=>⟨_,hK,fun p hp=> ?_⟩,fun p hp=>hp,fun p t _ h=>by simp [St.init] at h,hn8,fun _=>⟨by show w1.heap.size≠g;omega,by show w1.heap.size≠w.heap.size;omega,by show g≠w.heap.size;omega⟩,⟨SZU.out,fun _=>⟨hgs,hks⟩⟩,fun o ho=>by cases ho⟩,FR,fun b hb=> ?_,rfl⟩
    ·have h1:(ints k)[p]?=some (.int .i64 p):=by simp [ints,hp]
     rw [<-ht,List.getElem?_take,if_pos (by omega)] at h1;rw [Array.getElem?_toList] at h1;exact h1
    ·refine ⟨⟨0,0,0,false,none,0,0,⟨#[]⟩⟩,?_,?_,?_,?_,?_,?_,?_,fun t h=>by simp [St.init] at h⟩
     ·exact made_get _ k p 0 hp (by decide)
     ·exact made_get _ k p 1 hp (by decide)
     ·exact made_get _ k p 2 hp (by decide)
     ·exact made_get _ k p 3 hp (by decide)
     ·exact made_get _ k p 4 hp (by decide)
     ·exact made_get _ k p 5 hp (by decide)
     ·exact made_get _ k p 6 hp (by decide)
    ·rcases hb with hb | hb | hb | hb <;>rw [hb]
     ·exact ⟨Nat.le_of_lt s1,SZU.out⟩
     ·exact ⟨by show w.heap.size<=g;omega,hgs⟩
     ·exact ⟨Nat.le_refl _,hks⟩
     ·exact ⟨Nat.le_of_lt s1,SZU.out⟩
theorem under110:Tryz.prog.underlying 110=some (.slice 103):=by kernel_rfl
theorem info103z:(Tryz.prog.info? 103).map (fun i=>(i.zero,i.size,i.bytes))=some (some .nilIface,1,16):=by kernel_rfl
section
variable {E:GEnv}{U bm:Nat}{hd:Nat->Addr}{s:St}{depth:Int}
theorem at_from {w:World}(hE:EnvOk w E)(hN:NRep w E U bm hd s depth)(p:Nat)(hp:p < E.n): ∃v,HV w E v (s.v (s.j p))/\(v= .nilIface\/ ∃ty pv,v= .iface ty pv)/\ ∀w',Fr (fun _=>False) w w'->Calls Tryz.prog 133 #[.pointer (some ⟨U,0,none⟩),.pointer (some (E.tp p))] w' fun e w''=>e= .returned v/\w''=w':=by
 obtain ⟨_,_,_,_,v,h5,h6⟩:=hN.h p hp;refine ⟨v,h6,?_,fun w' F=> ?_⟩
 ·cases hs:s.v (s.j p) with
  |none=>rw [hs] at h6;exact .inl h6
  |some t=>rw [hs] at h6;obtain ⟨a,c,ty,e,_⟩:=PT.form hE h6;exact .inr ⟨_,_,e⟩
 have ha:=hN.hadd hp;have hl:=xC (hE.keep F.sub).keys (F.heap id hN.m) hp false;have qu:=zA (F.heap id hN.u);have szu:=bl (qu 0);have qh:=zA (F.heap id h5) 0;have szh:=World.block_lt_of_cell? _ _ (qh.trans rfl);dsimp only at szu szh;simp only [Bool.false_eq_true,if_false] at hl;rw [ha] at hl;clear hE hN h5 h6 ha;go_enter Tryz.func133,Tryz.ntmps133;go_wp2;go_ret;exact ⟨rfl,rfl⟩
def InfRel (w:World)(E:GEnv)(s:St)(B:Nat)(j:Nat)(wr:World):Prop:=
 Fr (fun _=>False) w wr/\B < wr.heap.size/\ ∃c,wr.heap[B]?=some (.cells c 103 (0,0))/\c.size=E.n/\ ∀p,p < j-> ∃v,c[p]?=some v/\HV w E v (s.v (s.j p))
def InfPost (w:World)(E:GEnv)(s:St)(e:Ending)(w':World):Prop:=
 e= .returned (.slice (some ⟨w.heap.size,0,none⟩) E.n E.n)/\InfRel w E s w.heap.size E.n w'
theorem inferred_any {w:World}(hE:EnvOk w E)(hN:NRep w E U bm hd s depth)(ta:Option Addr)(tc:Nat)(hts:E.n=0\/ ∃b off,ta=some ⟨b,off,none⟩/\ ∀p,p < E.n->w.cell? ⟨b,off + p,none⟩=some (.pointer (some (E.tp p))))(hn:E.n<=8):
 Calls Tryz.prog 94 #[.pointer (some ⟨U,0,none⟩),.slice ta E.n tc] w (InfPost w E s):=by
 have HE:=hid hE;have HN:=hid hN;have HT:=hid hts;obtain ⟨n,hnn⟩: ∃n,n=E.n:=⟨_,rfl⟩;have NN:=hid hnn;obtain ⟨i0,hi0,hz0,hz1,hz2⟩:=info_parts info103z;rw [<-hnn] at hn ⊢;clear hE hN hts hnn;have B2:=hid (show i0.bytes * n<=281474976710656 by rw [hz2];omega);have B3:=hid (show n<=maxLen by unfold maxLen;omega);go_enter Tryz.func94,Tryz.ntmps94;go_wp2_with (refine wpList_make_full _ rfl _ _ 110 rfl w.heap.size 103 i0 _ 1 under110 hi0 hz0 hz1 .i64 .i64 n n n rfl rfl rfl rfl B2.out B3.out (Nat.le_refl _) ?_)
 intro w1 hown hgr;obtain ⟨hl,h | ⟨g,cap,cur,hv,hB,hg,hn2,hm2,hs,ht⟩⟩:=hown
 ·exact absurd h.1 (by simp)
 have e1:=hv;simp at e1;obtain ⟨rfl,rfl⟩:=e1;have hcur:cur.size=n:=by simpa using hs
 have KB:=hid hg;have FG:=hid ((Fr.of_grown hgr).mono (M':=fun _=>False) fun b _ hb=>by cases hb);have SZ1:=hid (show w.heap.size < w1.heap.size from by rcases Nat.lt_or_ge w.heap.size w1.heap.size with h | h;exact h;rw [Array.getElem?_eq_none h] at hg;cases hg);have R0:=hid (show InfRel w E s w.heap.size 0 w1 from ⟨FG.out,SZ1.out,cur,KB.out,by rw [hcur,NN.out],fun p h=>by omega⟩);clear hl hv hB hg hn2 hm2 hs ht hgr hi0 hz0 hz1 hz2 hcur
 go_wp2;go_loopw [13] (fun i wr=> ∃j:Nat,j<=n/\i= .int .i64 j/\InfRel w E s w.heap.size j wr) (fun i _=>n - (intOf i).toNat)
 case atStart=>exact ⟨0,Nat.zero_le _,rfl,R0.out⟩
 case round=>
  obtain ⟨WX,rfl⟩: ∃WX:World,WX=wr:=⟨wr,rfl⟩;obtain ⟨j,hj,rfl,hF,hS,c,hc,hcs,hcp⟩:=hrel;have HF:=hid hF;have HS:=hid hS;have HC:=hid hc;have HCS:=hid hcs;have HCP:=hid hcp;clear hF hS hcs hcp;by_cases hlt:j < n
  ·have hle:(j:Int) < n:=by omega
   obtain ⟨b,off,rfl,hcc⟩:=HT.out.resolve_left (by have:=NN.out;omega);have cx:=HF.out.cell id (hcc j (by have:=NN.out;omega));have szb:=World.block_lt_of_cell? _ _ cx;dsimp only at szb;have hjc:j < c.size:=by have:=HCS.out;have:=NN.out;omega
   have qj:=zA hc j;have fj:=zC hc j;have szw:=HS.out;rw [Array.getElem?_eq_getElem hjc] at qj;have HJC:=hid hjc;obtain ⟨v,hvv,hvf,hvc⟩:=at_from HE.out HN.out j (by have:=NN.out;omega);have HVV:=hid hvv;clear hc hcc hvv;go_wp2_with fail
   refine (hvc _ HF.out).mono ?_;rintro e w2 ⟨rfl,rfl⟩;have NR:=hid (show InfRel w E s w.heap.size (j + 1) (w2.setCell ⟨w.heap.size,j,none⟩ v) from by
    refine ⟨HF.out.setCell (.inr (Nat.le_refl _)) _,by simpa [World.setCell] using HS.out,_,heap_setCell (a:=⟨w.heap.size,j,none⟩) HC.out rfl,by simpa using HCS.out,fun p hp=> ?_⟩;rw [Array.getElem?_setIfInBounds];by_cases hpj:j=p
    ·subst hpj
     rw [if_pos rfl,if_pos HJC.out];exact ⟨v,rfl,HVV.out⟩
    ·rw [if_neg hpj]
     exact HCP.out p (by omega))
   rcases hvf with rfl | ⟨ty,pv,rfl⟩
   all_goals
    go_wp2;go_roundw
    case rel=>exact ⟨j + 1,by omega,by go_num,NR.out⟩
    case measure=>simp [intOf];omega
  ·have hjn:j=n:=by omega
   subst hjn;have hle: ¬(j:Int) < j:=by omega
   clear hc;go_wp2;go_ret;exact ⟨by rw [<-NN.out];rfl,HF.out,HS.out,c,HC.out,HCS.out,by rw [<-NN.out];exact HCP.out⟩
end
def yR (m:Uni.Mode)(z:Int):Prop:=(m= .loose/\z=0)\/(m= .assign/\z=1)\/(m= .exact/\(z=2\/z=3))
theorem yR.inner {m:Uni.Mode}{z:Int}(h:yR m z): ∃z',yR (Uni.inner m) z'/\(m= .loose->z'=0):=by
 rcases h with ⟨rfl,rfl⟩ | ⟨rfl,rfl⟩ | ⟨rfl,h⟩
 ·exact ⟨0,.inl ⟨rfl,rfl⟩,fun _=>rfl⟩
 ·exact ⟨3,.inr (.inr ⟨rfl,.inr rfl⟩),fun h=>by cases h⟩
 ·exact ⟨z,.inr (.inr ⟨rfl,h⟩),fun h=>by cases h⟩
def xM (w:World)(E:GEnv)(U bm:Nat)(depth:Int)(q:Option St)(e:Ending)(w':World):Prop:=
 e= .returned (.bool q.isSome)/\Fr E.A w w'/\ ∃s' hd',NRep w' E U bm hd' s' depth/\ ∀s1,q=some s1->s'=s1
def xU (E:GEnv)(k:Nat):Prop:=
 ∀(x y:Tm) (vx vy:Value) (m:Uni.Mode) (z:Int) (w:World) (U bm:Nat) (hd:Nat->Addr) (s:St) (depth:Int) (q:Option St),depth + k=50->zJ E.D k s x y m=some q->yR m z->EnvOk w E->NRep w E U bm hd s depth->PT w E vx x->PT w E vy y->
  Calls Tryz.prog 132 #[.pointer (some ⟨U,0,none⟩),vx,vy,.int .u64 z,.pointer none] w (xM w E U bm depth q)
theorem wF (b U:Nat)(d:Int)(c0 c1 c3:Value)(u:FrameMode)(w:World)(hb:w.heap[b]?=some (.cells #[.pointer (some ⟨U,0,none⟩)] 173 (0,0)))(hU:w.heap[U]?=some (.cells #[c0,c1,.int .i64 d,c3] 247 (0,0)))(h1: -1000<=d)(h2:d<=1000):
 CallsD Tryz.prog 161 #[.pointer (some ⟨b,0,none⟩)] u w fun e u' w'=>u'=u/\(e= .returned (.tuple #[])/\w'=w.setCell ⟨U,2,none⟩ (.int .i64 (d - 1))):=by
 have qb:=zA hb;have qu:=zA hU;have fu:=zC hU;have sb:=bl (qb 0);have su:=bl (qu 0);dsimp only at sb su;clear hb hU;go_enter_d Tryz.func161,Tryz.ntmps161;go_wp2;go_end0;exact ⟨rfl,rfl⟩
theorem NRep.enter {w:World}{E:GEnv}{U bm:Nat}{hd:Nat->Addr}{s:St}{depth:Int}(h:NRep w E U bm hd s depth)(o:Obj):NRep ((w.setCell ⟨U,2,none⟩ (.int .i64 (depth + 1))).alloc o) E U bm hd s (depth + 1):=by
 exact (h.setDepth (depth + 1)).keep ((Fr.refl _ _).alloc o)
theorem nify_same {E:GEnv}(t:Tm)(v:Value)(z:Int)(w:World)(U bm:Nat)(hd:Nat->Addr)(s:St)(depth:Int)(h0:0<=depth)(h50:depth + 1<=50)(hE:EnvOk w E)(hN:NRep w E U bm hd s depth)(hx:PT w E v t):
 Calls Tryz.prog 132 #[.pointer (some ⟨U,0,none⟩),v,v,.int .u64 z,.pointer none] w (xM w E U bm depth (some s)):=by
 have hmf: ∀(fn:Fn) (first cap:Array Value) (w:World),(Instr.makeFunc fn first cap).run Tryz.prog w= .ok (.func fn first cap) w:=fun _ _ _ _=>rfl
 have hN1:=hN.enter (.cells #[.pointer (some ⟨U,0,none⟩)] 173);have FA1:Fr E.A w ((w.setCell ⟨U,2,none⟩ (.int .i64 (depth + 1))).alloc (.cells #[.pointer (some ⟨U,0,none⟩)] 173)):=((Fr.refl E.A w).setCell (p:=⟨U,2,none⟩) (.inl hN.AU) _).alloc _;have SC:(w.setCell ⟨U,2,none⟩ (.int .i64 (depth + 1))).heap.size=w.heap.size:=by simp [World.setCell]
 have BX1:((w.setCell ⟨U,2,none⟩ (.int .i64 (depth + 1))).alloc (.cells #[.pointer (some ⟨U,0,none⟩)] 173)).heap[w.heap.size]?=some (.cells #[.pointer (some ⟨U,0,none⟩)] 173 (0,0)):=by have h:=heap_alloc_new (w.setCell ⟨U,2,none⟩ (.int .i64 (depth + 1))) (.cells #[.pointer (some ⟨U,0,none⟩)] 173);rw [SC] at h;exact h
 obtain ⟨a,ca,ta,rfl,_,_,haA,ha⟩:=hx.form hE;have qu:=zA hN.u;have fu:=zC hN.u;have szu:=bl (qu 0);dsimp only at szu;have heq:=wC (eqTy t) (t2:=tyOf t) (FA1.heap haA ha) (FA1.heap haA ha);rw [show decide (tyOf t=tyOf t/\a=a)=true by simp] at heq;have HN1:=hid hN1;have FA:=hid FA1;have BX:=hid BX1;clear hN1 FA1 BX1 hE hN hx ha SC;go_enter_defers Tryz.func132,Tryz.ntmps132;go_wp2;refine leaves_cons (f:=161) (args:= #[.pointer (some ⟨w.heap.size,0,none⟩)]) (by simp) (by simp [go_sem]) ?_
 refine (wF _ U _ _ _ _ .returning _ BX.out HN1.out.u (by omega) (by omega)).mono ?_;rintro e u' w'' ⟨rfl,rfl,rfl⟩;refine ⟨_,results_tmp rfl _ _ _,?_⟩;refine ⟨rfl,(FA.out).setCell (.inl HN1.out.AU) _,_,_,by have h:=(HN1.out).setDepth (depth + 1 - 1);rw [show depth + 1 - 1=depth by omega] at h ⊢;exact h,fun s1 h=>(Option.some.inj h)⟩
theorem vars_same {step:St->Tm->Tm->Uni.Mode->Option (Option St)}{s:St}{p q:Nat}{m:Uni.Mode}{r:Option St}(h:yW step s p q m=some r)(hj:s.j p=s.j q):r=some s:=by
 unfold yW at h;rw [if_pos hj] at h;exact (Option.some.inj h).symm
theorem vars_both {step:St->Tm->Tm->Uni.Mode->Option (Option St)}{s:St}{p q:Nat}{m:Uni.Mode}{r:Option St}{a b:Tm}(h:yW step s p q m=some r)(hj:s.j p≠s.j q)(ha:s.v (s.j p)=some a)(hb:s.v (s.j q)=some b):step s a b m=some r:=by
 unfold yW at h;rw [if_neg hj] at h;simp only [St.get,ha,hb] at h;exact h
theorem vars_join {step:St->Tm->Tm->Uni.Mode->Option (Option St)}{s:St}{p q:Nat}{m:Uni.Mode}{r:Option St}(h:yW step s p q m=some r)(hj:s.j p≠s.j q)(hv:s.v (s.j p)=none\/s.v (s.j q)=none):r=some (s.join (s.j p) (s.j q)):=by
 unfold yW at h;rw [if_neg hj] at h;simp only [St.get] at h;rcases hv with hv | hv <;>rw [hv] at h
 ·exact (Option.some.inj h).symm
 ·cases hp:s.v (s.j p) <;>rw [hp] at h <;>exact (Option.some.inj h).symm
theorem at_known {w:World}{E:GEnv}{U bm:Nat}{hd:Nat->Addr}{s:St}{depth:Int}(hE:EnvOk w E)(hN:NRep w E U bm hd s depth)(p:Nat)(hp:p < E.n)(t:Tm)(ht:s.v (s.j p)=some t):Calls Tryz.prog 133 #[.pointer (some ⟨U,0,none⟩),.pointer (some (E.tp p))] w fun e w'=> ∃v,e= .returned v/\PT w E v t/\w'=w:=
 (at_any hE hN p hp).mono fun e w' ⟨v,h1,h2,h3⟩=>by rw [ht] at h2;exact ⟨v,h1,h2,h3⟩
theorem at_none {w:World}{E:GEnv}{U bm:Nat}{hd:Nat->Addr}{s:St}{depth:Int}(hE:EnvOk w E)(hN:NRep w E U bm hd s depth)(p:Nat)(hp:p < E.n)(ht:s.v (s.j p)=none):Calls Tryz.prog 133 #[.pointer (some ⟨U,0,none⟩),.pointer (some (E.tp p))] w fun e w'=>e= .returned .nilIface/\w'=w:=
 (at_any hE hN p hp).mono fun e w' ⟨v,h1,h2,h3⟩=>by rw [ht] at h2;have h2:v= .nilIface:=h2;subst h2;exact ⟨h1,h3⟩
theorem and2_in {m:Uni.Mode}{z:Int}(hm:yR m z)(h:m≠ .exact):bits .and .u64 z 2=0:=by
 rcases hm with ⟨rfl,rfl⟩ | ⟨rfl,rfl⟩ | ⟨rfl,rfl | rfl⟩
 ·rfl
 ·rfl
 ·exact absurd rfl h
 ·exact absurd rfl h
theorem and2_ex {m:Uni.Mode}{z:Int}(hm:yR m z)(h:m= .exact):bits .and .u64 z 2=2:=by
 subst h;rcases hm with ⟨h,rfl⟩ | ⟨h,rfl⟩ | ⟨h,rfl | rfl⟩
 ·cases h
 ·cases h
 ·rfl
 ·rfl
theorem nify_vars {E:GEnv}{k:Nat}(hS:xU E k)(p q:Nat)(m:Uni.Mode)(z:Int)(w:World)(U bm:Nat)(hd:Nat->Addr)(s:St)(depth:Int)(r:Option St)(hdk:depth + (k + 1:Nat)=50)(h0:0<=depth)(hp:p < E.n)(hq:q < E.n)(hpq:p≠q)(hr:yW (zJ E.D k) s q p m=some r)(hm:yR m z)(hE:EnvOk w E)(hN:NRep w E U bm hd s depth):
 Calls Tryz.prog 132 #[.pointer (some ⟨U,0,none⟩),.iface 95 (.pointer (some (E.tp p))),.iface 95 (.pointer (some (E.tp q))),.int .u64 z,.pointer none] w (xM w E U bm depth r):=by
 have hmf: ∀(fn:Fn) (first cap:Array Value) (w:World),(Instr.makeFunc fn first cap).run Tryz.prog w= .ok (.func fn first cap) w:=fun _ _ _ _=>rfl
 have hN1:=hN.enter (.cells #[.pointer (some ⟨U,0,none⟩)] 173);have FA1:Fr E.A w ((w.setCell ⟨U,2,none⟩ (.int .i64 (depth + 1))).alloc (.cells #[.pointer (some ⟨U,0,none⟩)] 173)):=((Fr.refl E.A w).setCell (p:=⟨U,2,none⟩) (.inl hN.AU) _).alloc _;have SC:(w.setCell ⟨U,2,none⟩ (.int .i64 (depth + 1))).heap.size=w.heap.size:=by simp [World.setCell]
 have BX1:((w.setCell ⟨U,2,none⟩ (.int .i64 (depth + 1))).alloc (.cells #[.pointer (some ⟨U,0,none⟩)] 173)).heap[w.heap.size]?=some (.cells #[.pointer (some ⟨U,0,none⟩)] 173 (0,0)):=by have h:=heap_alloc_new (w.setCell ⟨U,2,none⟩ (.int .i64 (depth + 1))) (.cells #[.pointer (some ⟨U,0,none⟩)] 173);rw [SC] at h;exact h
 have hE1:=hE.keep FA1;have qu:=zA hN.u;have fu:=zC hN.u;have szu:=bl (qu 0);dsimp only at szu;obtain ⟨cp,tcp,kp⟩:=hE1.keys.cells p hp;obtain ⟨cq,tcq,kq⟩:=hE1.keys.cells q hq;have hne: ¬E.tp p=E.tp q:=fun h=>hpq (hE.keys.inj p q hp hq h)
 have heq:=wC (eqTy (.var p)) (t2:=95) kp kq;rw [show decide (tyOf (.var p)=95/\E.tp p=E.tp q)=false by simp [hne]] at heq;change (binOp .eql 103 (.iface 95 (.pointer (some (E.tp p)))) (.iface 95 (.pointer (some (E.tp q))))).run Tryz.prog _=_ at heq;have hnp: ∀(a:Addr) (w:World),(binOp .neq 95 (.pointer (some a)) (.pointer none)).run Tryz.prog w= .ok (.bool true) w:=fun a w=>rfl
 have hnn: ∀(w:World),(binOp .neq 106 (.pointer none) (.pointer none)).run Tryz.prog w= .ok (.bool false) w:=fun w=>rfl
 have HN1:=hid hN1;have FA:=hid FA1;have BX:=hid BX1;have HE:=hid hE1;have HS:=hid hS;have HR:=hid hr;have HM:=hid hm;have HP:=hid hp;have HQ:=hid hq;have NB:=hid (fun h=>Nat.lt_irrefl _ (hE.below w.heap.size h): ¬E.A w.heap.size);clear hN1 FA1 BX1 hE hE1 hN SC hne kp kq hS hr hp hq hpq hm;by_cases hx:m= .exact;have tg:Fin 10:=0;rotate_left;have tg:Fin 11:=0;rotate_left
 all_goals
  first
  |rename Fin 10=>tg
   have hand:=and2_ex HM.out hx
  |have hand:=and2_in HM.out hx
  have HX:=hid hx;clear hx
  first
  |rename Fin 10=>tg
   have h20: ∀w:World,(binOp .eql 177 (.int .u64 2) (.int .u64 0)).run Tryz.prog w= .ok (.bool false) w:=fun w=>rfl
  |skip
  go_enter_defers Tryz.func132,Tryz.ntmps132;go_wp2_with fail
  generalize ((w.setCell ⟨U,2,none⟩ (.int .i64 (depth + 1))).alloc (.cells #[.pointer (some ⟨U,0,none⟩)] 173))=WX at HN1 FA BX HE heq ⊢;clear qu fu szu;have qu:=zA HN1.out.u;have fu:=zC HN1.out.u;have szu:=bl (qu 0);have qb:=zA BX.out;have szb:=bl (qb 0);dsimp only at szu szb;refine (zM _ _ _ (by decide)).mono ?_;rintro e w1 ⟨rfl,rfl⟩;go_wp2_with fail
  refine (zM _ _ _ (by decide)).mono ?_;rintro e w1 ⟨rfl,rfl⟩;go_wp2_with fail
  refine (yI _ _ _ (by decide)).mono ?_;rintro e w1 ⟨rfl,rfl⟩;go_wp2_with fail
  refine (bound_var HE.out HN1.out _ HQ.out).mono ?_;rintro e w1 ⟨rfl,rfl⟩;go_wp2_with fail
  refine (yI _ _ _ (by decide)).mono ?_;rintro e w1 ⟨rfl,rfl⟩;go_wp2_with fail
  have BV:=hid (fun (n x:Nat) (hx:x < E.n)=>bound_var (w:=w1.drewN n) (HE.out.keep ((Fr.refl _ w1).drawn n)) (HN1.out.keep ((Fr.refl _ w1).drawn n)) x hx);go_quiet (first | (go_at_call 162;exact Calls.quiet_of_same (BV.out _ _ HQ.out)) | (go_at_call 162;exact Calls.quiet_of_same (BV.out _ _ HP.out)));go_wp2_with fail
  refine (join_go (HE.out.keep ((Fr.refl _ w1).drawn nq)) (HN1.out.keep ((Fr.refl _ w1).drawn nq)) q p HQ.out HP.out).mono ?_;rintro e w2 ⟨FJ,hJ⟩;clear qu fu szu qb szb heq;have FJ1:=hid (((Fr.refl E.A w1).drawn nq).trans FJ);have FA2:=hid (FA.out.trans FJ1.out);have BX2:=hid (FJ1.out.heap NB.out BX.out);clear FJ;rcases hJ with ⟨hj,rfl,hn⟩ | ⟨hj,⟨a,b,hva,hvb⟩,rfl,hn⟩ | ⟨hj,hv,rfl,hd',hn⟩
  ·have HN2:=hid hn;have HJ:=hid hj;clear hn hj
   go_wp2;refine leaves_cons (f:=161) (args:= #[.pointer (some ⟨w.heap.size,0,none⟩)]) (by simp) (by simp [go_sem]) ?_;refine (wF _ U _ _ _ _ .returning _ (BX2.out) (HN2.out).u (by omega) (by omega)).mono ?_;rintro e u' w'' ⟨rfl,rfl,rfl⟩;refine ⟨_,results_tmp rfl _ _ _,?_⟩;refine ⟨by rw [vars_same HR.out HJ.out];rfl,(FA2.out).setCell (.inl (HN2.out).AU) _,_,_,by have h:=(HN2.out).setDepth (depth + 1 - 1);rw [show depth + 1 - 1=depth by omega] at h ⊢;exact h,fun s1 h=>by rw [vars_same HR.out HJ.out] at h;exact Option.some.inj h⟩
  ·have HN2:=hid hn;have HJ:=hid (vars_both HR.out hj hva hvb);clear hn hj
   have HE2:=hid (HE.out.keep FJ1.out);have VA:=hid hva;have VB:=hid hvb;clear hva hvb;go_wp2_with fail
   refine zG (Fr E.A w2) [(0,true),(1,true),(2,true),(4,true),(5,true),(7,true),(8,true),(3,false),(6,false),(9,false),(10,false)] [10] yE (by kernel_rfl) (by kernel_rfl) (by kernel_rfl) (by decide) ?_
   iterate 7
    (refine zH _ rfl (Fr.refl _ _).drew (fun w' hS=>by
     have q1:=zA (hS.heap (b:=w.heap.size) NB.out BX2.out);have szw:=bl (q1 0);clear hS;go_simp;rfl) ?_)
   go_simp;refine zB rfl ?_;go_wp2_with fail
   refine (at_known (HE2.out.keep ((Fr.refl E.A w2).drew)) (HN2.out.keep ((Fr.refl _ w2).drew)) q HQ.out _ VA.out).mono ?_;rintro e w3 ⟨v1,rfl,hv1,rfl⟩;have HV1:=hid hv1;clear hv1;go_wp2;refine And.intro (fun _=>(Fr.refl _ _).drew) ?_;refine zB rfl ?_;go_wp2_with fail
   refine (at_known (HE2.out.keep ((Fr.refl E.A w2).drew)) (HN2.out.keep ((Fr.refl _ w2).drew)) p HP.out _ VB.out).mono ?_;rintro e w3 ⟨v2,rfl,hv2,rfl⟩;have HV2:=hid hv2;clear hv2;go_wp2;refine And.intro (fun _=>(Fr.refl _ _).drew) ?_;refine zB rfl ?_;go_wp2_with fail
   refine (HS.out a b v1 v2 m z w2.drew U bm hd s (depth + 1) r (by omega) HJ.out HM.out (HE2.out.keep ((Fr.refl E.A w2).drew)) (HN2.out.keep ((Fr.refl _ w2).drew)) HV1.out HV2.out).mono ?_;rintro e w3 ⟨rfl,hf3,s3,hd3,hn3,hs3⟩;have FA3:=hid (FA2.out.trans (((Fr.refl E.A w2).drew).trans hf3));have HN3:=hid hn3;have HS3:=hid hs3;have BX3:=hid (hf3.heap NB.out ((Fr.refl E.A w2).drew.heap NB.out BX2.out))
   have FW3:=hid (((Fr.refl E.A w2).drew).trans hf3);clear hf3 hn3 hs3;go_wp2;refine And.intro (fun _=>FW3.out) ?_;refine zB rfl ?_;go_wp2;refine And.intro (fun h=>absurd h (by decide)) ?_;refine zO (NoPanic.normal ?_);go_wp2;refine leaves_cons (f:=161) (args:= #[.pointer (some ⟨w.heap.size,0,none⟩)]) (by simp) (by simp [go_sem]) ?_;refine (wF _ U _ _ _ _ .returning _ (BX3.out) (HN3.out).u (by omega) (by omega)).mono ?_
   rintro e u' w'' ⟨rfl,rfl,rfl⟩;refine ⟨_,results_tmp rfl _ _ _,?_⟩;refine ⟨rfl,(FA3.out).setCell (.inl (HN3.out).AU) _,_,_,by have h:=(HN3.out).setDepth (depth + 1 - 1);rw [show depth + 1 - 1=depth by omega] at h ⊢;exact h,HS3.out⟩
  ·have HN2:=hid hn;have HJ:=hid (vars_join HR.out hj hv);clear hn hj hv
   go_wp2;refine leaves_cons (f:=161) (args:= #[.pointer (some ⟨w.heap.size,0,none⟩)]) (by simp) (by simp [go_sem]) ?_;refine (wF _ U _ _ _ _ .returning _ (BX2.out) (HN2.out).u (by omega) (by omega)).mono ?_;rintro e u' w'' ⟨rfl,rfl,rfl⟩;refine ⟨_,results_tmp rfl _ _ _,?_⟩;refine ⟨by rw [HJ.out];rfl,(FA2.out).setCell (.inl (HN2.out).AU) _,_,_,by have h:=(HN2.out).setDepth (depth + 1 - 1);rw [show depth + 1 - 1=depth by omega] at h ⊢;exact h,fun s1 h=>by rw [HJ.out] at h;exact Option.some.inj h⟩
end Go.Proofs.YtpekidjfbinekaaGreatDoor
