/- V10, L1, L0, L2, L3 -/
import Derived.Test.YtpekidjfbinekaaGreatDoorA04
import Derived.Test.YtpekidjfbinekaaGreatDoorA38
import Derived.Test.YtpekidjfbinekaaGreatDoorA40
set_option maxRecDepth 100000
set_option maxHeartbeats 60000000
set_option linter.all false
namespace Go.Proofs.YtpekidjfbinekaaGreatDoor
open Go.RowKit Uni
def ValidT (w:World)(da:Option Addr)(dl:Nat)(n:Int)(ys:List TyV):Prop:=
 ∃N:Nat,n=N/\N<=8/\dl<=16/\ ∃ar D,DeclT w da dl ar D/\ ∀(i:Nat) y,ys[i]?=some y->ShQ w dl ar N 0 y
def VPost (w:World)(da:Option Addr)(dl:Nat)(n:Int)(ys:List TyV)(e:Ending)(w':World):Prop:=
 ∃b,e= .returned (.bool b)/\Fr F0 w w'/\(b=true->ValidT w da dl n ys)
theorem VPost.no {w w':World}{da:Option Addr}{dl:Nat}{n:Int}{ys:List TyV}(f:Fr F0 w w'):VPost w da dl n ys (.returned (.bool false)) w':=⟨false,rfl,f,fun h=>by cases h⟩
theorem declOk_mk {w:World}{ps:List (Int × TyV)}{j P:Nat}{y:TyV}(h:ps[j]?=some ((P:Int),y))(h8:P<=8)(k1:(y.k==1)=false)(k3:(y.k==3)=false)(hP:arOf ps j=P)
 (hq:ShQ w j (arOf ps) 0 P y):DeclOk w ps j:=by
 have hq':ShQ w j (arOf ps) 0 (arOf ps j) y:=by rw [hP];exact hq
 exact ⟨((P:Int),y),h,Int.natCast_nonneg P,Int.ofNat_le.mpr h8,by simpa using k1,by simpa using k3,hq'⟩
theorem valid_any (da:Option Addr)(dl dc:Nat)(n:Int)(la:Option Addr)(ll lc:Nat)(ps:List (Int × TyV))(ys:List TyV)(w:World)(hd:RawD w da dl dc ps)(hl:RawL w la ll lc ys):
 Calls Tryz.prog 15 #[.slice da dl dc,.int .i64 n,.slice la ll lc] w (VPost w da dl n ys):=by
 have HD:=hid hd;have HLS:=hid hl;have hdc:=hd.cap;have hdc2:=hd.cap2;have hll:=hl.small;clear hd hl;by_cases n0:n < 0
 ·go_enter Tryz.func15,Tryz.ntmps15
  go_wp2;go_ret;exact VPost.no (by repeat (first | exact Fr.refl _ _ | refine Fr.alloc ?_ _))
 have N0:decide (n < 0)=false:=by simpa using n0
 by_cases n8:8 < n
 ·go_enter Tryz.func15,Tryz.ntmps15
  go_wp2;go_ret;exact VPost.no (by repeat (first | exact Fr.refl _ _ | refine Fr.alloc ?_ _))
 have N8:decide (8 < n)=false:=by simpa using n8
 by_cases d16:16 < dl
 ·have d16':(16:Int) < dl:=by omega
  go_enter Tryz.func15,Tryz.ntmps15;go_wp2;go_ret;exact VPost.no (by repeat (first | exact Fr.refl _ _ | refine Fr.alloc ?_ _))
 have D16:decide ((16:Int) < dl)=false:=by simp;omega
 have hd16:dl<=16:=by omega
 clear d16;go_enter Tryz.func15,Tryz.ntmps15;go_wp2;go_loopw [29,7] (fun i i2 wr=> ∃j:Nat,j<=dl/\i= .int .i64 j/\Fr F0 w wr/\ ∀i,i < j->DeclOk w ps i) (fun i _ _=>dl - (intOf i).toNat)
 case atStart=>exact ⟨0,Nat.zero_le _,rfl,by repeat (first | exact Fr.refl _ _ | refine Fr.alloc ?_ _),fun i hi=>by omega⟩
 case round=>
  obtain ⟨j,hj,rfl,hf,hok⟩:=hrel;have HF:=hid hf;have OK:=hid hok;clear hf hok;by_cases hlt:j < dl
  ·have hle:(j:Int) < dl:=by omega
   obtain h0 | ⟨b,o,rfl,hr⟩:=HD.out.row
   ·omega
   obtain ⟨p,hp⟩: ∃p,ps[j]?=some p:=⟨ps[j]'(by rw [HD.out.len];exact hlt),by simp⟩;have HP:=hid hp;obtain ⟨hp0,hat⟩:=hr j p hp;have x:=HF.out.cell id hp0;obtain ⟨x0,x1,x2,x3,x4,x5⟩:=hat.keep HF.out id;have hb:b < wr.heap.size:=World.block_lt_of_cell? _ _ x;have HRAW:=hid (HD.out.raw j p hp);obtain ⟨pp,k,nn,c,v,a,len,cap,nm⟩:=p;dsimp only at *;clear hr hp hp0 hat;have hjc:(j:Int)<=dc:=by omega
   by_cases a1:pp < 0
   ·go_wp2
    go_quiet (fail);go_wp2;go_ret;exact VPost.no (by repeat (first | exact HF.out | refine Fr.alloc ?_ _ | refine Fr.drawn ?_ _))
   by_cases a2:8 < pp
   ·have A1:decide (pp < 0)=false:=by simpa using a1
    go_wp2;go_quiet (fail);go_wp2;go_ret;exact VPost.no (by repeat (first | exact HF.out | refine Fr.alloc ?_ _ | refine Fr.drawn ?_ _))
   by_cases a3:k=1
   ·have A1:decide (pp < 0)=false:=by simpa using a1
    have A2:decide (8 < pp)=false:=by simpa using a2
    subst a3;go_wp2;go_quiet (fail);go_wp2;go_ret;exact VPost.no (by repeat (first | exact HF.out | refine Fr.alloc ?_ _ | refine Fr.drawn ?_ _))
   by_cases a4:k=3
   ·have A1:decide (pp < 0)=false:=by simpa using a1
    have A2:decide (8 < pp)=false:=by simpa using a2
    subst a4;go_wp2;go_quiet (fail);go_wp2;go_ret;exact VPost.no (by repeat (first | exact HF.out | refine Fr.alloc ?_ _ | refine Fr.drawn ?_ _))
   have A1:decide (pp < 0)=false:=by simpa using a1
   have A2:decide (8 < pp)=false:=by simpa using a2
   have A3:(k==1)=false:=by simpa using a3
   have A4:(k==3)=false:=by simpa using a4
   obtain ⟨P,rfl⟩: ∃P:Nat,pp=P:=⟨pp.toNat,by omega⟩;have hP8:P<=8:=by omega
   have eP:arOf ps j=P:=by rw [arOf_some HP.out];simp
   have SH: ∀W,Fr F0 w W→Calls Tryz.prog 30 #[.slice (some ⟨b,o,none⟩) j dc,.agg #[.int .i64 k,.int .i64 nn,.int .i64 c,.bool v,.slice a len cap,.string nm],.int .i64 0,.int .i64 P] W fun e w'=>
    ∃bb,e= .returned (.bool bb)/\Fr F0 W w'/\(bb=true->ShQ w j (arOf ps) 0 P ⟨k,nn,c,v,a,len,cap,nm⟩):=
    shaped_any (x:=⟨k,nn,c,v,a,len,cap,nm⟩) dc 0 P (parRow_of HD.out (by omega) OK.out) HRAW.out
   have SZ: ∀W,Fr F0 w W->Calls Tryz.prog 31 #[.agg #[.int .i64 k,.int .i64 nn,.int .i64 c,.bool v,.slice a len cap,.string nm]] W fun e w'=> ∃z,e= .returned (.int .i64 z)/\Fr F0 W w':=size_any (x:=⟨k,nn,c,v,a,len,cap,nm⟩) HRAW.out
   have SH':=hid SH;have SZ':=hid SZ;have EP:=hid eP;clear SH SZ eP a1 a2 a3 a4;have HW:=hid (HF.out.alloc (.cells #[.int .i64 P,.int .i64 k,.int .i64 nn,.int .i64 c,.bool v,.slice a len cap,.string nm] 56));have HB:=hid (heap_alloc_new wr (.cells #[.int .i64 P,.int .i64 k,.int .i64 nn,.int .i64 c,.bool v,.slice a len cap,.string nm] 56));go_wp2_with fail
   refine zP 28 (by kernel_rfl) ?_;simp only [List.take_succ_cons,List.take_zero,List.drop_succ_cons,List.drop_zero]
   repeat still_step
   refine wpStill_nil ?_;go_wp2_with fail
   refine (SH'.out _ HW.out.drew).mono ?_;rintro e w2 ⟨bb,rfl,hf2,hq⟩;have HW2:=hid (HW.out.drew.trans hf2);have HB2:=zA (hf2.heap id (show (World.drew _).heap[wr.heap.size]?=_ from HB.out));have z0:=HB2 1;have z1:=HB2 2;have z2:=HB2 3;have z3:=HB2 4;have z4:=HB2 5;have z5:=HB2 6;have hwb:wr.heap.size < w2.heap.size:=World.block_lt_of_cell? _ _ (z0.trans rfl);clear hf2 HB2;cases bb
   ·clear hq
    go_wp2;go_ret;exact VPost.no HW2.out
   ·have HQ:=hid (hq rfl)
    clear hq;go_wp2_with fail
    refine (SZ'.out _ HW2.out).mono ?_;rintro e w3 ⟨z,rfl,hf3⟩;have HW3:=hid (HW2.out.trans hf3);clear hf3;go_wp2
    ·go_ret
     exact VPost.no HW3.out
    ·go_roundw
     case rel=>
      refine ⟨j + 1,by omega,by go_num,HW3.out,fun i hi=> ?_⟩;by_cases hij:i=j
      ·subst hij
       exact declOk_mk HP.out hP8 A3 A4 EP.out HQ.out
      ·exact OK.out i (by omega)
     case measure=>simp [intOf];omega
  ·obtain rfl:j=dl:=by omega
   obtain ⟨N,rfl⟩: ∃N:Nat,n=N:=⟨n.toNat,by omega⟩;have hN8:N<=8:=by omega
   have PAR:=hid (parRow_of HD.out (Nat.le_refl _) OK.out);have DT:=hid (declT_of HD.out hd16 OK.out);clear n0 n8;go_wp2;go_loopw [74] (fun i wq=> ∃q:Nat,q<=ll/\i= .int .i64 q/\Fr F0 w wq/\ ∀(i:Nat) y,i < q->ys[i]?=some y->ShQ w j (arOf ps) N 0 y) (fun i _=>ll - (intOf i).toNat)
   case atStart=>exact ⟨0,Nat.zero_le _,rfl,HF.out,fun i y hi=>by omega⟩
   case round=>
    obtain ⟨q,hq,rfl,hf,hok⟩:=hrel;have HF1:=hid hf;have OK1:=hid hok;clear hf hok;by_cases hlt1:q < ll
    ·have hle1:(q:Int) < ll:=by omega
     obtain ⟨X,b2,o2,gX,rfl,e1⟩:=HLS.out.elems.elem (show q < ys.length by rw [HLS.out.len];exact hlt1);have RX:=hid (HLS.out.raw q X gX);have e1:=e1.keep HF1.out;obtain ⟨_,x0,x1,x2,x3,x4,x5⟩:=e1;have hb2:=World.block_lt_of_cell? _ _ x0;have GX:=hid gX;clear gX;obtain ⟨k,nn,c,v,a,len,cap,nm⟩:=X;dsimp only at *
     have SH':=hid (show ∀W,Fr F0 w W→Calls Tryz.prog 30 #[.slice da j dc,.agg #[.int .i64 k,.int .i64 nn,.int .i64 c,.bool v,.slice a len cap,.string nm],.int .i64 N,.int .i64 0] W fun e w'=>
      ∃bb,e= .returned (.bool bb)/\Fr F0 W w'/\(bb=true->ShQ w j (arOf ps) N 0 ⟨k,nn,c,v,a,len,cap,nm⟩) from
      shaped_any (x:=⟨k,nn,c,v,a,len,cap,nm⟩) dc N 0 PAR.out RX.out)
     have SZ':=hid (show ∀W,Fr F0 w W→Calls Tryz.prog 31 #[.agg #[.int .i64 k,.int .i64 nn,.int .i64 c,.bool v,.slice a len cap,.string nm]] W fun e w'=> ∃z,e= .returned (.int .i64 z)∧Fr F0 W w' from
      size_any (x:=⟨k,nn,c,v,a,len,cap,nm⟩) RX.out)
     have HWA:=hid (HF1.out.alloc (.cells #[.int .i64 k,.int .i64 nn,.int .i64 c,.bool v,.slice a len cap,.string nm] 26));have HBA:=hid (heap_alloc_new wr (.cells #[.int .i64 k,.int .i64 nn,.int .i64 c,.bool v,.slice a len cap,.string nm] 26));go_wp2_with fail
     refine (SH'.out _ HWA.out).mono ?_;rintro e w2 ⟨bb,rfl,hf2,hq⟩;have HW2:=hid (HWA.out.trans hf2);have HB2:=zA (hf2.heap id HBA.out);have z0:=HB2 0;have z1:=HB2 1;have z2:=HB2 2;have z3:=HB2 3;have z4:=HB2 4;have z5:=HB2 5;have hwb:=World.block_lt_of_cell? _ _ (z0.trans rfl);clear hf2 HB2;cases bb
     ·clear hq
      go_wp2;go_ret;exact VPost.no HW2.out
     ·have HQ:=hid (hq rfl)
      clear hq;go_wp2_with fail
      refine (SZ'.out _ HW2.out).mono ?_;rintro e w3 ⟨z,rfl,hf3⟩;have HW3:=hid (HW2.out.trans hf3);clear hf3;go_wp2
      ·go_ret
       exact VPost.no HW3.out
      ·go_roundw
       case rel=>
        refine ⟨q + 1,by omega,by go_num,HW3.out,fun i y hi hy=> ?_⟩;by_cases hij:i=q
        ·subst hij;rw [GX.out] at hy;cases hy;exact HQ.out
        ·exact OK1.out i y (by omega) hy
       case measure=>simp [intOf];omega
    ·have TY:=hid (show ∀(i:Nat) y,ys[i]?=some y→ShQ w j (arOf ps) N 0 y from fun i y hy=>OK1.out i y (by have h:=(List.getElem?_eq_some_iff.mp hy).1;rw [HLS.out.len] at h;omega) hy)
     obtain ⟨D,hD⟩:=DT.out;have HDT:=hid hD;clear hD;obtain ⟨W1,rfl⟩: ∃W1:World,W1=wr:=⟨wr,rfl⟩;have hwW:w.heap.size<=W1.heap.size:=HF1.out.size;have HDR:=hid (HDT.out.d.avoid (M':=FB W1.heap.size) fun b hb=> .inr (by have:b=W1.heap.size:=hb;omega))
     have HBD:=hid (show ∀(x:TyV) (t:Tm),RT w F0 x t→Uni.Good j (arOf ps) t→ ∀W,Fr (FB W1.heap.size) w W→BW W W1.heap.size da j dc→
      Calls Tryz.prog 32 #[.pointer (some ⟨W1.heap.size,0,none⟩),.agg #[.int .i64 x.k,.int .i64 x.n,.int .i64 x.c,.bool x.v,.slice x.a x.len x.cap,.string x.nm],.slice none 0 0] W (BPost W W1.heap.size da j dc) from
      fun x t hr hg W hW hB=>build32_any HDT.out.good j (Nat.le_refl _) w x t (hr.avoid fun b hb=> .inr (by have:b=W1.heap.size:=hb;omega)) hg HDR.out W none 0 0 hW hB (.inl rfl))
     clear hwW;go_wp2;go_loopw [94] (fun i wq=> ∃q:Nat,q<=j/\i= .int .i64 q/\Fr F0 w wq/\BW wq W1.heap.size da j dc) (fun i _=>j - (intOf i).toNat)
     case atStart=>exact ⟨0,Nat.zero_le _,rfl,HF1.out.alloc _,⟨100000,heap_alloc_new W1 _⟩⟩
     case round=>
      obtain ⟨q2,hq2,rfl,hf,hbw⟩:=hrel;have HF2:=hid hf;have HB2:=hid hbw;clear hf hbw;by_cases hlt2:q2 < j
      ·have hle2:(q2:Int) < j:=by omega
       obtain h0 | ⟨b,o,rfl,_,hr⟩:=HDT.out.d.row
       ·omega
       obtain ⟨hp0,X,hat,hX⟩:=hr q2 hlt2;have HX:=hid hX;have x:=HF2.out.cell id hp0;obtain ⟨x0,x1,x2,x3,x4,x5⟩:=hat.keep HF2.out id;have hb:=World.block_lt_of_cell? _ _ x;clear hr hX hp0 hat;by_cases hz:arOf ps q2=0
       ·have xz:wr.cell? ⟨b,o + q2 * 7,none⟩=some (.int .i64 0):=by rw [x,hz];rfl
        clear x;have HFA:=hid (HF2.out.alloc (.cells #[.int .i64 0,.int .i64 X.k,.int .i64 X.n,.int .i64 X.c,.bool X.v,.slice X.a X.len X.cap,.string X.nm] 56));have HBA:=hid (HB2.out.alloc (.cells #[.int .i64 0,.int .i64 X.k,.int .i64 X.n,.int .i64 X.c,.bool X.v,.slice X.a X.len X.cap,.string X.nm] 56));go_wp2_with fail
        refine (HBD.out X (D q2) HX.out (Good.up (by omega) (HDT.out.good q2 hlt2)) _ HFA.out.sub HBA.out).mono ?_;rintro e w4 ⟨z,rfl,hf4,hb4⟩;have HF4:=hid (HFA.out.transNew hf4 fun x hx=> .inr (by have:x=W1.heap.size:=hx;have:=HF1.out.size;omega));have HB4:=hid hb4;clear hf4 hb4;go_wp2;go_roundw
        case rel=>exact ⟨q2 + 1,by omega,by go_num,HF4.out,HB4.out⟩
        case measure=>simp [intOf];omega
       ·have hz':(((arOf ps q2:Nat):Int)==0)=false:=by simp;exact hz
        have HFA:=hid (HF2.out.alloc (.cells #[.int .i64 (arOf ps q2),.int .i64 X.k,.int .i64 X.n,.int .i64 X.c,.bool X.v,.slice X.a X.len X.cap,.string X.nm] 56));have HBA:=hid (HB2.out.alloc (.cells #[.int .i64 (arOf ps q2),.int .i64 X.k,.int .i64 X.n,.int .i64 X.c,.bool X.v,.slice X.a X.len X.cap,.string X.nm] 56));go_wp2;go_roundw
        case rel=>exact ⟨q2 + 1,by omega,by go_num,HFA.out,HBA.out⟩
        case measure=>simp [intOf];omega
      ·go_wp2
       go_loopw [108] (fun i wq=> ∃q:Nat,q<=ll/\i= .int .i64 q/\Fr F0 w wq/\BW wq W1.heap.size da j dc) (fun i _=>ll - (intOf i).toNat)
       case atStart=>exact ⟨0,Nat.zero_le _,rfl,HF2.out,HB2.out⟩
       case round=>
        obtain ⟨q3,hq3,rfl,hf,hbw⟩:=hrel;have HF3:=hid hf;have HB3:=hid hbw;clear hf hbw;by_cases hlt3:q3 < ll
        ·have hle3:(q3:Int) < ll:=by omega
         obtain ⟨X,b2,o2,gX,rfl,e1⟩:=HLS.out.elems.elem (show q3 < ys.length by rw [HLS.out.len];exact hlt3);obtain ⟨t,ht⟩:=TY.out q3 X gX;have HT:=hid ht;have e1:=e1.keep HF3.out;obtain ⟨_,x0,x1,x2,x3,x4,x5⟩:=e1;have hb2:=World.block_lt_of_cell? _ _ x0;clear gX ht;have HFA:=hid (HF3.out.alloc (.cells #[.int .i64 X.k,.int .i64 X.n,.int .i64 X.c,.bool X.v,.slice X.a X.len X.cap,.string X.nm] 26));have HBA:=hid (HB3.out.alloc (.cells #[.int .i64 X.k,.int .i64 X.n,.int .i64 X.c,.bool X.v,.slice X.a X.len X.cap,.string X.nm] 26))
         go_wp2_with fail
         refine (HBD.out X t HT.out.r HT.out.g _ HFA.out.sub HBA.out).mono ?_;rintro e w4 ⟨z,rfl,hf4,hb4⟩;have HF4:=hid (HFA.out.transNew hf4 fun x hx=> .inr (by have:x=W1.heap.size:=hx;have:=HF1.out.size;omega));have HB4:=hid hb4;clear hf4 hb4;go_wp2;go_roundw
         case rel=>exact ⟨q3 + 1,by omega,by go_num,HF4.out,HB4.out⟩
         case measure=>simp [intOf];omega
        ·obtain ⟨f',hf'⟩:=HB3.out
         have z0:=zA hf' 0;have z1:=zA hf' 1;have hbw:=World.block_lt_of_cell? _ _ (z0.trans rfl);clear hf';go_wp2;go_ret;exact ⟨_,rfl,HF3.out,fun _=>⟨N,rfl,hN8,hd16,arOf ps,D,HDT.out,TY.out⟩⟩
theorem RT.body {w:World}{M:Nat->Prop}{x:TyV}{t:Tm}{nd:Nat}{ar:Nat->Nat}(h:RT w M x t)(hg:Uni.Good nd ar t):AllL (wM nd ar) t:=by
 induction h with
 |var x p=>exact .var p
 |node x f xs ts hs hl _ _ ih=>
  refine .node f ts ⟨hg.lab,hs.norm⟩ fun t ht=> ?_
  obtain ⟨i,hi,rfl⟩:=List.mem_iff_getElem.mp ht;exact ih i (xs[i]'(by omega)) ts[i] (by simp [show i < xs.length by omega]) (by simp [hi]) (hg.kid ht)
theorem fit_of {nd:Nat}{ar:Nat->Nat}{t:Tm}(h:AllL (wM nd ar) t)(h3:Holes 3 0 t):Fit nd ar t:=by
 induction h with
 |var p=>exact .var p
 |node f ts hf _ ih=>
  cases h3 with
  |node _ _ hk hts=>exact .node f ts ⟨hf.1,hf.2,fun h=>absurd (hk h.symm) (by omega)⟩ fun t ht=>ih t ht (hts t ht)
theorem TIn.fit {w:World}{nd:Nat}{ar:Nat->Nat}{n:Nat}{x:TyV}{t:Tm}(h:TIn w nd ar n x t):Fit nd ar t:=fit_of (h.r.body h.g) h.h3
theorem DeclT.body {w:World}{da:Option Addr}{dl:Nat}{ar:Nat->Nat}{D:zE}(h:DeclT w da dl ar D)(i:Nat):AllL (wM dl ar) (D i):=by
 by_cases hi:i < dl
 ·obtain h0 | ⟨b,o,_,_,hr⟩:=h.d.row
  ·omega
  obtain ⟨_,y,_,hy⟩:=hr i hi;exact hy.body (Good.up (by omega) (h.good i hi))
 ·have e:=h.out i (by omega)
  have hg:=h.goodD i;rw [e] at hg ⊢;exact .node _ _ ⟨hg.lab,⟨fun _ _ _ _ _=>rfl,fun _=>⟨rfl,rfl⟩,fun _=>rfl⟩⟩ (fun t ht=>by cases ht)
theorem joint_one {D:zE}{M:Mg}{nd:Nat}{ar:Nat->Nat}(hD:zZ D)(hM:Closed D M)(hB: ∀i,AllL (wM nd ar) (D i)){s t:Tm}(hs:Fit nd ar s)(ht:Fit nd ar t)(ok:xL D M s t)
 (hh: ∃a b,Ht D M a s/\Ht D M b t/\a + b<=48) (m:Uni.Mode) {r:Res} (hr:zI D 50 St.init s t m=some r):
 PairsOk D m St.init [(s,t)]/\ ∀oks s'',PairsR D m St.init [(s,t)] oks s''->(r= .fail->okB oks 1=false)/\(∀s1,r= .ok s1->okB oks 1=true/\Near D M nd ar s1 s''):=by
 obtain ⟨a,b,ha,hb,hab⟩:=hh;obtain ⟨q,hq,_⟩:=nifyT_ends hD hM 50 a b St.init s t m (by omega) ok ha hb (Inv.init M);have fine:Fine D M nd ar 50 St.init s t:=⟨⟨a,b,by omega,ha,hb⟩,ok,Inv.init M,hs,ht,fun P t h=>by simp [St.init] at h⟩
 have ag:AgreeN D M nd ar r q:=by
  by_cases hm:m= .assign
  ·subst hm
   exact (sim_assign hD hM hB 50 50 St.init s t fine r hr).1 q hq
  ·exact yM.near ((sim hD hM hB 50 50 St.init s t m hm fine r hr).1 q hq)
 refine ⟨⟨q,hq,fun s1 _=>trivial⟩,fun oks s'' hp=>⟨fun e=> ?_,fun s1 e=> ?_⟩⟩
 ·subst e
  obtain rfl:q=none:=ag
  cases hp with
  |ok _ s2 _ _ _ _ os h1 h2=>rw [hq] at h1;cases h1
  |fail=>rfl
 ·subst e
  obtain ⟨s2,rfl,hn⟩:=ag
  cases hp with
  |ok _ s3 _ _ _ _ os h1 h2=>
   rw [hq] at h1;cases h1;cases h2
   exact ⟨rfl,hn⟩
  |fail _ _ _ _ _ h1=>rw [hq] at h1;cases h1
theorem tall_bound (D:zE)(M:Mg): ∀n:Nat,∃N,∀p,p < n->Tall D M p->Ht D M N (.var p)
 |0=>⟨0,fun p h=>by omega⟩
 |n + 1=>by
  obtain ⟨N,hN⟩:=tall_bound D M n;by_cases h:Tall D M n
  ·obtain ⟨k,hk⟩:=h
   refine ⟨max N k,fun p hp ht=> ?_⟩;by_cases e:p=n
   ·subst e;exact hk.mono (Nat.le_max_right _ _)
   ·exact (hN p (by omega) ht).mono (Nat.le_max_left _ _)
  ·refine ⟨N,fun p hp ht=> ?_⟩
   by_cases e:p=n
   ·subst e;exact absurd ht h
   ·exact hN p (by omega) ht
theorem near_facts {D:zE}{M:Mg}{nd:Nat}{ar:Nat->Nat}{s1 s2:St}(hi:Inv M s1)(hl:Live D M s1)(hn:Near D M nd ar s1 s2)(n:Nat):
 ∃N,∀p,p < n→(s2.v (s2.j p)).isSome=(s1.v (s1.j p)).isSome∧ ∀t,s2.v (s2.j p)=some t→
  simS N s1 t=some (simF N s1 t)/\(∀k,s1.v (s1.j p)=some k->simS N s1 k=some (simF N s1 k))/\simF N s1 t=argS N s1 p:=by
 obtain ⟨N,hN⟩:=tall_bound D M n
 have ends: ∀p,p < n→ ∀k,s1.v (s1.j p)=some k→ ∀t,t∈M.vals (M.cls p)→simS N s1 t=some (simF N s1 t):=by
  intro p hp k hk t ht;obtain ⟨n',e,hv⟩:=(hN p hp (hl p k hk)).of_var;obtain ⟨u,hu⟩:=simS_ends hi n' t (hv t ht) N (by omega);rw [hu,simF_of hu]
 have same: ∀p,p < n→ ∀k,s1.v (s1.j p)=some k→simS N s1 k=some (simF N s1 k)∧simF N s1 k=argS N s1 p:=by
  intro p hp k hk;exact ⟨ends p hp k hk k (hi.val p k hk),by simp [argS,hk]⟩
 refine ⟨N,fun p hp=> ?_⟩;rcases hn with rfl | ⟨p0,k0,t0,hk0,rfl,hT,hkv,htv,_,hsub⟩
 ·exact ⟨rfl,fun t ht=>⟨(same p hp t ht).1,fun k hk=>(same p hp k hk).1,(same p hp t ht).2⟩⟩
 ·have hj:(s1.putAt (s1.j p0) t0).j=s1.j:=rfl
  have hv: ∀P,(s1.putAt (s1.j p0) t0).v P=if P=s1.j p0 then some t0 else s1.v P:=fun P=>rfl
  rw [hj,hv];by_cases e:s1.j p=s1.j p0
  ·rw [if_pos e]
   have hkp:s1.v (s1.j p)=some k0:=by rw [e];exact hk0
   refine ⟨by rw [hkp];rfl,fun t ht=> ?_⟩;obtain rfl:t0=t:=Option.some.inj ht;have hc:M.cls p=M.cls p0:=by rw [<-hi.cls p,<-hi.cls p0,e]
   have h1:=ends p hp k0 hkp t0 (by rw [hc];exact htv);have h2:=same p hp k0 hkp;refine ⟨h1,fun k hk=>(same p hp k hk).1,?_⟩;rw [<-h2.2,<-sub_full N t0 _ h1,<-sub_full N k0 _ h2.1];exact (hsub _ (full_sol hi)).symm
  ·rw [if_neg e]
   exact ⟨rfl,fun t ht=>⟨(same p hp t ht).1,fun k hk=>(same p hp k hk).1,(same p hp t ht).2⟩⟩
def WQ (dl:Nat)(ar:Nat->Nat)(n:Nat)(t:Tm):Prop:=Fit dl ar t/\Holes 2 n t
theorem sub_nums (t:Tm):t.sub (nums id)=t:=Tm.sub_id t
theorem WQ.eqv {w:World}{da:Option Addr}{dl:Nat}{ar:Nat->Nat}{D:zE}(h:DeclT w da dl ar D)(n:Nat):Eqv D id (WQ dl ar n):=by
 refine ⟨fun p=>rfl,fun f ts t hq ht=>⟨hq.1.kid ht,hq.2.kid ht⟩,fun t hq=>⟨Fit.und h.body hq.1,?_⟩,fun t _=>by rw [sub_nums,sub_nums]⟩
 cases t with
 |var p=>exact hq.2
 |node f ts=>
  by_cases hf:f.kind=1
  ·obtain ⟨hn,hl⟩:=hq.1.lab.1.k1 hf
   rw [show Uni.und D (.node f ts)=(D f.n).own ts by simp [Uni.und,hf]];exact holes_own hl (fun t ht=>hq.2.kid ht) (h.d.noVar f.n hn) (h.d.own f.n hn)
  ·rw [xO f ts hf];exact hq.2
theorem nify_wq {w:World}{da:Option Addr}{dl:Nat}{ar:Nat->Nat}{D:zE}(h:DeclT w da dl ar D){n:Nat}{s t:Tm}(hs:WQ dl ar n s)(ht:WQ dl ar n t){m:Uni.Mode}{s0 s2:St}(h0:yS (WQ dl ar n) s0)(hr0:Ren id s0 s0)
 (hq:zJ D 50 s0 s t m=some (some s2)):yS (WQ dl ar n) s2:=by
 have:=nify_ren (WQ.eqv h n) 50 m s0 s0 s t hs ht h0 hr0;rw [sub_nums,sub_nums] at this;simp only [hq] at this;exact this.2
theorem ren_id (s:St):Ren id s s:=⟨fun p q=>Iff.rfl,fun p=>by
 show s.v (s.j p)=(s.v (s.j p)).map (Tm.sub (nums id))
 cases s.v (s.j p) with
 |none=>rfl
 |some t=>rw [Option.map_some,sub_nums]⟩
def AnyB (w:World)(e:Ending)(w':World):Prop:= ∃b,e= .returned (.bool b)/\Fr F0 w w'
theorem fits_any (x:TyV)(w:World)(hb:x.len<=1954687338211):Calls Tryz.prog 14 #[x.val] w (AnyB w):=by
 obtain ⟨k,n,c,v,a,len,cap,nm⟩:=x;unfold TyV.val;dsimp only at *;by_cases h1:(2147483647:Int) < len
 ·go_enter Tryz.func14,Tryz.ntmps14
  go_wp2;go_ret;exact ⟨_,rfl,(Fr.refl F0 w).alloc _⟩
 ·have H1:decide ((2147483647:Int) < len)=false:=by simpa using h1
  by_cases h2:(2147483647:Int) < nm.size
  ·go_enter Tryz.func14,Tryz.ntmps14
   go_wp2;go_ret;exact ⟨_,rfl,(Fr.refl F0 w).alloc _⟩
  ·have H2:decide ((2147483647:Int) < nm.size)=false:=by simpa using h2
   go_enter Tryz.func14,Tryz.ntmps14;go_wp2;go_ret;exact ⟨_,rfl,(Fr.refl F0 w).alloc _⟩
def bt:Tm:= .node ⟨0,1,0,false,[]⟩ []
theorem nify_basic (D:zE):zJ D 50 St.init (.var 0) bt .exact=some (some (St.init.putAt 0 bt)):=rfl
theorem same_refl_bt:same bt bt=true:=by simp [same]
def D0:zE:=fun _=> .node ⟨0,0,0,false,[]⟩ []
theorem din0 {w:World}(ht:TabOk w):DIn w none 0 D0 (fun _=>0) 1:=
 ⟨⟨.inl rfl,fun i hi=>by omega,fun i hi=>by omega,by omega⟩,by omega,ht,fun i hi=>by omega,fun i hi=>by omega,fun i=>⟨_,_,rfl,.inl rfl⟩⟩
def xv:TyV:=⟨2,0,0,false,none,0,0,⟨#[]⟩⟩
def yv:TyV:=⟨0,1,0,false,none,0,0,⟨#[]⟩⟩
theorem rt_yv (w:World)(M:Nat->Prop):RT w M yv bt:= .node yv _ [] [] ⟨rfl,by decide,by decide,rfl,⟨rfl,rfl⟩,rfl,rfl,by decide⟩ rfl (.inl rfl) (fun i y t h=>by simp at h)
theorem tin_x (w:World):TIn w 0 (fun _=>0) 1 xv (.var 0):=⟨.var xv 0 rfl rfl rfl (by decide),.var 0,.var 0 (fun _=>by omega),.var 0 (fun h=>by cases h)⟩
theorem tin_y (w:World):TIn w 0 (fun _=>0) 1 yv bt:=
 ⟨rt_yv w _,.node _ _ ⟨by decide,by decide,fun _=>⟨rfl,by decide⟩,fun h=>absurd h (by decide),fun _=>rfl,fun h=>absurd h (by decide),fun h=>absurd h (by decide),fun h=>absurd h (by decide),fun h=>absurd h (by decide),fun h=>absurd h (by decide)⟩ (fun t ht=>by cases ht),
  .node _ _ (fun h=>absurd h (by decide)) (fun t ht=>by cases ht),.node _ _ (fun h=>absurd h (by decide)) (fun t ht=>by cases ht)⟩
theorem pairsR0 {oks:List Bool}{s':St}(h:PairsR D0 .exact St.init [(.var 0,bt)] oks s'):oks= [true]/\s'=St.init.putAt 0 bt:=by
 cases h with
 |ok _ s1 _ _ _ _ os h1 h2=>
  rw [nify_basic] at h1;cases h1
  cases h2
  exact ⟨rfl,rfl⟩
 |fail _ _ _ _ _ h1=>rw [nify_basic] at h1;cases h1
def YesB (w:World)(e:Ending)(w':World):Prop:=e= .returned (.bool true)/\Fr F0 w w'
theorem works_any (w:World)(ht:TabOk w):Calls Tryz.prog 19 #[] w (YesB w):=by
 have U:=hid (show ∀W,Fr F0 w W→Calls Tryz.prog 20 #[.slice none 0 0,.int .i64 1,.agg #[.int .i64 2,.int .i64 0,.int .i64 0,.bool false,.slice none 0 0,.string ⟨#[]⟩],.agg #[.int .i64 0,.int .i64 1,.int .i64 0,.bool false,.slice none 0 0,.string ⟨#[]⟩],.int .i64 0] W (UniInf W 1 D0 .exact [(.var 0,bt)]) from fun W hW=>
  unify20_any (dc:=0) W (din0 (ht.keep hW)) .exact xv yv (.var 0) bt (tin_x W) (tin_y W) ⟨_,nify_basic D0,fun s1 _=>trivial⟩)
 clear ht;go_enter Tryz.func19,Tryz.ntmps19;go_wp2_with fail
 have FW:=hid (((Fr.refl F0 w).alloc (.cells #[.int .i64 2,.int .i64 0,.int .i64 0,.bool false,.slice none 0 0,.string ⟨#[]⟩] 26)).alloc (.cells #[.int .i64 0,.int .i64 1,.int .i64 0,.bool false,.slice none 0 0,.string ⟨#[]⟩] 26));have BY:=hid (zS w (.cells #[.int .i64 2,.int .i64 0,.int .i64 0,.bool false,.slice none 0 0,.string ⟨#[]⟩] 26) (.cells #[.int .i64 0,.int .i64 1,.int .i64 0,.bool false,.slice none 0 0,.string ⟨#[]⟩] 26))
 refine (U.out _ FW.out).mono ?_;rintro e w2 ⟨a,c,ls,oks,s',rfl,hf2,hr,hll,hinf,hn⟩;obtain ⟨rfl,rfl⟩:=pairsR0 hr;have F2:=hid (FW.out.trans hf2);have by2:=zA (hf2.heap id BY.out);have y0:=by2 0;have y1:=by2 1;have y2:=by2 2;have y3:=by2 3;have y4:=by2 4;have y5:=by2 5;have szy:=World.block_lt_of_cell? _ _ (y0.trans rfl);obtain ⟨p,rfl⟩: ∃p,ls= [p]:=List.length_eq_one_iff.mp hll;obtain ⟨hp1,hp2⟩:=hinf.2 0 p (some bt) rfl rfl
 obtain h0 | ⟨b,off,rfl,hI⟩:=hinf.1
 ·cases h0
 obtain ⟨i0,i1,i2,i3,i4,i5,i6⟩:=hI 0 p rfl;obtain ⟨pk,X⟩:=p;dsimp only at *;have hX:=hid (hp2 bt rfl);have hpk:pk=true:=hp1;subst hpk;simp only [Nat.zero_mul,Nat.add_zero] at i0 i1 i2 i3 i4 i5 i6;have sb:=World.block_lt_of_cell? _ _ i0;have eb:okB [true] ([((Tm.var 0),bt)]:List (Tm × Tm)).length=true:=rfl;have hc1:(1:Int)<=c:=by omega
 rw [eb];clear hf2 hr hll hinf by2 hp1 hp2 hI eb;go_wp2_with fail
 refine zP 18 (by kernel_rfl) ?_;simp only [List.take_succ_cons,List.take_zero,List.drop_succ_cons,List.drop_zero]
 repeat still_step
 refine wpStill_nil ?_;go_wp2_with fail
 refine (wK bt bt X yv w2.drew F0 (hX.out.keep (Fr.refl F0 w2).drew) (rt_yv _ _)).mono ?_;rintro e w3 ⟨rfl,hf3⟩;rw [same_refl_bt];have F3:=hid (F2.out.drew.trans hf3);clear hf3;go_wp2;go_ret;exact ⟨rfl,F3.out⟩
structure LIn (w:World) (da:Option Addr) (dl:Nat) (ar:Nat→Nat) (D:zE) (n:Nat):Prop where
 d:DeclT w da dl ar D
 n8:n<=8
 tab:TabOk w
theorem DeclT.keep {w w':World}{da:Option Addr}{dl:Nat}{ar:Nat->Nat}{D:zE}(h:DeclT w da dl ar D)(f:Fr F0 w w'):DeclT w' da dl ar D:=⟨h.d.keep f,h.good,h.goodD,h.ar8,h.ok,h.out⟩
theorem LIn.keep {w w':World}{da:Option Addr}{dl:Nat}{ar:Nat->Nat}{D:zE}{n:Nat}(h:LIn w da dl ar D n)(f:Fr F0 w w'):LIn w' da dl ar D n:=⟨h.d.keep f,h.n8,h.tab.keep f⟩
theorem LIn.din {w:World}{da:Option Addr}{dl:Nat}{ar:Nat->Nat}{D:zE}{n:Nat}(h:LIn w da dl ar D n):DIn w da dl D ar n:=⟨h.d.d,h.n8,h.tab,h.d.good,fun i _=>h.d.ok i,h.d.ok⟩
theorem ShapedT.tin {w:World}{dl:Nat}{ar:Nat->Nat}{n:Nat}{x:TyV}{t:Tm}(h:ShapedT w dl ar n 0 x t):TIn w dl ar n x t:=⟨h.r,h.g,h.h2,h.h3⟩
theorem uenv_new {w w1:World}{da:Option Addr}{dl dc:Nat}{ar:Nat->Nat}{D:zE}{n:Nat}{B:UB}(h:LIn w da dl ar D n)(f:Fr F0 w w1)(hU:URep w1 B n St.init (.slice da dl dc) (.slice none 0 0) false)
 (hM: ∀b,B.M b->w.heap.size<=b/\b < w1.heap.size):UEnv da dl dc D ar w1 B n St.init (.slice none 0 0):=
 ⟨hU,(h.d.d.avoid (M':=B.M) fun b hb=> .inr (hM b hb).1).keep f.sub,fun b hb=>(hM b hb).2,fun P t h=>by simp [St.init] at h⟩
theorem xin_new {w w1:World}{dl:Nat}{ar:Nat->Nat}{n:Nat}{B:UB}{x:TyV}{t:Tm}(h:TIn w dl ar n x t)(f:Fr F0 w w1)(hM: ∀b,B.M b->w.heap.size<=b/\b < w1.heap.size):XIn ar dl w1 B n x t:=
 ⟨(h.r.avoid (M':=B.M) fun b hb=> .inr (hM b hb).1).keep f.sub,h.g,h.h2⟩
theorem state_of {D:zE}{M:Mg}{nd:Nat}{ar:Nat->Nat}(hD:zZ D)(hM:Closed D M)(hB: ∀i,AllL (wM nd ar) (D i)){s t:Tm}(hs:Fit nd ar s)(ht:Fit nd ar t)(ok:xL D M s t)
 (hh: ∃a b,Ht D M a s/\Ht D M b t/\a + b<=48) {m:Uni.Mode} {s':St} (hr:zI D 50 St.init s t m=some (.ok s')):Inv M s'/\Live D M s':=by
 obtain ⟨a,b,ha,hb,hab⟩:=hh;have fine:Fine D M nd ar 50 St.init s t:=⟨⟨a,b,by omega,ha,hb⟩,ok,Inv.init M,hs,ht,fun P t h=>by simp [St.init] at h⟩;exact ⟨(fine.post hM hB hr).1,live hM hB 50 St.init s t m s' fine Live.init hr⟩
theorem agrees27_any {da:Option Addr}{dl dc n:Nat}{ar:Nat->Nat}{D:zE}(w:World)(h:LIn w da dl ar D n)(m:Uni.Mode)(x y:TyV)(s t:Tm)(hx:TIn w dl ar n x s)(hy:TIn w dl ar n y t):
 Calls Tryz.prog 27 #[.slice da dl dc,.int .i64 n,x.val,y.val,.int .i64 (zU m)] w (YesB w):=by
 have HH:=hid h;have HX:=hid hx;have HY:=hid hy;have hn8:=h.n8;clear h hx hy;unfold TyV.val;go_enter Tryz.func27,Tryz.ntmps27;go_wp2_with fail
 obtain ⟨W,hW⟩: ∃W,W=(w.alloc (.cells #[.int .i64 x.k,.int .i64 x.n,.int .i64 x.c,.bool x.v,.slice x.a x.len x.cap,.string x.nm] 26)).alloc (.cells #[.int .i64 y.k,.int .i64 y.n,.int .i64 y.c,.bool y.v,.slice y.a y.len y.cap,.string y.nm] 26):=⟨_,rfl⟩;have FW:=hid (show Fr F0 w W by rw [hW];exact ((Fr.refl F0 w).alloc _).alloc _);have BX:=hid (show W.heap[w.heap.size]?=some (.cells #[.int .i64 x.k,.int .i64 x.n,.int .i64 x.c,.bool x.v,.slice x.a x.len x.cap,.string x.nm] 26 (0,0)) by rw [hW];exact ((Fr.refl F0 _).alloc _).heap id (heap_alloc_new w _))
 have BY:=hid (show W.heap[w.heap.size + 1]?=some (.cells #[.int .i64 y.k,.int .i64 y.n,.int .i64 y.c,.bool y.v,.slice y.a y.len y.cap,.string y.nm] 26 (0,0)) by rw [hW];exact zS w _ _);rw [<-hW];clear hW;refine (new_any n da dl dc W hn8).mono ?_;rintro e w1 ⟨B,rfl,hU,hf1,hM,hpo⟩;have HU:=hid hU;have F1:=hid hf1;have HM:=hid hM;have q0:=zA (hf1.heap id BX.out);have x0:=q0 0;have x1:=q0 1;have x2:=q0 2
 have x3:=q0 3;have x4:=q0 4;have x5:=q0 5;have q1:=zA (hf1.heap id BY.out);have y0:=q1 0;have y1:=q1 1;have y2:=q1 2;have y3:=q1 3;have y4:=q1 4;have y5:=q1 5;have s0:=World.block_lt_of_cell? _ _ (x0.trans rfl);have s1:=World.block_lt_of_cell? _ _ (y0.trans rfl);clear hU hf1 hM hpo q0 q1;go_wp2_with fail
 refine (unify18_any (HH.out.d.goodD) HH.out.d.ok s t x y m w1 B n St.init (.slice none 0 0) [] [] (uenv_new (HH.out.keep FW.out) F1.out HU.out HM.out) ⟨rfl,World.ownsRow_nil _ _ _ _,fun i p q h=>by simp at h⟩ (by simp)
  (fun g hg=>by cases hg) (xin_new (HX.out.keep FW.out) F1.out HM.out) (xin_new (HY.out.keep FW.out) F1.out HM.out) (Reached.init D)).mono ?_
 rintro e w2 ⟨B',pv',hBu,hf2,hM2,hcase⟩;have F2:=hid ((FW.out.trans F1.out).transNew hf2 fun b hb=> .inr (by have:=(HM.out b hb).1;have:=FW.out.size;omega));have FB2:=hid (F1.out.transNew hf2 fun b hb=> .inr (HM.out b hb).1);clear hf2 x0 x1 x2 x3 x4 x5 y0 y1 y2 y3 y4 y5 s0 s1;rcases hcase with ⟨rfl,s',hU2⟩ | ⟨rfl,hT,hr,s',hU2⟩ | ⟨rfl,hT,s',hr,hE2,_⟩
 ·obtain ⟨ja,cj,ka,ck,hu,_⟩:=hU2.u
  have u4:=zA hu 4;have su:=World.block_lt_of_cell? _ _ (u4.trans rfl);dsimp only at su;rw [hBu] at u4 su;clear hU2 hu;go_wp2;go_ret;exact ⟨rfl,F2.out⟩
 ·obtain ⟨ja,cj,ka,ck,hu,_⟩:=hU2.u
  have u4:=zA hu 4;have su:=World.block_lt_of_cell? _ _ (u4.trans rfl);dsimp only at su;rw [hBu] at u4 su;clear hU2 hu;obtain ⟨M,hM,hq⟩:=hT;obtain ⟨okk,hh⟩:=hq (s,t) (by simp);obtain ⟨hpok,hres⟩:=joint_one HH.out.d.ok hM HH.out.d.body HX.out.fit HY.out.fit okk hh m hr;have POK:=hid hpok;have RES:=hid hres;clear hpok hres hq hh okk hr;have q0:=zA (FB2.out.heap id BX.out);have x0:=q0 0;have x1:=q0 1
  have x2:=q0 2;have x3:=q0 3;have x4:=q0 4;have x5:=q0 5;have q1:=zA (FB2.out.heap id BY.out);have y0:=q1 0;have y1:=q1 1;have y2:=q1 2;have y3:=q1 3;have y4:=q1 4;have y5:=q1 5;have s0:=World.block_lt_of_cell? _ _ (x0.trans rfl);have s1:=World.block_lt_of_cell? _ _ (y0.trans rfl);clear q0 q1;go_wp2_with fail
  refine (unify20_any (dc:=dc) w2 (HH.out.keep F2.out).din m x y s t (HX.out.keep F2.out) (HY.out.keep F2.out) POK.out).mono ?_;rintro e w3 ⟨la,lc,ls,oks,s2,rfl,hf3,hp,hll,hinf,hlc⟩;have F3:=hid (F2.out.trans hf3);rw [show okB oks ([(s,t)]:List (Tm × Tm)).length=false from (RES.out oks s2 hp).1 trivial];clear hf3 hp hll hinf x0 x1 x2 x3 x4 x5 y0 y1 y2 y3 y4 y5;go_wp2;go_ret;exact ⟨rfl,F3.out⟩
 ·have HE2:=hid hE2
  obtain ⟨ja,cj,ka,ck,hu,_⟩:=hE2.U.u;have u4:=zA hu 4;have su:=World.block_lt_of_cell? _ _ (u4.trans rfl);dsimp only at su;rw [hBu] at u4 su;have HBU:=hid hBu;clear hE2 hu hBu;obtain ⟨M,hM,hq⟩:=hT;obtain ⟨okk,hh⟩:=hq (s,t) (by simp);obtain ⟨hpok,hres⟩:=joint_one HH.out.d.ok hM HH.out.d.body HX.out.fit HY.out.fit okk hh m hr;have POK:=hid hpok;have RES:=hid hres;obtain ⟨hinv,hlive⟩:=state_of HH.out.d.ok hM HH.out.d.body HX.out.fit HY.out.fit okk hh hr
  have INV:=hid hinv;have LIV:=hid hlive;clear hpok hres hq hh okk hr hinv hlive;have q0:=zA (FB2.out.heap id BX.out);have x0:=q0 0;have x1:=q0 1;have x2:=q0 2;have x3:=q0 3;have x4:=q0 4;have x5:=q0 5;have q1:=zA (FB2.out.heap id BY.out);have y0:=q1 0;have y1:=q1 1;have y2:=q1 2;have y3:=q1 3;have y4:=q1 4;have y5:=q1 5;have s0:=World.block_lt_of_cell? _ _ (x0.trans rfl);have s1:=World.block_lt_of_cell? _ _ (y0.trans rfl)
  clear q0 q1;go_wp2_with fail
  refine (unify20_any (dc:=dc) w2 (HH.out.keep F2.out).din m x y s t (HX.out.keep F2.out) (HY.out.keep F2.out) POK.out).mono ?_;rintro e w3 ⟨la,lc,ls,oks,s2,rfl,hf3,hp,hll,hinf,hlc⟩;have F3:=hid (F2.out.trans hf3);obtain ⟨hokb,hnear⟩:=(RES.out oks s2 hp).2 s' rfl;rw [show okB oks ([(s,t)]:List (Tm × Tm)).length=true from hokb];obtain ⟨N,hN⟩:=near_facts INV.out LIV.out hnear n
  have hwq:yS (WQ dl ar n) s2:=by
   cases hp with
   |ok _ s3 _ _ _ _ os h1 h2=>cases h2;exact nify_wq HH.out.d ⟨HX.out.fit,HX.out.h2⟩ ⟨HY.out.fit,HY.out.h2⟩ (fun P t h=>by simp [St.init] at h) (ren_id _) h1
   |fail=>cases hokb
  have AG:=agrees_any HE2.out.U N HE2.out.M w3 hf3 la lc ls ((List.range n).map fun p=>s2.v (s2.j p)) hinf.1 hll (by simp) (fun i p o hi ho=>by
   obtain ⟨h1,h2⟩:=hinf.2 i p o hi ho;have hin:i < n:=by have:=(List.getElem?_eq_some_iff.mp ho).1;simpa using this
   have ho':o=s2.v (s2.j i):=by
    rw [List.getElem?_map,List.getElem?_range hin] at ho;exact (Option.some.inj ho).symm
   obtain ⟨h3,h4⟩:=hN i hin;refine ⟨h1,by rw [ho'];exact h3,fun t ht=> ?_⟩;obtain ⟨h5,h6,h7⟩:=h4 t (by rw [<-ho'];exact ht);exact ⟨h2 t ht,(hwq (s2.j i) t (by rw [<-ho'];exact ht)).2,h5,h6,h7⟩)
  rw [HBU.out] at AG;have AGR:=hid AG;clear hf3 hp hll hinf hokb hnear hN hwq AG x0 x1 x2 x3 x4 x5 y0 y1 y2 y3 y4 y5;go_wp2_with fail
  refine AGR.out.mono ?_;rintro e w4 ⟨rfl,hf4⟩;have F4:=hid (F3.out.trans hf4);clear hf4;go_wp2;go_ret;exact ⟨rfl,F4.out⟩
structure ArgIn (w:World) (da:Option Addr) (dl dc:Nat):Prop where
 d: ∃ps,RawD w da dl dc ps
 tab:TabOk w
theorem ArgIn.keep {w w':World}{da:Option Addr}{dl dc:Nat}(h:ArgIn w da dl dc)(f:Fr F0 w w'):ArgIn w' da dl dc:=⟨h.d.imp fun _ hd=>hd.keep f,h.tab.keep f⟩
theorem Raw.small {w:World}{x:TyV}(h:Raw w x):x.len<=1954687338211:=by cases h with | mk _ xs hf _=>exact hf.bound.2.1
theorem rawL_two {w:World}{b:Nat}{x y:TyV}{t:TypeId}(h:w.heap[b]?=some (.cells (arr12 x y) t (0,0)))(hx:Raw w x)(hy:Raw w y):RawL w (some ⟨b,0,none⟩) 2 2 [x,y]:=by
 have q:=zA h;refine ⟨.inr ⟨b,0,rfl,fun i p hp=> ?_⟩,rfl,fun i p hp=> ?_,by omega⟩
 ·match i,hp with
  |0,hp=>cases hp;exact ⟨id,q 0,q 1,q 2,q 3,q 4,q 5⟩
  |1,hp=>cases hp;exact ⟨id,q 6,q 7,q 8,q 9,q 10,q 11⟩
 ·match i,hp with
  |0,hp=>cases hp;exact hx
  |1,hp=>cases hp;exact hy
theorem valid_two {w w':World}{da:Option Addr}{dl:Nat}{n:Int}{x y:TyV}(h:ValidT w da dl n [x,y])(ht:TabOk w)(f:Fr F0 w w'):
 ∃(N:Nat) (ar:Nat->Nat) (D:zE) (s t:Tm),n=N/\LIn w' da dl ar D N/\TIn w' dl ar N x s/\TIn w' dl ar N y t:=by
 obtain ⟨N,hn,h8,h16,ar,D,hD,hs⟩:=h;obtain ⟨s,hs0⟩:=hs 0 x rfl;obtain ⟨t,ht0⟩:=hs 1 y rfl;exact ⟨N,ar,D,s,t,hn,(⟨hD,h8,ht⟩:LIn w da dl ar D N).keep f,hs0.tin.keep f,ht0.tin.keep f⟩
end Go.Proofs.YtpekidjfbinekaaGreatDoor
