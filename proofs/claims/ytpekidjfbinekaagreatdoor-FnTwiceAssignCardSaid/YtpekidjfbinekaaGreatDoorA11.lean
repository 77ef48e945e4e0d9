/- W5, W6, R1 -/
import Derived.Test.YtpekidjfbinekaaGreatDoorA10
set_option maxRecDepth 100000
set_option maxHeartbeats 60000000
set_option linter.all false
namespace Go.Proofs.YtpekidjfbinekaaGreatDoor
open Go.RowKit Uni
def row7 (w:World)(b p:Nat)(k:Bool)(y:TyV):World:=
 (((((((w.setCell ⟨b,p * 7,none⟩ (.bool k)).setCell ⟨b,p * 7 + 1,none⟩ (.int .i64 y.k)).setCell ⟨b,p * 7 + 2,none⟩ (.int .i64 y.n)).setCell ⟨b,p * 7 + 3,none⟩ (.int .i64 y.c)).setCell ⟨b,p * 7 + 4,none⟩ (.bool y.v)).setCell
   ⟨b,p * 7 + 5,none⟩ (.slice y.a y.len y.cap)).setCell ⟨b,p * 7 + 6,none⟩ (.string y.nm))
def set7 (c:Array Value)(p:Nat)(k:Bool)(y:TyV):Array Value:=
 (((((((c.setIfInBounds (p * 7) (.bool k)).setIfInBounds (p * 7 + 1) (.int .i64 y.k)).setIfInBounds (p * 7 + 2) (.int .i64 y.n)).setIfInBounds (p * 7 + 3) (.int .i64 y.c)).setIfInBounds (p * 7 + 4) (.bool y.v)).setIfInBounds
   (p * 7 + 5) (.slice y.a y.len y.cap)).setIfInBounds (p * 7 + 6) (.string y.nm))
theorem Fr.row7 {M:Nat->Prop}{a w:World}(h:Fr M a w){b:Nat}(hb:M b\/a.heap.size<=b)(p:Nat)(k:Bool)(y:TyV):Fr M a (row7 w b p k y):=
 ((((((h.setCell hb _).setCell hb _).setCell hb _).setCell hb _).setCell hb _).setCell hb _).setCell hb _
theorem heap_row7 {w:World}{b:Nat}{c:Array Value}{t:TypeId}{fr:Nat × Nat}(h:w.heap[b]?=some (.cells c t fr))(p:Nat)(k:Bool)(y:TyV):
 (row7 w b p k y).heap[b]?=some (.cells (set7 c p k y) t fr):=by
 have h0:=heap_setCell (a:=⟨b,p * 7,none⟩) (v:= .bool k) h rfl;have h1:=heap_setCell (a:=⟨b,p * 7 + 1,none⟩) (v:= .int .i64 y.k) h0 rfl;have h2:=heap_setCell (a:=⟨b,p * 7 + 2,none⟩) (v:= .int .i64 y.n) h1 rfl;have h3:=heap_setCell (a:=⟨b,p * 7 + 3,none⟩) (v:= .int .i64 y.c) h2 rfl;have h4:=heap_setCell (a:=⟨b,p * 7 + 4,none⟩) (v:= .bool y.v) h3 rfl;have h5:=heap_setCell (a:=⟨b,p * 7 + 5,none⟩) (v:= .slice y.a y.len y.cap) h4 rfl
 exact heap_setCell (a:=⟨b,p * 7 + 6,none⟩) (v:= .string y.nm) h5 rfl
theorem row7_other {w:World}{b p:Nat}{k:Bool}{y:TyV}{i:Nat}(hi:i≠b):(row7 w b p k y).heap[i]?=w.heap[i]?:=by
 unfold row7;simp only [Below.heap_setCell _ _ _ _ (show i≠(⟨b,_,none⟩:Addr).block from hi)]
theorem set7_far (c:Array Value)(p:Nat)(k:Bool)(y:TyV)(i:Nat)(hi:i < p * 7\/p * 7 + 6 < i):(set7 c p k y)[i]?=c[i]?:=by
 unfold set7;simp only [Array.getElem?_setIfInBounds]
 repeat rw [if_neg (by omega)]
theorem set7_at (c:Array Value)(p:Nat)(k:Bool)(y:TyV)(hs:p * 7 + 6 < c.size)(w:World)(M:Nat->Prop)(o:Option Tm)(hk:k=o.isSome)(hy: ∀t,o=some t->RT w M y t):KnownAt w M (set7 c p k y) p o:=by
 subst hk;refine ⟨y,?_,?_,?_,?_,?_,?_,?_,hy⟩ <;>unfold set7 <;>simp [Array.getElem?_setIfInBounds] <;>omega
theorem KnownAt.far {w:World}{M:Nat->Prop}{c:Array Value}{q:Nat}{o:Option Tm}(h:KnownAt w M c q o){p:Nat}(hp:p≠q)(k:Bool)(y:TyV):KnownAt w M (set7 c p k y) q o:=by
 obtain ⟨z,a0,a1,a2,a3,a4,a5,a6,a7⟩:=h;refine ⟨z,?_,?_,?_,?_,?_,?_,?_,a7⟩ <;>rw [set7_far _ _ _ _ _ (by omega)] <;>assumption
theorem KnownAt.size {w:World}{M:Nat->Prop}{c:Array Value}{q:Nat}{o:Option Tm}(h:KnownAt w M c q o):q * 7 + 6 < c.size:=by
 obtain ⟨z,_,_,_,_,_,_,a6,_⟩:=h;have:=(Array.getElem?_eq_some_iff.1 a6).1;omega
theorem KnownAt.keep {w w':World}{M:Nat->Prop}{c:Array Value}{q:Nat}{o:Option Tm}(h:KnownAt w M c q o)(f:Fr M w w'):KnownAt w' M c q o:=by
 obtain ⟨z,a0,a1,a2,a3,a4,a5,a6,a7⟩:=h;exact ⟨z,a0,a1,a2,a3,a4,a5,a6,fun t ht=>(a7 t ht).keep f⟩
theorem URep.put {w:World}{B:UB}{n:Nat}{s:St}{dv pv:Value}{sil:Bool}(h:URep w B n s dv pv sil)(P:Nat)(hP:P < n)(y:TyV)(o:Option Tm)(hy: ∀t,o=some t->RT w B.M y t)(hh: ∀t,o=some t->Holes 2 n t):
 URep (row7 w B.k P o.isSome y) B n {s with v:=fun i=>if i=P then o else s.v i} dv pv sil:=by
 obtain ⟨hu,hj,hk,h1,h2,h3,h4,h5,h6⟩:=h;have F:Fr B.M w (row7 w B.k P o.isSome y):=(Fr.refl _ w).row7 (.inl (.inr (.inr (.inl rfl)))) _ _ _;refine ⟨?_,fun hn=> ?_,fun hn=> ?_,h1,fun p t hp ht=> ?_,h3,h4,⟨Nat.lt_of_lt_of_le h5.1 F.size,fun hn=>⟨Nat.lt_of_lt_of_le (h5.2 hn).1 F.size,Nat.lt_of_lt_of_le (h5.2 hn).2 F.size⟩⟩,fun o ho=>⟨by rw [row7_other ((h6 o ho).2.2 (by omega)).2];exact (h6 o ho).1,(h6 o ho).2⟩⟩
 ·obtain ⟨ja,cj,ka,ck,h,h'⟩:=hu
  exact ⟨ja,cj,ka,ck,by rw [row7_other (h4 (by omega)).2.1];exact h,h'⟩
 ·obtain ⟨c,h,h'⟩:=hj hn
  exact ⟨c,by rw [row7_other (h4 hn).2.2];exact h,h'⟩
 ·obtain ⟨c,h,h'⟩:=hk hn
  refine ⟨_,heap_row7 h P _ y,fun p hp=> ?_⟩;by_cases hpp:p=P
  ·subst hpp
   simp only [if_true];exact set7_at c p _ y (h' p hp).size _ _ o rfl fun t ht=>(hy t ht).keep F
  ·simp only [if_neg hpp]
   exact ((h' p hp).far (Ne.symm hpp) _ y).keep F
 ·dsimp only at ht
  split at ht
  ·exact hh t ht
  ·exact h2 p t hp ht
theorem set_any (N:Nat)(t:Tm)(x:TyV)(P:Nat)(w:World)(B:UB)(n:Nat)(s:St)(dv pv:Value)(sil:Bool)(hc:xI N s t P=some false)(hP:P < n)(hU:URep w B n s dv pv sil)(hx:RT w B.M x t)(hh:Holes 2 n t):
 Calls Tryz.prog 68 #[.pointer (some ⟨B.u,0,none⟩),.int .i64 P,x.val] w fun e w'=>e= .returned (.bool true)/\URep w' B n (s.putAt P t) dv pv sil/\Fr B.M w w':=by
 have CT:=hid (fun (w':World) (f:Fr F0 w w')=>vA N t x P false w' B n s dv pv sil hc (hU.keep f) (hx.keep f.sub) hh);have HU:=hid hU;have HX:=hid hx;have HH:=hid hh;clear hc hU hx hh;have hPn:(P:Int) < n:=by omega
 obtain ⟨xk,xn,xc,xv,xa,xlen,xcap,xnm⟩:=x;unfold TyV.val at *;dsimp only at *;have szu:=HU.out.size.1;have FX:=hid ((Fr.refl F0 w).alloc (.cells #[.int .i64 xk,.int .i64 xn,.int .i64 xc,.bool xv,.slice xa xlen xcap,.string xnm] 26));go_enter Tryz.func68,Tryz.ntmps68;go_wp2_with fail
 refine (CT.out _ FX.out).mono ?_;rintro e w1 ⟨rfl,hf1⟩;have F1:=hid (FX.out.trans hf1);have c0:=hf1.heap (b:=w.heap.size) id (heap_alloc_new w _);clear hf1;have U1:=HU.out.keep F1.out;have UU:=hid U1;obtain ⟨ja,cj,ka,ck,hu,hjk⟩:=U1.u;obtain ⟨rfl,rfl⟩:=hjk (by omega);obtain ⟨c2,hk,hk'⟩:=U1.k (by omega);have SZK:=hid (hk' P hP).size;have q0:=zA c0;have u2:=zA hu 2;obtain ⟨y,a0,a1,a2,a3,a4,a5,a6,_⟩:=hk' P hP
 have qk:=fun i=>zA hk i
 have k0:=(qk _).trans a0;have k1:=(qk _).trans a1;have k2:=(qk _).trans a2;have k3:=(qk _).trans a3;have k4:=(qk _).trans a4;have k5:=(qk _).trans a5;have k6:=(qk _).trans a6;have fk:=fun i=>zC hk i
 clear a0 a1 a2 a3 a4 a5 a6 qk;have szk:=World.block_lt_of_cell? _ _ k0;have szu1:=World.block_lt_of_cell? _ _ u2;clear c0 hu hk hk' U1 hjk;go_wp2;refine zP 7 (by kernel_rfl) ?_;simp only [List.take_succ_cons,List.take_zero,List.drop_succ_cons,List.drop_zero]
 repeat still_step
 refine wpStill_nil ?_;go_wp2;go_ret;have h1:=((HU.out.keep F1.out).put P hP ⟨xk,xn,xc,xv,xa,xlen,xcap,xnm⟩ (some t) (fun _ ht=>by cases ht;exact HX.out.keep F1.out.sub) (fun _ ht=>by cases ht;exact HH.out)).keep (Fr.refl _ _).drew;have h2:=(F1.out.sub.row7 (M:=B.M) (.inl (.inr (.inr (.inl rfl)))) P true ⟨xk,xn,xc,xv,xa,xlen,xcap,xnm⟩).drew;exact ⟨rfl,h1,h2⟩
theorem URep.setJ {w w':World}{B:UB}{n:Nat}{s:St}{dv pv:Value}{sil:Bool}(h:URep w B n s dv pv sil)(hn0:0 < n)(f:Fr (fun b=>b=B.j) w w')(j':Nat->Nat)(c:Array Value)(hc:w'.heap[B.j]?=some (.cells c 3 (0,0)))
 (hj': ∀p,p < n->c[p]?=some (.int .i64 (j' p))) (hl: ∀p,p < n->j' p < n):URep w' B n {s with j:=j'} dv pv sil:=by
 obtain ⟨hu,hj,hk,h1,h2,h3,h4,h5,h6⟩:=h;have F:Fr B.M w w':=f.mono fun b _ h=> .inr (.inl h)
 refine ⟨?_,fun hn=>⟨c,hc,hj'⟩,fun hn=> ?_,hl,h2,h3,h4,⟨Nat.lt_of_lt_of_le h5.1 F.size,fun hn=>⟨Nat.lt_of_lt_of_le (h5.2 hn).1 F.size,Nat.lt_of_lt_of_le (h5.2 hn).2 F.size⟩⟩,fun o ho=>⟨f.heap ((h6 o ho).2.2 hn0).1 (h6 o ho).1,(h6 o ho).2⟩⟩
 ·obtain ⟨ja,cj,ka,ck,h,h'⟩:=hu
  exact ⟨ja,cj,ka,ck,f.heap (h4 hn0).1 h,h'⟩
 ·obtain ⟨c,h,h'⟩:=hk hn
  exact ⟨c,f.heap (fun h=>(h4 hn).2.2 h.symm) h,fun p hp=>(h' p hp).keep F⟩
theorem join_any (N:Nat)(P Q:Nat)(w:World)(B:UB)(n:Nat)(s:St)(dv pv:Value)(sil:Bool)(hP:P < n)(hQ:Q < n)(hU:URep w B n s dv pv sil)(hnb:s.v P=none\/s.v Q=none)
 (hc: ∀t,s.v P=some t\/s.v Q=some t->xI N s t P=some false/\xI N s t Q=some false):
 Calls Tryz.prog 49 #[.pointer (some ⟨B.u,0,none⟩),.int .i64 P,.int .i64 Q] w fun e w'=>e= .returned (.bool true)/\URep w' B n (s.join P Q) dv pv sil/\Fr B.M w w':=by
 have HU:=hid hU;have HC:=hid hc;clear hc;have hPn:(P:Int) < n:=by omega
 have hQn:(Q:Int) < n:=by omega
 obtain ⟨ja,cj,ka,ck,hu,hjk⟩:=hU.u;obtain ⟨rfl,rfl⟩:=hjk (by omega);obtain ⟨c1,hj,hj'⟩:=hU.j (by omega);obtain ⟨c2,hk,hk'⟩:=hU.k (by omega);have HUU:=hid hu;have HJ:=hid hj;have HJ':=hid hj';have HK:=hid hk;have HK':=hid hk';have szu:=hU.size.1;have szj:=(hU.size.2 (by omega)).1;have szk:=(hU.size.2 (by omega)).2;clear hj hj' hjk;obtain ⟨y,a0,a1,a2,a3,a4,a5,a6,a7⟩:=hk' P hP;obtain ⟨z,b0,b1,b2,b3,b4,b5,b6,b7⟩:=hk' Q hQ
 have u1:=zA hu 1;have u2:=zA hu 2;have qk:=fun i=>zA hk i
 have k0:=(qk _).trans a0;have k1:=(qk _).trans a1;have k2:=(qk _).trans a2;have k3:=(qk _).trans a3;have k4:=(qk _).trans a4;have k5:=(qk _).trans a5;have k6:=(qk _).trans a6;have l0:=(qk _).trans b0;have l1:=(qk _).trans b1;have l2:=(qk _).trans b2;have l3:=(qk _).trans b3;have l4:=(qk _).trans b4;have l5:=(qk _).trans b5;have l6:=(qk _).trans b6;clear a0 a1 a2 a3 a4 a5 a6 b0 b1 b2 b3 b4 b5 b6 qk hk hk' hu hU
 have A7:=hid a7;have B7:=hid b7;clear a7 b7;have NB:=hid hnb;clear hnb;obtain ⟨o,ho⟩: ∃o,o=(match s.v P with | some t=>some t | none=>s.v Q):=⟨_,rfl⟩;have HO:=hid ho;clear ho;have main: ∀(cells:Array Value),True:=fun _=>trivial
 clear main;have FL:=fun (C:Array Value)=>(Fr.refl F0 w).alloc (.cells C 45)
 have FLH:=hid FL;clear FL;obtain ⟨o,ho⟩: ∃o,o=(match s.v P with | some t=>some t | none=>s.v Q):=⟨_,rfl⟩;have HO:=hid ho;clear ho;have FL:=fun (C:Array Value)=>(Fr.refl F0 w).alloc (.cells C 45)
 have FLH:=hid FL;clear FL;have NE:=hid (HU.out.ne (by omega)).1;have hn8:=HU.out.n8
 cases hvP:s.v P with
 |some t=>
  replace k0:w.cell? ⟨B.k,P * 7,none⟩=some (.bool true):=by rw [k0,hvP];rfl
  have VP:=hid hvP;clear hvP;clear l0 l1 l2 l3 l4 l5 l6;have C1:=fun (w':World) (f:Fr F0 w w')=>vA N t y P false w' B n s dv pv sil (HC.out t (.inl VP.out)).1 (HU.out.keep f) ((A7.out t VP.out).keep f.sub) (HU.out.holes P t hP VP.out)
  have C2:=fun (w':World) (f:Fr F0 w w')=>vA N t y Q false w' B n s dv pv sil (HC.out t (.inl VP.out)).2 (HU.out.keep f) ((A7.out t VP.out).keep f.sub) (HU.out.holes P t hP VP.out)
  have CC1:=hid C1;have CC2:=hid C2;clear C1 C2;go_enter Tryz.func49,Tryz.ntmps49;go_wp2_with fail
  refine (CC1.out _ (FLH.out _)).mono ?_;rintro e w1 ⟨rfl,hf1⟩;have LB1:=hf1.heap (b:=w.heap.size) id (heap_alloc_new w _);have F1:=hid ((FLH.out _).trans hf1);clear hf1;have LBH:=hid LB1;have lq:=zA LB1;clear LB1;go_wp2_with fail
  refine (CC2.out _ F1.out).mono ?_;rintro e W2 ⟨rfl,hf2⟩;have LB:=hid (hf2.heap (b:=w.heap.size) id LBH.out);have FW:=hid (F1.out.trans hf2);clear hf2 LBH F1 lq;have OB:Hid (o.isSome=true):=by have:=HO.out;rw [VP.out] at this;rw [this];rfl
  have YR:Hid (∀u,o=some u->RT w B.M y u/\Holes 2 n u):=fun u hu=>by
   have:=HO.out;rw [VP.out] at this;rw [this] at hu;cases hu;exact ⟨A7.out _ VP.out,HU.out.holes P _ hP VP.out⟩
  have u1':=zA (FW.out.heap id HUU.out) 1;go_wp2;go_loopw [8,9,51] (fun _ _ i wr=> ∃j:Nat,j<=n/\i= .int .i64 j/\Fr (fun b=>b=B.j) W2 wr/\ ∃c,wr.heap[B.j]?=some (.cells c 3 (0,0))/\ ∀p,p < n->c[p]?=some (.int .i64 (if p < j then (s.join P Q).j p else s.j p))) (fun _ _ i _=>n - (intOf i).toNat)
  case atStart=>exact ⟨0,Nat.zero_le _,rfl,Fr.refl _ _,_,FW.out.heap id HJ.out,fun p hp=>by simpa using HJ'.out p hp⟩
  case round=>
   obtain ⟨j,hj,rfl,hf,c,hc1,hc2⟩:=hrel;have HF:=hid hf;have C1:=hid hc1;have C2:=hid hc2;clear u1';by_cases hlt:j < n
   ·have qj:=(zA hc1 j).trans (hc2 j hlt)
    rw [if_neg (Nat.lt_irrefl j)] at qj;have fj:=zC hc1 j;have u1':=zA (HF.out.heap NE.out (FW.out.heap id HUU.out)) 1;clear hf hc1 hc2;have hjn:(j:Int) < n:=by omega
    have FWR:=hid (FW.out.sub.trans HF.out:Fr (fun b=>b=B.j) w wr);have rel': ∀p,p < n->(c.setIfInBounds j (.int .i64 (if Q < P then (Q:Int) else P)))[p]?=some (.int .i64 (if p < j + 1 then (if p=j then ((min P Q:Nat):Int) else (s.join P Q).j p) else s.j p)):=fun p hp=>by
     have hcs:j < c.size:=(Array.getElem?_eq_some_iff.1 (C2.out j hlt)).1;rw [Array.getElem?_setIfInBounds];by_cases hpj:j=p
     ·subst hpj
      rw [if_pos rfl,if_pos hcs,if_pos (Nat.lt_succ_self j),if_pos rfl]
      congr 2;split <;>omega
     ·rw [if_neg hpj,C2.out p hp]
      by_cases hpl:p < j
      ·rw [if_pos hpl,if_pos (by omega),if_neg (fun h=>hpj h.symm)]
      ·rw [if_neg hpl,if_neg (by omega)]
    have RL:=hid rel';clear rel';have hmin: ∀p:Nat,p=j->(s.j j=P\/s.j j=Q)->(s.join P Q).j p=min P Q:=fun p hp h=>by subst hp;simp only [St.join,if_pos h]
    have HMIN:=hid hmin;clear hmin;by_cases hm1:s.j j=P
    ·have f1:((s.j j:Int)==P)=true:=beq_iff_eq.2 (by omega)
     have HM1:=hid hm1;clear hm1;go_wp2;go_roundw
     case rel=>
      refine ⟨j + 1,by omega,by go_num,HF.out.setCell (.inl rfl) _,_,heap_setCell (a:=⟨B.j,j,none⟩) C1.out rfl,fun p hp=> ?_⟩;refine (RL.out p hp).trans ?_;by_cases hpj:p=j
      ·simp only [if_pos hpj,HMIN.out p hpj (.inl HM1.out),if_pos (show p < j + 1 by omega)]
      ·rw [if_neg hpj]
     case measure=>simp [intOf];omega
    ·by_cases hm2:s.j j=Q
     ·have f1:((s.j j:Int)==P)=false:=beq_eq_false_iff_ne.2 (fun h=>hm1 (by omega))
      have f2:((s.j j:Int)==Q)=true:=beq_iff_eq.2 (by omega);have HM1:=hid hm1;have HM2:=hid hm2;clear hm1 hm2;go_wp2;go_roundw
      case rel=>
       refine ⟨j + 1,by omega,by go_num,HF.out.setCell (.inl rfl) _,_,heap_setCell (a:=⟨B.j,j,none⟩) C1.out rfl,fun p hp=> ?_⟩;refine (RL.out p hp).trans ?_;by_cases hpj:p=j
       ·simp only [if_pos hpj,HMIN.out p hpj (.inr HM2.out),if_pos (show p < j + 1 by omega)]
       ·rw [if_neg hpj]
      case measure=>simp [intOf];omega
     ·have f1:((s.j j:Int)==P)=false:=beq_eq_false_iff_ne.2 (fun h=>hm1 (by omega))
      have f2:((s.j j:Int)==Q)=false:=beq_eq_false_iff_ne.2 (fun h=>hm2 (by omega));have HM1:=hid hm1;have HM2:=hid hm2;clear hm1 hm2;go_wp2;go_roundw
      case rel=>
       refine ⟨j + 1,by omega,by go_num,HF.out,c,C1.out,fun p hp=> ?_⟩;rw [C2.out p hp];by_cases hpj:p=j
       ·subst hpj
        rw [if_neg (Nat.lt_irrefl p),if_pos (Nat.lt_succ_self p)];simp only [St.join,if_neg (show ¬(s.j p=P\/s.j p=Q) from fun h=>h.elim HM1.out HM2.out)]
       ·by_cases hpl:p < j
        ·rw [if_pos hpl,if_pos (by omega)]
        ·rw [if_neg hpl,if_neg (by omega)]
      case measure=>simp [intOf];omega
   ·have hjn:j=n:=by omega
    have JN:=hid hjn;clear hjn;have FWR:=hid (FW.out.sub.trans HF.out:Fr (fun b=>b=B.j) w wr);have nl: ¬w.heap.size=B.j:=by omega
    have hl:=FWR.out;have lb:=HF.out.heap nl LB.out;have lq:=zA lb;have u2':=zA (FWR.out.heap NE.out HUU.out) 2;have hkb:=FWR.out.heap (b:=B.k) (fun h=>(HU.out.ne (by omega)).2.2 h.symm) HK.out;have qk:=fun i=>zA hkb i
    have fk:=fun i=>zC hkb i
    have szw:=FWR.out.size;have szu1:B.u < wr.heap.size:=by omega
    have szk1:B.k < wr.heap.size:=by omega
    have szl1:w.heap.size < wr.heap.size:=World.block_lt_of_cell? _ _ (lq 0);have hj2:Fr B.M w wr:=FWR.out.mono fun b _ h=> .inr (.inl h)
    have J2:=hid hj2;have upd: ∀(m:Nat),m=min P Q->URep (row7 wr B.k m o.isSome y).drew B n (s.join P Q) dv pv sil/\Fr B.M w (row7 wr B.k m o.isSome y).drew:=by
     rintro m rfl;have hU1:=HU.out.setJ (by omega) FWR.out (s.join P Q).j c C1.out (fun p hp=>by have:=C2.out p hp;rw [if_pos (by have:=JN.out;omega)] at this;exact this) (fun p hp=>by
      simp only [St.join];split
      ·omega
      ·exact HU.out.lt p hp)
     have hU2:=hU1.put (min P Q) (by omega) y o (fun u hu=>(YR.out u hu).1.keep J2.out) (fun u hu=>(YR.out u hu).2);have e:({({s with j:=(s.join P Q).j}:St) with v:=fun i=>if i=min P Q then o else ({s with j:=(s.join P Q).j}:St).v i}:St)=s.join P Q:=by
      rw [HO.out];rfl
     rw [e] at hU2;exact ⟨hU2.keep (Fr.refl _ _).drew,(J2.out.row7 (.inl (.inr (.inr (.inl rfl)))) _ _ _).drew⟩
    have UPD:=hid upd;clear hl lb hkb szw hj2 upd;by_cases hqp:Q < P
    ·obtain ⟨m0,g0,g1,g2,g3,g4,g5,g6,_⟩:=HK'.out Q hQ
     have r0:=(qk _).trans g0;have r1:=(qk _).trans g1;have r2:=(qk _).trans g2;have r3:=(qk _).trans g3;have r4:=(qk _).trans g4;have r5:=(qk _).trans g5;have r6:=(qk _).trans g6;clear g0 g1 g2 g3 g4 g5 g6 qk;go_wp2;refine zP 8 (by kernel_rfl) ?_;simp only [List.take_succ_cons,List.take_zero,List.drop_succ_cons,List.drop_zero]
     repeat still_step
     refine wpStill_nil ?_;go_wp2;go_ret;have hU2:=UPD.out Q (by omega);rw [OB.out] at hU2;exact ⟨rfl,hU2.1,hU2.2⟩
    ·obtain ⟨m0,g0,g1,g2,g3,g4,g5,g6,_⟩:=HK'.out P hP
     have r0:=(qk _).trans g0;have r1:=(qk _).trans g1;have r2:=(qk _).trans g2;have r3:=(qk _).trans g3;have r4:=(qk _).trans g4;have r5:=(qk _).trans g5;have r6:=(qk _).trans g6;clear g0 g1 g2 g3 g4 g5 g6 qk;go_wp2;refine zP 8 (by kernel_rfl) ?_;simp only [List.take_succ_cons,List.take_zero,List.drop_succ_cons,List.drop_zero]
     repeat still_step
     refine wpStill_nil ?_;go_wp2;go_ret;have hU2:=UPD.out P (by omega);rw [OB.out] at hU2;exact ⟨rfl,hU2.1,hU2.2⟩
 |none=>
  replace k0:w.cell? ⟨B.k,P * 7,none⟩=some (.bool false):=by rw [k0,hvP];rfl
  have VP:=hid hvP;clear hvP
  cases hvQ:s.v Q with
  |some t=>
   replace l0:w.cell? ⟨B.k,Q * 7,none⟩=some (.bool true):=by rw [l0,hvQ];rfl
   have VQ:=hid hvQ;clear hvQ;have C1:=fun (w':World) (f:Fr F0 w w')=>vA N t z P false w' B n s dv pv sil (HC.out t (.inr VQ.out)).1 (HU.out.keep f) ((B7.out t VQ.out).keep f.sub) (HU.out.holes Q t hQ VQ.out)
   have C2:=fun (w':World) (f:Fr F0 w w')=>vA N t z Q false w' B n s dv pv sil (HC.out t (.inr VQ.out)).2 (HU.out.keep f) ((B7.out t VQ.out).keep f.sub) (HU.out.holes Q t hQ VQ.out)
   have CC1:=hid C1;have CC2:=hid C2;clear C1 C2;go_enter Tryz.func49,Tryz.ntmps49;go_wp2_with fail
   clear k1 k2 k3 k4 k5 k6 l1 l2 l3 l4 l5 l6 k0 l0 A7;obtain ⟨y,rfl⟩: ∃y:TyV,y=z:=⟨z,rfl⟩;refine (CC1.out _ (FLH.out _)).mono ?_;rintro e w1 ⟨rfl,hf1⟩;have LB1:=hf1.heap (b:=w.heap.size) id (heap_alloc_new w _);have F1:=hid ((FLH.out _).trans hf1);clear hf1;have LBH:=hid LB1;have lq:=zA LB1;clear LB1;go_wp2_with fail
   refine (CC2.out _ F1.out).mono ?_;rintro e W2 ⟨rfl,hf2⟩;have LB:=hid (hf2.heap (b:=w.heap.size) id LBH.out);have FW:=hid (F1.out.trans hf2);clear hf2 LBH F1 lq;have OB:Hid (o.isSome=true):=by have:=HO.out;rw [VP.out,VQ.out] at this;rw [this];rfl
   have YR:Hid (∀u,o=some u->RT w B.M y u/\Holes 2 n u):=fun u hu=>by
    have:=HO.out;rw [VP.out,VQ.out] at this;rw [this] at hu;cases hu;exact ⟨B7.out _ VQ.out,HU.out.holes Q _ hQ VQ.out⟩
   have u1':=zA (FW.out.heap id HUU.out) 1;go_wp2;go_loopw [8,9,51] (fun _ _ i wr=> ∃j:Nat,j<=n/\i= .int .i64 j/\Fr (fun b=>b=B.j) W2 wr/\ ∃c,wr.heap[B.j]?=some (.cells c 3 (0,0))/\ ∀p,p < n->c[p]?=some (.int .i64 (if p < j then (s.join P Q).j p else s.j p))) (fun _ _ i _=>n - (intOf i).toNat)
   case atStart=>exact ⟨0,Nat.zero_le _,rfl,Fr.refl _ _,_,FW.out.heap id HJ.out,fun p hp=>by simpa using HJ'.out p hp⟩
   case round=>
    obtain ⟨j,hj,rfl,hf,c,hc1,hc2⟩:=hrel;have HF:=hid hf;have C1:=hid hc1;have C2:=hid hc2;clear u1';by_cases hlt:j < n
    ·have qj:=(zA hc1 j).trans (hc2 j hlt)
     rw [if_neg (Nat.lt_irrefl j)] at qj;have fj:=zC hc1 j;have u1':=zA (HF.out.heap NE.out (FW.out.heap id HUU.out)) 1;clear hf hc1 hc2;have hjn:(j:Int) < n:=by omega
     have FWR:=hid (FW.out.sub.trans HF.out:Fr (fun b=>b=B.j) w wr);have rel': ∀p,p < n->(c.setIfInBounds j (.int .i64 (if Q < P then (Q:Int) else P)))[p]?=some (.int .i64 (if p < j + 1 then (if p=j then ((min P Q:Nat):Int) else (s.join P Q).j p) else s.j p)):=fun p hp=>by
      have hcs:j < c.size:=(Array.getElem?_eq_some_iff.1 (C2.out j hlt)).1;rw [Array.getElem?_setIfInBounds];by_cases hpj:j=p
      ·subst hpj
       rw [if_pos rfl,if_pos hcs,if_pos (Nat.lt_succ_self j),if_pos rfl]
       congr 2;split <;>omega
      ·rw [if_neg hpj,C2.out p hp]
       by_cases hpl:p < j
       ·rw [if_pos hpl,if_pos (by omega),if_neg (fun h=>hpj h.symm)]
       ·rw [if_neg hpl,if_neg (by omega)]
     have RL:=hid rel';clear rel';have hmin: ∀p:Nat,p=j->(s.j j=P\/s.j j=Q)->(s.join P Q).j p=min P Q:=fun p hp h=>by subst hp;simp only [St.join,if_pos h]
     have HMIN:=hid hmin;clear hmin;by_cases hm1:s.j j=P
     ·have f1:((s.j j:Int)==P)=true:=beq_iff_eq.2 (by omega)
      have HM1:=hid hm1;clear hm1;go_wp2;go_roundw
      case rel=>
       refine ⟨j + 1,by omega,by go_num,HF.out.setCell (.inl rfl) _,_,heap_setCell (a:=⟨B.j,j,none⟩) C1.out rfl,fun p hp=> ?_⟩;refine (RL.out p hp).trans ?_;by_cases hpj:p=j
       ·simp only [if_pos hpj,HMIN.out p hpj (.inl HM1.out),if_pos (show p < j + 1 by omega)]
       ·rw [if_neg hpj]
      case measure=>simp [intOf];omega
     ·by_cases hm2:s.j j=Q
      ·have f1:((s.j j:Int)==P)=false:=beq_eq_false_iff_ne.2 (fun h=>hm1 (by omega))
       have f2:((s.j j:Int)==Q)=true:=beq_iff_eq.2 (by omega);have HM1:=hid hm1;have HM2:=hid hm2;clear hm1 hm2;go_wp2;go_roundw
       case rel=>
        refine ⟨j + 1,by omega,by go_num,HF.out.setCell (.inl rfl) _,_,heap_setCell (a:=⟨B.j,j,none⟩) C1.out rfl,fun p hp=> ?_⟩;refine (RL.out p hp).trans ?_;by_cases hpj:p=j
        ·simp only [if_pos hpj,HMIN.out p hpj (.inr HM2.out),if_pos (show p < j + 1 by omega)]
        ·rw [if_neg hpj]
       case measure=>simp [intOf];omega
      ·have f1:((s.j j:Int)==P)=false:=beq_eq_false_iff_ne.2 (fun h=>hm1 (by omega))
       have f2:((s.j j:Int)==Q)=false:=beq_eq_false_iff_ne.2 (fun h=>hm2 (by omega));have HM1:=hid hm1;have HM2:=hid hm2;clear hm1 hm2;go_wp2;go_roundw
       case rel=>
        refine ⟨j + 1,by omega,by go_num,HF.out,c,C1.out,fun p hp=> ?_⟩;rw [C2.out p hp];by_cases hpj:p=j
        ·subst hpj
         rw [if_neg (Nat.lt_irrefl p),if_pos (Nat.lt_succ_self p)];simp only [St.join,if_neg (show ¬(s.j p=P\/s.j p=Q) from fun h=>h.elim HM1.out HM2.out)]
        ·by_cases hpl:p < j
         ·rw [if_pos hpl,if_pos (by omega)]
         ·rw [if_neg hpl,if_neg (by omega)]
       case measure=>simp [intOf];omega
    ·have hjn:j=n:=by omega
     have JN:=hid hjn;clear hjn;have FWR:=hid (FW.out.sub.trans HF.out:Fr (fun b=>b=B.j) w wr);have nl: ¬w.heap.size=B.j:=by omega
     have hl:=FWR.out;have lb:=HF.out.heap nl LB.out;have lq:=zA lb;have u2':=zA (FWR.out.heap NE.out HUU.out) 2;have hkb:=FWR.out.heap (b:=B.k) (fun h=>(HU.out.ne (by omega)).2.2 h.symm) HK.out;have qk:=fun i=>zA hkb i
     have fk:=fun i=>zC hkb i
     have szw:=FWR.out.size;have szu1:B.u < wr.heap.size:=by omega
     have szk1:B.k < wr.heap.size:=by omega
     have szl1:w.heap.size < wr.heap.size:=World.block_lt_of_cell? _ _ (lq 0);have hj2:Fr B.M w wr:=FWR.out.mono fun b _ h=> .inr (.inl h)
     have J2:=hid hj2;have upd: ∀(m:Nat),m=min P Q->URep (row7 wr B.k m o.isSome y).drew B n (s.join P Q) dv pv sil/\Fr B.M w (row7 wr B.k m o.isSome y).drew:=by
      rintro m rfl;have hU1:=HU.out.setJ (by omega) FWR.out (s.join P Q).j c C1.out (fun p hp=>by have:=C2.out p hp;rw [if_pos (by have:=JN.out;omega)] at this;exact this) (fun p hp=>by
       simp only [St.join];split
       ·omega
       ·exact HU.out.lt p hp)
      have hU2:=hU1.put (min P Q) (by omega) y o (fun u hu=>(YR.out u hu).1.keep J2.out) (fun u hu=>(YR.out u hu).2);have e:({({s with j:=(s.join P Q).j}:St) with v:=fun i=>if i=min P Q then o else ({s with j:=(s.join P Q).j}:St).v i}:St)=s.join P Q:=by
       rw [HO.out];rfl
      rw [e] at hU2;exact ⟨hU2.keep (Fr.refl _ _).drew,(J2.out.row7 (.inl (.inr (.inr (.inl rfl)))) _ _ _).drew⟩
     have UPD:=hid upd;clear hl lb hkb szw hj2 upd;by_cases hqp:Q < P
     ·obtain ⟨m0,g0,g1,g2,g3,g4,g5,g6,_⟩:=HK'.out Q hQ
      have r0:=(qk _).trans g0;have r1:=(qk _).trans g1;have r2:=(qk _).trans g2;have r3:=(qk _).trans g3;have r4:=(qk _).trans g4;have r5:=(qk _).trans g5;have r6:=(qk _).trans g6;clear g0 g1 g2 g3 g4 g5 g6 qk;go_wp2;refine zP 8 (by kernel_rfl) ?_;simp only [List.take_succ_cons,List.take_zero,List.drop_succ_cons,List.drop_zero]
      repeat still_step
      refine wpStill_nil ?_;go_wp2;go_ret;have hU2:=UPD.out Q (by omega);rw [OB.out] at hU2;exact ⟨rfl,hU2.1,hU2.2⟩
     ·obtain ⟨m0,g0,g1,g2,g3,g4,g5,g6,_⟩:=HK'.out P hP
      have r0:=(qk _).trans g0;have r1:=(qk _).trans g1;have r2:=(qk _).trans g2;have r3:=(qk _).trans g3;have r4:=(qk _).trans g4;have r5:=(qk _).trans g5;have r6:=(qk _).trans g6;clear g0 g1 g2 g3 g4 g5 g6 qk;go_wp2;refine zP 8 (by kernel_rfl) ?_;simp only [List.take_succ_cons,List.take_zero,List.drop_succ_cons,List.drop_zero]
      repeat still_step
      refine wpStill_nil ?_;go_wp2;go_ret;have hU2:=UPD.out P (by omega);rw [OB.out] at hU2;exact ⟨rfl,hU2.1,hU2.2⟩
  |none=>
   replace l0:w.cell? ⟨B.k,Q * 7,none⟩=some (.bool false):=by rw [l0,hvQ];rfl
   have VQ:=hid hvQ;clear hvQ;go_enter Tryz.func49,Tryz.ntmps49;go_wp2_with fail
   clear k1 k2 k3 k4 k5 k6 l1 l2 l3 l4 l5 l6 k0 l0 A7;obtain ⟨y,rfl⟩: ∃y:TyV,y=z:=⟨z,rfl⟩;have LB0:=heap_alloc_new w (.cells #[.bool false,.int .i64 y.k,.int .i64 y.n,.int .i64 y.c,.bool y.v,.slice y.a y.len y.cap,.string y.nm] 45);have FW0:=FLH.out #[.bool false,.int .i64 y.k,.int .i64 y.n,.int .i64 y.c,.bool y.v,.slice y.a y.len y.cap,.string y.nm];generalize hW2:w.alloc (.cells #[.bool false,.int .i64 y.k,.int .i64 y.n,.int .i64 y.c,.bool y.v,.slice y.a y.len y.cap,.string y.nm] 45)=W2 at LB0 FW0 ⊢
   clear hW2;have LB:=hid LB0;have FW:=hid FW0;clear LB0 FW0;have OB:Hid (o.isSome=false):=by have:=HO.out;rw [VP.out,VQ.out] at this;rw [this];rfl
   have YR:Hid (∀u,o=some u->RT w B.M y u/\Holes 2 n u):=fun u hu=>by
    have:=HO.out;rw [VP.out,VQ.out] at this;rw [this] at hu;cases hu
   have u1':=zA (FW.out.heap id HUU.out) 1;go_wp2;go_loopw [8,9,51] (fun _ _ i wr=> ∃j:Nat,j<=n/\i= .int .i64 j/\Fr (fun b=>b=B.j) W2 wr/\ ∃c,wr.heap[B.j]?=some (.cells c 3 (0,0))/\ ∀p,p < n->c[p]?=some (.int .i64 (if p < j then (s.join P Q).j p else s.j p))) (fun _ _ i _=>n - (intOf i).toNat)
   case atStart=>exact ⟨0,Nat.zero_le _,rfl,Fr.refl _ _,_,FW.out.heap id HJ.out,fun p hp=>by simpa using HJ'.out p hp⟩
   case round=>
    obtain ⟨j,hj,rfl,hf,c,hc1,hc2⟩:=hrel;have HF:=hid hf;have C1:=hid hc1;have C2:=hid hc2;clear u1';by_cases hlt:j < n
    ·have qj:=(zA hc1 j).trans (hc2 j hlt)
     rw [if_neg (Nat.lt_irrefl j)] at qj;have fj:=zC hc1 j;have u1':=zA (HF.out.heap NE.out (FW.out.heap id HUU.out)) 1;clear hf hc1 hc2;have hjn:(j:Int) < n:=by omega
     have FWR:=hid (FW.out.sub.trans HF.out:Fr (fun b=>b=B.j) w wr);have rel': ∀p,p < n->(c.setIfInBounds j (.int .i64 (if Q < P then (Q:Int) else P)))[p]?=some (.int .i64 (if p < j + 1 then (if p=j then ((min P Q:Nat):Int) else (s.join P Q).j p) else s.j p)):=fun p hp=>by
      have hcs:j < c.size:=(Array.getElem?_eq_some_iff.1 (C2.out j hlt)).1;rw [Array.getElem?_setIfInBounds];by_cases hpj:j=p
      ·subst hpj
       rw [if_pos rfl,if_pos hcs,if_pos (Nat.lt_succ_self j),if_pos rfl]
       congr 2;split <;>omega
      ·rw [if_neg hpj,C2.out p hp]
       by_cases hpl:p < j
       ·rw [if_pos hpl,if_pos (by omega),if_neg (fun h=>hpj h.symm)]
       ·rw [if_neg hpl,if_neg (by omega)]
     have RL:=hid rel';clear rel';have hmin: ∀p:Nat,p=j->(s.j j=P\/s.j j=Q)->(s.join P Q).j p=min P Q:=fun p hp h=>by subst hp;simp only [St.join,if_pos h]
     have HMIN:=hid hmin;clear hmin;by_cases hm1:s.j j=P
     ·have f1:((s.j j:Int)==P)=true:=beq_iff_eq.2 (by omega)
      have HM1:=hid hm1;clear hm1;go_wp2;go_roundw
      case rel=>
       refine ⟨j + 1,by omega,by go_num,HF.out.setCell (.inl rfl) _,_,heap_setCell (a:=⟨B.j,j,none⟩) C1.out rfl,fun p hp=> ?_⟩;refine (RL.out p hp).trans ?_;by_cases hpj:p=j
       ·simp only [if_pos hpj,HMIN.out p hpj (.inl HM1.out),if_pos (show p < j + 1 by omega)]
       ·rw [if_neg hpj]
      case measure=>simp [intOf];omega
     ·by_cases hm2:s.j j=Q
      ·have f1:((s.j j:Int)==P)=false:=beq_eq_false_iff_ne.2 (fun h=>hm1 (by omega))
       have f2:((s.j j:Int)==Q)=true:=beq_iff_eq.2 (by omega);have HM1:=hid hm1;have HM2:=hid hm2;clear hm1 hm2;go_wp2;go_roundw
       case rel=>
        refine ⟨j + 1,by omega,by go_num,HF.out.setCell (.inl rfl) _,_,heap_setCell (a:=⟨B.j,j,none⟩) C1.out rfl,fun p hp=> ?_⟩;refine (RL.out p hp).trans ?_;by_cases hpj:p=j
        ·simp only [if_pos hpj,HMIN.out p hpj (.inr HM2.out),if_pos (show p < j + 1 by omega)]
        ·rw [if_neg hpj]
       case measure=>simp [intOf];omega
      ·have f1:((s.j j:Int)==P)=false:=beq_eq_false_iff_ne.2 (fun h=>hm1 (by omega))
       have f2:((s.j j:Int)==Q)=false:=beq_eq_false_iff_ne.2 (fun h=>hm2 (by omega));have HM1:=hid hm1;have HM2:=hid hm2;clear hm1 hm2;go_wp2;go_roundw
       case rel=>
        refine ⟨j + 1,by omega,by go_num,HF.out,c,C1.out,fun p hp=> ?_⟩;rw [C2.out p hp];by_cases hpj:p=j
        ·subst hpj
         rw [if_neg (Nat.lt_irrefl p),if_pos (Nat.lt_succ_self p)];simp only [St.join,if_neg (show ¬(s.j p=P\/s.j p=Q) from fun h=>h.elim HM1.out HM2.out)]
        ·by_cases hpl:p < j
         ·rw [if_pos hpl,if_pos (by omega)]
         ·rw [if_neg hpl,if_neg (by omega)]
       case measure=>simp [intOf];omega
    ·have hjn:j=n:=by omega
     have JN:=hid hjn;clear hjn;have FWR:=hid (FW.out.sub.trans HF.out:Fr (fun b=>b=B.j) w wr);have nl: ¬w.heap.size=B.j:=by omega
     have hl:=FWR.out;have lb:=HF.out.heap nl LB.out;have lq:=zA lb;have u2':=zA (FWR.out.heap NE.out HUU.out) 2;have hkb:=FWR.out.heap (b:=B.k) (fun h=>(HU.out.ne (by omega)).2.2 h.symm) HK.out;have qk:=fun i=>zA hkb i
     have fk:=fun i=>zC hkb i
     have szw:=FWR.out.size;have szu1:B.u < wr.heap.size:=by omega
     have szk1:B.k < wr.heap.size:=by omega
     have szl1:w.heap.size < wr.heap.size:=World.block_lt_of_cell? _ _ (lq 0);have hj2:Fr B.M w wr:=FWR.out.mono fun b _ h=> .inr (.inl h)
     have J2:=hid hj2;have upd: ∀(m:Nat),m=min P Q->URep (row7 wr B.k m o.isSome y).drew B n (s.join P Q) dv pv sil/\Fr B.M w (row7 wr B.k m o.isSome y).drew:=by
      rintro m rfl;have hU1:=HU.out.setJ (by omega) FWR.out (s.join P Q).j c C1.out (fun p hp=>by have:=C2.out p hp;rw [if_pos (by have:=JN.out;omega)] at this;exact this) (fun p hp=>by
       simp only [St.join];split
       ·omega
       ·exact HU.out.lt p hp)
      have hU2:=hU1.put (min P Q) (by omega) y o (fun u hu=>(YR.out u hu).1.keep J2.out) (fun u hu=>(YR.out u hu).2);have e:({({s with j:=(s.join P Q).j}:St) with v:=fun i=>if i=min P Q then o else ({s with j:=(s.join P Q).j}:St).v i}:St)=s.join P Q:=by
       rw [HO.out];rfl
      rw [e] at hU2;exact ⟨hU2.keep (Fr.refl _ _).drew,(J2.out.row7 (.inl (.inr (.inr (.inl rfl)))) _ _ _).drew⟩
     have UPD:=hid upd;clear hl lb hkb szw hj2 upd;by_cases hqp:Q < P
     ·obtain ⟨m0,g0,g1,g2,g3,g4,g5,g6,_⟩:=HK'.out Q hQ
      have r0:=(qk _).trans g0;have r1:=(qk _).trans g1;have r2:=(qk _).trans g2;have r3:=(qk _).trans g3;have r4:=(qk _).trans g4;have r5:=(qk _).trans g5;have r6:=(qk _).trans g6;clear g0 g1 g2 g3 g4 g5 g6 qk;go_wp2;refine zP 8 (by kernel_rfl) ?_;simp only [List.take_succ_cons,List.take_zero,List.drop_succ_cons,List.drop_zero]
      repeat still_step
      refine wpStill_nil ?_;go_wp2;go_ret;have hU2:=UPD.out Q (by omega);rw [OB.out] at hU2;exact ⟨rfl,hU2.1,hU2.2⟩
     ·obtain ⟨m0,g0,g1,g2,g3,g4,g5,g6,_⟩:=HK'.out P hP
      have r0:=(qk _).trans g0;have r1:=(qk _).trans g1;have r2:=(qk _).trans g2;have r3:=(qk _).trans g3;have r4:=(qk _).trans g4;have r5:=(qk _).trans g5;have r6:=(qk _).trans g6;clear g0 g1 g2 g3 g4 g5 g6 qk;go_wp2;refine zP 8 (by kernel_rfl) ?_;simp only [List.take_succ_cons,List.take_zero,List.drop_succ_cons,List.drop_zero]
      repeat still_step
      refine wpStill_nil ?_;go_wp2;go_ret;have hU2:=UPD.out P (by omega);rw [OB.out] at hU2;exact ⟨rfl,hU2.1,hU2.2⟩
theorem zR {ops:Array Oper}{rest:List Oper}{o:Oper}{a:Act}{w:World}{Q:Exit->Act->World->Prop}(hgd:o.guard=none)(x v:Operand)(ho:o.op= .store 26 x v)(hd:o.dst=none)(b:Nat)(y:TyV){u0 u1 u2 u3 u4 u5:Value}
 (hx:a.eval x= .pointer (some ⟨b,0,none⟩)) (hv:a.eval v= .agg #[.int .i64 y.k,.int .i64 y.n,.int .i64 y.c,.bool y.v,.slice y.a y.len y.cap,.string y.nm])
 (hb:w.heap[b]?=some (.cells #[u0,u1,u2,u3,u4,u5] 26 (0,0)))
 (h: ∀W,W.heap[b]?=some (.cells #[.int .i64 y.k,.int .i64 y.n,.int .i64 y.c,.bool y.v,.slice y.a y.len y.cap,.string y.nm] 26 (0,0))->Fr (fun c=>c=b) w W->wpList Tryz.prog ops Q rest a W):wpList Tryz.prog ops Q (o::rest) a w:=by
 have H:=h _ (heap_set6 hb (.int .i64 y.k) (.int .i64 y.n) (.int .i64 y.c) (.bool y.v) (.slice y.a y.len y.cap) (.string y.nm)) ((Fr.refl (fun c=>c=b) w).set6 (b:=b) (.inl rfl) _ _ _ _ _ _);have q0:w.cell? ⟨b,0,none⟩=some u0:=zA hb 0;have q1:w.cell? ⟨b,1,none⟩=some u1:=zA hb 1;have q2:w.cell? ⟨b,2,none⟩=some u2:=zA hb 2;have q3:w.cell? ⟨b,3,none⟩=some u3:=zA hb 3;have q4:w.cell? ⟨b,4,none⟩=some u4:=zA hb 4
 have q5:w.cell? ⟨b,5,none⟩=some u5:=zA hb 5;have f:=fun i=>zC hb i
 refine wpList_plain hgd fun K hK=> ?_
 have H':=hK _ _ H;clear H h hb hK;obtain ⟨dst,op,type,pos,after,guard⟩:=o;dsimp only at ho hd hgd;subst ho hd hgd;unfold Oper.wp execOp;simp only [hx,hv];simp [go_sem,q0,q1,q2,q3,q4,q5,f];exact H'
end Go.Proofs.YtpekidjfbinekaaGreatDoor
