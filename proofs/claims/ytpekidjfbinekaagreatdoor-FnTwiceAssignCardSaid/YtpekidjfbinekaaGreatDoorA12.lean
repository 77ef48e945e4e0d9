/- W7, G20, W8 -/
import Derived.Test.YtpekidjfbinekaaGreatDoorA11
set_option maxRecDepth 100000
set_option maxHeartbeats 60000000
set_option linter.all false
namespace Go.Proofs.YtpekidjfbinekaaGreatDoor
open Go.RowKit Uni
structure At6 (w:World) (b o:Nat) (y:TyV):Prop where
 c0:w.cell? ⟨b,o,none⟩=some (.int .i64 y.k)
 c1:w.cell? ⟨b,o + 1,none⟩=some (.int .i64 y.n)
 c2:w.cell? ⟨b,o + 2,none⟩=some (.int .i64 y.c)
 c3:w.cell? ⟨b,o + 3,none⟩=some (.bool y.v)
 c4:w.cell? ⟨b,o + 4,none⟩=some (.slice y.a y.len y.cap)
 c5:w.cell? ⟨b,o + 5,none⟩=some (.string y.nm)
theorem At6.keep {w w':World}{M:Nat->Prop}{b o:Nat}{y:TyV}(h:At6 w b o y)(f:Fr M w w')(hm: ¬M b):At6 w' b o y:=
 ⟨f.cell hm h.c0,f.cell hm h.c1,f.cell hm h.c2,f.cell hm h.c3,f.cell hm h.c4,f.cell hm h.c5⟩
structure DRep (w:World) (M:Nat->Prop) (da:Option Addr) (n:Nat) (D:zE) (ar:Nat->Nat):Prop where
 row:n=0\/ ∃b o,da=some ⟨b,o,none⟩/\ ¬M b/\ ∀i,i < n->w.cell? ⟨b,o + i * 7,none⟩=some (.int .i64 (ar i))/\ ∃y,At6 w b (o + i * 7 + 1) y/\RT w M y (D i)
 own: ∀i,i < n->Holes 3 (ar i) (D i)
 noVar: ∀i,i < n->Holes 2 0 (D i)
 n16:n<=16
theorem DRep.keep {w w':World}{M:Nat->Prop}{da:Option Addr}{n:Nat}{D:zE}{ar:Nat->Nat}(h:DRep w M da n D ar)(f:Fr M w w'):DRep w' M da n D ar:=by
 refine ⟨?_,h.own,h.noVar,h.n16⟩;rcases h.row with h | ⟨b,o,ha,hm,h⟩
 ·exact .inl h
 ·refine .inr ⟨b,o,ha,hm,fun i hi=> ?_⟩
  obtain ⟨h1,y,h2,h3⟩:=h i hi;exact ⟨f.cell hm h1,y,h2.keep f hm,h3.keep f⟩
theorem DRep.mono {w:World}{M M':Nat->Prop}{da:Option Addr}{n:Nat}{D:zE}{ar:Nat->Nat}(h:DRep w M da n D ar)(hM: ∀b,M' b->M b):DRep w M' da n D ar:=by
 refine ⟨?_,h.own,h.noVar,h.n16⟩;rcases h.row with h | ⟨b,o,ha,hm,h⟩
 ·exact .inl h
 ·refine .inr ⟨b,o,ha,fun hb=>hm (hM b hb),fun i hi=> ?_⟩
  obtain ⟨h1,y,h2,h3⟩:=h i hi;exact ⟨h1,y,h2,h3.mono hM⟩
theorem DRep.avoid {w:World}{M M':Nat->Prop}{da:Option Addr}{n:Nat}{D:zE}{ar:Nat->Nat}(h:DRep w M da n D ar)(hM: ∀b,M' b->M b\/w.heap.size<=b):DRep w M' da n D ar:=by
 refine ⟨?_,h.own,h.noVar,h.n16⟩;rcases h.row with h | ⟨b,o,ha,hm,h⟩
 ·exact .inl h
 ·by_cases hn:n=0
  ·exact .inl hn
  have hb:=World.block_lt_of_cell? _ _ (h 0 (by omega)).1;refine .inr ⟨b,o,ha,fun hb'=> ?_,fun i hi=> ?_⟩
  ·rcases hM b hb' with h | h
   ·exact hm h
   ·dsimp only at hb;omega
  ·obtain ⟨h1,y,h2,h3⟩:=h i hi
   exact ⟨h1,y,h2,h3.avoid hM⟩
theorem repl3 (l:List Tm)(t:Tm):repl 3 l t=t.own l:=by
 induction t using Tm.ind with
 |hv p=>rw [repl_var,if_neg (by omega),Tm.own_var]
 |hn f ts ih=>
  rw [repl_node,Tm.own_node];by_cases h:f.kind=3
  ·rw [if_pos h.symm,if_pos h]
  ·rw [if_neg (fun e=>h e.symm),if_neg h,List.map_congr_left ih]
theorem und_own {D:zE}{f:Lab}{ts:List Tm}(h:f.kind=1):und D (.node f ts)=(D f.n).own ts:=by simp [und,h]
theorem xG (da:Option Addr)(dl dc:Nat)(D:zE)(ar:Nat->Nat)(x:TyV)(f:Lab)(ts:List Tm)(w:World)(M:Nat->Prop)(hD:DRep w M da dl D ar)(hx:RT w M x (.node f ts))(hf:f.kind=1)(hn:f.n < dl)(hl:ts.length=ar f.n)
 (hM: ∀b,M b->b < w.heap.size):
 Calls Tryz.prog 16 #[.slice da dl dc,x.val] w fun e w'=> ∃r:TyV,e= .returned r.val/\RT w' M r (und D (.node f ts))/\Fr F0 w w':=by
 obtain ⟨xs,fx,nx,rx,sx⟩:=hx.flat;have sx:Shape x f xs:=sx;have e2:x.n=f.n:=by have:=sx.n;rw [if_pos (by omega)] at this;exact this
 obtain ⟨b,o,rfl,hb,hrow⟩: ∃b o,da=some ⟨b,o,none⟩/\ ¬M b/\ ∀i,i < dl->w.cell? ⟨b,o + i * 7,none⟩=some (.int .i64 (ar i))/\ ∃y,At6 w b (o + i * 7 + 1) y/\RT w M y (D i):=by
  rcases hD.row with h | h
  ·omega
  ·exact h
 obtain ⟨h1,y,hy,hyr⟩:=hrow f.n hn;obtain ⟨a0,a1,a2,a3,a4,a5⟩:=hy;have hbs:=World.block_lt_of_cell? _ _ a0;have CALL: ∀(w':World),Fr F0 w w'->w.heap.size + 2<=w'.heap.size->Calls Tryz.prog 33 #[.agg #[.int .i64 y.k,.int .i64 y.n,.int .i64 y.c,.bool y.v,.slice y.a y.len y.cap,.string y.nm],.int .i64 3,.slice x.a x.len x.cap] w' fun e w''=>
  ∃r:TyV,e= .returned (.agg #[.int .i64 r.k,.int .i64 r.n,.int .i64 r.c,.bool r.v,.slice r.a r.len r.cap,.string r.nm])/\RT w'' (fun b=>M b\/w.heap.size<=b/\b < w.heap.size + 2) r (und D (.node f ts))/\Fr F0 w' w'':=by
  intro w' fr hsz;have av: ∀b,(M b\/w.heap.size<=b/\b < w.heap.size + 2)->M b\/w.heap.size<=b:=fun b hb=>hb.imp id (fun h=>h.1)
  have hk:(kids (.node f ts)).length=x.len:=by rw [nx,fx.len]
  refine (replaced_any 3 (.inr rfl) (D f.n) xs ts x.a x.len x.cap y w' (fun b=>M b\/w.heap.size<=b/\b < w.heap.size + 2) ((hyr.avoid av).keep fr.sub) ?_ ((fx.elems.avoid av).keep fr.sub) fx.len hk (fun i z u hz hu=>((rx i z u hz hu).avoid av).keep fr.sub) (fun b hb=>by rcases hb with hb | hb;have:=hM b hb;omega;omega)).mono ?_
  ·rw [hl];exact hD.own f.n hn
  ·rintro e w'' ⟨r,rfl,_,hr,hf'⟩
   refine ⟨r,rfl,?_,hf'⟩;rw [und_own hf,<-repl3];exact hr
 have CA:=hid CALL;clear CALL;have hni:(f.n:Int) < dl:=by omega
 clear h1 hyr hrow hD hx rx nx fx sx hn hl;obtain ⟨xk,xn,xc,xv,xa,xlen,xcap,xnm⟩:=x;dsimp only at e2;subst e2;unfold TyV.val at *;dsimp only at *;go_enter Tryz.func16,Tryz.ntmps16;go_wp2;refine zP 8 (by kernel_rfl) ?_;simp only [List.take_succ_cons,List.take_zero,List.drop_succ_cons,List.drop_zero]
 repeat still_step
 refine wpStill_nil ?_;go_wp2_with fail
 have FA:=hid ((((Fr.refl F0 w).alloc (.cells #[.int .i64 xk,.int .i64 f.n,.int .i64 xc,.bool xv,.slice xa xlen xcap,.string xnm] 26)).alloc (.cells #[.int .i64 0,.int .i64 0,.int .i64 0,.bool false,.slice none 0 0,.string ⟨#[]⟩] 26)).drew);refine (CA.out _ FA.out (by simp)).mono ?_;rintro e w2 ⟨r,rfl,hr,hf2⟩;have R6:=hid (hf2.heap (b:=w.heap.size + 1) id (zS w _ _));have HR:=hid hr;have HF2:=hid hf2;clear hr hf2
 have q6:=zA R6.out;have f6:=zC R6.out;go_wp2;refine bodyPost_ret (v:= .agg #[.int .i64 r.k,.int .i64 r.n,.int .i64 r.c,.bool r.v,.slice r.a r.len r.cap,.string r.nm]) ?_ rfl ?_
 ·exact ret6 rfl rfl (heap_set6 R6.out _ _ _ _ _ _)
 refine ⟨r,rfl,?_,?_⟩
 ·exact (HR.out.keep ((Fr.refl _ w2).set6 (b:=w.heap.size + 1) (.inl (.inr ⟨Nat.le_succ _,by omega⟩)) _ _ _ _ _ _)).mono fun b hb=> .inl hb
 ·exact (FA.out.trans HF2.out).set6 (.inr (Nat.le_succ _)) _ _ _ _ _ _
theorem directed_core (x y:TyV)(s t:Tm)(w:World)(M:Nat->Prop)(hx:RT w M x s)(hy:RT w M y t)(D:zE)(hs:und D s=s)(ht:und D t=t):
 (x.k=8/\y.k=8/\x.n≠y.n)↔zT D s t=true:=by
 obtain ⟨xs,_,_,_,sx⟩:=hx.flat;obtain ⟨ys,_,_,_,sy⟩:=hy.flat;unfold zT wH;rw [hs,ht]
 cases s with
 |var p=>have e:x.k=2:=sx.1;simp [e]
 |node f l=>
  have sx:Shape x f xs:=sx
  cases t with
  |var q=>
   have e:y.k=2:=sy.1;simp only [e];constructor
   ·intro h;omega
   ·intro h;split at h <;>simp_all
  |node g l'=>
   have sy:Shape y g ys:=sy;have h1:=sx.k;have h2:=sy.k;have h3:=sx.n;have h4:=sy.n;by_cases hf:f.kind=8
   ·by_cases hg:g.kind=8
    ·rw [if_pos (by omega)] at h3 h4
     simp only [hf,hg,if_true,bne_iff_ne];omega
    ·simp only [hf,hg,if_true,if_false]
     constructor
     ·intro h;omega
     ·intro h;simp at h
   ·simp only [hf,if_false]
    constructor
    ·intro h;omega
    ·intro h;simp at h
theorem xY (da:Option Addr)(dl dc:Nat)(D:zE)(ar:Nat->Nat)(hDk:zZ D)(x y:TyV)(f:Lab)(ts:List Tm)(g:Lab)(us:List Tm)(w:World)(B:UB)(n:Nat)(s:St)(pv:Value)(sil:Bool)
 (hU:URep w B n s (.slice da dl dc) pv sil) (hD:DRep w B.M da dl D ar) (hx:RT w B.M x (.node f ts)) (hy:RT w B.M y (.node g us)) (gx:Uni.Good dl ar (.node f ts)) (gy:Uni.Good dl ar (.node g us)) (hM: ∀b,B.M b->b < w.heap.size):
 Calls Tryz.prog 51 #[.pointer (some ⟨B.u,0,none⟩),x.val,y.val] w fun e w'=>e= .returned (.bool (zT D (.node f ts) (.node g us)))/\Fr F0 w w':=by
 have av: ∀b,(B.M b\/w.heap.size<=b/\b < w.heap.size + 2)->B.M b\/w.heap.size<=b:=fun b hb=>hb.imp id (fun h=>h.1)
 have hM': ∀w':World,Fr F0 w w'->w.heap.size + 2<=w'.heap.size-> ∀b,(B.M b\/w.heap.size<=b/\b < w.heap.size + 2)->b < w'.heap.size:=fun w' fr hs b hb=>by rcases hb with hb | hb;have:=hM b hb;omega;omega
 have UX:=fun (h:f.kind=1) (w':World) (fr:Fr F0 w w') (hs:w.heap.size + 2<=w'.heap.size)=>xG da dl dc D ar x f ts w' (fun b=>B.M b\/w.heap.size<=b/\b < w.heap.size + 2) ((hD.avoid av).keep fr.sub) ((hx.avoid av).keep fr.sub) h (gx.lab.k1 h).1 (gx.lab.k1 h).2 (hM' w' fr hs)
 have UY:=fun (h:g.kind=1) (w':World) (fr:Fr F0 w w') (hs:w.heap.size + 2<=w'.heap.size)=>xG da dl dc D ar y g us w' (fun b=>B.M b\/w.heap.size<=b/\b < w.heap.size + 2) ((hD.avoid av).keep fr.sub) ((hy.avoid av).keep fr.sub) h (gy.lab.k1 h).1 (gy.lab.k1 h).2 (hM' w' fr hs)
 have hxk:x.k=f.kind:=by obtain ⟨xs,_,_,_,sx⟩:=hx.flat;exact Shape.k sx
 have hyk:y.k=g.kind:=by obtain ⟨xs,_,_,_,sx⟩:=hy.flat;exact Shape.k sx
 obtain ⟨ja,cj,ka,ck,hu,_⟩:=hU.u;have HUU:=hid hu;have u0:=zA hu 0;have szu:=hU.size.1;have HX:=hid hx;have HY:=hid hy;have UXH:=hid UX;have UYH:=hid UY;have core:=fun (x y:TyV) (w':World) (s t:Tm) (h1:RT w' B.M x s) (h2:RT w' B.M y t) (h3:und D s=s) (h4:und D t=t)=>directed_core x y s t w' B.M h1 h2 D h3 h4
 have CO:=hid core;have uu: ∀(f:Lab) (ts:List Tm),und D (und D (.node f ts))=und D (.node f ts):=fun f ts=>by
  by_cases h:f.kind=1
  ·obtain ⟨f',ts',he,hk⟩:=und_node hDk f ts h
   rw [he];exact xO _ _ (by omega)
  ·rw [xO f ts h,xO f ts h]
 have UU:=hid uu;have dd:zT D (und D (.node f ts)) (und D (.node g us))=zT D (.node f ts) (.node g us):=by simp only [zT,wH,uu]
 have DD:=hid dd;clear UX UY hx hy hU hD gx gy hu core uu dd av hM';obtain ⟨xk,xn,xc,xv,xa,xlen,xcap,xnm⟩:=x;obtain ⟨yk,yn,yc,yv,ya,ylen,ycap,ynm⟩:=y;dsimp only at hxk hyk;unfold TyV.val at *;dsimp only at *;have FA:=hid ((((Fr.refl F0 w).alloc (.cells #[.int .i64 xk,.int .i64 xn,.int .i64 xc,.bool xv,.slice xa xlen xcap,.string xnm] 26)).alloc (.cells #[.int .i64 yk,.int .i64 yn,.int .i64 yc,.bool yv,.slice ya ylen ycap,.string ynm] 26)))
 by_cases hf:f.kind=1
 ·have t1:(xk==1)=true:=by rw [hxk,hf];rfl
  have UX1:=hid (UXH.out hf);by_cases hg:g.kind=1;have tg:Fin 10:=0;rotate_left;have tg:Fin 11:=0;rotate_left
  all_goals
   first
   |rename Fin 10=>tg
    have t2:(yk==1)=true:=by rw [hyk,hg];rfl
    have UY1:=hid (UYH.out hg)
   |have t2:(yk==1)=false:=by rw [hyk];simp;omega
    have UY2:=hid (xO (D:=D) g us hg);have UX2:=hid (UU.out f ts);have DIR:=hid (show zT D (und D (.node f ts)) (.node g us)=zT D (.node f ts) (.node g us) by have h:=DD.out;rw [UY2.out] at h;exact h)
   clear hf hxk hg hyk;go_enter Tryz.func51,Tryz.ntmps51;go_wp2;have WF:=FA;have BX:=hid ((Below.heap_alloc _ _ _ (by simp)).trans (heap_alloc_new w (.cells #[.int .i64 xk,.int .i64 xn,.int .i64 xc,.bool xv,.slice xa xlen xcap,.string xnm] 26)):((w.alloc (.cells #[.int .i64 xk,.int .i64 xn,.int .i64 xc,.bool xv,.slice xa xlen xcap,.string xnm] 26)).alloc (.cells #[.int .i64 yk,.int .i64 yn,.int .i64 yc,.bool yv,.slice ya ylen ycap,.string ynm] 26)).heap[w.heap.size]?=_)
   have BY:=hid (zS w (.cells #[.int .i64 xk,.int .i64 xn,.int .i64 xc,.bool xv,.slice xa xlen xcap,.string xnm] 26) (.cells #[.int .i64 yk,.int .i64 yn,.int .i64 yc,.bool yv,.slice ya ylen ycap,.string ynm] 26));have SZ:=hid (show w.heap.size + 2<=((w.alloc (.cells #[.int .i64 xk,.int .i64 xn,.int .i64 xc,.bool xv,.slice xa xlen xcap,.string xnm] 26)).alloc (.cells #[.int .i64 yk,.int .i64 yn,.int .i64 yc,.bool yv,.slice ya ylen ycap,.string ynm] 26)).heap.size by simp)
   generalize hW0:((w.alloc (.cells #[.int .i64 xk,.int .i64 xn,.int .i64 xc,.bool xv,.slice xa xlen xcap,.string xnm] 26)).alloc (.cells #[.int .i64 yk,.int .i64 yn,.int .i64 yc,.bool yv,.slice ya ylen ycap,.string ynm] 26))=W0 at WF BX BY SZ ⊢;clear hW0 FA;have u0':=zA (WF.out.heap id HUU.out) 0;have szu':B.u < W0.heap.size:=World.block_lt_of_cell? _ _ u0';have qx:=zA BX.out;have qy:=zA BY.out;refine zP 5 (by kernel_rfl) ?_
   simp only [List.take_succ_cons,List.take_zero,List.drop_succ_cons,List.drop_zero]
   repeat still_step
   refine wpStill_nil ?_;go_wp2_with fail
   refine (UX1.out _ WF.out.drew SZ.out).mono ?_;rintro e w1 ⟨R,rfl,hr,hf1⟩;have BX':=hid (hf1.heap (b:=w.heap.size) id BX.out);have BY':=hid (hf1.heap (b:=(w.heap.size + 1)) id BY.out);have F1:=hid (WF.out.drew.trans hf1);have HR1:=hid hr;have SZ':=hid (show w.heap.size + 2<=w1.heap.size by have:=SZ.out;have:=hf1.size;simp at this;omega);clear hf1 hr BX BY WF SZ qx qy u0' szu';dsimp only;go_step;refine zR rfl _ _ rfl rfl w.heap.size R (by rfl) (by rfl) BX'.out ?_
   intro W1 hBV hFW;have BX:=hid hBV;have BY:=hid (hFW.heap (by show ¬_=_;omega) BY'.out);have WF:=hid (F1.out.transNew hFW fun b hb=> .inr (by omega));have SZ:=hid (show w.heap.size + 2<=W1.heap.size by have:=SZ'.out;have:=hFW.size;omega);have RXH1:=hid (HR1.out.keep (hFW.mono fun b _ hb=> .inr (by omega)));clear hBV hFW BX' BY' F1 HR1 SZ'
   first
   |rename Fin 10=>tg
    have qy:=zA BY.out;have qx:=zA BX.out;have u0':=zA (WF.out.heap id HUU.out) 0;have szu':B.u < W1.heap.size:=World.block_lt_of_cell? _ _ u0';go_wp2;refine zP 5 (by kernel_rfl) ?_;simp only [List.take_succ_cons,List.take_zero,List.drop_succ_cons,List.drop_zero]
    repeat still_step
    refine wpStill_nil ?_;go_wp2_with fail
    refine (UY1.out _ WF.out.drew SZ.out).mono ?_;rintro e w1 ⟨Q,rfl,hr,hf1⟩;have BY':=hid (hf1.heap (b:=(w.heap.size + 1)) id BY.out);have BX':=hid (hf1.heap (b:=w.heap.size) id BX.out);have F1:=hid (WF.out.drew.trans hf1);have HR1:=hid hr;have SZ':=hid (show w.heap.size + 2<=w1.heap.size by have:=SZ.out;have:=hf1.size;simp at this;omega);have RXP:=hid (RXH1.out.keep ((Fr.refl _ _).drew.trans hf1.sub))
    clear hf1 hr BY BX WF SZ qx qy u0' szu';dsimp only;go_step;refine zR rfl _ _ rfl rfl (w.heap.size + 1) Q (by rfl) (by rfl) BY'.out ?_;intro W2 hBV hFW;have BY:=hid hBV;have BX:=hid (hFW.heap (by show ¬_=_;omega) BX'.out);have WF:=hid (F1.out.transNew hFW fun b hb=> .inr (by omega));have SZ:=hid (show w.heap.size + 2<=W2.heap.size by have:=SZ'.out;have:=hFW.size;omega);have RYH1:=hid (HR1.out.keep (hFW.mono fun b _ hb=> .inr (by omega)))
    have RXH2:=hid (RXP.out.keep (hFW.mono fun b _ hb=> .inr (by omega)));clear hBV hFW BY' BX' F1 HR1 SZ';have RXH:=hid (RXH2.out.mono fun b hb=> .inl hb:RT W2 B.M R _);have RYH:=hid (RYH1.out.mono fun b hb=> .inl hb:RT W2 B.M Q _);have UX2:=hid (UU.out f ts);have UY2:=hid (UU.out g us);have DIR:=DD
   |have RXH:=hid (RXH1.out.mono fun b hb=> .inl hb:RT W1 B.M R _)
    obtain ⟨Q,hQ⟩: ∃Q:TyV,Q=⟨yk,yn,yc,yv,ya,ylen,ycap,ynm⟩:=⟨_,rfl⟩;have RYH:=hid (show RT W1 B.M Q (.node g us) by rw [hQ];exact HY.out.keep WF.out.sub);have QK:(Q.k==1)=false:=by rw [hQ];exact t2
    have BYQ:=hid (show W1.heap[w.heap.size + 1]?=some (.cells #[.int .i64 Q.k,.int .i64 Q.n,.int .i64 Q.c,.bool Q.v,.slice Q.a Q.len Q.cap,.string Q.nm] 26 (0,0)) by rw [hQ];exact BY.out);clear hQ BY;have BY:=BYQ
   have qx:=zA BX.out;have qy:=zA BY.out;have fin:=(CO.out R Q _ _ _ RXH.out RYH.out UX2.out UY2.out);rw [DIR.out] at fin;have FIN:=hid fin;clear fin;by_cases h1:R.k=8
   ·have b1:(R.k==8)=true:=beq_iff_eq.2 h1
    by_cases h2:Q.k=8
    ·have b2:(Q.k==8)=true:=beq_iff_eq.2 h2
     have H1:=hid h1;have H2:=hid h2;clear h1 h2;go_wp2;go_ret;refine ⟨yL ?_,WF.out⟩;rw [Bool.eq_iff_iff,<-FIN.out];simp [H1.out,H2.out]
    ·have b2:(Q.k==8)=false:=beq_eq_false_iff_ne.2 h2
     have H2:=hid h2;clear h1 h2;go_wp2;go_ret;refine ⟨yL ?_,WF.out⟩;rw [Bool.eq_iff_iff,<-FIN.out];simp [H2.out]
   ·have b1:(R.k==8)=false:=beq_eq_false_iff_ne.2 h1
    have H1:=hid h1;clear h1;go_wp2;go_ret;refine ⟨yL ?_,WF.out⟩;rw [Bool.eq_iff_iff,<-FIN.out];simp [H1.out]
 ·have t1:(xk==1)=false:=by rw [hxk];simp;omega
  have UX2:=hid (xO (D:=D) f ts hf);obtain ⟨R,hR⟩: ∃R:TyV,R=⟨xk,xn,xc,xv,xa,xlen,xcap,xnm⟩:=⟨_,rfl⟩;have RKK:(R.k==1)=false:=by rw [hR];exact t1
  by_cases hg:g.kind=1
  ·have t2:(yk==1)=true:=by rw [hyk,hg];rfl
   have UY1:=hid (UYH.out hg);have UY2:=hid (UU.out g us);have DIR:=hid (show zT D (.node f ts) (und D (.node g us))=zT D (.node f ts) (.node g us) by have h:=DD.out;rw [UX2.out] at h;exact h);clear hf hxk hg hyk;have HRR:=hid hR;clear hR;go_enter Tryz.func51,Tryz.ntmps51;go_wp2;have WF:=FA;have BX:=hid ((Below.heap_alloc _ _ _ (by simp)).trans (heap_alloc_new w (.cells #[.int .i64 xk,.int .i64 xn,.int .i64 xc,.bool xv,.slice xa xlen xcap,.string xnm] 26)):((w.alloc (.cells #[.int .i64 xk,.int .i64 xn,.int .i64 xc,.bool xv,.slice xa xlen xcap,.string xnm] 26)).alloc (.cells #[.int .i64 yk,.int .i64 yn,.int .i64 yc,.bool yv,.slice ya ylen ycap,.string ynm] 26)).heap[w.heap.size]?=_)
   have BY:=hid (zS w (.cells #[.int .i64 xk,.int .i64 xn,.int .i64 xc,.bool xv,.slice xa xlen xcap,.string xnm] 26) (.cells #[.int .i64 yk,.int .i64 yn,.int .i64 yc,.bool yv,.slice ya ylen ycap,.string ynm] 26));have SZ:=hid (show w.heap.size + 2<=((w.alloc (.cells #[.int .i64 xk,.int .i64 xn,.int .i64 xc,.bool xv,.slice xa xlen xcap,.string xnm] 26)).alloc (.cells #[.int .i64 yk,.int .i64 yn,.int .i64 yc,.bool yv,.slice ya ylen ycap,.string ynm] 26)).heap.size by simp)
   generalize hW0:((w.alloc (.cells #[.int .i64 xk,.int .i64 xn,.int .i64 xc,.bool xv,.slice xa xlen xcap,.string xnm] 26)).alloc (.cells #[.int .i64 yk,.int .i64 yn,.int .i64 yc,.bool yv,.slice ya ylen ycap,.string ynm] 26))=W0 at WF BX BY SZ ⊢;clear hW0 FA;have u0':=zA (WF.out.heap id HUU.out) 0;have szu':B.u < W0.heap.size:=World.block_lt_of_cell? _ _ u0';have qx:=zA BX.out;have qy:=zA BY.out;refine zP 5 (by kernel_rfl) ?_
   simp only [List.take_succ_cons,List.take_zero,List.drop_succ_cons,List.drop_zero]
   repeat still_step
   refine wpStill_nil ?_;go_wp2_with fail
   refine (UY1.out _ WF.out.drew SZ.out).mono ?_;rintro e w1 ⟨Q,rfl,hr,hf1⟩;have BY':=hid (hf1.heap (b:=(w.heap.size + 1)) id BY.out);have BX':=hid (hf1.heap (b:=w.heap.size) id BX.out);have F1:=hid (WF.out.drew.trans hf1);have HR1:=hid hr;have SZ':=hid (show w.heap.size + 2<=w1.heap.size by have:=SZ.out;have:=hf1.size;simp at this;omega);clear hf1 hr BY BX WF SZ qx qy u0' szu';dsimp only;go_step;refine zR rfl _ _ rfl rfl (w.heap.size + 1) Q (by rfl) (by rfl) BY'.out ?_
   intro W2 hBV hFW;have BY:=hid hBV;have BX:=hid (hFW.heap (by show ¬_=_;omega) BX'.out);have WF:=hid (F1.out.transNew hFW fun b hb=> .inr (by omega));have SZ:=hid (show w.heap.size + 2<=W2.heap.size by have:=SZ'.out;have:=hFW.size;omega);have RYH1:=hid (HR1.out.keep (hFW.mono fun b _ hb=> .inr (by omega)));clear hBV hFW BY' BX' F1 HR1 SZ';have RYH:=hid (RYH1.out.mono fun b hb=> .inl hb:RT W2 B.M Q _)
   have RXH:=hid (show RT W2 B.M R (.node f ts) by rw [HRR.out];exact HX.out.keep WF.out.sub);have BXQ:=hid (show W2.heap[w.heap.size]?=some (.cells #[.int .i64 R.k,.int .i64 R.n,.int .i64 R.c,.bool R.v,.slice R.a R.len R.cap,.string R.nm] 26 (0,0)) by rw [HRR.out];exact BX.out);clear HRR BX;have BX:=BXQ;have qx:=zA BX.out;have qy:=zA BY.out;have fin:=(CO.out R Q _ _ _ RXH.out RYH.out UX2.out UY2.out)
   rw [DIR.out] at fin;have FIN:=hid fin;clear fin;by_cases h1:R.k=8
   ·have b1:(R.k==8)=true:=beq_iff_eq.2 h1
    by_cases h2:Q.k=8
    ·have b2:(Q.k==8)=true:=beq_iff_eq.2 h2
     have H1:=hid h1;have H2:=hid h2;clear h1 h2;go_wp2;go_ret;refine ⟨yL ?_,WF.out⟩;rw [Bool.eq_iff_iff,<-FIN.out];simp [H1.out,H2.out]
    ·have b2:(Q.k==8)=false:=beq_eq_false_iff_ne.2 h2
     have H2:=hid h2;clear h1 h2;go_wp2;go_ret;refine ⟨yL ?_,WF.out⟩;rw [Bool.eq_iff_iff,<-FIN.out];simp [H2.out]
   ·have b1:(R.k==8)=false:=beq_eq_false_iff_ne.2 h1
    have H1:=hid h1;clear h1;go_wp2;go_ret;refine ⟨yL ?_,WF.out⟩;rw [Bool.eq_iff_iff,<-FIN.out];simp [H1.out]
  ·have t2:(yk==1)=false:=by rw [hyk];simp;omega
   have UY2:=hid (xO (D:=D) g us hg);have fin:=(CO.out ⟨xk,xn,xc,xv,xa,xlen,xcap,xnm⟩ ⟨yk,yn,yc,yv,ya,ylen,ycap,ynm⟩ _ _ _ HX.out HY.out UX2.out UY2.out);dsimp only at fin;have FIN:=hid fin;clear fin hf hxk hg hyk RKK hR;by_cases h1:xk=8
   ·have b1:(xk==8)=true:=beq_iff_eq.2 h1
    by_cases h2:yk=8
    ·have b2:(yk==8)=true:=beq_iff_eq.2 h2
     have H1:=hid h1;have H2:=hid h2;clear h1 h2;go_enter Tryz.func51,Tryz.ntmps51;go_wp2;go_ret;refine ⟨yL ?_,FA.out⟩;rw [Bool.eq_iff_iff,<-FIN.out];simp [H1.out,H2.out]
    ·have b2:(yk==8)=false:=beq_eq_false_iff_ne.2 h2
     have H2:=hid h2;clear h1 h2;go_enter Tryz.func51,Tryz.ntmps51;go_wp2;go_ret;refine ⟨yL ?_,FA.out⟩;rw [Bool.eq_iff_iff,<-FIN.out];simp [H2.out]
   ·have b1:(xk==8)=false:=beq_eq_false_iff_ne.2 h1
    have H1:=hid h1;clear h1;go_enter Tryz.func51,Tryz.ntmps51;go_wp2;go_ret;refine ⟨yL ?_,FA.out⟩;rw [Bool.eq_iff_iff,<-FIN.out];simp [H1.out]
def hdN (B:Nat):Nat->Addr:=fun p=>⟨B + 1 + p,0,none⟩
def NewPost (w:World)(tp:Nat->Addr)(n:Nat)(e:Ending)(w':World):Prop:=
 e= .returned (.pointer (some ⟨w.heap.size + 1 + n,0,none⟩))/\Fr (fun _=>False) w w'/\w'.heap.size=w.heap.size + 1 + n + 1/\
  w'.heap[w.heap.size + 1 + n]?=some (.cells #[.pointer none,.map (some w.heap.size),.int .i64 0,.bool false] 247 (0,0))/\
  w'.heap[w.heap.size]?=some (.map (zY tp (hdN w.heap.size) n).toArray n)/\ ∀p,p < n->w'.heap[w.heap.size + 1 + p]?=some (.cells #[.nilIface] 103 (0,0))
def NewRel (w:World)(tp:Nat->Addr)(j:Nat)(wr:World):Prop:=
 Fr (fun _=>False) w wr/\wr.heap.size=w.heap.size + 1 + j/\wr.heap[w.heap.size]?=some (.map (zY tp (hdN w.heap.size) j).toArray j)/\ ∀p,p < j->wr.heap[w.heap.size + 1 + p]?=some (.cells #[.nilIface] 103 (0,0))
theorem NewRel.next {w1 WX:World}{tp:Nat->Addr}{j:Nat}(HF:Fr (fun _=>False) w1 WX)(HS:WX.heap.size=w1.heap.size + 1 + j)(HM:WX.heap[w1.heap.size]?=some (.map (zY tp (hdN w1.heap.size) j).toArray j))
 (HH: ∀p,p < j->WX.heap[w1.heap.size + 1 + p]?=some (.cells #[.nilIface] 103 (0,0))):
 NewRel w1 tp (j + 1) (ChangeMaps.setBlock (WX.alloc (.cells #[.nilIface] 103)) w1.heap.size (.map (zY tp (updA (hdN w1.heap.size) j ⟨WX.heap.size,0,none⟩) (j + 1)).toArray (j + 1))):=by
 have SX:(WX.alloc (.cells #[.nilIface] 103)).heap.size=w1.heap.size + 1 + j + 1:=by simp [HS]
 have FX:=(Fr.refl (fun _=>False) WX).alloc (.cells #[.nilIface] 103);refine ⟨(HF.alloc _).setBlock (.inr (Nat.le_refl _)) _,by rw [setBlock_size,SX];omega,?_,fun p hp=> ?_⟩
 ·rw [wA (by rw [SX];omega)]
  rw [wZ (hd':=hdN w1.heap.size)];intro q hq;unfold updA hdN
  split
  ·subst_vars;rw [HS]
  ·rfl
 ·rw [xH _ (by omega)]
  by_cases h:p=j
  ·subst h;rw [<-HS];exact heap_alloc_new WX _
  ·exact FX.heap id (HH p (by omega))
theorem Keys.keepF {w w':World}{tp:Nat->Addr}{n:Nat}(h:Keys w tp n)(f:Fr (fun _=>False) w w'):Keys w' tp n:=
 ⟨fun p hp=>(h.cells p hp).imp fun c hc=>hc.imp fun t ht=>f.heap id ht,h.inj⟩
theorem newUnifier_any {w:World}{tp:Nat->Addr}{n:Nat}(K:Keys w tp n)(ta:Option Addr)(tc:Nat)(hts:n=0\/ ∃b off,ta=some ⟨b,off,none⟩/\ ∀p,p < n->w.cell? ⟨b,off + p,none⟩=some (.pointer (some (tp p))))(hn:n<=8):
 Calls Tryz.prog 92 #[.pointer none,.slice ta n tc,.slice none 0 0,.bool false] w (NewPost w tp n):=by
 have KK:=hid K;have HT:=hid hts;clear K hts;have hn0:(0:Int)<=n:=by omega
 have hmk: ∀w,(Instr.makeMap 244 (some (.int .i64 n))).run Tryz.prog w= .ok (.map (some w.heap.size)) (w.alloc (.map #[] 0)):=fun w=>by
  simp [Instr.makeMap,run_underlying under244,asInt,asIntOf,Result.andThen]
 go_enter Tryz.func92,Tryz.ntmps92;go_wp2_with fail
 refine (wS _).mono ?_;rintro e w1 ⟨rfl,rfl⟩;go_wp2_with fail
 clear hmk;go_loopw [24] (fun i wr=> ∃j:Nat,j<=n/\i= .int .i64 j/\NewRel w1 tp j wr) (fun i _=>n - (intOf i).toNat)
 case atStart=>exact ⟨0,Nat.zero_le _,rfl,(Fr.refl _ _).alloc _,by simp,by simpa [zY] using heap_alloc_new w1 (.map #[] 0),fun p h=>by omega⟩
 case round=>
  obtain ⟨WX,rfl⟩: ∃WX:World,WX=wr:=⟨wr,rfl⟩;obtain ⟨j,hj,rfl,hF,hS,hM,hH⟩:=hrel;have HF:=hid hF;have HS:=hid hS;have HM:=hid hM;have HH:=hid hH;clear hF hS hM hH;by_cases hlt:j < n
  ·have hle:(j:Int) < n:=by omega
   obtain ⟨b,off,rfl,hc⟩:=HT.out.resolve_left (by omega);have cx:=HF.out.cell id (hc j hlt);have szb:=World.block_lt_of_cell? _ _ cx;dsimp only at szb;have FX:=hid (HF.out.alloc (.cells #[.nilIface] 103));have BX:=hid (heap_alloc_new WX (.cells #[.nilIface] 103));have SX:=hid (show (WX.alloc (.cells #[.nilIface] 103)).heap.size=w1.heap.size + 1 + j + 1 by simp [HS.out]);have MX:=hid (((Fr.refl (fun _=>False) WX).alloc (.cells #[.nilIface] 103)).heap id HM.out)
   have hins:=run_insert_h (KK.out.keepF FX.out) hlt MX.out ⟨WX.heap.size,0,none⟩;clear hc;have NR:=hid (NewRel.next HF.out HS.out HM.out HH.out);go_wp2;go_roundw
   case rel=>exact ⟨j + 1,by omega,by go_num,NR.out⟩
   case measure=>simp [intOf];omega
  ·have hjn:j=n:=by omega
   subst hjn;have hle: ¬(j:Int) < j:=by omega
   have FE:=hid (HF.out.alloc (.cells #[.pointer none,.map (some w1.heap.size),.int .i64 0,.bool false] 247));have BE:=hid (heap_alloc_new WX (.cells #[.pointer none,.map (some w1.heap.size),.int .i64 0,.bool false] 247));have FW:=hid ((Fr.refl (fun _=>False) WX).alloc (.cells #[.pointer none,.map (some w1.heap.size),.int .i64 0,.bool false] 247));go_wp2;go_ret;exact ⟨by rw [<-HS.out];rfl,FE.out,by simp [HS.out],by rw [<-HS.out];exact BE.out,FW.out.heap id HM.out,fun p hp=>FW.out.heap id (HH.out p hp)⟩
def zU:Uni.Mode->Int
 |.exact=>0
 |.assign=>1
 |.loose=>2
def xK (B:UB)(n:Nat)(dv pv:Value)(w:World)(r:Res)(e:Ending)(w':World):Prop:=
 Fr B.M w w'/\match r with
 |.silent=>e= .returned (.bool false)/\ ∃s',URep w' B n s' dv pv true
 |.fail=>e= .returned (.bool false)/\ ∃s',URep w' B n s' dv pv false
 |.ok s'=>e= .returned (.bool true)/\URep w' B n s' dv pv false
structure UEnv (da:Option Addr) (dl dc:Nat) (D:zE) (ar:Nat->Nat) (w:World) (B:UB) (n:Nat) (s:St) (pv:Value):Prop where
 U:URep w B n s (.slice da dl dc) pv false
 d:DRep w B.M da dl D ar
 M: ∀b,B.M b->b < w.heap.size
 g:wJ dl ar s
structure XIn (ar:Nat->Nat) (dl:Nat) (w:World) (B:UB) (n:Nat) (x:TyV) (t:Tm):Prop where
 r:RT w B.M x t
 g:Uni.Good dl ar t
 h:Holes 2 n t
section
variable {da:Option Addr}{dl dc:Nat}{D:zE}{ar:Nat->Nat}
theorem XIn.keep {w w':World}{B:UB}{n:Nat}{x:TyV}{t:Tm}(h:XIn ar dl w B n x t)(f:Fr B.M w w'):XIn ar dl w' B n x t:=⟨h.r.keep f,h.g,h.h⟩
theorem UEnv.keep {w w':World}{B:UB}{n:Nat}{s:St}{pv:Value}(h:UEnv da dl dc D ar w B n s pv)(f:Fr F0 w w'):UEnv da dl dc D ar w' B n s pv:=
 ⟨h.U.keep f,h.d.keep f.sub,fun b hb=>Nat.lt_of_lt_of_le (h.M b hb) f.size,h.g⟩
theorem UEnv.next {w w':World}{B:UB}{n:Nat}{s s':St}{pv:Value}(h:UEnv da dl dc D ar w B n s pv)(f:Fr B.M w w')(hU:URep w' B n s' (.slice da dl dc) pv false)(hg:wJ dl ar s'):UEnv da dl dc D ar w' B n s' pv:=
 ⟨hU,h.d.keep f,fun b hb=>Nat.lt_of_lt_of_le (h.M b hb) f.size,hg⟩
def wL (da:Option Addr)(dl dc:Nat)(D:zE)(ar:Nat->Nat)(N:Nat):Prop:=
 ∀(s t:Tm) (x y:TyV) (m:Uni.Mode) (w:World) (B:UB) (n:Nat) (st:St) (pv:Value) (r:Res),zI D N st s t m=some r->UEnv da dl dc D ar w B n st pv->XIn ar dl w B n x s->XIn ar dl w B n y t->
  Calls Tryz.prog 35 #[.pointer (some ⟨B.u,0,none⟩),x.val,y.val,.int .i64 (zU m)] w (xK B n (.slice da dl dc) pv w r)
theorem all_any (hD:xF dl ar D)(N:Nat)(ih:wL da dl dc D ar N)(ts us:List Tm)(xs ys:List TyV)(xa ya:Option Addr)(xlen xcap ylen ycap:Nat)(m:Uni.Mode)(w:World)(B:UB)(n:Nat)(st:St)(pv:Value)(r:Res)
 (hr:seqS (fun s a b=>zI D N s a b m) st ts us=some r) (hE:UEnv da dl dc D ar w B n st pv)
 (hxe:xB w B.M xa xs) (hxl:xs.length=xlen) (htl:ts.length=xlen) (hye:xB w B.M ya ys) (hyl:ys.length=ylen) (hul:us.length=ylen) (hxy:xlen=ylen) (hb:xlen<=1954687338211)
 (hx: ∀(i:Nat) (z:TyV) (t:Tm),xs[i]?=some z->ts[i]?=some t->XIn ar dl w B n z t) (hy: ∀(i:Nat) (z:TyV) (t:Tm),ys[i]?=some z->us[i]?=some t->XIn ar dl w B n z t):
 Calls Tryz.prog 54 #[.pointer (some ⟨B.u,0,none⟩),.slice xa xlen xcap,.slice ya ylen ycap,.int .i64 (zU m)] w (xK B n (.slice da dl dc) pv w r):=by
 have IH:=hid ih;have HX:=hid hxe;have HY:=hid hye;have LX:=hid hxl;have LT:=hid htl;have LY:=hid hyl;have LU:=hid hul;have LXY:=hid hxy;have RX:=hid hx;have RY:=hid hy;have HR:=hid hr;have HE:=hid hE;have HDD:=hid hD;clear ih hxe hye hxl htl hyl hul hxy hx hy hr hE hD;go_enter Tryz.func54,Tryz.ntmps54;go_wp2;go_loopw [13] (fun i wr=> ∃(j:Nat) (s':St),j<=xlen/\i= .int .i64 j/\Fr B.M w wr/\UEnv da dl dc D ar wr B n s' pv/\seqS (fun s a b=>zI D N s a b m) s' (ts.drop j) (us.drop j)=some r) (fun i _=>xlen - (intOf i).toNat)
 case atStart=>exact ⟨0,st,Nat.zero_le _,rfl,by repeat (first | exact Fr.refl _ _ | refine Fr.alloc ?_ _),HE.out.keep (by repeat (first | exact Fr.refl _ _ | refine Fr.alloc ?_ _)),HR.out⟩
 case round=>
  obtain ⟨j,s1,hj,rfl,hf,he,hq⟩:=hrel;have HF:=hid hf;have HEN:=hid he;have HQ:=hid hq;clear hf he hq;by_cases hlt:j < xlen
  ·obtain ⟨X,b1,o1,gX,rfl,e1⟩:=HX.out.elem (show j < xs.length by rw [LX.out];exact hlt)
   obtain ⟨Y,b2,o2,gY,rfl,e2⟩:=HY.out.elem (show j < ys.length by rw [LY.out,<-LXY.out];exact hlt);have e1:=e1.keep HF.out;have e2:=e2.keep HF.out;obtain ⟨_,a0,a1,a2,a3,a4,a5⟩:=e1;obtain ⟨_,d0,d1,d2,d3,d4,d5⟩:=e2;have hb1:b1 < wr.heap.size:=World.block_lt_of_cell? _ _ a0;have hb2:b2 < wr.heap.size:=World.block_lt_of_cell? _ _ d5;have hle:(j:Int) < xlen:=by omega
   have hle2:(j:Int) < ylen:=by have:=LXY.out;omega
   have GX:=hid gX;have GY:=hid gY;clear gX gY;obtain ⟨t,ht⟩: ∃t,ts[j]?=some t:=⟨ts[j]'(by rw [LT.out];exact hlt),by simp⟩;obtain ⟨u,hu⟩: ∃u,us[j]?=some u:=⟨us[j]'(by rw [LU.out,<-LXY.out];exact hlt),by simp⟩;have T:=hid ht;have U:=hid hu;have hq:=HQ.out;rw [List.drop_eq_getElem_cons (List.getElem?_eq_some_iff.1 ht).1,List.drop_eq_getElem_cons (List.getElem?_eq_some_iff.1 hu).1,(List.getElem?_eq_some_iff.1 ht).2,(List.getElem?_eq_some_iff.1 hu).2,seqS] at hq
   clear ht hu;have FA:=HF.out.alloc (.cells #[.int .i64 X.k,.int .i64 X.n,.int .i64 X.c,.bool X.v,.slice X.a X.len X.cap,.string X.nm] 26);have FW:=hid FA.drew;clear FA;have FE:=(Fr.refl F0 wr).alloc (.cells #[.int .i64 X.k,.int .i64 X.n,.int .i64 X.c,.bool X.v,.slice X.a X.len X.cap,.string X.nm] 26);have EW:=hid (HEN.out.keep FE.drew);clear FE
   cases hcs:zI D N s1 t u m with
   |none=>rw [hcs] at hq;cases hq
   |some r1=>
    have HCS:=hid hcs;rw [hcs] at hq;have HQ2:=hid hq;clear hcs hq;go_wp2_with fail
    refine zP 7 (by kernel_rfl) ?_;simp only [List.take_succ_cons,List.take_zero,List.drop_succ_cons,List.drop_zero]
    repeat still_step
    refine wpStill_nil ?_;go_wp2_with fail
    refine (IH.out t u X Y m _ B n s1 pv r1 HCS.out EW.out ((RX.out j X t GX.out T.out).keep FW.out) ((RY.out j Y u GY.out U.out).keep FW.out)).mono ?_;rintro e w2 hp
    cases r1 with
    |silent=>
     obtain ⟨hf2,rfl,hU⟩:=hp;have HF2:=hid hf2;have HU:=hid hU;clear hf2 hU;have hr:r= .silent:=by have:=HQ2.out;dsimp only at this;exact (Option.some.inj this).symm
     subst hr;go_wp2;go_ret;exact ⟨FW.out.trans HF2.out,rfl,HU.out⟩
    |fail=>
     obtain ⟨hf2,rfl,hU⟩:=hp;have HF2:=hid hf2;have HU:=hid hU;clear hf2 hU;have hr:r= .fail:=by have:=HQ2.out;dsimp only at this;exact (Option.some.inj this).symm
     subst hr;go_wp2;go_ret;exact ⟨FW.out.trans HF2.out,rfl,HU.out⟩
    |ok s2=>
     obtain ⟨hf2,rfl,hU⟩:=hp;have HF2:=hid hf2;have HU:=hid hU;clear hf2 hU;have G2:=hid (unifyS_good HDD.out N s1 t u m s2 (RX.out j X t GX.out T.out).g (RY.out j Y u GY.out U.out).g HEN.out.g HCS.out);go_wp2;go_roundw
     case rel=>exact ⟨j + 1,s2,by omega,by go_num,FW.out.trans HF2.out,EW.out.next HF2.out HU.out G2.out,HQ2.out⟩
     case measure=>simp [intOf];omega
  ·have hr:r= .ok s1:=by
    have:=HQ.out;rw [List.drop_of_length_le (by rw [LT.out];omega),List.drop_of_length_le (by rw [LU.out,<-LXY.out];omega),seqS] at this
    ·exact (Option.some.inj this).symm
    ·intros;contradiction
   subst hr;have hge: ¬(j:Int) < xlen:=by omega
   go_wp2;go_ret;exact ⟨HF.out,rfl,HEN.out.U⟩
end
end Go.Proofs.YtpekidjfbinekaaGreatDoor
