/-   impl: Twice. -/
import Derived.Test.YtpekidjfbinekaaGreatDoorA38
set_option maxRecDepth 100000
set_option maxHeartbeats 60000000
set_option linter.all false
namespace Go.Proofs.YtpekidjfbinekaaGreatDoor
open Go.RowKit Uni
theorem pairsAt_two {w:World}{b:Nat}{x y x2 y2:TyV}{t:TypeId}(h:w.heap[b]?=some (.cells #[.int .i64 x.k,.int .i64 x.n,.int .i64 x.c,.bool x.v,.slice x.a x.len x.cap,.string x.nm,.int .i64 y.k,.int .i64 y.n,.int .i64 y.c,.bool y.v,.slice y.a y.len y.cap,.string y.nm,.int .i64 x2.k,.int .i64 x2.n,.int .i64 x2.c,.bool x2.v,.slice x2.a x2.len x2.cap,.string x2.nm,.int .i64 y2.k,.int .i64 y2.n,.int .i64 y2.c,.bool y2.v,.slice y2.a y2.len y2.cap,.string y2.nm] t (0,0))):PairsAt w (some ⟨b,0,none⟩) [(x,y),(x2,y2)]:=by
 have q:=zA h;refine .inr ⟨b,0,rfl,fun i p hp=> ?_⟩
 match i,hp with
 |0,hp=>cases hp;exact ⟨q 0,q 1,q 2,q 3,q 4,q 5,q 6,q 7,q 8,q 9,q 10,q 11⟩
 |1,hp=>cases hp;exact ⟨q 12,q 13,q 14,q 15,q 16,q 17,q 18,q 19,q 20,q 21,q 22,q 23⟩
theorem twice28_any {da:Option Addr}{dl dc n:Nat}{D:zE}{ar:Nat->Nat}(w:World)(h:DIn w da dl D ar n)(m:Uni.Mode)(x y x2 y2:TyV)(s t s2 t2:Tm)(hx:TIn w dl ar n x s)(hy:TIn w dl ar n y t)(hx2:TIn w dl ar n x2 s2)(hy2:TIn w dl ar n y2 t2)(hok:PairsOk D m St.init [(s,t),(s2,t2)]):
 Calls Tryz.prog 28 #[.slice da dl dc,.int .i64 n,x.val,y.val,x2.val,y2.val,.int .i64 (zU m)] w (UniInf w n D m [(s,t),(s2,t2)]):=by
 have HH:=hid h;have HX:=hid hx;have HY:=hid hy;have HX2:=hid hx2;have HY2:=hid hy2;have OKS:=hid hok;clear h hx hy hx2 hy2 hok;unfold TyV.val;go_enter Tryz.func28,Tryz.ntmps28;go_wp2_with fail
 obtain ⟨W,hW⟩: ∃W,W=(((w.alloc (.cells #[.int .i64 x.k,.int .i64 x.n,.int .i64 x.c,.bool x.v,.slice x.a x.len x.cap,.string x.nm] 26)).alloc (.cells #[.int .i64 y.k,.int .i64 y.n,.int .i64 y.c,.bool y.v,.slice y.a y.len y.cap,.string y.nm] 26)).alloc (.cells #[.int .i64 x2.k,.int .i64 x2.n,.int .i64 x2.c,.bool x2.v,.slice x2.a x2.len x2.cap,.string x2.nm] 26)).alloc (.cells #[.int .i64 y2.k,.int .i64 y2.n,.int .i64 y2.c,.bool y2.v,.slice y2.a y2.len y2.cap,.string y2.nm] 26):=⟨_,rfl⟩
 have FW:=hid (show Fr F0 w W by rw [hW];exact ((((Fr.refl F0 w).alloc _).alloc _).alloc _).alloc _);have BX:=hid (show W.heap[w.heap.size]?=some (.cells #[.int .i64 x.k,.int .i64 x.n,.int .i64 x.c,.bool x.v,.slice x.a x.len x.cap,.string x.nm] 26 (0,0)) by rw [hW];exact ((((Fr.refl F0 _).alloc _).alloc _).alloc _).heap id (heap_alloc_new w _));have BY:=hid (show W.heap[w.heap.size + 1]?=some (.cells #[.int .i64 y.k,.int .i64 y.n,.int .i64 y.c,.bool y.v,.slice y.a y.len y.cap,.string y.nm] 26 (0,0)) by rw [hW];exact (((Fr.refl F0 _).alloc _).alloc _).heap id (zS w _ _))
 have BX2:=hid (show W.heap[w.heap.size + 1 + 1]?=some (.cells #[.int .i64 x2.k,.int .i64 x2.n,.int .i64 x2.c,.bool x2.v,.slice x2.a x2.len x2.cap,.string x2.nm] 26 (0,0)) by rw [hW];exact ((Fr.refl F0 _).alloc _).heap id (heap_three w _ _ _))
 have BY2:=hid (show W.heap[w.heap.size + 1 + 1 + 1]?=some (.cells #[.int .i64 y2.k,.int .i64 y2.n,.int .i64 y2.c,.bool y2.v,.slice y2.a y2.len y2.cap,.string y2.nm] 26 (0,0)) by
  rw [hW];have h:=heap_alloc_new (((w.alloc (.cells #[.int .i64 x.k,.int .i64 x.n,.int .i64 x.c,.bool x.v,.slice x.a x.len x.cap,.string x.nm] 26)).alloc (.cells #[.int .i64 y.k,.int .i64 y.n,.int .i64 y.c,.bool y.v,.slice y.a y.len y.cap,.string y.nm] 26)).alloc (.cells #[.int .i64 x2.k,.int .i64 x2.n,.int .i64 x2.c,.bool x2.v,.slice x2.a x2.len x2.cap,.string x2.nm] 26)) (.cells #[.int .i64 y2.k,.int .i64 y2.n,.int .i64 y2.c,.bool y2.v,.slice y2.a y2.len y2.cap,.string y2.nm] 26)
  simp only [World.size_alloc] at h;exact h)
 rw [<-hW];clear hW;refine wp_region_planT (Fr F0 W) (.fl 0 (.fl 1 (.fl 3 (.fl 4 (.fl 5 (.fl 6 (.fl 7 (.fl 8 (.fl 10 (.fk 2 9 (.st 9 (.st 11 (.fl 12 (.fl 13 (.st 14 (.st 15 .nil)))))) (.st 2 (.st 11 (.fl 12 (.fl 13 (.st 14 (.st 15 .nil)))))))))))))))) [15] yE (by kernel_rfl) (by kernel_rfl) (by kernel_rfl) (by decide) ?_;have F0D:=hid ((Fr.refl F0 W).drew)
 iterate 9
  (refine planT_float _ rfl (Fr.refl _ _).drew (fun w' hS=>by
   have q0:=zA (hS.heap id BX.out);have s0:=zF (hS.heap id BX.out);have q1:=zA (hS.heap id BY.out);have s1:=zF (hS.heap id BY.out);have q2:=zA (hS.heap id BX2.out);have s2:=zF (hS.heap id BX2.out);have q3:=zA (hS.heap id BY2.out);have s3:=zF (hS.heap id BY2.out);clear hS;go_simp;rfl) ?_)
 go_simp;refine planT_fork rfl rfl ?_ ?_;have tg:Fin 10:=0;rotate_left;have tg:Fin 11:=0;rotate_left
 all_goals
  first
  |rename Fin 10=>tg
  |go_wp2
   have F2:=hid (((Fr.refl F0 W).alloc (.cells #[.int .i64 x.k,.int .i64 x.n,.int .i64 x.c,.bool x.v,.slice x.a x.len x.cap,.string x.nm,.int .i64 y.k,.int .i64 y.n,.int .i64 y.c,.bool y.v,.slice y.a y.len y.cap,.string y.nm,.int .i64 x2.k,.int .i64 x2.n,.int .i64 x2.c,.bool x2.v,.slice x2.a x2.len x2.cap,.string x2.nm,.int .i64 y2.k,.int .i64 y2.n,.int .i64 y2.c,.bool y2.v,.slice y2.a y2.len y2.cap,.string y2.nm] 64)).drew)
   have P2:=hid (show (W.alloc (.cells #[.int .i64 x.k,.int .i64 x.n,.int .i64 x.c,.bool x.v,.slice x.a x.len x.cap,.string x.nm,.int .i64 y.k,.int .i64 y.n,.int .i64 y.c,.bool y.v,.slice y.a y.len y.cap,.string y.nm,.int .i64 x2.k,.int .i64 x2.n,.int .i64 x2.c,.bool x2.v,.slice x2.a x2.len x2.cap,.string x2.nm,.int .i64 y2.k,.int .i64 y2.n,.int .i64 y2.c,.bool y2.v,.slice y2.a y2.len y2.cap,.string y2.nm] 64)).drew.heap[W.heap.size]?=some (.cells #[.int .i64 x.k,.int .i64 x.n,.int .i64 x.c,.bool x.v,.slice x.a x.len x.cap,.string x.nm,.int .i64 y.k,.int .i64 y.n,.int .i64 y.c,.bool y.v,.slice y.a y.len y.cap,.string y.nm,.int .i64 x2.k,.int .i64 x2.n,.int .i64 x2.c,.bool x2.v,.slice x2.a x2.len x2.cap,.string x2.nm,.int .i64 y2.k,.int .i64 y2.n,.int .i64 y2.c,.bool y2.v,.slice y2.a y2.len y2.cap,.string y2.nm] 64 (0,0)) from heap_alloc_new W _)
   generalize (W.alloc (.cells #[.int .i64 x.k,.int .i64 x.n,.int .i64 x.c,.bool x.v,.slice x.a x.len x.cap,.string x.nm,.int .i64 y.k,.int .i64 y.n,.int .i64 y.c,.bool y.v,.slice y.a y.len y.cap,.string y.nm,.int .i64 x2.k,.int .i64 x2.n,.int .i64 x2.c,.bool x2.v,.slice x2.a x2.len x2.cap,.string x2.nm,.int .i64 y2.k,.int .i64 y2.n,.int .i64 y2.c,.bool y2.v,.slice y2.a y2.len y2.cap,.string y2.nm] 64)).drew=w2 at F2 P2 ⊢
   refine And.intro (fun _=>F2.out) ?_;refine planT_step rfl ?_
  go_wp2_with fail
  first
  |rename Fin 10=>tg
   refine (build_any W.drew da dl dc n (HH.out.keep (FW.out.trans F0D.out)).d HH.out.n8 (HH.out.keep (FW.out.trans F0D.out)).tab HH.out.good HH.out.kind).mono ?_;rintro e w2 ⟨rfl,tpo,o,tps,nms,obs,hC⟩;have C2:=hid hC;have F2:=hid (F0D.out.trans hC.f)
  |refine (build_any w2 da dl dc n (HH.out.keep (FW.out.trans F2.out)).d HH.out.n8 (HH.out.keep (FW.out.trans F2.out)).tab HH.out.good HH.out.kind).mono ?_
   rintro e w3 ⟨rfl,tpo,o,tps,nms,obs,hC⟩;have C3:=hid hC;have F3:=hid (F2.out.trans hC.f);have P3:=hid (pairsAt_two (x:=x) (y:=y) (x2:=x2) (y2:=y2) (hC.f.heap id P2.out))
  clear hC;go_wp2
  first
  |rename Fin 10=>tg
   refine And.intro (fun _=>F2.out) ?_;refine planT_step rfl ?_;go_wp2;have F3:=hid (F2.out.alloc (.cells #[.int .i64 x.k,.int .i64 x.n,.int .i64 x.c,.bool x.v,.slice x.a x.len x.cap,.string x.nm,.int .i64 y.k,.int .i64 y.n,.int .i64 y.c,.bool y.v,.slice y.a y.len y.cap,.string y.nm,.int .i64 x2.k,.int .i64 x2.n,.int .i64 x2.c,.bool x2.v,.slice x2.a x2.len x2.cap,.string x2.nm,.int .i64 y2.k,.int .i64 y2.n,.int .i64 y2.c,.bool y2.v,.slice y2.a y2.len y2.cap,.string y2.nm] 64))
   have P3:=hid (pairsAt_two (x:=x) (y:=y) (x2:=x2) (y2:=y2) (heap_alloc_new w2 (.cells #[.int .i64 x.k,.int .i64 x.n,.int .i64 x.c,.bool x.v,.slice x.a x.len x.cap,.string x.nm,.int .i64 y.k,.int .i64 y.n,.int .i64 y.c,.bool y.v,.slice y.a y.len y.cap,.string y.nm,.int .i64 x2.k,.int .i64 x2.n,.int .i64 x2.c,.bool x2.v,.slice x2.a x2.len x2.cap,.string x2.nm,.int .i64 y2.k,.int .i64 y2.n,.int .i64 y2.c,.bool y2.v,.slice y2.a y2.len y2.cap,.string y2.nm] 64)))
   have F23:=hid ((Fr.refl F0 w2).alloc (.cells #[.int .i64 x.k,.int .i64 x.n,.int .i64 x.c,.bool x.v,.slice x.a x.len x.cap,.string x.nm,.int .i64 y.k,.int .i64 y.n,.int .i64 y.c,.bool y.v,.slice y.a y.len y.cap,.string y.nm,.int .i64 x2.k,.int .i64 x2.n,.int .i64 x2.c,.bool x2.v,.slice x2.a x2.len x2.cap,.string x2.nm,.int .i64 y2.k,.int .i64 y2.n,.int .i64 y2.c,.bool y2.v,.slice y2.a y2.len y2.cap,.string y2.nm] 64))
   generalize w2.alloc (.cells #[.int .i64 x.k,.int .i64 x.n,.int .i64 x.c,.bool x.v,.slice x.a x.len x.cap,.string x.nm,.int .i64 y.k,.int .i64 y.n,.int .i64 y.c,.bool y.v,.slice y.a y.len y.cap,.string y.nm,.int .i64 x2.k,.int .i64 x2.n,.int .i64 x2.c,.bool x2.v,.slice x2.a x2.len x2.cap,.string x2.nm,.int .i64 y2.k,.int .i64 y2.n,.int .i64 y2.c,.bool y2.v,.slice y2.a y2.len y2.cap,.string y2.nm] 64)=w3 at F3 P3 F23 ⊢
  |skip
  refine And.intro (fun _=>F3.out) ?_;refine planT_step rfl ?_;go_wp2_with fail
  first
  |rename Fin 10=>tg
   refine (unify_behind (HH.out.keep (FW.out.trans F0D.out)) C2.out F23.out m _ 2 2 [(x,y),(x2,y2)] [(s,t),(s2,t2)] P3.out rfl rfl (by decide) (by decide) (fun i p q h1 h2=>by
    cases i with
    |zero=>cases h1;cases h2;exact ⟨HX.out.keep (FW.out.trans F3.out),HY.out.keep (FW.out.trans F3.out)⟩
    |succ i=>
     cases i with
     |zero=>cases h1;cases h2;exact ⟨HX2.out.keep (FW.out.trans F3.out),HY2.out.keep (FW.out.trans F3.out)⟩
     |succ i=>simp at h1) OKS.out).mono ?_
  |refine (unify_behind (HH.out.keep (FW.out.trans F2.out)) C3.out (Fr.refl F0 w3) m _ 2 2 [(x,y),(x2,y2)] [(s,t),(s2,t2)] P3.out rfl rfl (by decide) (by decide) (fun i p q h1 h2=>by
   cases i with
   |zero=>cases h1;cases h2;exact ⟨HX.out.keep (FW.out.trans F3.out),HY.out.keep (FW.out.trans F3.out)⟩
   |succ i=>
    cases i with
    |zero=>cases h1;cases h2;exact ⟨HX2.out.keep (FW.out.trans F3.out),HY2.out.keep (FW.out.trans F3.out)⟩
    |succ i=>simp at h1) OKS.out).mono ?_
  rintro e w4 ⟨ia,ic,ls,oks,s',rfl,hf4,hpr,hll,hinf,hic⟩;have F4:=hid (F3.out.trans hf4);have PR:=hid hpr;have LL:=hid hll;have INF:=hid hinf;have IC:=hid hic;clear hf4 hpr hll hinf hic;go_wp2;refine And.intro (fun _=>F4.out) ?_
  iterate 2
   (refine planT_float _ rfl F4.out (fun w' hS=>by
    clear hS;go_simp;rfl) ?_)
  go_simp;refine planT_step rfl ?_;go_wp2;refine And.intro (fun _=>F4.out) ?_;refine planT_step rfl ?_;go_wp2;refine And.intro (fun h=>absurd h (by decide)) ?_;refine planT_nil (NoPanic.normal ?_);go_wp2;go_ret2;exact ⟨ia,ic,ls,oks,s',rfl,FW.out.trans F4.out,PR.out,LL.out,INF.out,IC.out⟩
end Go.Proofs.YtpekidjfbinekaaGreatDoor
