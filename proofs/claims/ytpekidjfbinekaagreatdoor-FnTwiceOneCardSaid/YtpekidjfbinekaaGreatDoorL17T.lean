import Derived.Test.YtpekidjfbinekaaGreatDoorL16T
import Derived.Test.YtpekidjfbinekaaGreatDoorL19T
import Derived.Test.YtpekidjfbinekaaGreatDoorJ9T
import Derived.Test.YtpekidjfbinekaaGreatDoorC38
set_option maxRecDepth 100000
set_option maxHeartbeats 60000000
set_option linter.all false
namespace Go.Proofs.YtpekidjfbinekaaGreatDoor
open Go.RowKit Uni
abbrev Z6:Obj:=(.cells #[.int .i64 0,.int .i64 0,.int .i64 0,.bool false,.slice none 0 0,.string ⟨#[]⟩] 26)
structure TS (x x2 y y2:TyV) (w V:World) (oA oB o1 o2:Option Nat):Prop where
 f:Fr F0 w V
 a: ∀A,oA=some A->V.heap[A]?=some (.cells #[.int .i64 0,.int .i64 0,.int .i64 0,.bool false,.slice none 0 0,.string ⟨#[]⟩] 26 (0,0))/\w.heap.size<=A
 b: ∀B,oB=some B->V.heap[B]?=some (.cells #[.int .i64 0,.int .i64 0,.int .i64 0,.bool false,.slice none 0 0,.string ⟨#[]⟩] 26 (0,0))/\w.heap.size<=B
 p1: ∀b,o1=some b->V.heap[b]?=some (.cells (arr12 {x with nm:=⟨#[65]⟩} {x2 with nm:=⟨#[66]⟩}) 26 (0,0))
 p2: ∀b,o2=some b->V.heap[b]?=some (.cells (arr12 {y with nm:=⟨#[65]⟩} {y2 with nm:=⟨#[66]⟩}) 26 (0,0))
 ne: ∀A B,oA=some A->oB=some B->A≠B
section
variable {x x2 y y2:TyV}{w V V':World}{oA oB o1 o2:Option Nat}{b:Nat}
theorem TS.start (x x2 y y2:TyV)(w:World):TS x x2 y y2 w w.drew none none none none:=
 ⟨(Fr.refl F0 w).drew,fun _ h=>(by cases h),fun _ h=>(by cases h),fun _ h=>(by cases h),fun _ h=>(by cases h),fun _ _ h=>(by cases h)⟩
theorem TS.keep (h:TS x x2 y y2 w V oA oB o1 o2)(f:Fr F0 V V'):TS x x2 y y2 w V' oA oB o1 o2:=
 ⟨h.f.trans f,fun A e=>⟨f.heap id (h.a A e).1,(h.a A e).2⟩,fun A e=>⟨f.heap id (h.b A e).1,(h.b A e).2⟩,fun b e=>f.heap id (h.p1 b e),fun b e=>f.heap id (h.p2 b e),h.ne⟩
theorem TS.call1 (h:TS x x2 y y2 w V oA oB none o2)(f:Fr F0 V V')(hb:V'.heap[b]?=some (.cells (arr12 {x with nm:=⟨#[65]⟩} {x2 with nm:=⟨#[66]⟩}) 26 (0,0))):TS x x2 y y2 w V' oA oB (some b) o2:=
 have k:=h.keep f
 ⟨k.f,k.a,k.b,fun c e=>by cases e;exact hb,k.p2,k.ne⟩
theorem TS.call2 (h:TS x x2 y y2 w V oA oB o1 none)(f:Fr F0 V V')(hb:V'.heap[b]?=some (.cells (arr12 {y with nm:=⟨#[65]⟩} {y2 with nm:=⟨#[66]⟩}) 26 (0,0))):TS x x2 y y2 w V' oA oB o1 (some b):=
 have k:=h.keep f
 ⟨k.f,k.a,k.b,k.p1,fun c e=>by cases e;exact hb,k.ne⟩
theorem TS.alloc6 (h:TS x x2 y y2 w V none oB o1 o2):TS x x2 y y2 w (V.alloc Z6) (some V.heap.size) oB o1 o2:=
 have k:=h.keep ((Fr.refl F0 V).alloc Z6)
 ⟨k.f,fun A e=>by cases e;exact ⟨heap_alloc_new V _,h.f.size⟩,k.b,k.p1,k.p2,fun A B e1 e2=>by cases e1;have:=zF (h.b B e2).1;omega⟩
theorem TS.alloc7 (h:TS x x2 y y2 w V oA none o1 o2):TS x x2 y y2 w (V.alloc Z6) oA (some V.heap.size) o1 o2:=
 have k:=h.keep ((Fr.refl F0 V).alloc Z6)
 ⟨k.f,k.a,fun A e=>by cases e;exact ⟨heap_alloc_new V _,h.f.size⟩,k.p1,k.p2,fun A B e1 e2=>by cases e2;have:=zF (h.a A e1).1;omega⟩
theorem ne12 {A:Nat}{p q:TyV}(h1:V.heap[A]?=some (.cells #[.int .i64 0,.int .i64 0,.int .i64 0,.bool false,.slice none 0 0,.string ⟨#[]⟩] 26 (0,0)))(h2:V.heap[b]?=some (.cells (arr12 p q) 26 (0,0))):A≠b:=by
 intro e;subst e;rw [h1] at h2;simp [arr12] at h2
end
theorem fnTwiceOne {da:Option Addr}{dl dc:Nat}(n:Int)(w:World)(h:ArgIn w da dl dc)(x y x2 y2:TyV)(hx:Raw w x)(hy:Raw w y)(hx2:Raw w x2)(hy2:Raw w y2):
 Calls Tryz.prog 13 #[.slice da dl dc,.int .i64 n,x.val,y.val,x2.val,y2.val] w (YesB w):=by
 have HH:=hid h;have HX:=hid hx;have HY:=hid hy;have HX2:=hid hx2;have HY2:=hid hy2;clear h hx hy hx2 hy2;unfold TyV.val;by_cases hbig:(2147483647:Int) < dl
 ·go_enter Tryz.func13,Tryz.ntmps13
  go_wp2;go_ret;exact ⟨rfl,((((Fr.refl F0 w).alloc _).alloc _).alloc _).alloc _⟩
 have BIG:decide ((2147483647:Int) < dl)=false:=by simpa using hbig
 clear hbig;go_enter Tryz.func13,Tryz.ntmps13;go_wp2_with fail
 obtain ⟨W,hW⟩: ∃W,W=((((w.alloc (.cells #[.int .i64 x.k,.int .i64 x.n,.int .i64 x.c,.bool x.v,.slice x.a x.len x.cap,.string x.nm] 26)).alloc (.cells #[.int .i64 y.k,.int .i64 y.n,.int .i64 y.c,.bool y.v,.slice y.a y.len y.cap,.string y.nm] 26)).alloc (.cells #[.int .i64 x2.k,.int .i64 x2.n,.int .i64 x2.c,.bool x2.v,.slice x2.a x2.len x2.cap,.string x2.nm] 26)).alloc (.cells #[.int .i64 y2.k,.int .i64 y2.n,.int .i64 y2.c,.bool y2.v,.slice y2.a y2.len y2.cap,.string y2.nm] 26)):=⟨_,rfl⟩
 have FW:=hid (show Fr F0 w W by rw [hW];exact ((((Fr.refl F0 w).alloc _).alloc _).alloc _).alloc _);have BX:=hid (show W.heap[w.heap.size]?=some (.cells #[.int .i64 x.k,.int .i64 x.n,.int .i64 x.c,.bool x.v,.slice x.a x.len x.cap,.string x.nm] 26 (0,0)) by rw [hW];exact ((((Fr.refl F0 _).alloc _).alloc _).alloc _).heap id (heap_alloc_new w _));have BY:=hid (show W.heap[w.heap.size + 1]?=some (.cells #[.int .i64 y.k,.int .i64 y.n,.int .i64 y.c,.bool y.v,.slice y.a y.len y.cap,.string y.nm] 26 (0,0)) by rw [hW];exact (((Fr.refl F0 _).alloc _).alloc _).heap id (zS w _ _))
 have BX2:=hid (show W.heap[w.heap.size + 1 + 1]?=some (.cells #[.int .i64 x2.k,.int .i64 x2.n,.int .i64 x2.c,.bool x2.v,.slice x2.a x2.len x2.cap,.string x2.nm] 26 (0,0)) by rw [hW];exact ((Fr.refl F0 _).alloc _).heap id (heap_three w _ _ _))
 have BY2:=hid (show W.heap[w.heap.size + 1 + 1 + 1]?=some (.cells #[.int .i64 y2.k,.int .i64 y2.n,.int .i64 y2.c,.bool y2.v,.slice y2.a y2.len y2.cap,.string y2.nm] 26 (0,0)) by
  rw [hW];have h:=heap_alloc_new (((w.alloc (.cells #[.int .i64 x.k,.int .i64 x.n,.int .i64 x.c,.bool x.v,.slice x.a x.len x.cap,.string x.nm] 26)).alloc (.cells #[.int .i64 y.k,.int .i64 y.n,.int .i64 y.c,.bool y.v,.slice y.a y.len y.cap,.string y.nm] 26)).alloc (.cells #[.int .i64 x2.k,.int .i64 x2.n,.int .i64 x2.c,.bool x2.v,.slice x2.a x2.len x2.cap,.string x2.nm] 26)) (.cells #[.int .i64 y2.k,.int .i64 y2.n,.int .i64 y2.c,.bool y2.v,.slice y2.a y2.len y2.cap,.string y2.nm] 26)
  simp only [World.size_alloc] at h;exact h)
 rw [<-hW];clear hW;refine (fits_any x _ HX.out.small).mono ?_;rintro e w1 ⟨b1,rfl,hf1⟩;have F1:=hid hf1;clear hf1;cases b1
 ·go_wp2
  go_ret;exact ⟨rfl,FW.out.trans F1.out⟩
 have c1_0:=zA (F1.out.heap id BX.out);have z1_0:=bl (c1_0 0);have c1_1:=zA (F1.out.heap id BY.out);have z1_1:=bl (c1_1 0);have c1_2:=zA (F1.out.heap id BX2.out);have z1_2:=bl (c1_2 0);have c1_3:=zA (F1.out.heap id BY2.out);have z1_3:=bl (c1_3 0);go_wp2_with fail
 refine (fits_any y _ HY.out.small).mono ?_;rintro e w2 ⟨b2,rfl,hf2⟩;have F2:=hid (F1.out.trans hf2);clear hf2;clear c1_0 z1_0 c1_1 z1_1 c1_2 z1_2 c1_3 z1_3;cases b2
 ·go_wp2
  go_ret;exact ⟨rfl,FW.out.trans F2.out⟩
 have c2_0:=zA (F2.out.heap id BX.out);have z2_0:=bl (c2_0 0);have c2_1:=zA (F2.out.heap id BY.out);have z2_1:=bl (c2_1 0);have c2_2:=zA (F2.out.heap id BX2.out);have z2_2:=bl (c2_2 0);have c2_3:=zA (F2.out.heap id BY2.out);have z2_3:=bl (c2_3 0);go_wp2_with fail
 refine (fits_any x2 _ HX2.out.small).mono ?_;rintro e w3 ⟨b3,rfl,hf3⟩;have F3:=hid (F2.out.trans hf3);clear hf3;clear c2_0 z2_0 c2_1 z2_1 c2_2 z2_2 c2_3 z2_3;cases b3
 ·go_wp2
  go_ret;exact ⟨rfl,FW.out.trans F3.out⟩
 have c3_0:=zA (F3.out.heap id BX.out);have z3_0:=bl (c3_0 0);have c3_1:=zA (F3.out.heap id BY.out);have z3_1:=bl (c3_1 0);have c3_2:=zA (F3.out.heap id BX2.out);have z3_2:=bl (c3_2 0);have c3_3:=zA (F3.out.heap id BY2.out);have z3_3:=bl (c3_3 0);go_wp2_with fail
 refine (fits_any y2 _ HY2.out.small).mono ?_;rintro e w4 ⟨b4,rfl,hf4⟩;have F4:=hid (F3.out.trans hf4);clear hf4;clear c3_0 z3_0 c3_1 z3_1 c3_2 z3_2 c3_3 z3_3;cases b4
 ·go_wp2
  go_ret;exact ⟨rfl,FW.out.trans F4.out⟩
 have c4_0:=zA (F4.out.heap id BX.out);have z4_0:=bl (c4_0 0);have c4_1:=zA (F4.out.heap id BY.out);have z4_1:=bl (c4_1 0);have c4_2:=zA (F4.out.heap id BX2.out);have z4_2:=bl (c4_2 0);have c4_3:=zA (F4.out.heap id BY2.out);have z4_3:=bl (c4_3 0);obtain ⟨ps,hps⟩:=HH.out.d;have PS:=hid hps;clear hps;go_wp2_with fail
 have FA:=hid (FW.out.trans (F4.out.alloc (.cells (arr24 x y x2 y2) 26)));refine (valid_any da dl dc n (some ⟨w4.heap.size,0,none⟩) 4 4 ps [x,y,x2,y2] (w4.alloc (.cells (arr24 x y x2 y2) 26)) (PS.out.keep FA.out) (rawL_four (heap_alloc_new w4 _) (HX.out.keep FA.out) (HY.out.keep FA.out) (HX2.out.keep FA.out) (HY2.out.keep FA.out))).mono ?_;rintro e w5 ⟨b5,rfl,hf5,hv⟩;have F5:=hid ((F4.out.alloc (.cells (arr24 x y x2 y2) 26)).trans hf5)
 clear c4_0 z4_0 c4_1 z4_1 c4_2 z4_2 c4_3 z4_3;cases b5
 ·clear hf5 hv
  go_wp2;go_ret;exact ⟨rfl,FW.out.trans F5.out⟩
 obtain ⟨N,ar,D,s,t,s2,t2,rfl,hL,hS,hT,hS2,hT2⟩:=valid_four (hv rfl) (HH.out.tab.keep FA.out) hf5;have LI:=hid hL;have HS:=hid hS;have HT:=hid hT;have HS2:=hid hS2;have HT2:=hid hT2;clear hf5 hv hL hS hT hS2 hT2;clear HX HY HX2 HY2 PS;have PA:=hid (fun (w:World)=>pair_any x x2 w);have PB:=hid (fun (w:World)=>pair_any y y2 w);unfold TyV.val at PA PB;dsimp only at PA PB;have CX:=hid (F5.out.heap id BX.out);have CY:=hid (F5.out.heap id BY.out);have CX2:=hid (F5.out.heap id BX2.out);have CY2:=hid (F5.out.heap id BY2.out)
 go_wp2_with fail
 refine wp_region_planU (Fr F0 w5) (.fl 0 (.fl 1 (.fl 3 (.fl 4 (.f3 2 6 7 (.f3 5 6 7 (.fk 6 7 (.st 7 (.st 8 (.st 9 .nil))) (.st 6 (.st 8 (.st 9 .nil)))) (.fk 5 7 (.st 7 (.st 8 (.st 9 .nil))) (.st 5 (.st 8 (.st 9 .nil)))) (.fk 5 6 (.st 6 (.st 8 (.st 9 .nil))) (.st 5 (.st 8 (.st 9 .nil))))) (.fk 2 7 (.fk 5 7 (.st 7 (.st 8 (.st 9 .nil))) (.st 5 (.st 8 (.st 9 .nil)))) (.st 2 (.st 5 (.st 8 (.st 9 .nil))))) (.fk 2 6 (.fk 5 6 (.st 6 (.st 8 (.st 9 .nil))) (.st 5 (.st 8 (.st 9 .nil)))) (.st 2 (.st 5 (.st 8 (.st 9 .nil)))))))))) [] yE (by kernel_rfl) (by kernel_rfl) (by kernel_rfl) (by decide) ?_
 iterate 4
  (refine planU_float _ rfl (Fr.refl _ _).drew (fun w' hS=>by
   have q0:=zA (hS.heap id CX.out);have s0:=zF (hS.heap id CX.out);have q1:=zA (hS.heap id CY.out);have s1:=zF (hS.heap id CY.out);have q2:=zA (hS.heap id CX2.out);have s2:=zF (hS.heap id CX2.out);have q3:=zA (hS.heap id CY2.out);have s3:=zF (hS.heap id CY2.out);clear hS;go_simp;rfl) ?_)
 go_simp;obtain ⟨v0,hv0⟩: ∃v0,v0=w5.drew:=⟨_,rfl⟩;have T0:=hid (show TS x x2 y y2 w5 v0 none none none none by rw [hv0];exact TS.start _ _ _ _ _);rw [<-hv0];clear hv0;refine planU_f3 rfl rfl rfl ?_ ?_ ?_;go_wp2_with fail
 refine (PA.out v0).mono ?_;rintro e v1 ⟨b1,rfl,_,hB,hf⟩;have T1:=hid (T0.out.call1 hf hB);clear hB hf;go_wp2;refine And.intro (fun _=>T1.out.f) ?_;refine planU_f3 rfl rfl rfl ?_ ?_ ?_;go_wp2_with fail
 refine (PB.out v1).mono ?_;rintro e v2 ⟨b2,rfl,_,hB,hf⟩;have T2:=hid (T1.out.call2 hf hB);clear hB hf;go_wp2;refine And.intro (fun _=>T2.out.f) ?_;refine planU_fork rfl rfl ?_ ?_;go_wp2;have T3:=hid T2.out.alloc6;obtain ⟨v3,hv⟩: ∃v,v=v2.alloc Z6:=⟨_,rfl⟩;rw [<-hv] at T3;refine And.intro (fun _=>by rw [<-hv];exact T3.out.f) ?_;rw [<-hv];clear hv;refine planU_step rfl ?_;go_wp2;have T4:=hid T3.out.alloc7
 obtain ⟨v4,hv⟩: ∃v,v=v3.alloc Z6:=⟨_,rfl⟩;rw [<-hv] at T4;refine And.intro (fun _=>by rw [<-hv];exact T4.out.f) ?_;rw [<-hv];clear hv;have T:=T4;generalize v2.heap.size=A at T ⊢;generalize v3.heap.size=B at T ⊢;generalize v4=V at T ⊢
 rotate_left;go_wp2;have T5:=hid T2.out.alloc7;obtain ⟨v5,hv⟩: ∃v,v=v2.alloc Z6:=⟨_,rfl⟩;rw [<-hv] at T5;refine And.intro (fun _=>by rw [<-hv];exact T5.out.f) ?_;rw [<-hv];clear hv;refine planU_step rfl ?_;go_wp2;have T6:=hid T5.out.alloc6;obtain ⟨v6,hv⟩: ∃v,v=v5.alloc Z6:=⟨_,rfl⟩;rw [<-hv] at T6;refine And.intro (fun _=>by rw [<-hv];exact T6.out.f) ?_;rw [<-hv];clear hv;have T:=T6;generalize v5.heap.size=A at T ⊢
 generalize v2.heap.size=B at T ⊢;generalize v6=V at T ⊢
 rotate_left;go_wp2;have T7:=hid T1.out.alloc6;obtain ⟨v7,hv⟩: ∃v,v=v1.alloc Z6:=⟨_,rfl⟩;rw [<-hv] at T7;refine And.intro (fun _=>by rw [<-hv];exact T7.out.f) ?_;rw [<-hv];clear hv;refine planU_fork rfl rfl ?_ ?_;go_wp2_with fail
 refine (PB.out v7).mono ?_;rintro e v8 ⟨b2,rfl,_,hB,hf⟩;have T8:=hid (T7.out.call2 hf hB);clear hB hf;go_wp2;refine And.intro (fun _=>T8.out.f) ?_;refine planU_step rfl ?_;go_wp2;have T9:=hid T8.out.alloc7;obtain ⟨v9,hv⟩: ∃v,v=v8.alloc Z6:=⟨_,rfl⟩;rw [<-hv] at T9;refine And.intro (fun _=>by rw [<-hv];exact T9.out.f) ?_;rw [<-hv];clear hv;have T:=T9;generalize v1.heap.size=A at T ⊢;generalize v8.heap.size=B at T ⊢
 generalize v9=V at T ⊢
 rotate_left;go_wp2;have T10:=hid T7.out.alloc7;obtain ⟨v10,hv⟩: ∃v,v=v7.alloc Z6:=⟨_,rfl⟩;rw [<-hv] at T10;refine And.intro (fun _=>by rw [<-hv];exact T10.out.f) ?_;rw [<-hv];clear hv;refine planU_step rfl ?_;go_wp2_with fail
 refine (PB.out v10).mono ?_;rintro e v11 ⟨b2,rfl,_,hB,hf⟩;have T11:=hid (T10.out.call2 hf hB);clear hB hf;go_wp2;refine And.intro (fun _=>T11.out.f) ?_;have T:=T11;generalize v1.heap.size=A at T ⊢;generalize v7.heap.size=B at T ⊢;generalize v11=V at T ⊢
 rotate_left;go_wp2;have T12:=hid T1.out.alloc7;obtain ⟨v12,hv⟩: ∃v,v=v1.alloc Z6:=⟨_,rfl⟩;rw [<-hv] at T12;refine And.intro (fun _=>by rw [<-hv];exact T12.out.f) ?_;rw [<-hv];clear hv;refine planU_fork rfl rfl ?_ ?_;go_wp2_with fail
 refine (PB.out v12).mono ?_;rintro e v13 ⟨b2,rfl,_,hB,hf⟩;have T13:=hid (T12.out.call2 hf hB);clear hB hf;go_wp2;refine And.intro (fun _=>T13.out.f) ?_;refine planU_step rfl ?_;go_wp2;have T14:=hid T13.out.alloc6;obtain ⟨v14,hv⟩: ∃v,v=v13.alloc Z6:=⟨_,rfl⟩;rw [<-hv] at T14;refine And.intro (fun _=>by rw [<-hv];exact T14.out.f) ?_;rw [<-hv];clear hv;have T:=T14;generalize v13.heap.size=A at T ⊢;generalize v1.heap.size=B at T ⊢
 generalize v14=V at T ⊢
 rotate_left;go_wp2;have T15:=hid T12.out.alloc6;obtain ⟨v15,hv⟩: ∃v,v=v12.alloc Z6:=⟨_,rfl⟩;rw [<-hv] at T15;refine And.intro (fun _=>by rw [<-hv];exact T15.out.f) ?_;rw [<-hv];clear hv;refine planU_step rfl ?_;go_wp2_with fail
 refine (PB.out v15).mono ?_;rintro e v16 ⟨b2,rfl,_,hB,hf⟩;have T16:=hid (T15.out.call2 hf hB);clear hB hf;go_wp2;refine And.intro (fun _=>T16.out.f) ?_;have T:=T16;generalize v12.heap.size=A at T ⊢;generalize v1.heap.size=B at T ⊢;generalize v16=V at T ⊢
 rotate_left;go_wp2;have T17:=hid T0.out.alloc6;obtain ⟨v17,hv⟩: ∃v,v=v0.alloc Z6:=⟨_,rfl⟩;rw [<-hv] at T17;refine And.intro (fun _=>by rw [<-hv];exact T17.out.f) ?_;rw [<-hv];clear hv;refine planU_fork rfl rfl ?_ ?_;go_wp2_with fail
 refine (PA.out v17).mono ?_;rintro e v18 ⟨b1,rfl,_,hB,hf⟩;have T18:=hid (T17.out.call1 hf hB);clear hB hf;go_wp2;refine And.intro (fun _=>T18.out.f) ?_;refine planU_fork rfl rfl ?_ ?_;go_wp2_with fail
 refine (PB.out v18).mono ?_;rintro e v19 ⟨b2,rfl,_,hB,hf⟩;have T19:=hid (T18.out.call2 hf hB);clear hB hf;go_wp2;refine And.intro (fun _=>T19.out.f) ?_;refine planU_step rfl ?_;go_wp2;have T20:=hid T19.out.alloc7;obtain ⟨v20,hv⟩: ∃v,v=v19.alloc Z6:=⟨_,rfl⟩;rw [<-hv] at T20;refine And.intro (fun _=>by rw [<-hv];exact T20.out.f) ?_;rw [<-hv];clear hv;have T:=T20;generalize v0.heap.size=A at T ⊢;generalize v19.heap.size=B at T ⊢
 generalize v20=V at T ⊢
 rotate_left;go_wp2;have T21:=hid T18.out.alloc7;obtain ⟨v21,hv⟩: ∃v,v=v18.alloc Z6:=⟨_,rfl⟩;rw [<-hv] at T21;refine And.intro (fun _=>by rw [<-hv];exact T21.out.f) ?_;rw [<-hv];clear hv;refine planU_step rfl ?_;go_wp2_with fail
 refine (PB.out v21).mono ?_;rintro e v22 ⟨b2,rfl,_,hB,hf⟩;have T22:=hid (T21.out.call2 hf hB);clear hB hf;go_wp2;refine And.intro (fun _=>T22.out.f) ?_;have T:=T22;generalize v0.heap.size=A at T ⊢;generalize v18.heap.size=B at T ⊢;generalize v22=V at T ⊢
 rotate_left;go_wp2;have T23:=hid T17.out.alloc7;obtain ⟨v23,hv⟩: ∃v,v=v17.alloc Z6:=⟨_,rfl⟩;rw [<-hv] at T23;refine And.intro (fun _=>by rw [<-hv];exact T23.out.f) ?_;rw [<-hv];clear hv;refine planU_step rfl ?_;go_wp2_with fail
 refine (PA.out v23).mono ?_;rintro e v24 ⟨b1,rfl,_,hB,hf⟩;have T24:=hid (T23.out.call1 hf hB);clear hB hf;go_wp2;refine And.intro (fun _=>T24.out.f) ?_;refine planU_step rfl ?_;go_wp2_with fail
 refine (PB.out v24).mono ?_;rintro e v25 ⟨b2,rfl,_,hB,hf⟩;have T25:=hid (T24.out.call2 hf hB);clear hB hf;go_wp2;refine And.intro (fun _=>T25.out.f) ?_;have T:=T25;generalize v0.heap.size=A at T ⊢;generalize v17.heap.size=B at T ⊢;generalize v25=V at T ⊢
 rotate_left;go_wp2;have T26:=hid T0.out.alloc7;obtain ⟨v26,hv⟩: ∃v,v=v0.alloc Z6:=⟨_,rfl⟩;rw [<-hv] at T26;refine And.intro (fun _=>by rw [<-hv];exact T26.out.f) ?_;rw [<-hv];clear hv;refine planU_fork rfl rfl ?_ ?_;go_wp2_with fail
 refine (PA.out v26).mono ?_;rintro e v27 ⟨b1,rfl,_,hB,hf⟩;have T27:=hid (T26.out.call1 hf hB);clear hB hf;go_wp2;refine And.intro (fun _=>T27.out.f) ?_;refine planU_fork rfl rfl ?_ ?_;go_wp2_with fail
 refine (PB.out v27).mono ?_;rintro e v28 ⟨b2,rfl,_,hB,hf⟩;have T28:=hid (T27.out.call2 hf hB);clear hB hf;go_wp2;refine And.intro (fun _=>T28.out.f) ?_;refine planU_step rfl ?_;go_wp2;have T29:=hid T28.out.alloc6;obtain ⟨v29,hv⟩: ∃v,v=v28.alloc Z6:=⟨_,rfl⟩;rw [<-hv] at T29;refine And.intro (fun _=>by rw [<-hv];exact T29.out.f) ?_;rw [<-hv];clear hv;have T:=T29;generalize v28.heap.size=A at T ⊢;generalize v0.heap.size=B at T ⊢
 generalize v29=V at T ⊢
 rotate_left;go_wp2;have T30:=hid T27.out.alloc6;obtain ⟨v30,hv⟩: ∃v,v=v27.alloc Z6:=⟨_,rfl⟩;rw [<-hv] at T30;refine And.intro (fun _=>by rw [<-hv];exact T30.out.f) ?_;rw [<-hv];clear hv;refine planU_step rfl ?_;go_wp2_with fail
 refine (PB.out v30).mono ?_;rintro e v31 ⟨b2,rfl,_,hB,hf⟩;have T31:=hid (T30.out.call2 hf hB);clear hB hf;go_wp2;refine And.intro (fun _=>T31.out.f) ?_;have T:=T31;generalize v27.heap.size=A at T ⊢;generalize v0.heap.size=B at T ⊢;generalize v31=V at T ⊢
 rotate_left;go_wp2;have T32:=hid T26.out.alloc6;obtain ⟨v32,hv⟩: ∃v,v=v26.alloc Z6:=⟨_,rfl⟩;rw [<-hv] at T32;refine And.intro (fun _=>by rw [<-hv];exact T32.out.f) ?_;rw [<-hv];clear hv;refine planU_step rfl ?_;go_wp2_with fail
 refine (PA.out v32).mono ?_;rintro e v33 ⟨b1,rfl,_,hB,hf⟩;have T33:=hid (T32.out.call1 hf hB);clear hB hf;go_wp2;refine And.intro (fun _=>T33.out.f) ?_;refine planU_step rfl ?_;go_wp2_with fail
 refine (PB.out v33).mono ?_;rintro e v34 ⟨b2,rfl,_,hB,hf⟩;have T34:=hid (T33.out.call2 hf hB);clear hB hf;go_wp2;refine And.intro (fun _=>T34.out.f) ?_;have T:=T34;generalize v26.heap.size=A at T ⊢;generalize v0.heap.size=B at T ⊢;generalize v34=V at T ⊢
 rotate_left
 all_goals
  obtain ⟨qa,sa⟩:=T.out.a A rfl;obtain ⟨qb,sb⟩:=T.out.b B rfl;have SIZ:=hid (show w5.heap.size<=A/\w5.heap.size<=B/\A≠B/\A≠b1/\A≠b2/\B≠b1/\B≠b2 from ⟨sa,sb,T.out.ne A B rfl rfl,ne12 qa (T.out.p1 b1 rfl),ne12 qa (T.out.p2 b2 rfl),ne12 qb (T.out.p1 b1 rfl),ne12 qb (T.out.p2 b2 rfl)⟩);have FV:=hid T.out.f;have QA:=hid qa;have QB:=hid qb;have Q1:=hid (T.out.p1 b1 rfl);have Q2:=hid (T.out.p2 b2 rfl);clear qa qb sa sb T
  refine planU_step rfl ?_;go_wp2_with (refine zR rfl _ _ rfl rfl A (⟨9,0,0,false,some ⟨b1,0,none⟩,2,2,⟨#[]⟩⟩:TyV) rfl rfl QA.out ?_)
  intro V1 hA1 hg1;have FV1:=hid (FV.out.transNew hg1 fun b hb=> .inr (by subst hb;exact SIZ.out.1));have QB1:=hid (hg1.heap (b:=B) (fun h=>SIZ.out.2.2.1 h.symm) QB.out);have SA1:=hid hA1;have Q11:=hid (hg1.heap (b:=b1) (fun h=>SIZ.out.2.2.2.1 h.symm) Q1.out);have Q21:=hid (hg1.heap (b:=b2) (fun h=>SIZ.out.2.2.2.2.1 h.symm) Q2.out);clear hA1 hg1;go_wp2;refine And.intro (fun _=>FV1.out) ?_;refine planU_step rfl ?_
  go_wp2_with (refine zR rfl _ _ rfl rfl B (⟨9,0,0,false,some ⟨b2,0,none⟩,2,2,⟨#[]⟩⟩:TyV) rfl rfl QB1.out ?_)
  intro w6 hB2 hg2;have G0w6:=hid (FV1.out.transNew hg2 fun b hb=> .inr (by subst hb;exact SIZ.out.2.1));have SB:=hid hB2;have SA:=hid (hg2.heap (b:=A) (fun h=>SIZ.out.2.2.1 h) SA1.out);have Q12:=hid (hg2.heap (b:=b1) (fun h=>SIZ.out.2.2.2.2.2.1 h.symm) Q11.out);have Q22:=hid (hg2.heap (b:=b2) (fun h=>SIZ.out.2.2.2.2.2.2 h.symm) Q21.out);clear hB2 hg2;go_wp2;refine And.intro (fun _=>G0w6.out) ?_;refine planU_nil (NoPanic.normal ?_)
  have HP1:=hid (pair_tin (HS.out.keep G0w6.out) (HS2.out.keep G0w6.out) Q12.out);have HP2:=hid (pair_tin (HT.out.keep G0w6.out) (HT2.out.keep G0w6.out) Q22.out);have L6:=hid (LI.out.keep G0w6.out);clear QA QB Q1 Q2 QB1 SA1 Q11 Q21 Q12 Q22 FV FV1 SIZ;go_wp2_with fail
  refine (ref_new dc L6.out HP1.out HP2.out).mono ?_;rintro e w7 ⟨U,rfl,hR,hf7,hM⟩;have H7:=hid hf7;have RI:=hid hR;have HM:=hid hM;have Gw7:=hid (G0w6.out.trans hf7);clear hR hf7 hM;have qa7:=zA (H7.out.heap id SA.out);have qb7:=zA (H7.out.heap id SB.out);have za7:=bl (qa7 0);have zb7:=bl (qb7 0);go_wp2_with fail
  refine (ref_unify L6.out.d.goodD L6.out.d.ok .exact RI.out).mono ?_;rintro e w8 ⟨bb,sil,rfl,hf8,hc,ho⟩;have H8:=hid (H7.out.transNew hf8 fun b hb=> .inr (HM.out b hb).1);have Gw8:=hid (G0w6.out.trans H8.out);have szb:=World.block_lt_of_cell? _ _ hc;dsimp only at szb;have RO:=hid ho;clear hf8 ho;clear qa7 qb7 za7 zb7;cases sil
  case true=>
   go_wp2_with fail
   refine (works_any w8 (LI.out.tab.keep Gw8.out)).mono ?_;rintro e wz ⟨rfl,hfz⟩;have FZ:=hid (FW.out.trans (F5.out.trans (Gw8.out.trans hfz)));clear hfz;go_wp2;go_ret;exact ⟨rfl,FZ.out⟩
  obtain ⟨o,hfact,_,hout⟩:=RO.out rfl;have FACT:=hid hfact;have OUT:=hid hout;have TW:=hid (twice_struct L6.out (HS.out.keep G0w6.out) (HT.out.keep G0w6.out) (HS2.out.keep G0w6.out) (HT2.out.keep G0w6.out) hfact);clear hfact hout;have c8_0:=zA ((F5.out.trans Gw8.out).heap id BX.out);have z8_0:=bl (c8_0 0);have c8_1:=zA ((F5.out.trans Gw8.out).heap id BY.out);have z8_1:=bl (c8_1 0);have c8_2:=zA ((F5.out.trans Gw8.out).heap id BX2.out)
  have z8_2:=bl (c8_2 0);have c8_3:=zA ((F5.out.trans Gw8.out).heap id BY2.out);have z8_3:=bl (c8_3 0);go_wp2_with fail
  refine (twice28_any (dc:=dc) w8 (LI.out.keep Gw8.out).din .exact x y x2 y2 s t s2 t2 (HS.out.keep Gw8.out) (HT.out.keep Gw8.out) (HS2.out.keep Gw8.out) (HT2.out.keep Gw8.out) TW.out.1).mono ?_;rintro e w9 ⟨la,lc,ls,oks,sz,rfl,hf9,hp,hll,hinf,hlc⟩;have H89:=hid hf9;have Gw9:=hid (Gw8.out.trans hf9);have LL:=hid hll;have INF:=hid hinf;obtain ⟨hok,hst⟩:=TW.out.2 oks sz hp;have STT:=hid hst;rw [show okB oks ([(s,t),(s2,t2)]:List (Tm × Tm)).length=o.isSome from hok]
  clear hf9 hp hll hinf hok hst hc szb;clear c8_0 z8_0 c8_1 z8_1 c8_2 z8_2 c8_3 z8_3;have qa9:=zA ((H8.out.trans H89.out).heap id SA.out);have qb9:=zA ((H8.out.trans H89.out).heap id SB.out);have za9:=bl (qa9 0);have zb9:=bl (qb9 0);go_wp2_with fail
  refine (impl_self (dc:=dc) (L6.out.keep (H8.out.trans H89.out)) (HP1.out.keep (H8.out.trans H89.out)) (HP2.out.keep (H8.out.trans H89.out)) FACT.out).mono ?_;rintro e w10 ⟨ka,kc,ks,rfl,hf10,hkc,hkl,hkinf⟩;have H910:=hid hf10;have Gw10:=hid (Gw9.out.trans hf10);have KL:=hid hkl;have KINF:=hid hkinf;clear hf10 hkl hkinf;clear qa9 qb9 za9 zb9
  cases o with
  |none=>
   go_wp2_with fail
   refine (works_any w10 (LI.out.tab.keep Gw10.out)).mono ?_;rintro e wz ⟨rfl,hfz⟩;have FZ:=hid (FW.out.trans (F5.out.trans (Gw10.out.trans hfz)));clear hfz;go_wp2;go_ret;exact ⟨rfl,FZ.out⟩
  |some sE=>
   obtain ⟨B',pv,hBu,hE,hBM⟩:=OUT.out sE rfl;obtain ⟨_,hwq,M,hinv,hliv⟩:=exact_facts L6.out HP1.out HP2.out FACT.out;obtain rfl:sz=sE:=STT.out sE rfl;have A1:=hid (agrees_self hE hinv hliv hwq w10 (H89.out.trans H910.out) la lc ls LL.out (INF.out.keep H910.out));have A2:=hid (fun (w':World) (f':Fr F0 w10 w')=>agrees_self hE hinv hliv hwq w' ((H89.out.trans H910.out).trans f') ka kc ks KL.out ((KINF.out sz rfl).keep f'))
   rw [hBu] at A1 A2;clear hBu hE hBM hwq hinv hliv;go_wp2_with fail
   refine A1.out.mono ?_;rintro e w11 ⟨rfl,hf11⟩;have H11:=hid hf11;clear hf11;go_wp2_with fail
   refine (A2.out _ H11.out).mono ?_;rintro e w12 ⟨rfl,hf12⟩;have Gw12:=hid (Gw10.out.trans (H11.out.trans hf12));clear hf12;go_wp2_with fail
   refine (works_any w12 (LI.out.tab.keep Gw12.out)).mono ?_;rintro e wz ⟨rfl,hfz⟩;have FZ:=hid (FW.out.trans (F5.out.trans (Gw12.out.trans hfz)));clear hfz;go_wp2;go_ret;exact ⟨rfl,FZ.out⟩
end Go.Proofs.YtpekidjfbinekaaGreatDoor
