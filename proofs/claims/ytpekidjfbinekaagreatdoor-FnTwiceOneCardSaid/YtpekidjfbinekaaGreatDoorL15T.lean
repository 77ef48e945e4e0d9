import Derived.Test.YtpekidjfbinekaaGreatDoorL4T
set_option maxRecDepth 100000
set_option maxHeartbeats 60000000
set_option linter.all false
namespace Go.Proofs.YtpekidjfbinekaaGreatDoor
open Go.RowKit Uni
theorem lawField_any (nm:ByteArray)(x:TyV)(w:World):Calls Tryz.prog 43 #[.string nm,x.val] w fun e w'=>e= .returned ({x with nm:=nm}:TyV).val/\Fr F0 w w':=by
 obtain ⟨xk,xn,xc,xv,xa,xlen,xcap,xnm⟩:=x;unfold TyV.val;dsimp only;go_enter Tryz.func43,Tryz.ntmps43;go_wp2;refine bodyPost_ret (v:= .agg #[.int .i64 xk,.int .i64 xn,.int .i64 xc,.bool xv,.slice xa xlen xcap,.string nm]) ?_ rfl ?_
 ·exact ret6 rfl rfl (zS _ _ _)
 exact ⟨rfl,((Fr.refl _ w).alloc _).alloc _⟩
theorem pair_any (x y:TyV)(w:World):Calls Tryz.prog 29 #[x.val,y.val] w fun e w'=> ∃b,e= .returned (⟨9,0,0,false,some ⟨b,0,none⟩,2,2,⟨#[]⟩⟩:TyV).val/\w.heap.size<=b/\w'.heap[b]?=some (.cells (arr12 {x with nm:=⟨#[65]⟩} {y with nm:=⟨#[66]⟩}) 26 (0,0))/\Fr F0 w w':=by
 have FA:=hid (fun (w:World)=>lawField_any ⟨#[65]⟩ x w);have FB:=hid (fun (w:World)=>lawField_any ⟨#[66]⟩ y w);unfold TyV.val at FA FB;dsimp only at FA FB;unfold TyV.val;go_enter Tryz.func29,Tryz.ntmps29;go_wp2_with fail
 obtain ⟨W,hW⟩: ∃W,W=((w.alloc (.cells #[.int .i64 x.k,.int .i64 x.n,.int .i64 x.c,.bool x.v,.slice x.a x.len x.cap,.string x.nm] 26)).alloc (.cells #[.int .i64 y.k,.int .i64 y.n,.int .i64 y.c,.bool y.v,.slice y.a y.len y.cap,.string y.nm] 26)).alloc (.cells #[.int .i64 0,.int .i64 0,.int .i64 0,.bool false,.slice none 0 0,.string ⟨#[]⟩] 26):=⟨_,rfl⟩;have FW:=hid (show Fr F0 w W by rw [hW];exact (((Fr.refl F0 w).alloc _).alloc _).alloc _)
 have BX:=hid (show W.heap[w.heap.size]?=some (.cells #[.int .i64 x.k,.int .i64 x.n,.int .i64 x.c,.bool x.v,.slice x.a x.len x.cap,.string x.nm] 26 (0,0)) by rw [hW];exact (((Fr.refl F0 _).alloc _).alloc _).heap id (heap_alloc_new w _));have BY:=hid (show W.heap[w.heap.size + 1]?=some (.cells #[.int .i64 y.k,.int .i64 y.n,.int .i64 y.c,.bool y.v,.slice y.a y.len y.cap,.string y.nm] 26 (0,0)) by rw [hW];exact ((Fr.refl F0 _).alloc _).heap id (zS w _ _))
 have BZ:=hid (show W.heap[w.heap.size + 1 + 1]?=some (.cells #[.int .i64 0,.int .i64 0,.int .i64 0,.bool false,.slice none 0 0,.string ⟨#[]⟩] 26 (0,0)) by rw [hW];exact heap_three w _ _ _);rw [<-hW];clear hW;refine zG (Fr F0 W) [(0,true),(2,true),(1,false),(3,false),(4,false),(5,false),(6,false)] [6] yE (by kernel_rfl) (by kernel_rfl) (by kernel_rfl) (by decide) ?_
 iterate 2
  (refine zH _ rfl (Fr.refl _ _).drew (fun w' hS=>by
   have q0:=zA (hS.heap id BX.out);have s0:=zF (hS.heap id BX.out);have q1:=zA (hS.heap id BY.out);have s1:=zF (hS.heap id BY.out);clear hS;go_simp;rfl) ?_)
 go_simp;refine zB rfl ?_;go_wp2_with fail
 refine (FA.out _).mono ?_;rintro e w2 ⟨rfl,hf2⟩;have F2:=hid ((Fr.refl F0 W).drew.trans hf2);clear hf2;go_wp2;refine And.intro (fun _=>F2.out) ?_;refine zB rfl ?_;go_wp2_with fail
 refine (FB.out _).mono ?_;rintro e w3 ⟨rfl,hf3⟩;have F3:=hid (F2.out.trans hf3);clear hf3;go_wp2;refine And.intro (fun _=>F3.out) ?_;refine zB rfl ?_;go_wp2;refine And.intro (fun _=>F3.out.alloc _) ?_;refine zB rfl ?_;go_wp2;refine And.intro (fun _=>F3.out.alloc _) ?_;refine zB rfl ?_;have BB:=hid (heap_alloc_new w3 (.cells (arr12 {x with nm:=⟨#[65]⟩} {y with nm:=⟨#[66]⟩}) 26));have Z4:=hid ((F3.out.alloc (.cells (arr12 {x with nm:=⟨#[65]⟩} {y with nm:=⟨#[66]⟩}) 26)).heap id BZ.out)
 have NE:=hid (show w.heap.size + 1 + 1 < w3.heap.size from zF (F3.out.heap id BZ.out));go_wp2_with (refine zR rfl _ _ rfl rfl (w.heap.size + 1 + 1) (⟨9,0,0,false,some ⟨w3.heap.size,0,none⟩,2,2,⟨#[]⟩⟩:TyV) rfl rfl Z4.out ?_)
 intro W5 hR5 hf5;have R5:=hid hR5;have F5:=hid ((FW.out.trans (F3.out.alloc (.cells (arr12 {x with nm:=⟨#[65]⟩} {y with nm:=⟨#[66]⟩}) 26))).transNew hf5 fun b hb=> .inr (by subst hb;omega));have B5:=hid (hf5.heap (b:=w3.heap.size) (fun h=>by have:=NE.out;omega) BB.out);have SZ:=hid (Nat.le_trans FW.out.size F3.out.size);clear hR5 hf5;go_wp2;refine And.intro (fun h=>absurd h (by decide)) ?_;refine zO (NoPanic.normal ?_)
 go_wp2;refine bodyPost_ret (v:= .agg #[.int .i64 9,.int .i64 0,.int .i64 0,.bool false,.slice (some ⟨w3.heap.size,0,none⟩) 2 2,.string ⟨#[]⟩]) ?_ rfl ?_
 ·exact ret6 rfl rfl R5.out
 exact ⟨w3.heap.size,rfl,SZ.out,B5.out,F5.out⟩
end Go.Proofs.YtpekidjfbinekaaGreatDoor
