/- G8, G36, G35, G18 -/
import Derived.Laws.LoneSync
import Derived.Test.YtpekidjfbinekaaGreatDoorA07
set_option maxRecDepth 100000
set_option maxHeartbeats 60000000
set_option linter.all false
namespace Go.Proofs.YtpekidjfbinekaaGreatDoor
open Go.RowKit Uni
noncomputable def wW (T:Nat):Option Nat:=match Tryz.prog.info? T,Tryz.prog.underlying T with
 |some i,some (.pointer _)=>(match i.methods.find? (·.name== "Underlying") with
  |some m=>if m.path.isEmpty then (match m.func with | some (f,true)=>some f | _=>none) else none
  |none=>none)
 |_,_=>none
theorem yJ {T f:Nat}(h:wW T=some f)(n:Nat)(v:Value)(w:World):(method (n + 1) T v "Underlying").run Tryz.prog w= .ok (f,v) w:=by
 unfold wW at h
 cases hi:Tryz.prog.info? T with
 |none=>rw [hi] at h;cases h
 |some i=>
  cases hu:Tryz.prog.underlying T with
  |none=>rw [hi,hu] at h;cases h
  |some d=>
   rw [hi,hu] at h
   cases d with
   |pointer e=>
    dsimp only at h
    cases hm:i.methods.find? (·.name== "Underlying") with
    |none=>rw [hm] at h;cases h
    |some m=>
     rw [hm] at h;dsimp only at h
     split at h
     ·rename_i hp
      split at h
      ·rename_i g hg
       cases h
       have hp':m.path.toList= []:=by simpa using hp
       simp [method,typeInfo,hi,hm,hp',follow,hg,receiverAt,run_underlying hu,Place.get]
      ·cases h
     ·cases h
   |_=>cases h
theorem m142:wW 142=some 292:=by kernel_rfl
theorem m144:wW 144=some 293:=by kernel_rfl
theorem m146:wW 146=some 294:=by kernel_rfl
theorem m148:wW 148=some 295:=by kernel_rfl
theorem m150:wW 150=some 296:=by kernel_rfl
theorem m156:wW 156=some 297:=by kernel_rfl
theorem m128:wW 128=some 289:=by kernel_rfl
theorem m179:wW 179=some 300:=by kernel_rfl
theorem m106:wW 106=some 165:=by kernel_rfl
theorem asInterface_ptr (pv:Value)(w:World):Calls Tryz.prog 167 #[.iface 142 pv] w fun e w'=>e= .returned (.pointer none)/\w'=w:=by
 have A:=zD p95;have A2:=zD p99;have hnot: ∀(x:Bool) (w:World),(Op.unary .not (.bool x)).run Tryz.prog w= .ok (.bool (!x)) w:=fun _ _=>rfl
 have M:=fun w=>yJ m142 551 pv w
 go_enter Tryz.func167,Tryz.ntmps167;go_wp2_with fail
 refine (zM _ _ _ (by decide)).mono ?_;rintro e w1 ⟨rfl,rfl⟩;go_wp2;go_ret;exact ⟨rfl,rfl⟩
theorem asInterface_slice (pv:Value)(w:World):Calls Tryz.prog 167 #[.iface 144 pv] w fun e w'=>e= .returned (.pointer none)/\w'=w:=by
 have A:=zD p95;have A2:=zD p99;have hnot: ∀(x:Bool) (w:World),(Op.unary .not (.bool x)).run Tryz.prog w= .ok (.bool (!x)) w:=fun _ _=>rfl
 have M:=fun w=>yJ m144 551 pv w
 go_enter Tryz.func167,Tryz.ntmps167;go_wp2_with fail
 refine (zM _ _ _ (by decide)).mono ?_;rintro e w1 ⟨rfl,rfl⟩;go_wp2;go_ret;exact ⟨rfl,rfl⟩
theorem asInterface_array (pv:Value)(w:World):Calls Tryz.prog 167 #[.iface 146 pv] w fun e w'=>e= .returned (.pointer none)/\w'=w:=by
 have A:=zD p95;have A2:=zD p99;have hnot: ∀(x:Bool) (w:World),(Op.unary .not (.bool x)).run Tryz.prog w= .ok (.bool (!x)) w:=fun _ _=>rfl
 have M:=fun w=>yJ m146 551 pv w
 go_enter Tryz.func167,Tryz.ntmps167;go_wp2_with fail
 refine (zM _ _ _ (by decide)).mono ?_;rintro e w1 ⟨rfl,rfl⟩;go_wp2;go_ret;exact ⟨rfl,rfl⟩
theorem asInterface_map (pv:Value)(w:World):Calls Tryz.prog 167 #[.iface 148 pv] w fun e w'=>e= .returned (.pointer none)/\w'=w:=by
 have A:=zD p95;have A2:=zD p99;have hnot: ∀(x:Bool) (w:World),(Op.unary .not (.bool x)).run Tryz.prog w= .ok (.bool (!x)) w:=fun _ _=>rfl
 have M:=fun w=>yJ m148 551 pv w
 go_enter Tryz.func167,Tryz.ntmps167;go_wp2_with fail
 refine (zM _ _ _ (by decide)).mono ?_;rintro e w1 ⟨rfl,rfl⟩;go_wp2;go_ret;exact ⟨rfl,rfl⟩
theorem asInterface_chan (pv:Value)(w:World):Calls Tryz.prog 167 #[.iface 150 pv] w fun e w'=>e= .returned (.pointer none)/\w'=w:=by
 have A:=zD p95;have A2:=zD p99;have hnot: ∀(x:Bool) (w:World),(Op.unary .not (.bool x)).run Tryz.prog w= .ok (.bool (!x)) w:=fun _ _=>rfl
 have M:=fun w=>yJ m150 551 pv w
 go_enter Tryz.func167,Tryz.ntmps167;go_wp2_with fail
 refine (zM _ _ _ (by decide)).mono ?_;rintro e w1 ⟨rfl,rfl⟩;go_wp2;go_ret;exact ⟨rfl,rfl⟩
theorem asInterface_struct (pv:Value)(w:World):Calls Tryz.prog 167 #[.iface 156 pv] w fun e w'=>e= .returned (.pointer none)/\w'=w:=by
 have A:=zD p95;have A2:=zD p99;have hnot: ∀(x:Bool) (w:World),(Op.unary .not (.bool x)).run Tryz.prog w= .ok (.bool (!x)) w:=fun _ _=>rfl
 have M:=fun w=>yJ m156 551 pv w
 go_enter Tryz.func167,Tryz.ntmps167;go_wp2_with fail
 refine (zM _ _ _ (by decide)).mono ?_;rintro e w1 ⟨rfl,rfl⟩;go_wp2;go_ret;exact ⟨rfl,rfl⟩
theorem asInterface_func (pv:Value)(w:World):Calls Tryz.prog 167 #[.iface 128 pv] w fun e w'=>e= .returned (.pointer none)/\w'=w:=by
 have A:=zD p95;have A2:=zD p99;have hnot: ∀(x:Bool) (w:World),(Op.unary .not (.bool x)).run Tryz.prog w= .ok (.bool (!x)) w:=fun _ _=>rfl
 have M:=fun w=>yJ m128 551 pv w
 go_enter Tryz.func167,Tryz.ntmps167;go_wp2_with fail
 refine (zM _ _ _ (by decide)).mono ?_;rintro e w1 ⟨rfl,rfl⟩;go_wp2;go_ret;exact ⟨rfl,rfl⟩
theorem asInterface_basic (pv:Value)(w:World):Calls Tryz.prog 167 #[.iface 179 pv] w fun e w'=>e= .returned (.pointer none)/\w'=w:=by
 have A:=zD p95;have A2:=zD p99;have hnot: ∀(x:Bool) (w:World),(Op.unary .not (.bool x)).run Tryz.prog w= .ok (.bool (!x)) w:=fun _ _=>rfl
 have M:=fun w=>yJ m179 551 pv w
 go_enter Tryz.func167,Tryz.ntmps167;go_wp2_with fail
 refine (zM _ _ _ (by decide)).mono ?_;rintro e w1 ⟨rfl,rfl⟩;go_wp2;go_ret;exact ⟨rfl,rfl⟩
theorem loadU32 {a:Addr}{x:Int}{w:World}(hc:w.cell? a=some (.int .u32 x)):(callFunc 237 #[.pointer (some a)]).run Tryz.prog w= .ok (.value (.int .u32 x)) w:=
 run_call_load Tryz.func237 (by kernel_rfl) (by kernel_rfl) (by kernel_rfl) .u32 (by kernel_rfl) hc
theorem stateHas_any (a:Nat)(m:Int)(w:World)(hc:w.cell? ⟨a,6,none⟩=some (.int .u32 15))(hm:m=3\/m=8):Calls Tryz.prog 206 #[.pointer (some ⟨a,0,none⟩),.int .u32 m] w fun e w'=>e= .returned (.bool true)/\w'=w:=by
 have hl:=loadU32 hc;have sz:=World.block_lt_of_cell? _ _ hc;dsimp only at sz;rcases hm with rfl | rfl
 ·go_enter Tryz.func206,Tryz.ntmps206
  go_wp2;go_ret;exact ⟨rfl,rfl⟩
 ·go_enter Tryz.func206,Tryz.ntmps206
  go_wp2;go_ret;exact ⟨rfl,rfl⟩
theorem unpack_any (a:Nat)(w:World)(hc:w.cell? ⟨a,6,none⟩=some (.int .u32 15)):Calls Tryz.prog 204 #[.pointer (some ⟨a,0,none⟩)] w fun e w'=>e= .returned (.pointer (some ⟨a,0,none⟩))/\w'=w:=by
 have hnot: ∀(x:Bool) (w:World),(Op.unary .not (.bool x)).run Tryz.prog w= .ok (.bool (!x)) w:=fun _ _=>rfl
 go_enter_defers Tryz.func204,Tryz.ntmps204;go_wp2_with fail
 refine (stateHas_any a 3 _ hc (.inl rfl)).mono ?_;rintro e w1 ⟨rfl,rfl⟩;go_wp2;exact ⟨_,results_tmp rfl _ _ _,rfl,rfl⟩
theorem underlying_go (a:Nat)(c0 c1 c2 c3 c4 c5 c9 c10:Value)(ty:TypeId)(pv:Value)(w:World)(hb:w.heap[a]?=some (.cells #[c0,c1,c2,c3,c4,c5,.int .u32 15,.iface ty pv,.iface ty pv,c9,c10] 171 (0,0))):
 Calls Tryz.prog 165 #[.pointer (some ⟨a,0,none⟩)] w fun e w'=>e= .returned (.iface ty pv)/\w'=w:=by
 obtain ⟨ms,hi⟩:=wU;have heq: ∀w,(binOp .eql 103 (.iface ty pv) .nilIface).run Tryz.prog w= .ok (.bool false) w:=fun w=>by
  have h: ∀d:Nat,(Op.equalIn (d + 1) 103 (.iface ty pv) .nilIface).run Tryz.prog w= .ok false w:=fun d=>by simp [Op.equalIn,run_underlying hi]
  simp only [binOp];simp [Op.equal,Op.maxDepth,h 9999]
 have hnot: ∀(x:Bool) (w:World),(Op.unary .not (.bool x)).run Tryz.prog w= .ok (.bool (!x)) w:=fun _ _=>rfl
 have q:=zA hb;have q6:=q 6;have sz:=bl (q 6);dsimp only at sz;have Q6:=hid (q6.trans rfl:w.cell? ⟨a,6,none⟩=some (.int .u32 15));clear hb q6 hi;go_enter Tryz.func165,Tryz.ntmps165;go_wp2_with fail
 refine (unpack_any a _ Q6.out).mono ?_;rintro e w1 ⟨rfl,rfl⟩;go_wp2_with (first | (go_at_call 205;go_in) | fail)
 refine (stateHas_any a 8 _ Q6.out (.inr rfl)).mono ?_;rintro e w2 ⟨rfl,rfl⟩;go_wp2;go_ret;exact ⟨rfl,rfl⟩
theorem asInterface_named (a:Nat)(c0 c1 c2 c3 c4 c5 c9 c10:Value)(ty:TypeId)(pv:Value)(w:World)(hb:w.heap[a]?=some (.cells #[c0,c1,c2,c3,c4,c5,.int .u32 15,.iface ty pv,.iface ty pv,c9,c10] 171 (0,0)))(h: ¬ty=99):
 Calls Tryz.prog 167 #[.iface 106 (.pointer (some ⟨a,0,none⟩))] w fun e w'=>e= .returned (.pointer none)/\w'=w:=by
 have A:=zD p95;have A2:=zD p99;have hnot: ∀(x:Bool) (w:World),(Op.unary .not (.bool x)).run Tryz.prog w= .ok (.bool (!x)) w:=fun _ _=>rfl
 have M:=fun w=>yJ m106 551 (.pointer (some ⟨a,0,none⟩)) w
 have HB:=hid hb;clear hb;go_enter Tryz.func167,Tryz.ntmps167;go_wp2_with fail
 refine (zM _ _ _ (by decide)).mono ?_;rintro e w1 ⟨rfl,rfl⟩;go_wp2_with fail
 refine (underlying_go a c0 c1 c2 c3 c4 c5 c9 c10 ty pv _ HB.out).mono ?_;rintro e w2 ⟨rfl,rfl⟩;go_wp2;go_ret;exact ⟨rfl,rfl⟩
theorem tyOf_ne (t:Tm):tyOf t≠99/\tyOf t≠283/\tyOf t≠134:=by
 cases t with
 |var p=>exact ⟨(by decide:(95:Nat)≠99),(by decide:(95:Nat)≠283),(by decide:(95:Nat)≠134)⟩
 |node f ts=>
  unfold tyOf;dsimp only
  split <;>exact ⟨by decide,by decide,by decide⟩
theorem asInterface_any {w:World}{E:GEnv}(hE:EnvOk w E){v:Value}{f:Lab}{ts:List Tm}(h:PT w E v (.node f ts)):Calls Tryz.prog 167 #[v] w fun e w'=>e= .returned (.pointer none)/\w'=w:=by
 cases h with
 |basic=>exact asInterface_basic _ w
 |ptr=>exact asInterface_ptr _ w
 |slice=>exact asInterface_slice _ w
 |array=>exact asInterface_array _ w
 |map=>exact asInterface_map _ w
 |chan=>exact asInterface_chan _ w
 |struct=>exact asInterface_struct _ w
 |func=>exact asInterface_func _ w
 |named0 _ c0 c1 c2 c4 c5 u c9 c10 st h1 h2 h3 h4 h5 h6 h7=>
  obtain ⟨a,_,_,rfl,_⟩:=h7.form hE;subst h6;exact asInterface_named _ _ _ _ _ _ _ _ _ _ _ w h5 (tyOf_ne _).1
 |named _ a ib lb ta tc c0 c1 c2 c4 c5 u c9 c10 st vs ts h1 h2 h3 hne h4 h5 h6 h7 h8 h9 h10 h11 h12 h13 h14 h15 h16=>
  obtain ⟨a',_,_,rfl,_⟩:=h16.form hE;subst h6;exact asInterface_named _ _ _ _ _ _ _ _ _ _ _ w h5 (tyOf_ne _).1
theorem new_block {w W:World}{c:Array Value}{t:TypeId}(h:w.alloc (.cells c t)=W):W.heap[w.heap.size]?=some (.cells c t (0,0))/\Fr (fun _=>False) w W/\W.heap.size=w.heap.size + 1:=by
 subst h;exact ⟨heap_alloc_new w _,(Fr.refl _ w).alloc _,by simp⟩
theorem typ_any (w:World)(n:Nat)(hn:n < 17):Calls Tryz.prog 115 #[.int .i64 (n + 1:Nat)] w fun e w'=> ∃b i nm,e= .returned (.pointer (some ⟨b,0,none⟩))/\w'.heap[b]?=some (.cells #[.int .i64 (n + 1:Nat),i,nm] 252 (0,0))/\Fr (fun _=>False) w w'/\w.heap.size<=b:=by
 go_enter Tryz.func115,Tryz.ntmps115;go_wp2_with (refine zL rfl _ rfl _ _ _ rfl ?_)
 intro W0 h0 f0 s0;have H0:=hid h0;have K0:=hid f0;clear h0 f0;go_wp2_with (refine zL rfl _ rfl _ _ _ rfl ?_)
 intro W1 h1 f1 s1;have H1:=hid h1;have K1:=hid f1;clear h1 f1;go_wp2_with (refine zL rfl _ rfl _ _ _ rfl ?_)
 intro W2 h2 f2 s2;have H2:=hid h2;have K2:=hid f2;clear h2 f2;go_wp2_with (refine zL rfl _ rfl _ _ _ rfl ?_)
 intro W3 h3 f3 s3;have H3:=hid h3;have K3:=hid f3;clear h3 f3;go_wp2_with (refine zL rfl _ rfl _ _ _ rfl ?_)
 intro W4 h4 f4 s4;have H4:=hid h4;have K4:=hid f4;clear h4 f4;go_wp2_with (refine zL rfl _ rfl _ _ _ rfl ?_)
 intro W5 h5 f5 s5;have H5:=hid h5;have K5:=hid f5;clear h5 f5;go_wp2_with (refine zL rfl _ rfl _ _ _ rfl ?_)
 intro W6 h6 f6 s6;have H6:=hid h6;have K6:=hid f6;clear h6 f6;go_wp2_with (refine zL rfl _ rfl _ _ _ rfl ?_)
 intro W7 h7 f7 s7;have H7:=hid h7;have K7:=hid f7;clear h7 f7;go_wp2_with (refine zL rfl _ rfl _ _ _ rfl ?_)
 intro W8 h8 f8 s8;have H8:=hid h8;have K8:=hid f8;clear h8 f8;go_wp2_with (refine zL rfl _ rfl _ _ _ rfl ?_)
 intro W9 h9 f9 s9;have H9:=hid h9;have K9:=hid f9;clear h9 f9;go_wp2_with (refine zL rfl _ rfl _ _ _ rfl ?_)
 intro W10 h10 f10 s10;have H10:=hid h10;have K10:=hid f10;clear h10 f10;go_wp2_with (refine zL rfl _ rfl _ _ _ rfl ?_)
 intro W11 h11 f11 s11;have H11:=hid h11;have K11:=hid f11;clear h11 f11;go_wp2_with (refine zL rfl _ rfl _ _ _ rfl ?_)
 intro W12 h12 f12 s12;have H12:=hid h12;have K12:=hid f12;clear h12 f12;go_wp2_with (refine zL rfl _ rfl _ _ _ rfl ?_)
 intro W13 h13 f13 s13;have H13:=hid h13;have K13:=hid f13;clear h13 f13;go_wp2_with (refine zL rfl _ rfl _ _ _ rfl ?_)
 intro W14 h14 f14 s14;have H14:=hid h14;have K14:=hid f14;clear h14 f14;go_wp2_with (refine zL rfl _ rfl _ _ _ rfl ?_)
 intro W15 h15 f15 s15;have H15:=hid h15;have K15:=hid f15;clear h15 f15;go_wp2_with (refine zL rfl _ rfl _ _ _ rfl ?_)
 intro W16 h16 f16 s16;have H16:=hid h16;have K16:=hid f16;clear h16 f16;go_wp2_with (refine zL rfl _ rfl _ _ _ rfl ?_)
 intro W17 h17 f17 s17;have H17:=hid h17;have K17:=hid f17;clear h17 f17;go_wp2_with (refine zL rfl _ rfl _ _ _ rfl ?_)
 intro W18 h18 f18 s18;have H18:=hid h18;have K18:=hid f18;clear h18 f18;go_wp2_with (refine zL rfl _ rfl _ _ _ rfl ?_)
 intro W19 h19 f19 s19;have H19:=hid h19;have K19:=hid f19;clear h19 f19;go_wp2_with (refine zL rfl _ rfl _ _ _ rfl ?_)
 intro W20 h20 f20 s20;have H20:=hid h20;have K20:=hid f20;clear h20 f20;go_wp2_with (refine zL rfl _ rfl _ _ _ rfl ?_)
 intro W21 h21 f21 s21;have H21:=hid h21;have K21:=hid f21;clear h21 f21;go_wp2_with (refine zL rfl _ rfl _ _ _ rfl ?_)
 intro W22 h22 f22 s22;have H22:=hid h22;have K22:=hid f22;clear h22 f22;go_wp2_with (refine zL rfl _ rfl _ _ _ rfl ?_)
 intro W23 h23 f23 s23;have H23:=hid h23;have K23:=hid f23;clear h23 f23;go_wp2_with (refine zL rfl _ rfl _ _ _ rfl ?_)
 intro W24 h24 f24 s24;have H24:=hid h24;have K24:=hid f24;clear h24 f24;go_wp2_with (refine zL rfl _ rfl _ _ _ rfl ?_)
 intro W25 h25 f25 s25;have H25:=hid h25;have K25:=hid f25;clear h25 f25
 rename_i Q' K hK;have HK:=hid hK;clear hK;go_wp2_with fail
 generalize hWB:W25.alloc _=WB;refine HK.out _ _ ?_;obtain ⟨HB,FB,SB⟩:=new_block hWB;rw [s25] at HB SB;clear hWB;have FF:=hid FB;have FT:=hid ((((((((((((((((((((((((((K0.out).trans K1.out).trans K2.out).trans K3.out).trans K4.out).trans K5.out).trans K6.out).trans K7.out).trans K8.out).trans K9.out).trans K10.out).trans K11.out).trans K12.out).trans K13.out).trans K14.out).trans K15.out).trans K16.out).trans K17.out).trans K18.out).trans K19.out).trans K20.out).trans K21.out).trans K22.out).trans K23.out).trans K24.out).trans K25.out)
 clear FB;have q:=zA HB;clear HB;have hc:n=0\/n=1\/n=2\/n=3\/n=4\/n=5\/n=6\/n=7\/n=8\/n=9\/n=10\/n=11\/n=12\/n=13\/n=14\/n=15\/n=16:=by omega
 clear s0 s1 s2 s3 s4 s5 s6 s7 s8 s9 s10 s11 s12 s13 s14 s15 s16 s17 s18 s19 s20 s21 s22 s23 s24 s25;rcases hc with rfl | rfl | rfl | rfl | rfl | rfl | rfl | rfl | rfl | rfl | rfl | rfl | rfl | rfl | rfl | rfl | rfl
 ·have qk:=(q 1).trans rfl
  clear q;go_wp2;go_ret;exact ⟨_,_,_,by rfl,FF.out.heap id (K25.out.heap id (K24.out.heap id (K23.out.heap id (K22.out.heap id (K21.out.heap id (K20.out.heap id (K19.out.heap id (K18.out.heap id (K17.out.heap id (K16.out.heap id (K15.out.heap id (K14.out.heap id (K13.out.heap id (K12.out.heap id (K11.out.heap id (K10.out.heap id (K9.out.heap id (K8.out.heap id (K7.out.heap id (K6.out.heap id (K5.out.heap id (K4.out.heap id (K3.out.heap id (K2.out.heap id (H1.out))))))))))))))))))))))))),(FT.out).trans FF.out,by omega⟩
 ·have qk:=(q 2).trans rfl
  clear q;go_wp2;go_ret;exact ⟨_,_,_,by rfl,FF.out.heap id (K25.out.heap id (K24.out.heap id (K23.out.heap id (K22.out.heap id (K21.out.heap id (K20.out.heap id (K19.out.heap id (K18.out.heap id (K17.out.heap id (K16.out.heap id (K15.out.heap id (K14.out.heap id (K13.out.heap id (K12.out.heap id (K11.out.heap id (K10.out.heap id (K9.out.heap id (K8.out.heap id (K7.out.heap id (K6.out.heap id (K5.out.heap id (K4.out.heap id (K3.out.heap id (H2.out)))))))))))))))))))))))),(FT.out).trans FF.out,by omega⟩
 ·have qk:=(q 3).trans rfl
  clear q;go_wp2;go_ret;exact ⟨_,_,_,by rfl,FF.out.heap id (K25.out.heap id (K24.out.heap id (K23.out.heap id (K22.out.heap id (K21.out.heap id (K20.out.heap id (K19.out.heap id (K18.out.heap id (K17.out.heap id (K16.out.heap id (K15.out.heap id (K14.out.heap id (K13.out.heap id (K12.out.heap id (K11.out.heap id (K10.out.heap id (K9.out.heap id (K8.out.heap id (K7.out.heap id (K6.out.heap id (K5.out.heap id (K4.out.heap id (H3.out))))))))))))))))))))))),(FT.out).trans FF.out,by omega⟩
 ·have qk:=(q 4).trans rfl
  clear q;go_wp2;go_ret;exact ⟨_,_,_,by rfl,FF.out.heap id (K25.out.heap id (K24.out.heap id (K23.out.heap id (K22.out.heap id (K21.out.heap id (K20.out.heap id (K19.out.heap id (K18.out.heap id (K17.out.heap id (K16.out.heap id (K15.out.heap id (K14.out.heap id (K13.out.heap id (K12.out.heap id (K11.out.heap id (K10.out.heap id (K9.out.heap id (K8.out.heap id (K7.out.heap id (K6.out.heap id (K5.out.heap id (H4.out)))))))))))))))))))))),(FT.out).trans FF.out,by omega⟩
 ·have qk:=(q 5).trans rfl
  clear q;go_wp2;go_ret;exact ⟨_,_,_,by rfl,FF.out.heap id (K25.out.heap id (K24.out.heap id (K23.out.heap id (K22.out.heap id (K21.out.heap id (K20.out.heap id (K19.out.heap id (K18.out.heap id (K17.out.heap id (K16.out.heap id (K15.out.heap id (K14.out.heap id (K13.out.heap id (K12.out.heap id (K11.out.heap id (K10.out.heap id (K9.out.heap id (K8.out.heap id (K7.out.heap id (K6.out.heap id (H5.out))))))))))))))))))))),(FT.out).trans FF.out,by omega⟩
 ·have qk:=(q 6).trans rfl
  clear q;go_wp2;go_ret;exact ⟨_,_,_,by rfl,FF.out.heap id (K25.out.heap id (K24.out.heap id (K23.out.heap id (K22.out.heap id (K21.out.heap id (K20.out.heap id (K19.out.heap id (K18.out.heap id (K17.out.heap id (K16.out.heap id (K15.out.heap id (K14.out.heap id (K13.out.heap id (K12.out.heap id (K11.out.heap id (K10.out.heap id (K9.out.heap id (K8.out.heap id (K7.out.heap id (H6.out)))))))))))))))))))),(FT.out).trans FF.out,by omega⟩
 ·have qk:=(q 7).trans rfl
  clear q;go_wp2;go_ret;exact ⟨_,_,_,by rfl,FF.out.heap id (K25.out.heap id (K24.out.heap id (K23.out.heap id (K22.out.heap id (K21.out.heap id (K20.out.heap id (K19.out.heap id (K18.out.heap id (K17.out.heap id (K16.out.heap id (K15.out.heap id (K14.out.heap id (K13.out.heap id (K12.out.heap id (K11.out.heap id (K10.out.heap id (K9.out.heap id (K8.out.heap id (H7.out))))))))))))))))))),(FT.out).trans FF.out,by omega⟩
 ·have qk:=(q 8).trans rfl
  clear q;go_wp2;go_ret;exact ⟨_,_,_,by rfl,FF.out.heap id (K25.out.heap id (K24.out.heap id (K23.out.heap id (K22.out.heap id (K21.out.heap id (K20.out.heap id (K19.out.heap id (K18.out.heap id (K17.out.heap id (K16.out.heap id (K15.out.heap id (K14.out.heap id (K13.out.heap id (K12.out.heap id (K11.out.heap id (K10.out.heap id (K9.out.heap id (H8.out)))))))))))))))))),(FT.out).trans FF.out,by omega⟩
 ·have qk:=(q 9).trans rfl
  clear q;go_wp2;go_ret;exact ⟨_,_,_,by rfl,FF.out.heap id (K25.out.heap id (K24.out.heap id (K23.out.heap id (K22.out.heap id (K21.out.heap id (K20.out.heap id (K19.out.heap id (K18.out.heap id (K17.out.heap id (K16.out.heap id (K15.out.heap id (K14.out.heap id (K13.out.heap id (K12.out.heap id (K11.out.heap id (K10.out.heap id (H9.out))))))))))))))))),(FT.out).trans FF.out,by omega⟩
 ·have qk:=(q 10).trans rfl
  clear q;go_wp2;go_ret;exact ⟨_,_,_,by rfl,FF.out.heap id (K25.out.heap id (K24.out.heap id (K23.out.heap id (K22.out.heap id (K21.out.heap id (K20.out.heap id (K19.out.heap id (K18.out.heap id (K17.out.heap id (K16.out.heap id (K15.out.heap id (K14.out.heap id (K13.out.heap id (K12.out.heap id (K11.out.heap id (H10.out)))))))))))))))),(FT.out).trans FF.out,by omega⟩
 ·have qk:=(q 11).trans rfl
  clear q;go_wp2;go_ret;exact ⟨_,_,_,by rfl,FF.out.heap id (K25.out.heap id (K24.out.heap id (K23.out.heap id (K22.out.heap id (K21.out.heap id (K20.out.heap id (K19.out.heap id (K18.out.heap id (K17.out.heap id (K16.out.heap id (K15.out.heap id (K14.out.heap id (K13.out.heap id (K12.out.heap id (H11.out))))))))))))))),(FT.out).trans FF.out,by omega⟩
 ·have qk:=(q 12).trans rfl
  clear q;go_wp2;go_ret;exact ⟨_,_,_,by rfl,FF.out.heap id (K25.out.heap id (K24.out.heap id (K23.out.heap id (K22.out.heap id (K21.out.heap id (K20.out.heap id (K19.out.heap id (K18.out.heap id (K17.out.heap id (K16.out.heap id (K15.out.heap id (K14.out.heap id (K13.out.heap id (H12.out)))))))))))))),(FT.out).trans FF.out,by omega⟩
 ·have qk:=(q 13).trans rfl
  clear q;go_wp2;go_ret;exact ⟨_,_,_,by rfl,FF.out.heap id (K25.out.heap id (K24.out.heap id (K23.out.heap id (K22.out.heap id (K21.out.heap id (K20.out.heap id (K19.out.heap id (K18.out.heap id (K17.out.heap id (K16.out.heap id (K15.out.heap id (K14.out.heap id (H13.out))))))))))))),(FT.out).trans FF.out,by omega⟩
 ·have qk:=(q 14).trans rfl
  clear q;go_wp2;go_ret;exact ⟨_,_,_,by rfl,FF.out.heap id (K25.out.heap id (K24.out.heap id (K23.out.heap id (K22.out.heap id (K21.out.heap id (K20.out.heap id (K19.out.heap id (K18.out.heap id (K17.out.heap id (K16.out.heap id (K15.out.heap id (H14.out)))))))))))),(FT.out).trans FF.out,by omega⟩
 ·have qk:=(q 15).trans rfl
  clear q;go_wp2;go_ret;exact ⟨_,_,_,by rfl,FF.out.heap id (K25.out.heap id (K24.out.heap id (K23.out.heap id (K22.out.heap id (K21.out.heap id (K20.out.heap id (K19.out.heap id (K18.out.heap id (K17.out.heap id (K16.out.heap id (H15.out))))))))))),(FT.out).trans FF.out,by omega⟩
 ·have qk:=(q 16).trans rfl
  clear q;go_wp2;go_ret;exact ⟨_,_,_,by rfl,FF.out.heap id (K25.out.heap id (K24.out.heap id (K23.out.heap id (K22.out.heap id (K21.out.heap id (K20.out.heap id (K19.out.heap id (K18.out.heap id (K17.out.heap id (H16.out)))))))))),(FT.out).trans FF.out,by omega⟩
 ·have qk:=(q 17).trans rfl
  clear q;go_wp2;go_ret;exact ⟨_,_,_,by rfl,FF.out.heap id (K25.out.heap id (K24.out.heap id (K23.out.heap id (K22.out.heap id (K21.out.heap id (K20.out.heap id (K19.out.heap id (K18.out.heap id (H17.out))))))))),(FT.out).trans FF.out,by omega⟩
theorem zF {w:World}{b:Nat}{o:Obj}(h:w.heap[b]?=some o):b < w.heap.size:=by
 rcases Nat.lt_or_ge b w.heap.size with h' | h'
 ·exact h'
 ·rw [Array.getElem?_eq_none h'] at h;cases h
abbrev FN:World->World->Prop:=Fr (fun _=>False)
section
variable (w:World)
theorem basic_any (n:Nat)(hn:n < 17):Calls Tryz.prog 76 #[.int .i64 n] w fun e w'=> ∃b i nm,e= .returned (.iface 179 (.pointer (some ⟨b,0,none⟩)))/\w'.heap[b]?=some (.cells #[.int .i64 (n + 1:Nat),i,nm] 252 (0,0))/\FN w w'/\w.heap.size<=b:=by
 go_enter Tryz.func76,Tryz.ntmps76;go_wp2_with fail
 rw [show (1 + (n:Int))=((n + 1:Nat):Int) by omega];refine (typ_any _ n hn).mono ?_;rintro e w1 ⟨b,i,nm,rfl,hb,hf,hs⟩;have HS:=hid hs;clear hs;go_wp2;go_ret;exact ⟨b,i,nm,rfl,hb,hf,HS.out⟩
theorem allTermlist_any:Calls Tryz.prog 111 #[] w fun e w'=> ∃b,e= .returned (.slice (some ⟨b,0,none⟩) 1 1)/\FN w w':=by
 go_enter Tryz.func111,Tryz.ntmps111;go_wp2;go_ret;exact ⟨_,rfl,((Fr.refl _ w).alloc _).alloc _⟩
theorem topTypeSet_any:Calls Tryz.prog 71 #[] w fun e w'=> ∃b,e= .returned (.pointer (some ⟨b,0,none⟩))/\FN w w':=by
 go_enter Tryz.func71,Tryz.ntmps71;go_wp2_with fail
 refine (allTermlist_any _).mono ?_;rintro e w1 ⟨b,rfl,hf⟩;go_wp2;go_ret;exact ⟨_,rfl,hf.alloc _⟩
def wD (s:Nat):Array Value:= #[.pointer none,.slice none 0 0,.slice none 0 0,.pointer none,.bool false,.bool true,.pointer (some ⟨s,0,none⟩)]
theorem newInterfaceType_nil:Calls Tryz.prog 58 #[.slice none 0 0,.slice none 0 0] w fun e w'=> ∃b s,e= .returned (.pointer (some ⟨b,0,none⟩))/\w'.heap[b]?=some (.cells (wD s) 126 (0,0))/\FN w w':=by
 go_enter Tryz.func58,Tryz.ntmps58;go_wp2_with fail
 refine (topTypeSet_any _).mono ?_;rintro e w1 ⟨s,rfl,hf⟩;go_wp2;go_ret;exact ⟨_,s,rfl,heap_alloc_new w1 _,hf.alloc _⟩
theorem neq_nil122 (a:Addr)(w:World):(binOp .neq 122 (.pointer (some a)) (.pointer none)).run Tryz.prog w= .ok (.bool true) w:=by
 have h: ∀d:Nat,(Op.equalIn (d + 1) 122 (.pointer (some a)) (.pointer none)).run Tryz.prog w= .ok false w:=fun d=>by simp [Op.equalIn,Tryz.runUnderlying122]
 simp only [binOp];simp [Op.equal,Op.maxDepth,h 9999]
theorem computeITS_any (pos:Int)(b s:Nat)(h:w.heap[b]?=some (.cells (wD s) 126 (0,0))):Calls Tryz.prog 114 #[.pointer none,.int .i64 pos,.pointer (some ⟨b,0,none⟩)] w fun e w'=>e= .returned (.pointer (some ⟨s,0,none⟩))/\w'=w:=by
 have q:=zA h;have sz:=bl (q 0);dsimp only at sz;unfold wD at q;have hE:=neq_nil122;clear h;go_enter Tryz.func114,Tryz.ntmps114;go_wp2;go_ret;exact ⟨rfl,rfl⟩
theorem complete_any (b s:Nat)(h:w.heap[b]?=some (.cells (wD s) 126 (0,0))):Calls Tryz.prog 59 #[.pointer (some ⟨b,0,none⟩)] w fun e w'=>e= .returned (.pointer (some ⟨b,0,none⟩))/\w'=w:=by
 have q:=zA h;have sz:=bl (q 0);dsimp only at sz;unfold wD at q;have H:=hid h;clear h;go_enter Tryz.func59,Tryz.ntmps59;go_wp2_with (first | (go_at_call 75;go_in) | fail)
 refine (computeITS_any _ 0 b s H.out).mono ?_;rintro e w1 ⟨rfl,rfl⟩;go_wp2;go_ret;exact ⟨rfl,rfl⟩
theorem m99:wW 99=some 287:=by kernel_rfl
theorem iface_any (a b s:Nat)(c0 c1 c2 c3:Value)(ha:w.heap[a]?=some (.cells #[c0,c1,c2,c3,.iface 99 (.pointer (some ⟨b,0,none⟩))] 192 (0,0)))(h:w.heap[b]?=some (.cells (wD s) 126 (0,0))):
 Calls Tryz.prog 110 #[.pointer (some ⟨a,0,none⟩)] w fun e w'=>e= .returned (.pointer (some ⟨b,0,none⟩))/\w'=w:=by
 have A:=zD p179;have A2:=zD p99;have q:=zA h;have sz:=bl (q 0);have qa:=zA ha;have sza:=bl (qa 0);dsimp only at sz sza;unfold wD at q;have M:=fun w=>yJ m99 551 (.pointer (some ⟨b,0,none⟩)) w
 have hE: ∀w,(binOp .eql 122 (.pointer (some ⟨s,0,none⟩)) (.pointer none)).run Tryz.prog w= .ok (.bool false) w:=fun w=>by
  have h: ∀d:Nat,(Op.equalIn (d + 1) 122 (.pointer (some ⟨s,0,none⟩)) (.pointer none)).run Tryz.prog w= .ok false w:=fun d=>by simp [Op.equalIn,Tryz.runUnderlying122]
  simp only [binOp];simp [Op.equal,Op.maxDepth,h 9999]
 have hE2: ∀w,(binOp .eql 99 (.pointer (some ⟨b,0,none⟩)) (.pointer none)).run Tryz.prog w= .ok (.bool false) w:=fun w=>by
  have h: ∀d:Nat,(Op.equalIn (d + 1) 99 (.pointer (some ⟨b,0,none⟩)) (.pointer none)).run Tryz.prog w= .ok false w:=fun d=>by simp [Op.equalIn,Tryz.runUnderlying99]
  simp only [binOp];simp [Op.equal,Op.maxDepth,h 9999]
 clear ha h;go_enter Tryz.func110,Tryz.ntmps110;go_wp2_with (first | (go_at_call 287;go_in) | fail)
 refine (wN 99 _ _ (by decide)).mono ?_;rintro e w1 ⟨rfl,rfl⟩;go_wp2;go_ret;exact ⟨rfl,rfl⟩
theorem newTypeParam_any (o b s:Nat)(p pk nm:Value)(ho:w.heap[o]?=some (.cells #[p,pk,nm,.nilIface] 194 (0,0)))(h:w.heap[b]?=some (.cells (wD s) 126 (0,0))):
 Calls Tryz.prog 56 #[.pointer (some ⟨o,0,none⟩),.iface 99 (.pointer (some ⟨b,0,none⟩))] w fun e w'=>e= .returned (.pointer (some ⟨w.heap.size,0,none⟩))/\(∃c,w'.heap[w.heap.size]?=some (.cells c 192 (0,0)))/\Fr (fun b=>b=o) w w':=by
 have lo:o < w.heap.size:=zF ho;have hbo: ¬b=o:=fun e=>by subst e;have:=ho.symm.trans h;simp at this
 have HI:=hid h;have lb:b < w.heap.size:=zF h;have hE:=nil_nil;have hE2: ∀w,(binOp .neq 103 (.iface 99 (.pointer (some ⟨b,0,none⟩))) .nilIface).run Tryz.prog w= .ok (.bool true) w:=fun w=>by
  obtain ⟨ms,hi⟩:=wU;have h: ∀d:Nat,(Op.equalIn (d + 1) 103 (.iface 99 (.pointer (some ⟨b,0,none⟩))) .nilIface).run Tryz.prog w= .ok false w:=fun d=>by simp [Op.equalIn,run_underlying hi]
  simp only [binOp];simp [Op.equal,Op.maxDepth,h 9999]
 have F1:=(Fr.refl (fun _=>False) w).alloc (.cells #[.pointer none,.int .u64 0,.pointer (some ⟨o,0,none⟩),.int .i64 (-1),.iface 99 (.pointer (some ⟨b,0,none⟩))] 192);have B1:=heap_alloc_new w (.cells #[.pointer none,.int .u64 0,.pointer (some ⟨o,0,none⟩),.int .i64 (-1),.iface 99 (.pointer (some ⟨b,0,none⟩))] 192);have S1:(w.alloc (.cells #[.pointer none,.int .u64 0,.pointer (some ⟨o,0,none⟩),.int .i64 (-1),.iface 99 (.pointer (some ⟨b,0,none⟩))] 192)).heap.size=w.heap.size + 1:=by simp
 have O1:=F1.heap id ho;have I1:=F1.heap id h;have qo:=zA O1;have fo:=zC O1;have hne:w.heap.size≠o:=by omega
 have FF:=hid F1;have BB:=hid B1;have OO:=hid O1;have II:=hid I1;have SS:=hid S1;clear F1 B1 O1 I1 ho h S1;go_enter Tryz.func56,Tryz.ntmps56;go_wp2_with (first | (go_at_call 69;go_in) | (go_at_call 109;go_in) | fail)
 obtain ⟨w2,hw2⟩: ∃w2,w2=(w.setCell ⟨o,3,none⟩ (.iface 95 (.pointer (some ⟨w.heap.size,0,none⟩)))).alloc (.cells #[.pointer none,.int .u64 0,.pointer (some ⟨o,0,none⟩),.int .i64 (-1),.iface 99 (.pointer (some ⟨b,0,none⟩))] 192):=⟨_,rfl⟩;have FS:Fr (fun b=>b=o) w w2:=by rw [hw2];exact ((Fr.refl (fun b=>b=o) w).setCell (p:=⟨o,3,none⟩) (.inl rfl) _).alloc _
 have BS:w2.heap[w.heap.size]?=some (.cells #[.pointer none,.int .u64 0,.pointer (some ⟨o,0,none⟩),.int .i64 (-1),.iface 99 (.pointer (some ⟨b,0,none⟩))] 192 (0,0)):=by
  rw [hw2];have h:=heap_alloc_new (w.setCell ⟨o,3,none⟩ (.iface 95 (.pointer (some ⟨w.heap.size,0,none⟩)))) (.cells #[.pointer none,.int .u64 0,.pointer (some ⟨o,0,none⟩),.int .i64 (-1),.iface 99 (.pointer (some ⟨b,0,none⟩))] 192)
  rwa [show (w.setCell ⟨o,3,none⟩ (.iface 95 (.pointer (some ⟨w.heap.size,0,none⟩)))).heap.size=w.heap.size by simp [World.setCell]] at h
 have IS:=FS.heap hbo HI.out;rw [<-hw2];have FFS:=hid FS;have BBS:=hid BS;have IIS:=hid IS;clear FS BS IS hw2;refine (iface_any w2 w.heap.size b s _ _ _ _ BBS.out IIS.out).mono ?_;rintro e w3 ⟨rfl,rfl⟩;go_wp2;go_ret;exact ⟨rfl,⟨_,BBS.out⟩,FFS.out⟩
end
theorem numFields_any (a:Nat)(fa:Option Addr)(n fc:Nat)(tags:Value)(w:World)(h:w.heap[a]?=some (.cells #[.slice fa n fc,tags] 223 (0,0))):
 Calls Tryz.prog 138 #[.pointer (some ⟨a,0,none⟩)] w fun e w'=>e= .returned (.int .i64 n)/\w'=w:=by
 have q:=zA h;have sz:=bl (q 0);dsimp only at sz;clear h;go_enter Tryz.func138,Tryz.ntmps138;go_wp2;go_ret;exact ⟨rfl,rfl⟩
theorem tag_any (a:Nat)(fs:Value)(i:Nat)(w:World)(h:w.heap[a]?=some (.cells #[fs,.slice none 0 0] 223 (0,0))):
 Calls Tryz.prog 173 #[.pointer (some ⟨a,0,none⟩),.int .i64 i] w fun e w'=>e= .returned (.string ⟨#[]⟩)/\w'=w:=by
 have q:=zA h;have sz:=bl (q 0);dsimp only at sz;clear h;have h0: ¬(i:Int) < 0:=by omega
 go_enter Tryz.func173,Tryz.ntmps173;go_wp2;go_ret;exact ⟨rfl,rfl⟩
theorem origin_none (a:Nat)(c0 c1 c2 c4 c5 c6 c7 c8 c9 c10:Value)(w:World)(h:w.heap[a]?=some (.cells #[c0,c1,c2,.pointer none,c4,c5,c6,c7,c8,c9,c10] 171 (0,0))):
 Calls Tryz.prog 134 #[.pointer (some ⟨a,0,none⟩)] w fun e w'=>e= .returned (.pointer (some ⟨a,0,none⟩))/\w'=w:=by
 have q:=zA h;have sz:=bl (q 0);dsimp only at sz;clear h;go_enter Tryz.func134,Tryz.ntmps134;go_wp2;go_ret;exact ⟨rfl,rfl⟩
theorem origin_some (a ib:Nat)(o l:Value)(c0 c1 c2 c4 c5 c6 c7 c8 c9 c10:Value)(w:World)(h:w.heap[a]?=some (.cells #[c0,c1,c2,.pointer (some ⟨ib,0,none⟩),c4,c5,c6,c7,c8,c9,c10] 171 (0,0)))(hi:w.heap[ib]?=some (.cells #[o,l] 238 (0,0))):
 Calls Tryz.prog 134 #[.pointer (some ⟨a,0,none⟩)] w fun e w'=>e= .returned o/\w'=w:=by
 have q:=zA h;have sz:=bl (q 0);have q2:=zA hi;have sz2:=bl (q2 0);dsimp only at sz sz2;clear h hi;go_enter Tryz.func134,Tryz.ntmps134;go_wp2;go_ret;exact ⟨rfl,rfl⟩
theorem typeArgs_none (a:Nat)(c0 c1 c2 c4 c5 c6 c7 c8 c9 c10:Value)(w:World)(h:w.heap[a]?=some (.cells #[c0,c1,c2,.pointer none,c4,c5,c6,c7,c8,c9,c10] 171 (0,0))):
 Calls Tryz.prog 135 #[.pointer (some ⟨a,0,none⟩)] w fun e w'=>e= .returned (.pointer none)/\w'=w:=by
 have q:=zA h;have sz:=bl (q 0);dsimp only at sz;clear h;go_enter Tryz.func135,Tryz.ntmps135;go_wp2;go_ret;exact ⟨rfl,rfl⟩
theorem typeArgs_some (a ib:Nat)(o l:Value)(c0 c1 c2 c4 c5 c6 c7 c8 c9 c10:Value)(w:World)(h:w.heap[a]?=some (.cells #[c0,c1,c2,.pointer (some ⟨ib,0,none⟩),c4,c5,c6,c7,c8,c9,c10] 171 (0,0)))(hi:w.heap[ib]?=some (.cells #[o,l] 238 (0,0))):
 Calls Tryz.prog 135 #[.pointer (some ⟨a,0,none⟩)] w fun e w'=>e= .returned l/\w'=w:=by
 have q:=zA h;have sz:=bl (q 0);have q2:=zA hi;have sz2:=bl (q2 0);dsimp only at sz sz2;clear h hi;go_enter Tryz.func135,Tryz.ntmps135;go_wp2;go_ret;exact ⟨rfl,rfl⟩
theorem list_none (w:World):Calls Tryz.prog 175 #[.pointer none] w fun e w'=>e= .returned (.slice none 0 0)/\w'=w:=by
 go_enter Tryz.func175,Tryz.ntmps175;go_wp2;go_ret;exact ⟨rfl,rfl⟩
theorem list_some (lb:Nat)(l:Value)(w:World)(h:w.heap[lb]?=some (.cells #[l] 282 (0,0))):Calls Tryz.prog 175 #[.pointer (some ⟨lb,0,none⟩)] w fun e w'=>e= .returned l/\w'=w:=by
 have q:=zA h;have sz:=bl (q 0);dsimp only at sz;clear h;go_enter Tryz.func175,Tryz.ntmps175;go_wp2;go_ret;exact ⟨rfl,rfl⟩
theorem str_one {s:ByteArray}{c:UInt8}(h:s.toList= [c]):s=⟨#[c]⟩:=by
 have:s.data.toList= [c]:=by rw [<-ByteArray.toList_eq];exact h
 cases s with
 |mk d=>
  congr 1
  exact Array.ext' this
theorem one_get (c:UInt8)(h:0 < (⟨#[c]⟩:ByteArray).size):(⟨#[c]⟩:ByteArray)[0]=c:=rfl
theorem decode_one (c:UInt8)(hc:c.toNat < 128)(w:World):Calls Tryz.prog 221 #[.string ⟨#[c]⟩] w fun e w'=>e= .returned (.tuple #[.int .i32 c.toNat,.int .i64 1])/\w'=w:=by
 have hne:(⟨#[c]⟩:ByteArray)≠⟨#[]⟩:=by intro h;have:=congrArg ByteArray.size h;simp [ByteArray.size] at this
 have hsz:0 < (⟨#[c]⟩:ByteArray).size:=Nat.zero_lt_one;have hlt:(((⟨#[c]⟩:ByteArray)[0]).toNat:Int) < 128:=by rw [one_get c hsz];omega
 go_enter Tryz.func221,Tryz.ntmps221;go_wp2;go_ret2;exact ⟨rfl,rfl⟩
theorem isUpper_any {E:GEnv}(c:UInt8)(h1:65<=c.toNat)(h2:c.toNat<=90)(w:World)(hE:EnvOk w E):Calls Tryz.prog 222 #[.int .i32 c.toNat] w fun e w'=>(∃b,e= .returned (.bool b))/\w'=w:=by
 obtain ⟨v,hv⟩:=hE.tab c.toNat h1 h2;have sz:=World.block_lt_of_cell? _ _ hv;dsimp only at sz;have h3:(c.toNat:Int)<=255:=by omega
 clear hE;go_enter Tryz.func222,Tryz.ntmps222;go_wp2;go_ret;exact ⟨⟨_,rfl⟩,rfl⟩
theorem isExported_any {E:GEnv}(c:UInt8)(h1:65<=c.toNat)(h2:c.toNat<=90)(w:World)(hE:EnvOk w E):Calls Tryz.prog 189 #[.string ⟨#[c]⟩] w fun e w'=>(∃b,e= .returned (.bool b))/\w'=w:=by
 have HE:=hid hE;clear hE;go_enter Tryz.func189,Tryz.ntmps189;go_wp2_with fail
 refine (decode_one c (by omega) _).mono ?_;rintro e w1 ⟨rfl,rfl⟩;go_wp2_with fail
 refine (isUpper_any c h1 h2 _ HE.out).mono ?_;rintro e w2 ⟨⟨b,rfl⟩,rfl⟩;go_wp2;go_ret;exact ⟨⟨_,rfl⟩,rfl⟩
def VarAt (w:World)(E:GEnv)(vb:Nat)(nm:ByteArray)(v:Value):Prop:= ∃p0 k,w.heap[vb]?=some (.cells #[p0,E.pk,.string nm,v,k,.bool false] 201 (0,0))
theorem exported_any {E:GEnv}(vb:Nat)(c:UInt8)(v:Value)(h1:65<=c.toNat)(h2:c.toNat<=90)(w:World)(hE:EnvOk w E)(hv:VarAt w E vb ⟨#[c]⟩ v):Calls Tryz.prog 213 #[.pointer (some ⟨vb,0,none⟩)] w fun e w'=>(∃b,e= .returned (.bool b))/\w'=w:=by
 obtain ⟨p0,k,hv⟩:=hv;have q:=zA hv;have sz:=bl (q 0);dsimp only at sz;have HE:=hid hE;clear hE hv;go_enter Tryz.func213,Tryz.ntmps213;go_wp2_with fail
 refine (isExported_any c h1 h2 _ HE.out).mono ?_;rintro e w2 ⟨⟨b,rfl⟩,rfl⟩;go_wp2;go_ret;exact ⟨⟨_,rfl⟩,rfl⟩
theorem samePkg_any {E:GEnv}(w:World)(hE:EnvOk w E):Calls Tryz.prog 214 #[E.pk,E.pk] w fun e w'=>e= .returned (.bool true)/\ ∃n,w'=w.drewN n:=by
 obtain ⟨b,c,t,nm,e,hA,hb,hc⟩:=hE.pkg;rw [e];have q:=zA hb;have q0:=(q 0).trans (by simpa using hc);have sz:=World.block_lt_of_cell? _ _ q0;dsimp only at sz;clear hE q hb hc hA e;go_enter Tryz.func214,Tryz.ntmps214;go_wp2_with fail
 go_quiet (fail);go_wp2;go_ret;exact ⟨rfl,nq,rfl⟩
theorem sameId_any {E:GEnv}(vb:Nat)(nm nm':ByteArray)(c c':UInt8)(v:Value)(hc:nm.toList= [c])(hc':nm'.toList= [c'])(h1:65<=c.toNat)(h2:c.toNat<=90)(w:World)(hE:EnvOk w E)(hv:VarAt w E vb nm v):
 Calls Tryz.prog 174 #[.pointer (some ⟨vb,0,none⟩),E.pk,.string nm',.bool false] w fun e w'=>e= .returned (.bool (decide (nm.toList=nm'.toList)))/\Fr (fun _=>False) w w':=by
 obtain rfl:=str_one hc;obtain rfl:=str_one hc';have HV:=hid hv;obtain ⟨p0,k,hv⟩:=hv;have q:=zA hv;have sz:=bl (q 0);dsimp only at sz;have HE:=hid hE;clear hE hv;have hpk:=fun w hw=>samePkg_any (E:=E) w hw
 rw [hc,hc'];clear hc hc';by_cases hcc:c=c'
 ·subst hcc
  go_enter Tryz.func174,Tryz.ntmps174;go_wp2_with fail
  refine (exported_any vb c v h1 h2 _ HE.out HV.out).mono ?_;rintro e w2 ⟨⟨b,rfl⟩,rfl⟩
  cases b with
  |true=>
   go_wp2;go_ret;exact ⟨by simp,Fr.refl _ _⟩
  |false=>
   go_wp2_with fail
   refine (hpk _ HE.out).mono ?_;rintro e w3 ⟨rfl,n,rfl⟩;go_wp2;go_ret;exact ⟨by simp,(Fr.refl _ _).drawn n⟩
 ·have hne:(⟨#[c]⟩:ByteArray)≠⟨#[c']⟩:=by intro h;injection h with h;injection h with h;injection h with h;exact hcc h
  have hb:(!c==c')=true:=by simp [hcc]
  go_enter Tryz.func174,Tryz.ntmps174;go_wp2;go_ret;exact ⟨by simp [hcc],Fr.refl _ _⟩
theorem node_9 {step:St->Tm->Tm->Uni.Mode->Option (Option St)}{zQ:Option (St->Tm->Tm->Uni.Mode->Option (Option St))}{s:St}{f g:Lab}{m:Uni.Mode}(hf:f.kind=9)(hg:g.kind=9)(ts us:List Tm):zK step zQ s f ts g us m=if ts.length≠us.length then some none else seqF (fun s a b=>step s a b (Uni.inner m)) s f.names g.names ts us:=by
 unfold zK;rw [if_neg (by omega),if_neg (by omega),if_neg (by omega),if_neg (by omega),if_neg (by omega),if_pos hf]
end Go.Proofs.YtpekidjfbinekaaGreatDoor
