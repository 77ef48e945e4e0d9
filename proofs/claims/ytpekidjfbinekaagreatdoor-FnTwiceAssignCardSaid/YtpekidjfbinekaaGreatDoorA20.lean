/- H11, H12, G22, I0 -/
import Derived.Test.YtpekidjfbinekaaGreatDoorA09
import Derived.Test.YtpekidjfbinekaaGreatDoorA17
import Derived.Test.YtpekidjfbinekaaGreatDoorA19
set_option maxRecDepth 100000
set_option maxHeartbeats 60000000
set_option linter.all false
namespace Go.Proofs.YtpekidjfbinekaaGreatDoor
open Go.RowKit Uni
theorem pre_0:
 (∀ {E:GEnv} (tx ty:TypeId) (px py:Value) (m:Uni.Mode) (z:Int) (w:World) (U bm:Nat) (hd:Nat→Addr) (s:St) (depth:Int) (hdk:depth + 1≤50) (h0:0≤depth) (hm:yR m z) (hE:EnvOk w E) (hN:NRep w E U bm hd s depth) (hxm:m≠ .exact) (hx95: ¬tx=95) (hy95: ¬ty=95) (hx283: ¬tx=283) (hy283: ¬ty=283) (hx106: ¬tx=106) (hy106: ¬ty=106) (an:Nat) (c0 c1 c2 c3 c4 c5 c9 c10:Value) (hnA: ¬E.A an) (hnb:w.heap[an]?=some (.cells #[c0,c1,c2,c3,c4,c5,.int .u32 15,.iface ty py,.iface ty py,c9,c10] 171 (0,0))) (hea: ∀w',Fr E.A w w'→(binOp .eql 103 (.iface tx px) (.iface 106 (.pointer (some ⟨an,0,none⟩)))).run Tryz.prog w'= .ok (.bool false) w') (heq: ∀w',Fr E.A w w'→(binOp .eql 103 (.iface tx px) (.iface ty py)).run Tryz.prog w'= .ok (.bool true) w'),
  Calls Tryz.prog 132 #[.pointer (some ⟨U,0,none⟩),.iface tx px,.iface 106 (.pointer (some ⟨an,0,none⟩)),.int .u64 z,.pointer none] w (xM w E U bm depth (some s)))/\
 (∀ {E:GEnv} (tx ty:TypeId) (px py:Value) (m:Uni.Mode) (z:Int) (w:World) (U bm:Nat) (hd:Nat→Addr) (s:St) (depth:Int) (hdk:depth + 1≤50) (h0:0≤depth) (hm:yR m z) (hE:EnvOk w E) (hN:NRep w E U bm hd s depth) (hxm:m≠ .exact) (hx95: ¬tx=95) (hy95: ¬ty=95) (hx283: ¬tx=283) (hy283: ¬ty=283) (hx106: ¬tx=106) (hy106: ¬ty=106) (an:Nat) (c0 c1 c2 c3 c4 c5 c9 c10:Value) (hnA: ¬E.A an) (hnb:w.heap[an]?=some (.cells #[c0,c1,c2,c3,c4,c5,.int .u32 15,.iface ty py,.iface ty py,c9,c10] 171 (0,0))) (hea: ∀w',Fr E.A w w'→(binOp .eql 103 (.iface 106 (.pointer (some ⟨an,0,none⟩))) (.iface tx px)).run Tryz.prog w'= .ok (.bool false) w') (heq: ∀w',Fr E.A w w'→(binOp .eql 103 (.iface tx px) (.iface ty py)).run Tryz.prog w'= .ok (.bool true) w'),
  Calls Tryz.prog 132 #[.pointer (some ⟨U,0,none⟩),.iface 106 (.pointer (some ⟨an,0,none⟩)),.iface tx px,.int .u64 z,.pointer none] w (xM w E U bm depth (some s))):=by
 refine ⟨@fun E tx ty px py m z w U bm hd s depth hdk h0 hm hE hN hxm hx95 hy95 hx283 hy283 hx106 hy106 an c0 c1 c2 c3 c4 c5 c9 c10 hnA hnb hea heq=>have tg:Fin 1:=0;?_,@fun E tx ty px py m z w U bm hd s depth hdk h0 hm hE hN hxm hx95 hy95 hx283 hy283 hx106 hy106 an c0 c1 c2 c3 c4 c5 c9 c10 hnA hnb hea heq=>have tg:Fin 2:=0;?_⟩
 all_goals
  have HEA:=hid hea;have HEQ:=hid heq;have HNA:=hid hnA;have HNB:=hid hnb;clear heq hnA hnb;have HLIT:=hid (show decide (tx≠106/\tx≠95)=true by simp [hx106,hx95]);have HTP:=hid (show decide (ty=95)=false by simp [hy95]);have hand:=and2_in hm hxm;clear hea hxm;have A106:=zD p106;have hmf: ∀(fn:Fn) (first cap:Array Value) (w:World),(Instr.makeFunc fn first cap).run Tryz.prog w= .ok (.func fn first cap) w:=fun _ _ _ _=>rfl
  have hnot: ∀(x:Bool) (w:World),(Op.unary .not (.bool x)).run Tryz.prog w= .ok (.bool (!x)) w:=fun _ _=>rfl
  have hN1:=hN.enter (.cells #[.pointer (some ⟨U,0,none⟩)] 173);have FA1:Fr E.A w ((w.setCell ⟨U,2,none⟩ (.int .i64 (depth + 1))).alloc (.cells #[.pointer (some ⟨U,0,none⟩)] 173)):=((Fr.refl E.A w).setCell (p:=⟨U,2,none⟩) (.inl hN.AU) _).alloc _;have SC:(w.setCell ⟨U,2,none⟩ (.int .i64 (depth + 1))).heap.size=w.heap.size:=by simp [World.setCell]
  have BX1:((w.setCell ⟨U,2,none⟩ (.int .i64 (depth + 1))).alloc (.cells #[.pointer (some ⟨U,0,none⟩)] 173)).heap[w.heap.size]?=some (.cells #[.pointer (some ⟨U,0,none⟩)] 173 (0,0)):=by have h:=heap_alloc_new (w.setCell ⟨U,2,none⟩ (.int .i64 (depth + 1))) (.cells #[.pointer (some ⟨U,0,none⟩)] 173);rw [SC] at h;exact h
  have hE1:=hE.keep FA1;have qu:=zA hN.u;have fu:=zC hN.u;have szu:=bl (qu 0);dsimp only at szu;have hnn: ∀(w:World),(binOp .neq 106 (.pointer none) (.pointer none)).run Tryz.prog w= .ok (.bool false) w:=fun w=>rfl
  have hnq: ∀(a:Addr) (w:World),(binOp .neq 106 (.pointer (some a)) (.pointer none)).run Tryz.prog w= .ok (.bool true) w:=fun a w=>rfl
  have hno: ∀(w:World),(binOp .neq 95 (.pointer none) (.pointer none)).run Tryz.prog w= .ok (.bool false) w:=fun w=>rfl
  have NB:=hid (fun h=>Nat.lt_irrefl _ (hE.below w.heap.size h): ¬E.A w.heap.size);have hea:=HEA.out _ FA1;have HN1:=hid hN1;have FA:=hid FA1;have BX:=hid BX1;have HE:=hid hE1;have HM:=hid hm;clear hN1 FA1 BX1 hE hE1 hN SC;go_enter_defers Tryz.func132,Tryz.ntmps132;go_wp2_with fail
  generalize ((w.setCell ⟨U,2,none⟩ (.int .i64 (depth + 1))).alloc (.cells #[.pointer (some ⟨U,0,none⟩)] 173))=WX at HN1 FA BX HE hea ⊢;clear qu fu szu;have qu:=zA HN1.out.u;have fu:=zC HN1.out.u;have szu:=bl (qu 0);have qb:=zA BX.out;have szb:=bl (qb 0);dsimp only at szu szb;refine (zM _ _ _ (by first | decide | assumption)).mono ?_;rintro e w1 ⟨rfl,rfl⟩;go_wp2_with fail
  refine (zM _ _ _ (by first | decide | assumption)).mono ?_;rintro e w1 ⟨rfl,rfl⟩;go_wp2_with fail
  refine (yI _ _ _ (by first | decide | assumption)).mono ?_;rintro e w1 ⟨rfl,rfl⟩;go_wp2_with fail
  first
  |rename Fin 1=>tg
   refine (yH _ _ (by first | decide | assumption) (by first | decide | assumption)).mono ?_;rintro e w1 ⟨rfl,rfl⟩;go_wp2_with fail
  |skip
  refine (yI _ _ _ (by first | decide | assumption)).mono ?_;rintro e w1 ⟨rfl,rfl⟩;go_wp2_with fail
  refine (isTypeLit_any _ _ _ (by first | decide | assumption)).mono ?_;rintro e w1 ⟨rfl,rfl⟩;have hlit:=HLIT.out;rw [hlit];clear hlit;go_wp2_with fail
  refine (underlying_go an _ _ _ _ _ _ _ _ _ _ _ (FA.out.heap HNA.out HNB.out)).mono ?_;rintro e w1 ⟨rfl,rfl⟩;go_wp2_with fail
  refine (wN _ _ _ (by first | decide | assumption)).mono ?_;rintro e w1 ⟨rfl,rfl⟩;have htp:=HTP.out;rw [htp];clear htp;go_wp2_with fail
  refine (wS _).mono ?_;rintro e w1 ⟨rfl,rfl⟩;have heq:=HEQ.out _ FA.out;go_wp2;exact door h0 (by omega) rfl FA.out BX.out HN1.out (fun s1 h=>Option.some.inj h)
theorem PT.kinds {w:World}{E:GEnv}{v:Value}{f:Lab}{ts:List Tm}(h:PT w E v (.node f ts)):f.kind=0\/f.kind=1\/f.kind=4\/f.kind=5\/f.kind=6\/f.kind=7\/f.kind=8\/f.kind=9\/f.kind=10:=by
 cases h <;>omega
theorem ty_ne {f g:Lab}{ts bs:List Tm}(hf:f.kind=0\/f.kind=1\/f.kind=4\/f.kind=5\/f.kind=6\/f.kind=7\/f.kind=8\/f.kind=9\/f.kind=10)(hg:g.kind=0\/g.kind=1\/g.kind=4\/g.kind=5\/g.kind=6\/g.kind=7\/g.kind=8\/g.kind=9\/g.kind=10)(h:f.kind≠g.kind):
 ¬tyOf (.node g bs)=tyOf (.node f ts):=by
 unfold tyOf;rcases hf with hf | hf | hf | hf | hf | hf | hf | hf | hf <;>rcases hg with hg | hg | hg | hg | hg | hg | hg | hg | hg <;>first | (exact absurd (hf.trans hg.symm) h) | (simp only [tyOf,hf,hg];decide)
theorem eqf {w:World}{E:GEnv}(hE:EnvOk w E){vx vy:Value}{x y:Tm}(hx:PT w E vx x)(hy:PT w E vy y)(hne:vx≠vy): ∃a b,vx= .iface (tyOf x) (.pointer (some a))/\vy= .iface (tyOf y) (.pointer (some b))/\(∀w',Fr E.A w w'->(binOp .eql 103 vx vy).run Tryz.prog w'= .ok (.bool false) w')/\(∀w',Fr E.A w w'->(binOp .neq 103 vx vy).run Tryz.prog w'= .ok (.bool true) w'):=by
 obtain ⟨a,ca,ta,rfl,_,_,haA,ha⟩:=hx.form hE;obtain ⟨b,cb,tb,rfl,_,_,hbA,hb⟩:=hy.form hE
 have hd:decide (tyOf x=tyOf y∧a=b)=false:=by
  simp only [decide_eq_false_iff_not];rintro ⟨h1,h2⟩;exact hne (by rw [h1,h2])
 have h: ∀w',Fr E.A w w'→(binOp .eql 103 (.iface (tyOf x) (.pointer (some a))) (.iface (tyOf y) (.pointer (some b)))).run Tryz.prog w'= .ok (.bool false) w':=fun w' F=>by
  rw [wC (eqTy x) (F.heap haA ha) (F.heap hbA hb),hd]
 exact ⟨a,b,rfl,rfl,h,fun w' F=>neq_of_eql (h w' F)⟩
theorem node_diff {step:St->Tm->Tm->Uni.Mode->Option (Option St)}{zQ:Option (St->Tm->Tm->Uni.Mode->Option (Option St))}{s:St}{f g:Lab}{m:Uni.Mode}(h:f.kind≠g.kind)(ts us:List Tm):zK step zQ s f ts g us m=some none:=by
 unfold zK;rw [if_pos h]
theorem sw_nodes {E:GEnv}{k:Nat}(hS:xU E k)(hS2: ∀k',k=k' + 1->xU E k')(f:Lab)(ts:List Tm)(g:Lab)(bs:List Tm)(vx vy:Value)(m:Uni.Mode)(w:World)(U bm:Nat)(hd:Nat->Addr)(s:St)(depth:Int)(r:Option St)(hdk:depth + (k + 1:Nat)=50)(h0:0<=depth)
 (hr:zK (zJ E.D k) (xN E.D k) s f ts g bs m=some r) (hE:EnvOk w E) (hx:PT w E vx (.node f ts)) (hy:PT w E vy (.node g bs)) (hfg:f.kind=1->g.kind=1) (a:Act) (w1:World) (o:Int) (h:Sw E w U bm hd s depth m o vx vy a w1):
 Code.wp Tryz.prog yN (bodyPostD Tryz.prog Tryz.f132 (xM w E U bm depth r)) a w1:=by
 by_cases hk:f.kind=g.kind
 ·rcases hx.kinds with hf | hf | hf | hf | hf | hf | hf | hf | hf
  ·exact sw_0 hS f ts g bs vx vy m w U bm hd s depth r o a w1 hdk h0 hr hx hy hf (by omega) h
  ·exact sw_1 hS f ts g bs vx vy m w U bm hd s depth r o a w1 hdk h0 hr hx hy hf (by omega) h
  ·exact sw_45.1 hS f ts g bs vx vy m w U bm hd s depth r o a w1 hdk h0 hr hx hy hf (by omega) h
  ·exact sw_45.2 hS f ts g bs vx vy m w U bm hd s depth r o a w1 hdk h0 hr hx hy hf (by omega) h
  ·exact sw_6 hS f ts g bs vx vy m w U bm hd s depth r o a w1 hdk h0 hr hx hy hf (by omega) h
  ·exact sw_7 hS f ts g bs vx vy m w U bm hd s depth r o a w1 hdk h0 hr hx hy hf (by omega) h
  ·exact sw_8 hS f ts g bs vx vy m w U bm hd s depth r o a w1 hdk h0 hr hx hy hf (by omega) h
  ·exact sw_9 hS f ts g bs vx vy m w U bm hd s depth r o a w1 hdk h0 hr hx hy hf (by omega) h
  ·exact sw_10 hS2 f ts g bs vx vy m w U bm hd s depth r o a w1 hdk h0 hr hx hy hf (by omega) h
 ·rw [node_diff hk] at hr
  cases hr
  obtain ⟨ax,_,_,rfl,_⟩:=hx.form hE;obtain ⟨ay,_,_,rfl,_⟩:=hy.form hE;exact sw_diff _ _ _ _ m w U bm hd s depth o a w1 (by omega) h0 (lit_ty f ts fun h1=>hk (by rw [hx.named_iff.1 h1,hfg (hx.named_iff.1 h1)])) (ty_ne hx.kinds hy.kinds hk) h
theorem PT.undAt {w:World}{E:GEnv}{v:Value}{f:Lab}{ts:List Tm}(h:PT w E v (.node f ts))(hk:f.kind=1): ∃a c0 c1 c2 c3 c4 c5 u c9 c10,v= .iface 106 (.pointer (some ⟨a,0,none⟩))/\ ¬E.A a/\w.heap[a]?=some (.cells #[c0,c1,c2,c3,c4,c5,.int .u32 15,u,u,c9,c10] 171 (0,0))/\PT w E u (und E.D (.node f ts)):=by
 cases h with
 |named0 f c0 c1 c2 c4 c5 u c9 c10 st h1 h2 h3 h4 h5 h6 h7=>subst h6;exact ⟨_,_,_,_,_,_,_,_,_,_,rfl,h4,h5,h7⟩
 |named f a ib lb ta tc c0 c1 c2 c4 c5 u c9 c10 st vs ts h1 h2 h3 hne h4 h5 h6 h7 h8 h9 h10 h11 h12 h13 h14 h15 h16=>subst h6;exact ⟨_,_,_,_,_,_,_,_,_,_,rfl,h4,h5,h16⟩
 |basic f a i nm h1=>omega
 |ptr f a v t h1=>omega
 |slice f a v t h1=>omega
 |array f a v t h1=>omega
 |map f a v v' t t' h1=>omega
 |chan f a v t h1=>omega
 |struct f a fa fc vs ts h1=>omega
 |func f a pp rp vs ts h1=>omega
theorem step2_eq (D:zE)(k:Nat):zQ D k=xN D k:=by cases k <;>rfl
theorem nify_nodes {E:GEnv}(hD:zZ E.D){k:Nat}(hS:xU E k)(hS2: ∀k',k=k' + 1->xU E k')(f:Lab)(ts:List Tm)(g:Lab)(bs:List Tm)(vx vy:Value)(m:Uni.Mode)(z:Int)(w:World)(U bm:Nat)(hd:Nat->Addr)(s:St)(depth:Int)(r:Option St)(hdk:depth + (k + 1:Nat)=50)(h0:0<=depth)
 (hr:zJ E.D (k + 1) s (.node f ts) (.node g bs) m=some r) (hm:yR m z) (hE:EnvOk w E) (hN:NRep w E U bm hd s depth) (hx:PT w E vx (.node f ts)) (hy:PT w E vy (.node g bs)) (hne:vx≠vy):
 Calls Tryz.prog 132 #[.pointer (some ⟨U,0,none⟩),vx,vy,.int .u64 z,.pointer none] w (xM w E U bm depth r):=by
 rw [xT,step2_eq] at hr
 have lit: ∀(f:Lab) (ts:List Tm) (g:Lab) (bs:List Tm),(m= .exact∨g.kind≠1∨f.kind=1)→xD E.D (zJ E.D k) (xN E.D k) s f ts g bs m=zK (zJ E.D k) (xN E.D k) s f ts g bs m:=by
  intro f ts g bs h;unfold xD;rw [if_neg];rintro ⟨h1,h2,h3⟩;rcases h with h | h | h
  ·exact h1 h
  ·exact h h2
  ·exact h3 h
 have selfN: ∀(s:St) (f:Lab) (ts:List Tm) (m:Uni.Mode) (q:Option St),zK (zJ E.D k) (xN E.D k) s f ts f ts m=some q→q=some s:=fun s f ts m q h=>
  nifyNode_refl s f ts m (fun s a m q e=>nifyT_refl E.D k s a m q e) (fun st hst s a m q e=>by
   cases k with
   |zero=>cases hst
   |succ k'=>cases hst;exact nifyT_refl E.D k' s a m q e) q h
 have t95: ∀(f:Lab) (ts:List Tm),¬tyOf (.node f ts)=95:=tyOf_95;have t283: ∀(f:Lab) (ts:List Tm),¬tyOf (.node f ts)=283:=fun f ts=>(tyOf_ne (.node f ts)).2.1
 obtain ⟨ax,ay,ex,ey,hea,hnea⟩:=eqf hE hx hy hne;obtain ⟨ay',ax',ey',ex',heb,hneb⟩:=eqf hE hy hx (Ne.symm hne);by_cases hf:f.kind=1
 ·rw [if_pos hf] at hr
  by_cases hg:g.kind=1
  ·rw [lit g bs f ts (.inr (.inr hg))] at hr
   have SW:=fun a w1 o h=>sw_nodes hS hS2 g bs f ts vy vx m w U bm hd s depth r hdk h0 hr hE hy hx (fun _=>hf) a w1 o h
   subst ex ey;by_cases hm':m= .exact
   ·exact pre_all.2.2.1 _ _ _ _ m z w U bm hd s depth _ (by omega) h0 hm hE hN hm' (t95 _ _) (t95 _ _) (t283 _ _) (t283 _ _) (hy.named_iff.2 hg) (hx.named_iff.2 hf) ⟨_,rfl⟩ ⟨_,rfl⟩ hea hneb SW
   ·exact pre_all.2.2.2.1 _ _ _ _ m z w U bm hd s depth _ (by omega) h0 hm hE hN hm' (t95 _ _) (t95 _ _) (t283 _ _) (t283 _ _) (hy.named_iff.2 hg) (hx.named_iff.2 hf) ⟨_,rfl⟩ ⟨_,rfl⟩ hea hneb SW
  ·by_cases hm':m= .exact
   ·rw [lit g bs f ts (.inl hm')] at hr
    have SW:=fun a w1 o h=>sw_nodes hS hS2 g bs f ts vy vx m w U bm hd s depth r hdk h0 hr hE hy hx (fun _=>hf) a w1 o h
    subst ex ey;exact pre_all.2.1 _ _ _ _ m z w U bm hd s depth _ (by omega) h0 hm hE hN hm' (t95 _ _) (t95 _ _) (t283 _ _) (t283 _ _) (fun h=>hg (hy.named_iff.1 h)) (hx.named_iff.2 hf) ⟨_,rfl⟩ hea hneb SW
   ·obtain ⟨an,c0,c1,c2,c3,c4,c5,u,c9,c10,rfl,hnA,hnb,hu⟩:=hx.undAt hf
    obtain ⟨f',ts',eu,hk'⟩:=und_node hD f ts hf;unfold xD at hr;rw [if_pos ⟨hm',hf,hg⟩,eu] at hr;dsimp only at hr;rw [eu] at hu;have SW:=fun hne':vy≠u=>fun a w1 o h=>sw_nodes hS hS2 g bs f' ts' vy u m w U bm hd s depth r hdk h0 hr hE hy hu (fun h=>absurd h hg) a w1 o h
    by_cases hyu:vy=u
    ·subst hyu
     have he:=hy.det hE _ hu;injection he with e1 e2
     subst e1 e2;have hrr:=selfN s g bs m r hr;subst hrr;obtain ⟨ay2,ca,ta,e3,_,_,haA,ha⟩:=hy.form hE;subst e3;exact pre_0.2 _ _ _ _ m z w U bm hd s depth (by omega) h0 hm hE hN hm' (t95 _ _) (t95 _ _) (t283 _ _) (t283 _ _) (fun h=>hg (hy.named_iff.1 h)) (fun h=>hg (hy.named_iff.1 h)) an c0 c1 c2 c3 c4 c5 c9 c10 hnA hnb hea (fun w' F=>by rw [wC (eqTy _) (F.heap haA ha) (F.heap haA ha)];simp)
    ·obtain ⟨a1,a2,e3,e4,hea2,hnea2⟩:=eqf hE hy hu hyu
     have SW:=SW hyu;subst e3 e4;exact pre_all.2.2.2.2.2.2.2 _ _ _ _ m z w U bm hd s depth _ (by omega) h0 hm hE hN hm' (t95 _ _) (t95 _ _) (t283 _ _) (t283 _ _) (fun h=>hg (hy.named_iff.1 h)) (fun h=>by have:=hu.named_iff.1 h;omega) an c0 c1 c2 c3 c4 c5 c9 c10 hnA hnb hea hea2 hnea2 SW
 ·rw [if_neg hf] at hr
  by_cases hg:g.kind=1
  ·by_cases hm':m= .exact
   ·rw [lit f ts g bs (.inl hm')] at hr
    have SW:=fun a w1 o h=>sw_nodes hS hS2 f ts g bs vx vy m w U bm hd s depth r hdk h0 hr hE hx hy (fun _=>hg) a w1 o h
    subst ex ey;exact pre_all.1 _ _ _ _ m z w U bm hd s depth _ (by omega) h0 hm hE hN hm' (t95 _ _) (t95 _ _) (t283 _ _) (t283 _ _) (fun h=>hf (hx.named_iff.1 h)) (hy.named_iff.2 hg) ⟨_,rfl⟩ hea hnea SW
   ·obtain ⟨an,c0,c1,c2,c3,c4,c5,u,c9,c10,rfl,hnA,hnb,hu⟩:=hy.undAt hg
    obtain ⟨g',bs',eu,hk'⟩:=und_node hD g bs hg;unfold xD at hr;rw [if_pos ⟨hm',hg,hf⟩,eu] at hr;dsimp only at hr;rw [eu] at hu;by_cases hyu:vx=u
    ·subst hyu
     have he:=hx.det hE _ hu;injection he with e1 e2
     subst e1 e2;have hrr:=selfN s f ts m r hr;subst hrr;obtain ⟨ay2,ca,ta,e3,_,_,haA,ha⟩:=hx.form hE;subst e3;exact pre_0.1 _ _ _ _ m z w U bm hd s depth (by omega) h0 hm hE hN hm' (t95 _ _) (t95 _ _) (t283 _ _) (t283 _ _) (fun h=>hf (hx.named_iff.1 h)) (fun h=>hf (hx.named_iff.1 h)) an c0 c1 c2 c3 c4 c5 c9 c10 hnA hnb hea (fun w' F=>by rw [wC (eqTy _) (F.heap haA ha) (F.heap haA ha)];simp)
    ·obtain ⟨a1,a2,e3,e4,hea2,hnea2⟩:=eqf hE hx hu hyu
     have SW:=fun a w1 o h=>sw_nodes hS hS2 f ts g' bs' vx u m w U bm hd s depth r hdk h0 hr hE hx hu (fun h=>absurd h hf) a w1 o h
     subst e3 e4;exact pre_all.2.2.2.2.2.2.1 _ _ _ _ m z w U bm hd s depth _ (by omega) h0 hm hE hN hm' (t95 _ _) (t95 _ _) (t283 _ _) (t283 _ _) (fun h=>hf (hx.named_iff.1 h)) (fun h=>by have:=hu.named_iff.1 h;omega) an c0 c1 c2 c3 c4 c5 c9 c10 hnA hnb hea hea2 hnea2 SW
  ·rw [lit f ts g bs (.inr (.inl hg))] at hr
   have SW:=fun a w1 o h=>sw_nodes hS hS2 f ts g bs vx vy m w U bm hd s depth r hdk h0 hr hE hx hy (fun h=>absurd h hf) a w1 o h
   subst ex ey;by_cases hm':m= .exact
   ·exact pre_all.2.2.2.2.1 _ _ _ _ m z w U bm hd s depth _ (by omega) h0 hm hE hN hm' (t95 _ _) (t95 _ _) (t283 _ _) (t283 _ _) (fun h=>hf (hx.named_iff.1 h)) (fun h=>hg (hy.named_iff.1 h)) hea hnea SW
   ·exact pre_all.2.2.2.2.2.1 _ _ _ _ m z w U bm hd s depth _ (by omega) h0 hm hE hN hm' (t95 _ _) (t95 _ _) (t283 _ _) (t283 _ _) (fun h=>hf (hx.named_iff.1 h)) (fun h=>hg (hy.named_iff.1 h)) hea hnea SW
theorem nify_any {E:GEnv}(hD:zZ E.D): ∀k,k<=50->xU E k:=by
 intro k
 induction k using Nat.strongRecOn with
 |ind k ih=>
  intro hk x y vx vy m z w U bm hd s depth q hdk hq hm hE hN hx hy
  cases k with
  |zero=>cases hq
  |succ k=>
   have hS:=ih k (by omega) (by omega);have hS2: ∀k',k=k' + 1->xU E k':=fun k' e=>ih k' (by omega) (by omega)
   have h0:0<=depth:=by omega
   by_cases hv:vx=vy
   ·subst hv
    have:=hx.det hE _ hy;subst this;have:=nifyT_refl E.D _ s x m q hq;subst this;exact nify_same x vx z w U bm hd s depth h0 (by omega) hE hN hx
   ·cases x with
    |var p=>
     cases hx with
     |var _ hp=>
     cases y with
     |var p'=>
      cases hy with
      |var _ hp'=>exact nify_vars hS p p' m z w U bm hd s depth q hdk h0 hp hp' (fun h=>hv (by rw [h])) hq hm hE hN
     |node g bs=>
      have hq':yB (zJ E.D k) s p (.node g bs) m=some q:=hq;by_cases hm':m= .exact <;>by_cases hg:g.kind=1
      ·exact yV.2.1 hS p g bs vy m z w U bm hd s depth q hdk h0 hp hq' hm hE hN hy hm' hg
      ·exact yV.1 hS p g bs vy m z w U bm hd s depth q hdk h0 hp hq' hm hE hN hy hm' hg
      ·exact yV.2.2.2.1 hS p g bs vy m z w U bm hd s depth q hdk h0 hp hq' hm hE hN hy hm' hg
      ·exact yV.2.2.1 hS p g bs vy m z w U bm hd s depth q hdk h0 hp hq' hm hE hN hy hm' hg
    |node f ts=>
     cases y with
     |var p'=>
      cases hy with
      |var _ hp'=>
      have hq':yB (zJ E.D k) s p' (.node f ts) m=some q:=hq;by_cases hm':m= .exact <;>by_cases hg:f.kind=1
      ·exact yV.2.2.2.2.2.1 hS p' f ts vx m z w U bm hd s depth q hdk h0 hp' hq' hm hE hN hx hm' hg
      ·exact yV.2.2.2.2.1 hS p' f ts vx m z w U bm hd s depth q hdk h0 hp' hq' hm hE hN hx hm' hg
      ·exact yV.2.2.2.2.2.2.2 hS p' f ts vx m z w U bm hd s depth q hdk h0 hp' hq' hm hE hN hx hm' hg
      ·exact yV.2.2.2.2.2.2.1 hS p' f ts vx m z w U bm hd s depth q hdk h0 hp' hq' hm hE hN hx hm' hg
     |node g bs=>exact nify_nodes hD hS hS2 f ts g bs vx vy m z w U bm hd s depth q hdk h0 hq hm hE hN hx hy hv
def GEnv.setA (E:GEnv)(A:Nat->Prop):GEnv:= {E with A:=A}
section
variable {w:World}{E:GEnv}{A:Nat->Prop}
theorem lt_of_heap {b:Nat}{o:Obj}(h:w.heap[b]?=some o):b < w.heap.size:=by
 rcases Nat.lt_or_ge b w.heap.size with h' | h'
 ·exact h'
 ·rw [Array.getElem?_eq_none h'] at h;cases h
theorem notA (hA: ∀b,A b->w.heap.size<=b){b:Nat}{o:Obj}(h:w.heap[b]?=some o): ¬A b:=fun ha=>Nat.not_lt.2 (hA b ha) (lt_of_heap h)
theorem notA_cell (hA: ∀b,A b->w.heap.size<=b){b off:Nat}{v:Value}(h:w.cell? ⟨b,off,none⟩=some v): ¬A b:=fun ha=>Nat.not_lt.2 (hA b ha) (World.block_lt_of_cell? _ _ h)
theorem xJ.setA (hA: ∀b,A b->w.heap.size<=b){a:Option Addr}{vs:List Value}{nms:List (List UInt8)}(h:xJ w E a vs nms):xJ w (E.setA A) a vs nms:=by
 rcases h with h | ⟨b,off,ha,hb,⟨cs,hcs⟩,h⟩
 ·exact .inl h
 ·cases vs with
  |nil=>exact .inl rfl
  |cons v0 vs=>
   obtain ⟨_,_,_,_,h1,_⟩:=h 0 v0 rfl;refine .inr ⟨b,off,ha,notA_cell hA h1,⟨cs,hcs⟩,fun i v hv=> ?_⟩;obtain ⟨vb,p0,k,nm,h1,h2,h3,h4⟩:=h i v hv;exact ⟨vb,p0,k,nm,h1,notA hA h3,h3,h4⟩
theorem yT.setA (hA: ∀b,A b->w.heap.size<=b){a:Option Addr}{vs:List Value}(h:yT w E a vs):yT w (E.setA A) a vs:=by
 rcases h with h | ⟨b,off,ha,hb,⟨cs,hcs⟩,h⟩
 ·exact .inl h
 ·cases vs with
  |nil=>exact .inl rfl
  |cons v0 vs=>exact .inr ⟨b,off,ha,notA_cell hA (h 0 v0 rfl),⟨cs,hcs⟩,h⟩
theorem yZ.setA (hA: ∀b,A b->w.heap.size<=b){pv:Value}{vs:List Value}(h:yZ w E pv vs):yZ w (E.setA A) pv vs:=by
 rcases h with h | ⟨b,va,vc,h0,h1,h2,h3,h4,h5,h6⟩
 ·exact .inl h
 ·exact .inr ⟨b,va,vc,h0,h1,notA hA h3,h3,h4,h5,h6.setA hA⟩
theorem PT.setA (hA: ∀b,A b->w.heap.size<=b){v:Value}{t:Tm}(h:PT w E v t):PT w (E.setA A) v t:=by
 induction h with
 |var p h=>exact .var (E:=E.setA A) p h
 |basic l a i nm h1 h2 h3 h4=>exact .basic l a i nm h1 h2 (notA hA h4) h4
 |ptr l a v t h1 h2 h3 h4 _ ih=>exact .ptr l a v t h1 h2 (notA hA h4) h4 ih
 |slice l a v t h1 h2 h3 h4 _ ih=>exact .slice l a v t h1 h2 (notA hA h4) h4 ih
 |array l a v t h1 h2 h3 h4 _ ih=>exact .array l a v t h1 h2 (notA hA h4) h4 ih
 |map l a v v' t t' h1 h2 h3 h4 _ _ ih ih'=>exact .map l a v v' t t' h1 h2 (notA hA h4) h4 ih ih'
 |chan l a v t h1 h2 h3 h4 _ ih=>exact .chan l a v t h1 h2 (notA hA h4) h4 ih
 |struct l a fa fc vs ts h1 h2 hn h3 h4 h5 h6 h7 h8 _ ih=>exact .struct l a fa fc vs ts h1 h2 hn (notA hA h4) h4 h5 h6 h7 (h8.setA hA) ih
 |func l a pp rp vs ts h1 h2 hn h3 h4 h5 h6 h7 _ ih=>exact .func l a pp rp vs ts h1 h2 hn (notA hA h4) h4 h5 (h6.setA hA) (h7.setA hA) ih
 |named0 l c0 c1 c2 c4 c5 u c9 c10 st h1 h2 h3 h4 h5 h6 _ ih=>exact .named0 (E:=E.setA A) l c0 c1 c2 c4 c5 u c9 c10 st h1 h2 h3 (notA hA h5) h5 h6 ih
 |named l a ib lb ta tc c0 c1 c2 c4 c5 u c9 c10 st vs ts h1 h2 h3 hne h4 h5 h6 h7 h8 h9 h10 h11 h12 h13 h14 _ _ ih ih'=>
  exact .named (E:=E.setA A) l a ib lb ta tc c0 c1 c2 c4 c5 u c9 c10 st vs ts h1 h2 h3 hne (notA hA h5) h5 h6 (notA hA h8) h8 (notA hA h10) h10 h11 h12 h13 (h14.setA hA) ih ih'
theorem EnvOk.setA (h:EnvOk w E)(hA: ∀b,A b->w.heap.size<=b){w':World}(F:Fr E.A w w')(hb: ∀b,A b->b < w'.heap.size):EnvOk w' (E.setA A):=by
 have h':=h.keep F;obtain ⟨b,c,t,nm,h1,h2,h3,h4⟩:=h.pkg;refine ⟨h'.keys,fun p hp=> ?_,fun i hi=> ?_,h.inj,h.injn,hb,?_,h'.tab,⟨b,c,t,nm,h1,notA hA h3,F.heap h2 h3,h4⟩⟩
 ·obtain ⟨c,t,h1⟩:=h.keys.cells p hp
  exact ⟨(h.off p hp).1,(h.off p hp).2.1,notA hA h1⟩
 ·obtain ⟨h1,c0,c2,c4,c5,c6,c7,u,c9,c10,h2,h3,c,t,h4⟩:=h.decl i hi
  exact ⟨notA hA h2,c0,c2,c4,c5,c6,c7,u,c9,c10,F.heap h1 h2,notA hA h4,c,t,F.heap h3 h4⟩
 ·obtain ⟨v,hv⟩:=h.tab 65 (by decide) (by decide)
  exact notA_cell hA hv
def newA (B n:Nat):Nat->Prop:=fun b=>B<=b/\b < B + 1 + n + 1
theorem NewPost.nrep {e:Ending}{w':World}(h:NewPost w E.tp E.n e w'):NRep w' (E.setA (newA w.heap.size E.n)) (w.heap.size + 1 + E.n) w.heap.size (hdN w.heap.size) St.init 0:=by
 obtain ⟨_,hF,hS,hU,hM,hH⟩:=h;refine ⟨hU,hM,fun p hp=> ?_,fun p q hp hq=> ?_,fun p hp=>hp,⟨by omega,by omega⟩,⟨by omega,by omega⟩⟩
 ·have hp':p < E.n:=hp
  refine ⟨rfl,rfl,⟨?_,?_⟩,?_,.nilIface,hH p hp,rfl⟩
  ·show w.heap.size<=w.heap.size + 1 + p;omega
  ·show w.heap.size + 1 + p < _;omega
  ·show w.heap.size + 1 + p≠_;omega
 ·show (⟨w.heap.size + 1 + p,0,none⟩:Addr)=⟨w.heap.size + 1 + q,0,none⟩↔p=q
  constructor
  ·intro h;injection h with h;omega
  ·intro h;rw [h]
end
theorem unify93_any {E:GEnv}(hD:zZ E.D)(x y:Tm)(vx vy:Value)(m:Uni.Mode)(z:Int)(w:World)(U bm:Nat)(hd:Nat->Addr)(s:St)(q:Option St)(hq:zJ E.D 50 s x y m=some q)(hm:yR m z)(hE:EnvOk w E)(hN:NRep w E U bm hd s 0)(hx:PT w E vx x)(hy:PT w E vy y):
 Calls Tryz.prog 93 #[.pointer (some ⟨U,0,none⟩),vx,vy,.int .u64 z] w (xM w E U bm 0 q):=by
 have H:=hid (nify_any hD 50 (Nat.le_refl _) x y vx vy m z w U bm hd s 0 q rfl hq hm hE hN hx hy);clear hD hq hm hE hN hx hy;go_enter Tryz.func93,Tryz.ntmps93;go_wp2_with fail
 refine H.out.mono ?_;rintro e w' ⟨rfl,h⟩;go_wp2;go_ret;exact ⟨rfl,h⟩
theorem wB {w:World}{B:Nat}{e:TypeId}{v:Value}{n:Nat}{vs:List Value}(h:w.ownsRow B e 1 v n vs):vs.length=n/\((vs= []/\v= .slice none 0 0)\/
 ∃g cap,v= .slice (some ⟨g,0,none⟩) n cap/\B<=g/\n<=cap/\cap<=maxLen/\(∃cs,w.heap[g]?=some (.cells cs e (0,0)))/\ ∀(i:Nat) (u:Value),vs[i]?=some u->w.cell? ⟨g,0 + i,none⟩=some u):=by
 have hc:=h;obtain ⟨hl,h | ⟨g,cap,cur,hv,hB,hg,hn,hm,hs,ht⟩⟩:=h
 ·obtain ⟨hv,hn⟩:=h
  subst hn;have hl0:vs.length=0:=by simpa using hl
  exact ⟨hl0,.inl ⟨List.eq_nil_of_length_eq_zero hl0,hv⟩⟩
 ·refine ⟨by simpa using hl,.inr ⟨g,cap,hv,hB,hn,hm,⟨cur,hg⟩,fun i u hu=> ?_⟩⟩
  have h2:=World.ownsRow.cells hc (g:=g) (by rw [hv];rfl) i;have hadd:(⟨g,0,none⟩:Addr).add i=⟨g,0 + i,none⟩:=by unfold Addr.add;split <;>simp_all
  rw [hadd] at h2;exact h2 u hu
section
variable {w:World}{E:GEnv}{A:Nat->Prop}
theorem wR (hA: ∀b,A b->E.A b\/w.heap.size<=b){b:Nat}{o:Obj}(h0: ¬E.A b)(h:w.heap[b]?=some o): ¬A b:=fun ha=>by
 rcases hA b ha with h1 | h1
 ·exact h0 h1
 ·exact Nat.not_lt.2 h1 (lt_of_heap h)
theorem xJ.avoid (hA: ∀b,A b->E.A b\/w.heap.size<=b){a:Option Addr}{vs:List Value}{nms:List (List UInt8)}(h:xJ w E a vs nms):xJ w (E.setA A) a vs nms:=by
 rcases h with h | ⟨b,off,ha,hb,⟨cs,hcs⟩,h⟩
 ·exact .inl h
 ·refine .inr ⟨b,off,ha,wR hA hb hcs,⟨cs,hcs⟩,fun i v hv=> ?_⟩
  obtain ⟨vb,p0,k,nm,h1,h2,h3,h4⟩:=h i v hv;exact ⟨vb,p0,k,nm,h1,wR hA h2 h3,h3,h4⟩
theorem yT.avoid (hA: ∀b,A b->E.A b\/w.heap.size<=b){a:Option Addr}{vs:List Value}(h:yT w E a vs):yT w (E.setA A) a vs:=by
 rcases h with h | ⟨b,off,ha,hb,⟨cs,hcs⟩,h⟩
 ·exact .inl h
 ·exact .inr ⟨b,off,ha,wR hA hb hcs,⟨cs,hcs⟩,h⟩
theorem yZ.avoid (hA: ∀b,A b->E.A b\/w.heap.size<=b){pv:Value}{vs:List Value}(h:yZ w E pv vs):yZ w (E.setA A) pv vs:=by
 rcases h with h | ⟨b,va,vc,h0,h1,h2,h3,h4,h5,h6⟩
 ·exact .inl h
 ·exact .inr ⟨b,va,vc,h0,h1,wR hA h2 h3,h3,h4,h5,h6.avoid hA⟩
theorem PT.avoid (hA: ∀b,A b->E.A b\/w.heap.size<=b){v:Value}{t:Tm}(h:PT w E v t):PT w (E.setA A) v t:=by
 induction h with
 |var p h=>exact .var (E:=E.setA A) p h
 |basic l a i nm h1 h2 h3 h4=>exact .basic l a i nm h1 h2 (wR hA h3 h4) h4
 |ptr l a v t h1 h2 h3 h4 _ ih=>exact .ptr l a v t h1 h2 (wR hA h3 h4) h4 ih
 |slice l a v t h1 h2 h3 h4 _ ih=>exact .slice l a v t h1 h2 (wR hA h3 h4) h4 ih
 |array l a v t h1 h2 h3 h4 _ ih=>exact .array l a v t h1 h2 (wR hA h3 h4) h4 ih
 |map l a v v' t t' h1 h2 h3 h4 _ _ ih ih'=>exact .map l a v v' t t' h1 h2 (wR hA h3 h4) h4 ih ih'
 |chan l a v t h1 h2 h3 h4 _ ih=>exact .chan l a v t h1 h2 (wR hA h3 h4) h4 ih
 |struct l a fa fc vs ts h1 h2 hn h3 h4 h5 h6 h7 h8 _ ih=>exact .struct l a fa fc vs ts h1 h2 hn (wR hA h3 h4) h4 h5 h6 h7 (h8.avoid hA) ih
 |func l a pp rp vs ts h1 h2 hn h3 h4 h5 h6 h7 _ ih=>exact .func l a pp rp vs ts h1 h2 hn (wR hA h3 h4) h4 h5 (h6.avoid hA) (h7.avoid hA) ih
 |named0 l c0 c1 c2 c4 c5 u c9 c10 st h1 h2 h3 h4 h5 h6 _ ih=>exact .named0 (E:=E.setA A) l c0 c1 c2 c4 c5 u c9 c10 st h1 h2 h3 (wR hA h4 h5) h5 h6 ih
 |named l a ib lb ta tc c0 c1 c2 c4 c5 u c9 c10 st vs ts h1 h2 h3 hne h4 h5 h6 h7 h8 h9 h10 h11 h12 h13 h14 _ _ ih ih'=>
  exact .named (E:=E.setA A) l a ib lb ta tc c0 c1 c2 c4 c5 u c9 c10 st vs ts h1 h2 h3 hne (wR hA h4 h5) h5 h6 (wR hA h7 h8) h8 (wR hA h9 h10) h10 h11 h12 h13 (h14.avoid hA) ih ih'
theorem EnvOk.avoid (h:EnvOk w E)(hA: ∀b,A b->E.A b\/w.heap.size<=b){w':World}(F:Fr F0 w w')(hb: ∀b,A b->b < w'.heap.size):EnvOk w' (E.setA A):=by
 have h':=h.keep F.sub;obtain ⟨b,c,t,nm,h1,h2,h3,h4⟩:=h.pkg;refine ⟨h'.keys,fun p hp=> ?_,fun i hi=> ?_,h.inj,h.injn,hb,?_,h'.tab,⟨b,c,t,nm,h1,wR hA h2 h3,F.heap id h3,h4⟩⟩
 ·obtain ⟨c,t,h1⟩:=h.keys.cells p hp
  exact ⟨(h.off p hp).1,(h.off p hp).2.1,wR hA (h.off p hp).2.2 h1⟩
 ·obtain ⟨h1,c0,c2,c4,c5,c6,c7,u,c9,c10,h2,h3,c,t,h4⟩:=h.decl i hi
  exact ⟨wR hA h1 h2,c0,c2,c4,c5,c6,c7,u,c9,c10,F.heap id h2,wR hA h3 h4,c,t,F.heap id h4⟩
 ·obtain ⟨v,hv⟩:=h.tab 65 (by decide) (by decide)
  intro ha;rcases hA 0 ha with h1 | h1
  ·exact h.tab0 h1
  ·exact Nat.not_lt.2 h1 (World.block_lt_of_cell? _ _ hv)
end
def namedLab (i:Nat):Lab:=⟨1,i,0,false,[]⟩
structure BEnv (w:World) (E:GEnv) (bb:Nat) (da:Option Addr) (dl dc:Nat) (ar:Nat→Nat):Prop where
 env:EnvOk w E
 pk:PkgOk w E
 d:DRep w F0 da dl E.D ar
 b: ∃na nc ta tc,w.heap[bb]?=some (.cells #[.slice da dl dc,E.pk,.slice na E.nd nc,.slice ta E.n tc] 94 (0,0))∧
  (E.nd=0\/ ∃b o,na=some ⟨b,o,none⟩/\ ∀i,i < E.nd->w.cell? ⟨b,o + i,none⟩=some (.pointer (some ⟨E.nm i,0,none⟩)))/\
  (E.n=0\/ ∃b o,ta=some ⟨b,o,none⟩/\ ∀p,p < E.n->w.cell? ⟨b,o + p,none⟩=some (.pointer (some (E.tp p))))
 ob: ∀i,i < E.nd-> ∃ns t3,w.heap[E.ob i]?=some (.cells #[.int .i64 0,E.pk,.string ns,t3] 194 (0,0))
 d0: ∀i,i < E.nd->ar i=0->PT w E (.iface 106 (.pointer (some ⟨E.nm i,0,none⟩))) (.node (namedLab i) [])
 n8:E.n<=8
theorem BEnv.avoid {w w':World}{E:GEnv}{A:Nat->Prop}{bb:Nat}{da:Option Addr}{dl dc:Nat}{ar:Nat->Nat}(h:BEnv w E bb da dl dc ar)(f:Fr F0 w w')(hA: ∀b,A b->E.A b\/w.heap.size<=b)(hb: ∀b,A b->b < w'.heap.size):BEnv w' (E.setA A) bb da dl dc ar:=by
 refine ⟨h.env.avoid hA f hb,h.pk.keep f,h.d.keep f,?_,fun i hi=> ?_,fun i hi ha=> ?_,h.n8⟩
 ·obtain ⟨na,nc,ta,tc,h1,h2,h3⟩:=h.b
  exact ⟨na,nc,ta,tc,f.heap id h1,h2.imp_right fun ⟨b,o,h4,h5⟩=>⟨b,o,h4,fun i hi=>f.cell id (h5 i hi)⟩,h3.imp_right fun ⟨b,o,h4,h5⟩=>⟨b,o,h4,fun i hi=>f.cell id (h5 i hi)⟩⟩
 ·obtain ⟨ns,t3,h1⟩:=h.ob i hi
  exact ⟨ns,t3,f.heap id h1⟩
 ·exact (PT.avoid hA (h.d0 i hi ha)).keep f.sub
theorem BEnv.keep {w w':World}{E:GEnv}{bb:Nat}{da:Option Addr}{dl dc:Nat}{ar:Nat->Nat}(h:BEnv w E bb da dl dc ar)(f:Fr F0 w w'):BEnv w' E bb da dl dc ar:=
 h.avoid (A:=E.A) f (fun _ h=> .inl h) (fun b hb=>Nat.lt_of_lt_of_le (h.env.below b hb) f.size)
structure TysAt (w:World) (E:GEnv) (a:Option Addr) (n c:Nat) (vs:List Value) (ts:List Tm):Prop where
 len:vs.length=n
 len2:ts.length=n
 at_:yT w E a vs
 pt: ∀(i:Nat) (v:Value) (t:Tm),vs[i]?=some v->ts[i]?=some t->PT w E v t
 cap:n<=c/\c<=maxLen
 nil:n=0->a=none/\c=0
theorem TysAt.avoid {w w':World}{E:GEnv}{A:Nat->Prop}{a:Option Addr}{n c:Nat}{vs:List Value}{ts:List Tm}(h:TysAt w E a n c vs ts)(f:Fr F0 w w')(hA: ∀b,A b->E.A b\/w.heap.size<=b):TysAt w' (E.setA A) a n c vs ts:=
 ⟨h.len,h.len2,(h.at_.avoid hA).keep f.sub,fun i v t h1 h2=>((h.pt i v t h1 h2).avoid hA).keep f.sub,h.cap,h.nil⟩
theorem TysAt.keep {w w':World}{E:GEnv}{a:Option Addr}{n c:Nat}{vs:List Value}{ts:List Tm}(h:TysAt w E a n c vs ts)(f:Fr F0 w w'):TysAt w' E a n c vs ts:=h.avoid (A:=E.A) f fun _ h=> .inl h
def xZ (w:World)(E:GEnv)(t:Tm)(e:Ending)(w':World):Prop:= ∃ty pv,e= .returned (.iface ty pv)/\PT w' E (.iface ty pv) t/\Fr F0 w w'
def vB (w:World)(E:GEnv)(ts:List Tm)(e:Ending)(w':World):Prop:= ∃a n c vs,e= .returned (.slice a n c)/\TysAt w' E a n c vs ts/\Fr F0 w w'
theorem under110b:Tryz.prog.underlying 110=some (.slice 103):=by kernel_rfl
theorem info103b:(Tryz.prog.info? 103).map (fun i=>(i.zero,i.size,i.bytes))=some (some .nilIface,1,16):=by kernel_rfl
theorem all77_any {E:GEnv}{bb:Nat}{da:Option Addr}{dl dc:Nat}{ar:Nat->Nat}(w:World)(hB:BEnv w E bb da dl dc ar)(a:Option Addr)(n c:Nat)(xs:List TyV)(us:List Tm)(hx:xB w F0 a xs)(hl:xs.length=n)(hu:us.length=n)(hn:n<=1954687338211)
 (ov:Value) (IH: ∀(i:Nat) (y:TyV) (u:Tm),xs[i]?=some y->us[i]?=some u-> ∀(A:Nat->Prop) (w':World),Fr F0 w w'->(∀b,A b->E.A b\/w.heap.size<=b)->(∀b,A b->b < w'.heap.size)->Calls Tryz.prog 60 #[.pointer (some ⟨bb,0,none⟩),y.val,ov] w' (xZ w' (E.setA A) u)):
 Calls Tryz.prog 77 #[.pointer (some ⟨bb,0,none⟩),.slice a n c,ov] w (vB w E us):=by
 obtain ⟨i0,hi0,hz0,hz1,hz2⟩:=info_parts info103b;have HX:=hid hx;have HL:=hid hl;have HU:=hid hu;have HI:=hid IH;have HA:=hid hB.env.below;clear hx hl hu IH hB;go_enter Tryz.func77,Tryz.ntmps77;go_wp2_with fail
 go_loopw [7,9,12] (fun o _ i wr=> ∃(j:Nat) (vs:List Value),j<=n/\i= .int .i64 j/\vs.length=j/\(j=0->o= .slice none 0 0)/\Fr F0 w wr/\wr.ownsRow w.heap.size 103 1 o j vs/\ ∀(k:Nat) (v:Value) (u:Tm),vs[k]?=some v->us[k]?=some u->PT wr (E.setA (fun b=>E.A b\/o.ownBlock=some b)) v u) (fun _ _ i _=>n - (intOf i).toNat)
 case atStart=>exact ⟨0,[],Nat.zero_le _,rfl,rfl,fun _=>rfl,Fr.refl _ _,World.ownsRow_nil _ _ _ _,fun k v u h=>by simp at h⟩
 case round=>
  obtain ⟨WX,rfl⟩: ∃WX:World,WX=wr:=⟨wr,rfl⟩;obtain ⟨ow,rfl⟩: ∃ow:Value,ow=u7:=⟨_,rfl⟩;obtain ⟨j,vs,hj,rfl,hvl,hz,hfr,hown,hpt⟩:=hrel;have ZX:=hid hz;clear hz;have FX:=hid hfr;have VL:=hid hvl;have OX:=hid hown;have PX:=hid hpt;clear hvl hfr hown hpt;by_cases hlt:j < n
  ·have hle:(j:Int) < n:=by omega
   obtain ⟨y,hy⟩: ∃y,xs[j]?=some y:=⟨xs[j]'(by rw [HL.out];exact hlt),by simp⟩;obtain ⟨u,hu⟩: ∃u,us[j]?=some u:=⟨us[j]'(by rw [HU.out];exact hlt),by simp⟩;obtain ⟨Y,b,off,gY,rfl,e1⟩:=HX.out.elem (show j < xs.length by rw [HL.out];exact hlt);rw [hy] at gY;cases gY
   have e1:=e1.keep FX.out;obtain ⟨_,a0,a1,a2,a3,a4,a5⟩:=e1;have hb1:b < WX.heap.size:=World.block_lt_of_cell? _ _ a0;have HY:=hid hy;have HUU:=hid hu;clear hy hu;go_wp2_with (refine zR rfl _ _ rfl rfl WX.heap.size y rfl rfl (heap_alloc_new WX _) ?_)
   intro W hb hf;have FW:=hid (((Fr.refl F0 WX).alloc (.cells #[.int .i64 0,.int .i64 0,.int .i64 0,.bool false,.slice none 0 0,.string ⟨#[]⟩] 26)).transNew hf (fun x hx=> .inr (by omega)));have q:=zA hb;have sz:WX.heap.size < W.heap.size:=zF hb;clear hb hf a0 a1 a2 a3 a4 a5 hb1;go_wp2_with fail
   have AB: ∀b,(E.A b∨ow.ownBlock=some b)→(E.A b∨w.heap.size≤b)∧b < W.heap.size:=fun b hb=>by
    rcases hb with hb | hb
    ·have h1:=HA.out b hb;have h2:=(FX.out.trans FW.out).size;exact ⟨.inl hb,by omega⟩
    ·have h1:=World.ownsRow.lt OX.out b hb;have h2:=FW.out.size;exact ⟨.inr h1.1,by omega⟩
   refine (HI.out j y u HY.out HUU.out (fun b=>E.A b\/ow.ownBlock=some b) W (FX.out.trans FW.out) (fun b hb=>(AB b hb).1) (fun b hb=>(AB b hb).2)).mono ?_;rintro e w2 ⟨ty,pv,rfl,hp2,hf2⟩;have P2:=hid hp2;have F2:=hid (FX.out.trans (FW.out.trans hf2));have OX2:=hid (zV OX.out (FW.out.trans hf2) (fun _ _ h=>h));have PX2:=hid (fun (k:Nat) (v:Value) (u:Tm) (h1:vs[k]?=some v) (h2:us[k]?=some u)=>(PX.out k v u h1 h2).keep (FW.out.trans hf2).sub)
   clear hp2 hf2 q sz AB;have OA:=hid (OX2.out.alloc (.cells #[.iface ty pv] 103));have N63:=hid (show j + 1<=maxLen by unfold maxLen;omega);have N72:=hid (show (j + 1) * 16<=140737488355328 by omega);have SZ2:=hid (show w.heap.size<=(w2.alloc (.cells #[.iface ty pv] 103)).heap.size by have:=F2.out.size;simp;omega);go_wp2_with (refine wpList_append_lies _ rfl _ _ 110 rfl w.heap.size 103 i0 _ 1 16 under110b hi0 hz0 hz1 hz2 rfl (by omega) ow j vs (by rfl) OA.out ⟨w2.heap.size,0,none⟩ 1 1 [.iface ty pv] (by rfl) (by rfl) (World.news_of_block (cs:= #[.iface ty pv]) (t:=103) (fr:=(0,0)) (heap_alloc_new w2 _)) (by simp [Value.oneCell']) (by omega) N63.out N72.out SZ2.out (w2.heap.size + 1) (by simp) ?_)
   intro g cap w3 hown3 hgrow hg1 hg2;have F23:Fr (fun b=>ow.ownBlock=some b) w2 w3:=(Fr.alloc (Fr.refl _ w2) _).trans (Fr.of_grown hgrow);have hF3:Fr F0 w w3:=F2.out.transNew F23 (fun b hb=> .inr (World.ownsRow.lt OX.out b hb).1)
   have keepP: ∀ {v:Value} {t:Tm},PT w2 (E.setA (fun b=>E.A b∨ow.ownBlock=some b)) v t→PT w3 (E.setA (fun b=>E.A b∨(Value.slice (some ⟨g,0,none⟩) (j + 1) cap).ownBlock=some b)) v t:=by
    intro v t h
    have h1:PT w2 (E.setA (fun b=>E.A b∨ow.ownBlock=some b∨g=b)) v t:=PT.avoid (E:=E.setA (fun b=>E.A b∨ow.ownBlock=some b)) (fun b hb=>by
     rcases hb with hb | hb | hb
     ·exact .inl (.inl hb)
     ·exact .inl (.inr hb)
     ·subst hb
      rcases hg1 with h | h
      ·exact .inl (.inr h)
      ·exact .inr (by omega)) h
    have h2:=h1.keep (w':=w3) (F23.mono fun b _ hb=> .inr (.inl hb))
    exact PT.avoid (E:=E.setA (fun b=>E.A b∨ow.ownBlock=some b∨g=b)) (fun b hb=>by
     rcases hb with hb | hb
     ·exact .inl (.inl hb)
     ·exact .inl (.inr (.inr (Option.some.inj hb)))) h2
   have PN: ∀(k:Nat) (v:Value) (u:Tm),(vs ++ [.iface ty pv])[k]?=some v→us[k]?=some u→PT w3 (E.setA (fun b=>E.A b∨(Value.slice (some ⟨g,0,none⟩) (j + 1) cap).ownBlock=some b)) v u:=by
    intro k v u' hv hu';by_cases hk:k < j
    ·rw [List.getElem?_append_left (by rw [VL.out];exact hk)] at hv
     exact keepP (PX2.out k v u' hv hu')
    ·have hkj:k=j:=by
      have:=(List.getElem?_eq_some_iff.1 hv).1;simp [VL.out] at this;omega
     subst hkj;rw [List.getElem?_append_right (by rw [VL.out];exact Nat.le_refl _),VL.out,Nat.sub_self] at hv;cases hv
     rw [HUU.out] at hu'
     cases hu'
     exact keepP P2.out
   have PN':=hid PN;have HF3:=hid hF3;have HO3:=hid hown3;clear PN hF3 hown3 F23 hgrow hg1 hg2;go_wp2;go_roundw
   case rel=>exact ⟨j + 1,vs ++ [.iface ty pv],by omega,by go_num,by simp [VL.out],fun h=>absurd h (by omega),HF3.out,HO3.out,PN'.out⟩
   case measure=>simp [intOf];omega
  ·have hjn:j=n:=by omega
   subst hjn;have hle: ¬(j:Int) < j:=by omega
   go_wp2;go_ret;obtain ⟨h1,h2⟩:=wB OX.out;have hw: ∀b,E.A b->b < w.heap.size:=HA.out
   have hpt: ∀(k:Nat) (v:Value) (u:Tm),vs[k]?=some v→us[k]?=some u→PT WX E v u:=fun k v u h1 h2=>
    PT.avoid (E:=E.setA (fun b=>E.A b\/ow.ownBlock=some b)) (A:=E.A) (fun b hb=> .inl (.inl hb)) (PX.out k v u h1 h2)
   rcases h2 with ⟨rfl,rfl⟩ | ⟨g,cap,rfl,hg0,hc1,hc2,hcs,hce⟩
   ·have hj0:j=0:=by simpa using h1.symm
    subst hj0;exact ⟨none,0,0,[],rfl,⟨rfl,HU.out,.inl rfl,hpt,⟨Nat.le_refl _,Nat.zero_le _⟩,fun _=>⟨rfl,rfl⟩⟩,FX.out⟩
   ·by_cases hj0:j=0
    ·have:=ZX.out hj0;cases this
    ·exact ⟨_,_,_,vs,rfl,⟨h1,HU.out,.inr ⟨g,0,rfl,fun ha=>by have:=hw g ha;omega,hcs,hce⟩,hpt,⟨hc1,hc2⟩,fun h=>absurd h hj0⟩,FX.out⟩
end Go.Proofs.YtpekidjfbinekaaGreatDoor
