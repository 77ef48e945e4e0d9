/- I5, I6, I7 -/
import Derived.Test.YtpekidjfbinekaaGreatDoorA21
set_option maxRecDepth 100000
set_option maxHeartbeats 60000000
set_option linter.all false
namespace Go.Proofs.YtpekidjfbinekaaGreatDoor
open Go.RowKit Uni
def tailA (a:Option Addr)(c k:Nat):Option Addr:=if c=k then a else a.map (·.add k)
theorem run_tail {a:Option Addr}{n c k:Nat}(h1:k<=n)(h2:n<=c)(w:World):(Instr.sliceAt 110 (.slice a n c) (some (.int .i64 k)) none none).run Tryz.prog w= .ok (.slice (tailA a c k) (n - k) (c - k)) w:=by
 have h3:(k:Int)<=n:=by omega
 have h4:(k:Int)<=c:=by omega
 have h5:(n:Int)<=c:=by omega
 unfold tailA;go_simp
theorem take_at {w:World}{E:GEnv}{a:Option Addr}{vs:List Value}(h:yT w E a vs)(k:Nat):vs.take k= []\/ ∃b off,a=some ⟨b,off,none⟩/\ ∀(i:Nat)(v:Value),(vs.take k)[i]?=some v->w.cell? ⟨b,off + i,none⟩=some v:=by
 rcases h with h | ⟨b,off,ha,_,_,h⟩
 ·exact .inl (by rw [h];simp)
 ·refine .inr ⟨b,off,ha,fun i v hv=>h i v ?_⟩
  rw [List.getElem?_take] at hv
  split at hv
  ·exact hv
  ·cases hv
theorem drop_at {w:World}{E:GEnv}{a:Option Addr}{vs:List Value}{c:Nat}(h:yT w E a vs)(hl:vs.length<=c)(k:Nat):vs.drop k= []\/ ∃b off,tailA a c k=some ⟨b,off,none⟩/\ ∀(i:Nat)(v:Value),(vs.drop k)[i]?=some v->w.cell? ⟨b,off + i,none⟩=some v:=by
 rcases h with h | ⟨b,off,ha,_,_,h⟩
 ·exact .inl (by rw [h];simp)
 ·by_cases hc:c=k
  ·exact .inl (List.drop_of_length_le (by omega))
  ·refine .inr ⟨b,off + k,?_,fun i v hv=> ?_⟩
   ·unfold tailA
    rw [if_neg hc,ha,Option.map_some];unfold Addr.add
    split <;>simp_all
   ·rw [List.getElem?_drop] at hv
    rw [Nat.add_assoc];exact h _ v hv
theorem mem_iface {w:World}{E:GEnv}{a:Option Addr}{n c:Nat}{vs:List Value}{us:List Tm}(h:TysAt w E a n c vs us){v:Value}(hv:v∈vs): ∃ty pv,v= .iface ty pv:=by
 obtain ⟨i,hi,rfl⟩:=List.getElem_of_mem hv;have hu:i < us.length:=by rw [h.len2,<-h.len];exact hi
 have:=h.pt i vs[i] us[i] (by simp [hi]) (by simp [hu]);generalize us[i]=t at this;generalize vs[i]=v at this ⊢
 cases this <;>exact ⟨_,_,rfl⟩
theorem typ_func {E:GEnv}{bb:Nat}{da:Option Addr}{dl dc:Nat}{ar:Nat->Nat}(w:World)(hB:BEnv w E bb da dl dc ar)(x:TyV)(f:Lab)(xs:List TyV)(hs:Shape x f xs)(hk:f.kind=10)(ov:Value)(us:List Tm)(hl:us.length=x.len)
 (hcnt:f.cnt<=us.length) (hvar:f.vari=true->0 < f.cnt/\ ∃g ws,us[f.cnt - 1]?=some (.node g ws)/\g.kind=5) (hall: ∀w',Fr F0 w w'->Calls Tryz.prog 77 #[.pointer (some ⟨bb,0,none⟩),.slice x.a x.len x.cap,ov] w' (vB w' E us)):
 Calls Tryz.prog 60 #[.pointer (some ⟨bb,0,none⟩),x.val,ov] w (xZ w E (.node f us)):=by
 have hxk:x.k=10:=by rw [hs.k,hk];rfl
 obtain ⟨hxc,hxv⟩:x.c=f.cnt/\x.v=f.vari:=by have:=hs.c;rw [if_pos hk] at this;exact this
 have hxb:=hs.bound.2.1;have HA:=hid hB.env.below;have NM:=hid (hs.normT (ts:=us) (by rw [hl];exact hs.bound.2.1) (fun h=>by omega) (fun h=>by omega));have HK:=hid hk;have ALL:=hid hall;have HB:=hid hB;have HL:=hid hl;have HV:=hid hvar;have HC:=hid hcnt;clear hB hs hk hall hl hvar;obtain ⟨xk,xn,xc,xv,xa,xlen,xcap,xnm⟩:=x;dsimp only at hxk hxc hxv ALL HL hxb ⊢;subst hxk hxc hxv;unfold TyV.val;dsimp only
 have FA:=hid ((Fr.refl F0 w).alloc (.cells #[.int .i64 10,.int .i64 xn,.int .i64 f.cnt,.bool f.vari,.slice xa xlen xcap,.string xnm] 26));have XA:=hid (heap_alloc_new w (.cells #[.int .i64 10,.int .i64 xn,.int .i64 f.cnt,.bool f.vari,.slice xa xlen xcap,.string xnm] 26));go_enter Tryz.func60,Tryz.ntmps60;go_wp2_with fail
 refine (ALL.out _ FA.out).mono ?_;rintro e w1 ⟨a,n,c,vs,rfl,hT,hf⟩;have F1:=hid (FA.out.trans hf);have X1:=hid (hf.heap id XA.out);have hn:n=xlen:=by rw [<-hT.len2];exact HL.out
 subst hn;have TT:=hid hT;have sx:=zF X1.out;have qx:=zA X1.out;have hcn:f.cnt<=n:=by have:=HC.out;rw [HL.out] at this;exact this
 have hcc:n<=c:=hT.cap.1;clear hT hf hcnt;go_wp2_with fail
 clear qx;refine zG (Fr F0 w1) [(0,true),(1,true),(2,true),(3,true),(4,true),(6,true),(7,true),(8,true),(9,true),(10,true),(12,true),(13,true),(5,false),(11,false),(14,false),(15,false),(16,false)] [16] yE (by kernel_rfl) (by kernel_rfl) (by kernel_rfl) (by decide) ?_;have h1:(f.cnt:Int)<=n:=by omega
 have h2:(f.cnt:Int)<=c:=by omega
 have h3:(n:Int)<=c:=by omega
 iterate 9
  (refine zH _ rfl (Fr.refl _ _).drew (fun w' hS=>by
   have q1:=zA (hS.heap id X1.out);have s1:=zF (hS.heap id X1.out);clear hS;go_simp;rfl) ?_)
 have hsl: ∀w,(Instr.sliceAt 110 (.slice a n c) (some (.int .i64 f.cnt)) none none).run Tryz.prog w= .ok (.slice (tailA a c f.cnt) (n - f.cnt) (c - f.cnt)) w:=fun w=>by
  exact run_tail hcn hcc w
 refine zH (.slice (tailA a c f.cnt) (n - f.cnt) (c - f.cnt)) rfl (Fr.refl _ _).drew (fun w' hS=>by
  clear hS;go_simp) ?_
 iterate 2
  (refine zH _ rfl (Fr.refl _ _).drew (fun w' hS=>by
   have q1:=zA (hS.heap id X1.out);have s1:=zF (hS.heap id X1.out);clear hS;go_simp;rfl) ?_)
 go_simp;refine zB rfl ?_;go_wp2_with fail
 refine (tuple_any w1.drew ((HB.out.keep F1.out).keep (Fr.refl F0 w1).drew) a f.cnt c (vs.take f.cnt) (by rw [List.length_take,TT.out.len];omega) (take_at (TT.out.keep (Fr.refl F0 w1).drew).at_ _) (fun v hv=>mem_iface TT.out (List.mem_of_mem_take hv)) (by omega)).mono ?_;rintro e w2 ⟨p,rfl,hp,hf2⟩;have P2:=hid hp;have F2:=hid ((Fr.refl F0 w1).drew.trans hf2);clear hp hf2;go_wp2;refine And.intro (fun _=>F2.out) ?_
 refine zB rfl ?_;go_wp2_with fail
 refine (tuple_any w2 (HB.out.keep (F1.out.trans F2.out)) (tailA a c f.cnt) (n - f.cnt) (c - f.cnt) (vs.drop f.cnt) (by rw [List.length_drop,TT.out.len]) (drop_at (TT.out.keep F2.out).at_ (by rw [TT.out.len];exact hcc) _) (fun v hv=>mem_iface TT.out (List.mem_of_mem_drop hv)) (by omega)).mono ?_;rintro e w3 ⟨q,rfl,hq,hf3⟩;have Q3:=hid hq;have F3:=hid (F2.out.trans hf3);have P3:=hid (P2.out.keep hf3.sub)
 clear hq hf3;go_wp2;refine And.intro (fun _=>F3.out) ?_;refine zB rfl ?_;go_wp2_with fail
 have SIG:Calls Tryz.prog 86 #[.pointer none,.slice none 0 0,.slice none 0 0,.pointer p,.pointer q,.bool f.vari] w3 fun e w'=> ∃b,e= .returned (.pointer (some ⟨b,0,none⟩))∧w'.heap[b]?=some (.cells (sigCells (.pointer p) (.pointer q) f.vari) 136 (0,0))∧Fr F0 w3 w'∧w3.heap.size≤b:=by
  cases hv:f.vari with
  |false=>
   refine (newSig_false w3 p q).mono ?_;rintro e w' ⟨rfl,hw⟩;obtain ⟨h1,h2,_⟩:=Laid.facts hw;exact ⟨_,rfl,h1,h2,Nat.le_refl _⟩
  |true=>
   obtain ⟨hc0,g,ws,hg,hg5⟩:=HV.out hv;obtain ⟨v,hvv⟩: ∃v,vs[f.cnt - 1]?=some v:=⟨vs[f.cnt - 1]'(by rw [TT.out.len];omega),by simp⟩;have hpt:=TT.out.pt _ v _ hvv hg
   obtain ⟨sb,rfl⟩: ∃sb,v= .iface 144 (.pointer (some ⟨sb,0,none⟩)):=by
    cases hpt with
    |slice f' a' v' t'=>exact ⟨_,rfl⟩
    |_=>first | (exfalso;omega) | skip
   have htk:(vs.take f.cnt)[f.cnt - 1]?=some (.iface 144 (.pointer (some ⟨sb,0,none⟩))):=by
    rw [List.getElem?_take,if_pos (by omega)];exact hvv
   have htl:(vs.take f.cnt).length=f.cnt:=by rw [List.length_take,TT.out.len];omega
   rcases P3.out with ⟨h0,_⟩ | ⟨tb,va,vc,_,hpe,_,htb,_,_,hva⟩
   ·rw [h0] at htl;simp at htl;omega
   ·cases hpe
    rw [htl] at htb;rcases hva with h0 | ⟨ab,ao,rfl,_,_,hel⟩
    ·rw [h0] at htl;simp at htl;omega
    ·obtain ⟨vb,p0,k,nm,he1,_,he2,_⟩:=hel _ _ htk
     exact newSig_true w3 tb ab ao f.cnt vc vb sb q p0 E.pk (.string nm) k (.bool false) hc0 (by omega) htb he1 he2
 refine SIG.mono ?_;rintro e w4 ⟨b,rfl,hb4,hf4,hs4⟩;have B4:=hid hb4;have F4:=hid (F3.out.trans hf4);have S4:=hid hs4;have P4:=hid (P3.out.keep hf4.sub);have Q4:=hid (Q3.out.keep hf4.sub);clear hb4 hf4 hs4 SIG;go_wp2;refine And.intro (fun _=>F4.out) ?_;refine zB rfl ?_;go_wp2;refine And.intro (fun _=>F4.out) ?_;refine zB rfl ?_;go_wp2;refine And.intro (fun h=>absurd h (by decide)) ?_;refine zO (NoPanic.normal ?_)
 go_wp2;go_ret;refine ⟨_,_,rfl,.func f b _ _ vs us HK.out NM.out HC.out (fun ha=> ?_) B4.out (by rw [TT.out.len,TT.out.len2]) P4.out Q4.out (fun i v t hv ht=>(TT.out.pt i v t hv ht).keep F4.out.sub),F1.out.trans F4.out⟩;have h1:=HA.out _ ha;have h2:=F1.out.size;have h3:=F3.out.size;have h4:=S4.out;omega
theorem under_142 (pv:Value)(w:World):Calls Tryz.prog 292 #[pv] w fun e w'=>e= .returned (.iface 142 pv)/\w'=w:=by
 go_enter Tryz.func292,Tryz.ntmps292;go_wp2;go_ret;exact ⟨rfl,rfl⟩
theorem under_144 (pv:Value)(w:World):Calls Tryz.prog 293 #[pv] w fun e w'=>e= .returned (.iface 144 pv)/\w'=w:=by
 go_enter Tryz.func293,Tryz.ntmps293;go_wp2;go_ret;exact ⟨rfl,rfl⟩
theorem under_146 (pv:Value)(w:World):Calls Tryz.prog 294 #[pv] w fun e w'=>e= .returned (.iface 146 pv)/\w'=w:=by
 go_enter Tryz.func294,Tryz.ntmps294;go_wp2;go_ret;exact ⟨rfl,rfl⟩
theorem under_148 (pv:Value)(w:World):Calls Tryz.prog 295 #[pv] w fun e w'=>e= .returned (.iface 148 pv)/\w'=w:=by
 go_enter Tryz.func295,Tryz.ntmps295;go_wp2;go_ret;exact ⟨rfl,rfl⟩
theorem under_150 (pv:Value)(w:World):Calls Tryz.prog 296 #[pv] w fun e w'=>e= .returned (.iface 150 pv)/\w'=w:=by
 go_enter Tryz.func296,Tryz.ntmps296;go_wp2;go_ret;exact ⟨rfl,rfl⟩
theorem under_156 (pv:Value)(w:World):Calls Tryz.prog 297 #[pv] w fun e w'=>e= .returned (.iface 156 pv)/\w'=w:=by
 go_enter Tryz.func297,Tryz.ntmps297;go_wp2;go_ret;exact ⟨rfl,rfl⟩
theorem under_128 (pv:Value)(w:World):Calls Tryz.prog 289 #[pv] w fun e w'=>e= .returned (.iface 128 pv)/\w'=w:=by
 go_enter Tryz.func289,Tryz.ntmps289;go_wp2;go_ret;exact ⟨rfl,rfl⟩
theorem under_179 (pv:Value)(w:World):Calls Tryz.prog 300 #[pv] w fun e w'=>e= .returned (.iface 179 pv)/\w'=w:=by
 go_enter Tryz.func300,Tryz.ntmps300;go_wp2;go_ret;exact ⟨rfl,rfl⟩
theorem under_any {w:World}{E:GEnv}{v:Value}{g:Lab}{ws:List Tm}(h:PT w E v (.node g ws))(hg:g.kind≠1): ∃ty pv mf,v= .iface ty pv/\(∀args w,(callFunc mf args).run Tryz.prog w= .ok (.enter mf args) w)/\wW ty=some mf/\ ¬ty=283/\ ¬ty=106/\ ∀w,Calls Tryz.prog mf #[pv] w fun e w'=>e= .returned (.iface ty pv)/\w'=w:=by
 cases h with
 |basic=>exact ⟨_,_,_,rfl,enters_of Tryz.func300 (by kernel_rfl) rfl,m179,by decide,by decide,under_179 _⟩
 |ptr=>exact ⟨_,_,_,rfl,enters_of Tryz.func292 (by kernel_rfl) rfl,m142,by decide,by decide,under_142 _⟩
 |slice=>exact ⟨_,_,_,rfl,enters_of Tryz.func293 (by kernel_rfl) rfl,m144,by decide,by decide,under_144 _⟩
 |array=>exact ⟨_,_,_,rfl,enters_of Tryz.func294 (by kernel_rfl) rfl,m146,by decide,by decide,under_146 _⟩
 |map=>exact ⟨_,_,_,rfl,enters_of Tryz.func295 (by kernel_rfl) rfl,m148,by decide,by decide,under_148 _⟩
 |chan=>exact ⟨_,_,_,rfl,enters_of Tryz.func296 (by kernel_rfl) rfl,m150,by decide,by decide,under_150 _⟩
 |struct=>exact ⟨_,_,_,rfl,enters_of Tryz.func297 (by kernel_rfl) rfl,m156,by decide,by decide,under_156 _⟩
 |func=>exact ⟨_,_,_,rfl,enters_of Tryz.func289 (by kernel_rfl) rfl,m128,by decide,by decide,under_128 _⟩
 |named0=>exact absurd (by assumption) hg
 |named=>exact absurd (by assumption) hg
theorem namedLab_eq {f:Lab}(h:Norm f)(hk:f.kind=1):f=namedLab f.n:=by
 have h1:=h.c (by omega);have h2:=h.names (by omega);cases f
 simp_all [namedLab]
theorem typ_named0 {E:GEnv}{bb:Nat}{da:Option Addr}{dl dc:Nat}{ar:Nat->Nat}(w:World)(hB:BEnv w E bb da dl dc ar)(x:TyV)(f:Lab)(xs:List TyV)(hs:Shape x f xs)(hk:f.kind=1)(ov:Value)(hn:f.n < E.nd)(ha:ar f.n=0)
 (hall: ∀w',Fr F0 w w'->Calls Tryz.prog 77 #[.pointer (some ⟨bb,0,none⟩),.slice x.a x.len x.cap,ov] w' (vB w' E [])):
 Calls Tryz.prog 60 #[.pointer (some ⟨bb,0,none⟩),x.val,ov] w (xZ w E (.node f [])):=by
 have hxk:x.k=1:=by rw [hs.k,hk];rfl
 have hxn:x.n=f.n:=by have:=hs.n;rw [if_pos (by omega)] at this;exact this
 have hP:=hB.d0 f.n hn ha;rw [<-namedLab_eq hs.norm hk] at hP;obtain ⟨na,nc,ta,tc,hbb,hdp,_⟩:=hB.b;obtain ⟨tb,to,rfl,htc⟩:=hdp.resolve_left (by omega);have HP:=hid hP;have ALL:=hid hall;have BB:=hid hbb;have DC:=hid (htc f.n hn);have hle:(f.n:Int) < E.nd:=by omega
 clear hB hs hk hall hP hbb htc hdp;obtain ⟨xk,xn,xc,xv,xa,xlen,xcap,xnm⟩:=x;dsimp only at hxk hxn ALL ⊢;subst hxk hxn;unfold TyV.val;dsimp only;have FA:=hid ((Fr.refl F0 w).alloc (.cells #[.int .i64 1,.int .i64 f.n,.int .i64 xc,.bool xv,.slice xa xlen xcap,.string xnm] 26));have XA:=hid (heap_alloc_new w (.cells #[.int .i64 1,.int .i64 f.n,.int .i64 xc,.bool xv,.slice xa xlen xcap,.string xnm] 26))
 go_enter Tryz.func60,Tryz.ntmps60;go_wp2_with fail
 refine (ALL.out _ FA.out).mono ?_;rintro e w1 ⟨a,n,c,vs,rfl,hT,hf⟩;have F1:=hid (FA.out.trans hf);have X1:=hid (hf.heap id XA.out);have h0:n=0:=hT.len2.symm;subst h0;obtain ⟨rfl,rfl⟩:=hT.nil rfl;have qx:=zA X1.out;have sx:=zF X1.out;have qb:=zA (F1.out.heap id BB.out);have sb:=zF (F1.out.heap id BB.out);have dc1:=F1.out.cell id DC.out;have sd:=World.block_lt_of_cell? _ _ dc1;dsimp only at sd;clear hT hf
 go_wp2_with fail
 go_quiet (fail);go_wp2;go_ret;exact ⟨_,_,rfl,HP.out.keep (F1.out.drawn _).sub,F1.out.drawn _⟩
theorem typ_named {E:GEnv}{bb:Nat}{da:Option Addr}{dl dc:Nat}{ar:Nat->Nat}(w:World)(hB:BEnv w E bb da dl dc ar)(x:TyV)(f:Lab)(xs:List TyV)(hs:Shape x f xs)(hk:f.kind=1)(ov:Value)(us:List Tm)(hl:us.length=x.len)(hu0:us≠ [])(hn:f.n < E.nd)(hnd:E.nd<=dl)
 (g:Lab) (ws:List Tm) (hD:(E.D f.n).own us= .node g ws) (hg:g.kind≠1)
 (hall: ∀w',Fr F0 w w'->Calls Tryz.prog 77 #[.pointer (some ⟨bb,0,none⟩),.slice x.a x.len x.cap,ov] w' (vB w' E us))
 (hbody: ∀(y:TyV) (a:Option Addr) (n c:Nat) (vs:List Value) (w':World),Fr F0 w w'->RT w' F0 y (E.D f.n)->TysAt w' E a n c vs us->Calls Tryz.prog 60 #[.pointer (some ⟨bb,0,none⟩),y.val,.slice a n c] w' (xZ w' E ((E.D f.n).own us))):
 Calls Tryz.prog 60 #[.pointer (some ⟨bb,0,none⟩),x.val,ov] w (xZ w E (.node f us)):=by
 have hxk:x.k=1:=by rw [hs.k,hk];rfl
 have hxn:x.n=f.n:=by have:=hs.n;rw [if_pos (by omega)] at this;exact this
 obtain ⟨na,nc,ta,tc,hbb,hdp,_⟩:=hB.b;obtain ⟨tb,to,rfl,htc⟩:=hdp.resolve_left (by omega);obtain ⟨db,doff,rfl,_,hdd⟩:=hB.d.row.resolve_left (by omega);obtain ⟨hd0,y,hy6,hyr⟩:=hdd f.n (by omega);obtain ⟨hna,k0,k2,k4,k5,k6,k7,ku,k9,k10,hdc,_,_⟩:=hB.env.decl f.n hn;obtain ⟨ns,t3,hob⟩:=hB.ob f.n hn;obtain ⟨pb,pc,pt,pn,hpe,hpb,_⟩:=hB.pk;have ALL:=hid hall;have BODY:=hid hbody;have BB:=hid hbb;have DC:=hid (htc f.n hn);have HB:=hid hB;have HA:=hid hB.env.below
 have D0:=hid hd0;have Y6:=hid hy6;have YR:=hid hyr;have KC:=hid hdc;have OB:=hid hob;have PE:=hid hpe;have NM:=hid (hs.normT (ts:=us) (by rw [hl];exact hs.bound.2.1) (fun h=>by omega) (fun h=>by omega));have HK:=hid hk;have HD:=hid hD;have HG:=hid hg;have HL:=hid hl;have HU:=hid hu0;have hle:(f.n:Int) < E.nd:=by omega
 have hle2:(f.n:Int) < dl:=by omega
 have hxb:=hs.bound.2.1;clear hB hs hk hall hbody hbb htc hdp hdd hd0 hy6 hyr hdc hob hpe hpb hD hg hl hu0;obtain ⟨xk,xn,xc,xv,xa,xlen,xcap,xnm⟩:=x;dsimp only at hxk hxn ALL HL hxb ⊢;subst hxk hxn;unfold TyV.val;dsimp only;have FA:=hid ((Fr.refl F0 w).alloc (.cells #[.int .i64 1,.int .i64 f.n,.int .i64 xc,.bool xv,.slice xa xlen xcap,.string xnm] 26));have XA:=hid (heap_alloc_new w (.cells #[.int .i64 1,.int .i64 f.n,.int .i64 xc,.bool xv,.slice xa xlen xcap,.string xnm] 26))
 go_enter Tryz.func60,Tryz.ntmps60;go_wp2_with fail
 refine (ALL.out _ FA.out).mono ?_;rintro e w1 ⟨a,n,c,vs,rfl,hT,hf⟩;have F1:=hid (FA.out.trans hf);have X1:=hid (hf.heap id XA.out);have hn1:n=xlen:=by rw [<-hT.len2];exact HL.out
 subst hn1;have hn0:0 < n:=by have:=HU.out;rw [<-HL.out];exact List.length_pos_iff.2 this
 have hz:((n:Int)==0)=false:=by simp;omega
 have TT:=hid hT;have qx:=zA X1.out;have sx:=zF X1.out;clear hT hf;go_wp2_with fail
 clear qx;refine zG (Fr F0 w1) [(0,true),(1,true),(2,true),(3,true),(4,true),(5,true),(6,true),(7,true),(8,true),(9,true),(10,true),(11,true),(12,true),(13,true),(14,true),(15,true),(16,true),(17,true),(18,true),(19,true),(20,false),(21,false),(22,false),(23,false),(24,false)] [24] yE (by kernel_rfl) (by kernel_rfl) (by kernel_rfl) (by decide) ?_
 iterate 18
  (refine zH _ rfl (Fr.refl _ _).drew (fun w' hS=>by
   have q1:=zA (hS.heap id X1.out);have s1:=zF (hS.heap id X1.out);have q2:=zA (hS.heap id (F1.out.heap id BB.out));have s2:=zF (hS.heap id (F1.out.heap id BB.out));have q3:=hS.cell id (F1.out.cell id DC.out);have s3:=World.block_lt_of_cell? _ _ q3;dsimp only at s3;clear hS;go_simp;rfl) ?_)
 refine zH y.val rfl (Fr.refl _ _).drew (fun w' hS=>by
  obtain ⟨y0,y1,y2,y3,y4,y5⟩:=(Y6.out.keep F1.out id).keep hS id;have s1:=World.block_lt_of_cell? _ _ y0;dsimp only at s1;clear hS;go_simp;rfl) ?_
 refine zH _ rfl (Fr.refl _ _).drew (fun w' hS=>by
  clear hS;go_simp;rfl) ?_
 go_simp;refine zB rfl ?_;go_wp2_with fail
 refine (BODY.out y _ _ _ _ _ (F1.out.trans (Fr.refl F0 w1).drew) ((YR.out.keep F1.out).keep (Fr.refl F0 w1).drew) (TT.out.keep (Fr.refl F0 w1).drew)).mono ?_;rintro e w2 ⟨ty,pv,rfl,hp,hf2⟩;rw [HD.out] at hp;obtain ⟨ty',pv',mf,he,hen,hm,h283,h106,hcall⟩:=under_any hp HG.out;injection he with he1 he2
 subst he1 he2;have P2:=hid hp;have F2:=hid ((Fr.refl F0 w1).drew.trans hf2);have UC:=hid hcall;have M:=fun w=>yJ hm 551 pv w
 clear hp hf2 hcall;go_wp2;refine And.intro (fun _=>F2.out) ?_;refine zB rfl ?_;go_wp2_with fail
 refine (UC.out _).mono ?_;rintro e w3 ⟨rfl,rfl⟩;go_wp2;refine And.intro (fun _=>F2.out) ?_;refine zB rfl ?_;go_wp2_with fail
 have F12:=hid (F1.out.trans F2.out);refine (newInstance_any w3 (E.nm f.n) (E.ob f.n) _ _ _ _ k0 k2 (.pointer none) k4 k5 k6 k7 ku k9 k10 a n c ty pv h283 h106 hn0 (F12.out.heap id KC.out) pb PE.out 0 rfl ns rfl (F12.out.heap id OB.out)).mono ?_;rintro e w4 ⟨ib,nb,lb,j0,j1,j2,j4,j5,j9,j10,rfl,hf4,h1,h2,h3,h4,h5,h6⟩;have F4:=hid (F2.out.trans hf4);have H1:=hid h1;have H2:=hid h2;have H3:=hid h3;have H4:=hid h4;have H5:=hid h5;have H6:=hid h6;have P4:=hid (P2.out.keep hf4.sub)
 clear hf4 h1 h2 h3 h4 h5 h6 M;go_wp2;refine And.intro (fun _=>F4.out) ?_;refine zB rfl ?_;go_wp2;refine And.intro (fun _=>F4.out) ?_;refine zB rfl ?_;go_wp2;refine And.intro (fun h=>absurd h (by decide)) ?_;refine zO (NoPanic.normal ?_);go_wp2;go_ret;have hlen:=TT.out.len;subst hlen
 have SZ: ∀b,w3.heap.size≤b→ ¬E.A b:=fun b hb ha=>by
  have h1:=HA.out _ ha;have h2:=F12.out.size;omega
 refine ⟨_,_,rfl,.named f ib nb lb a c j0 j1 j2 j4 j5 (.iface ty pv) j9 j10 15 vs us HK.out NM.out hn HU.out (SZ _ H4.out) H1.out rfl (SZ _ H5.out) H2.out (SZ _ H6.out) H3.out TT.out.len2.symm TT.out.cap.1 TT.out.cap.2 (TT.out.at_.keep F4.out.sub) (fun i v t hv ht=>(TT.out.pt i v t hv ht).keep F4.out.sub) ?_,F1.out.trans F4.out⟩;rw [show und E.D (.node f us)=(E.D f.n).own us by simp [und,HK.out],HD.out]
 exact P4.out
def TypAt (E:GEnv)(bb:Nat)(da:Option Addr)(dl dc:Nat)(ar:Nat→Nat)(L:Nat)(t:Tm):Prop:=
 ∀(A:Nat→Prop) (w:World) (x:TyV) (oa:Option Addr) (ol oc:Nat) (os:List Value) (us:List Tm),Uni.Good L ar t→Holes 2 E.n t→Holes 3 us.length t→BEnv w (E.setA A) bb da dl dc ar→RT w F0 x t→TysAt w (E.setA A) oa ol oc os us→
  Calls Tryz.prog 60 #[.pointer (some ⟨bb,0,none⟩),x.val,.slice oa ol oc] w (xZ w (E.setA A) (t.own us))
theorem Holes.mono' {k n n':Nat}{t:Tm}(h:Holes k n t)(hn:n<=n'):Holes k n' t:=by
 induction h with
 |var p h=>exact .var p fun hk=>Nat.lt_of_lt_of_le (h hk) hn
 |node f ts h _ ih=>exact .node f ts (fun hk=>Nat.lt_of_lt_of_le (h hk) hn) ih
theorem typ60_any {E:GEnv}{bb:Nat}{da:Option Addr}{dl dc:Nat}{ar:Nat->Nat}(hnd:E.nd<=dl)(hG: ∀i,i < dl->Uni.Good i ar (E.D i))(hK: ∀i,i < dl-> ∃f bs,E.D i= .node f bs/\(f.kind=0\/4<=f.kind)):
 ∀L,L<=E.nd-> ∀t,TypAt E bb da dl dc ar L t:=by
 intro L
 induction L using Nat.strongRecOn with
 |ind L ihL=>
 intro hL t
 induction t using Tm.ind with
 |hv p=>
  intro A w x oa ol oc os us hg h2 h3 hB hr hO;rw [Tm.own_var]
  cases hr with
  |var _ _ hk hn hl hc=>exact typ_var w hB x p hk hn (h2.var2) _
 |hn f ts ih=>
  intro A w x oa ol oc os us hg h2 h3 hB hr hO
  cases hr with
  |node _ _ xs _ hs hl hx hr=>
  have hgl:=hg.lab
  have hall:f.kind≠3→ ∀w',Fr F0 w w'→Calls Tryz.prog 77 #[.pointer (some ⟨bb,0,none⟩),.slice x.a x.len x.cap,.slice oa ol oc] w' (vB w' (E.setA A) (ts.map (Tm.own us))):=by
   intro _ w' f';have hB':=hB.keep f';refine all77_any w' hB' x.a x.len x.cap xs (ts.map (Tm.own us)) (hx.keep f') hs.len (by rw [List.length_map,hl,hs.len]) hs.bound.2.1 _ ?_;intro i y u hy hu A' w'' f'' hA' hb';rw [List.getElem?_map] at hu;obtain ⟨t',ht',rfl⟩:=Option.map_eq_some_iff.1 hu;have hm:=List.mem_of_getElem? ht';exact ih t' hm A' w'' y oa ol oc os us (hg.kid hm) (h2.kid hm) (h3.kid hm) (hB'.avoid f'' hA' hb') (((hr i y t' hy ht').keep f').keep f'') ((hO.keep f').avoid f'' hA')
  by_cases hk3:f.kind=3
  ·rw [Tm.own_node,if_pos hk3]
   have hlt:f.n < us.length:=by cases h3 with | node _ _ h _=>exact h hk3.symm
   have hxn:x.n=f.n:=by have:=hs.n;rw [if_pos (by omega)] at this;exact this
   rw [List.getD_eq_getElem?_getD];have hu:us[f.n]?=some us[f.n]:=by simp [hlt]
   rw [hu,Option.getD_some];exact typ_own w hB x f.n (by rw [hs.k,hk3];rfl) hxn oa ol oc os us hO _ hu
  have hall:=hall hk3;rw [Tm.own_node,if_neg hk3];have hlen:(ts.map (Tm.own us)).length=x.len:=by rw [List.length_map,hl,hs.len]
  have one: ∀(k:f.kind=4∨f.kind=5∨f.kind=6∨f.kind=8),∃u,ts.map (Tm.own us)= [u]:=fun k=>by
   have:=hgl.one k;obtain ⟨a,rfl⟩:=List.length_eq_one_iff.1 this;exact ⟨_,rfl⟩
  by_cases h0:f.kind=0
  ·obtain ⟨e,hn⟩:=hgl.k0 h0
   subst e;exact typ_basic w hB x f xs hs h0 hn _
  by_cases h1:f.kind=1
  ·obtain ⟨hn,har⟩:=hgl.k1 h1
   by_cases hts:ts= []
   ·subst hts
    exact typ_named0 w hB x f xs hs h1 _ (Nat.lt_of_lt_of_le hn hL) (by rw [<-har];rfl) hall
   ·have hfd:f.n < dl:=by omega
    obtain ⟨g,bs,hD,hgk⟩:=hK f.n hfd
    have hown:((E.setA A).D f.n).own (ts.map (Tm.own us))= .node g (bs.map (Tm.own (ts.map (Tm.own us)))):=by
     show (E.D f.n).own _=_;rw [hD,Tm.own_node,if_neg (by omega)]
    refine typ_named w hB x f xs hs h1 _ _ hlen (by simpa using hts) (Nat.lt_of_lt_of_le hn hL) hnd g _ hown (by omega) hall ?_;intro y a n c vs w' f' hy hT;exact ihL f.n hn (by omega) (E.D f.n) A w' y a n c vs _ (hG f.n hfd) ((hB.d.noVar f.n hfd).mono' (Nat.zero_le _)) (by rw [List.length_map,har];exact hB.d.own f.n hfd) (hB.keep f') hy hT
  by_cases h4:f.kind=4
  ·obtain ⟨u,hu⟩:=one (.inl h4)
   rw [hu] at hall ⊢;exact typ_ptr w hB x f xs hs h4 _ u hall
  by_cases h5:f.kind=5
  ·obtain ⟨u,hu⟩:=one (.inr (.inl h5))
   rw [hu] at hall ⊢;exact typ_slice w hB x f xs hs h5 _ u hall
  by_cases h6:f.kind=6
  ·obtain ⟨u,hu⟩:=one (.inr (.inr (.inl h6)))
   rw [hu] at hall ⊢;exact (typ_three w hB).1 x f xs hs h6 _ u hall
  by_cases h7:f.kind=7
  ·have:=hgl.two h7
   match ts,this with
   |[a,b],_=>exact (typ_three w hB).2.1 x f xs hs h7 _ _ _ hall
  by_cases h8:f.kind=8
  ·obtain ⟨u,hu⟩:=one (.inr (.inr (.inr h8)))
   rw [hu] at hall ⊢;exact (typ_three w hB).2.2 x f xs hs h8 _ u (hgl.chan h8) hall
  by_cases h9:f.kind=9
  ·obtain ⟨_,h10,h11⟩:=hgl.names h9
   exact typ_struct w hB x f xs hs h9 hx _ _ hlen h10 h11 hall
  ·have hk10:=hgl.k10
   have hk2:=hgl.k2;have h10:f.kind=10:=by omega
   obtain ⟨hc,hv⟩:=hgl.func h10;refine typ_func w hB x f xs hs h10 _ _ hlen (by rw [List.length_map];exact hc) (fun h=> ?_) hall;obtain ⟨h12,g,ws,h13,h14⟩:=hv h;exact ⟨h12,g,ws.map (Tm.own us),by rw [List.getElem?_map,h13,Option.map_some,Tm.own_node,if_neg (by omega)],h14⟩
end Go.Proofs.YtpekidjfbinekaaGreatDoor
