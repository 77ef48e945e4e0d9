/- G37, G38, G39 -/
import Derived.RangeFuncNested
import Derived.RangeFuncBound
import Derived.RangeFuncCalls
import Derived.RangeFuncLeaves
import Derived.Shelf.Abstract
import Derived.Shelf.RegionOpen
import Derived.WalkKit
import Derived.OwnWalkIn
import Derived.TacticsInMore
import Derived.LoopNIn
import Derived.LoopIn
import Derived.Test.YtpekidjfbinekaaGreatDoorA08
set_option maxRecDepth 100000
set_option maxHeartbeats 60000000
set_option linter.all false
namespace Go.Proofs.YtpekidjfbinekaaGreatDoor
open Go.RowKit Uni
open Go.ChangeMaps (setBlock)
noncomputable def idMeth:Bool:=match Tryz.prog.info? 133 with
 |some i=>(match i.methods.find? (·.name== "Id") with
  |some m=>(match m.path.toList,m.func with
   |[s],some (f,pr)=>s.deref && f==171 && pr && (match Tryz.prog.underlying s.struct with
    |some (.struct fields)=>(match fields[s.index]? with | some fd=>fd.offset==0 && fd.type==130 | none=>false)
    |_=>false)
   |_,_=>false)
  |none=>false)
 |none=>false
theorem idMeth_ok:idMeth=true:=by kernel_rfl
theorem run_id (n:Nat)(vb:Nat)(w:World):(method (n + 1) 133 (.pointer (some ⟨vb,0,none⟩)) "Id").run Tryz.prog w= .ok (171,.pointer (some ⟨vb,0,none⟩)) w:=by
 have h:=idMeth_ok;unfold idMeth at h
 cases hi:Tryz.prog.info? 133 with
 |none=>rw [hi] at h;cases h
 |some i=>
  rw [hi] at h;dsimp only at h
  cases hm:i.methods.find? (·.name== "Id") with
  |none=>rw [hm] at h;cases h
  |some m=>
   rw [hm] at h;dsimp only at h
   split at h
   ·rename_i s f pr hp hf
    simp only [Bool.and_eq_true] at h;obtain ⟨⟨⟨h1,h2⟩,h3⟩,h4⟩:=h
    split at h4
    ·rename_i fields hu
     split at h4
     ·rename_i fd hfd
      simp only [Bool.and_eq_true,beq_iff_eq] at h4 h2;obtain ⟨ho,ht⟩:=h4;have hadd:(⟨vb,0,none⟩:Addr).add 0=⟨vb,0,none⟩:=rfl;simp [method,typeInfo,hi,hm,hp,hf,follow,run_underlying hu,hfd,h1,Place.get,fieldPlace,ho,ht,Tryz.sizeOf130,receiverAt,Tryz.runUnderlying130,h2,h3,asAddr,hadd]
     ·cases h4
    ·cases h4
   ·cases h
def lastIs (s:ByteArray)(c:UInt8):Prop:=s.data.toList.getLast?=some c
def PkgOk (w:World)(E:GEnv):Prop:= ∃b c t nm,E.pk= .pointer (some ⟨b,0,none⟩)/\w.heap[b]?=some (.cells c t (0,0))/\c[0]?=some (.string nm)/\nm.size<=1000
theorem PkgOk.keep {w w':World}{E:GEnv}(h:PkgOk w E)(f:Fr (fun _=>False) w w'):PkgOk w' E:=by
 obtain ⟨b,c,t,nm,h1,h2,h3⟩:=h;exact ⟨b,c,t,nm,h1,f.heap id h2,h3⟩
theorem id_any {E:GEnv}(c:UInt8)(h1:65<=c.toNat)(h2:c.toNat<=90)(w:World)(hE:EnvOk w E)(hP:PkgOk w E):Calls Tryz.prog 210 #[E.pk,.string ⟨#[c]⟩] w fun e w'=>(∃s,e= .returned (.string s)/\lastIs s c)/\w'=w:=by
 obtain ⟨b,cs,t,nm,e,hb,hc,hn⟩:=hP;rw [e];have q:=zA hb;have q0:=(q 0).trans (by simpa using hc);have sz:=World.block_lt_of_cell? _ _ q0;dsimp only at sz;have n1: ¬9223372036854775807 < nm.size + 1:=by omega
 have n2: ¬9223372036854775807 < nm.size + 1 + 1:=by omega
 have HE:=hid hE;clear hE q hb hc e;go_enter Tryz.func210,Tryz.ntmps210;go_wp2_with fail
 refine (isExported_any c h1 h2 _ HE.out).mono ?_;rintro e w1 ⟨⟨bb,rfl⟩,rfl⟩
 cases bb with
 |true=>
  go_wp2;go_ret;exact ⟨⟨_,rfl,rfl⟩,rfl⟩
 |false=>
  go_wp2
  all_goals
   go_ret;exact ⟨⟨_,rfl,by simp [lastIs]⟩,rfl⟩
theorem objId_any {E:GEnv}(vb:Nat)(c:UInt8)(p0 v k:Value)(h1:65<=c.toNat)(h2:c.toNat<=90)(w:World)(hE:EnvOk w E)(hP:PkgOk w E)(hv:w.heap[vb]?=some (.cells #[p0,E.pk,.string ⟨#[c]⟩,v,k,.bool false] 201 (0,0))):
 Calls Tryz.prog 171 #[.pointer (some ⟨vb,0,none⟩)] w fun e w'=>(∃s,e= .returned (.string s)/\lastIs s c)/\ ∃n,w'=w.drewN n:=by
 have q:=zA hv;have sz:=bl (q 0);dsimp only at sz;have IA:=hid (fun w' (h1':EnvOk w' E) (h2':PkgOk w' E)=>id_any c h1 h2 w' h1' h2');have hP2:=hP;obtain ⟨pb,_,_,_,hpe,_⟩:=hP2;have HE:=hid hE;have HP:=hid hP;rw [hpe] at q;have HPE:=hid hpe;clear hE hP hv hpe;go_enter Tryz.func171,Tryz.ntmps171;go_wp2_with fail
 refine zP 8 (by kernel_rfl) ?_;simp only [List.take_succ_cons,List.take_zero,List.drop_succ_cons,List.drop_zero]
 repeat still_step
 refine wpStill_nil ?_;rw [<-HPE.out];go_wp2_with fail
 refine (IA.out _ (HE.out.keep ((Fr.refl _ w).drew)) (HP.out.keep ((Fr.refl _ w).drew))).mono ?_;rintro e w1 ⟨⟨s,rfl,hs⟩,rfl⟩;go_wp2;go_ret;exact ⟨⟨s,rfl,hs⟩,1,rfl⟩
theorem under217:Tryz.prog.underlying 217=some (.map 9 220):=by kernel_rfl
theorem under218:Tryz.prog.underlying 218=some (.map 9 220):=by kernel_rfl
theorem under9:Tryz.prog.underlying 9=some .string:=by kernel_rfl
theorem info220z:(Tryz.prog.info? 220).map (fun i=>i.zero)=some (some .nilIface):=by kernel_rfl
def NamesIn (es:List MapEntry)(seen:List UInt8):Prop:= ∀e∈es,∃s,e.key= .string s/\ ∃c∈seen,lastIs s c
theorem ba_eq (k s:ByteArray)(h:(k==s)=true):k=s:=by
 cases k;cases s
 rename_i a b;have:(a==b)=true:=h;rw [eq_of_beq this]
theorem findNow_none {es:List MapEntry}{seen:List UInt8}(h:NamesIn es seen){k:ByteArray}{c:UInt8}(hk:lastIs k c)(hc:c ∉ seen): ∀i,Instr.findNow .string (.string k) es i=some none:=by
 induction es with
 |nil=>intro i;rfl
 |cons e es ih=>
  intro i;obtain ⟨s,h1,c',h2,h3⟩:=h e (by simp);have hne:(k==s)=false:=by
   cases hks:(k==s) with
   |false=>rfl
   |true=>
   exfalso;have he:=ba_eq k s hks;subst he;unfold lastIs at hk h3;rw [hk] at h3;cases h3
   exact hc h2
  rw [Instr.findNow,h1];simp only [Instr.sameNow,hne];exact ih (fun e he=>h e (by simp [he])) (i + 1)
theorem run_findName {es:List MapEntry}{seen:List UInt8}(h:NamesIn es seen){k:ByteArray}{c:UInt8}(hk:lastIs k c)(hc:c ∉ seen)(w:World):(Instr.findKey 9 (.string k) es).run Tryz.prog w= .ok none w:=by
 unfold Instr.findKey;rw [Sem.run_bind,run_underlying under9];simp only [Result.andThen,findNow_none h hk hc];rfl
theorem run_checkName (b:Bool)(k:ByteArray)(w:World):(Instr.checkKey b 10000 9 (.string k)).run Tryz.prog w= .ok () w:=by
 have key: ∀d,(Instr.checkKey b (d + 1) 9 (.string k)).run Tryz.prog w= .ok () w:=fun d=>by
  simp [Instr.checkKey,run_underlying under9]
 exact key 9999
theorem run_zero220 (w:World):(zeroValue 220).run Tryz.prog w= .ok .nilIface w:=by
 have h:=info220z
 cases hi:Tryz.prog.info? 220 with
 |none=>rw [hi] at h;cases h
 |some i=>
  rw [hi] at h;have hz:i.zero=some .nilIface:=by simpa using h
  simp [zeroValue,typeInfo,hi,hz]
def SetAt (w:World)(m:Option Nat)(seen:List UInt8):Prop:=(m=none/\seen= [])\/ ∃r es n,m=some r/\w.heap[r]?=some (.map es n)/\NamesIn es.toList seen
theorem run_lookName {w:World}{m:Option Nat}{seen:List UInt8}(h:SetAt w m seen){k:ByteArray}{c:UInt8}(hk:lastIs k c)(hc:c ∉ seen):(Instr.lookup 218 (.map m) (.string k) false).run Tryz.prog w= .ok .nilIface w:=by
 rcases h with ⟨rfl,rfl⟩ | ⟨r,es,n,rfl,hr,hn⟩
 ·unfold Instr.lookup
  simp only [Sem.run_bind,run_underlying under218,run_checkName,Result.andThen_ok,run_findName (es:=(#[]:Array MapEntry).toList) (seen:= []) (fun e he=>by simp at he) hk hc,Sem.run_pure,run_zero220];rfl
 ·unfold Instr.lookup
  simp only [Sem.run_bind,run_underlying under218,MapKept.run_getObj_map hr,run_checkName,Result.andThen_ok,run_findName hn hk hc,Sem.run_pure,run_zero220];rfl
theorem run_addName {w:World}{r:Nat}{es:Array MapEntry}{n:Nat}{seen:List UInt8}(hr:w.heap[r]?=some (.map es n))(hn:NamesIn es.toList seen){k:ByteArray}{c:UInt8}(hk:lastIs k c)(hc:c ∉ seen)(v:Value):
 (Instr.mapUpdate 218 (.map (some r)) (.string k) v).run Tryz.prog w= .ok () (setBlock w r (.map (es.push {key:= .string k,val:=v,born:=n}) (n + 1))):=by
 unfold Instr.mapUpdate;simp only [Sem.run_bind,run_underlying under218,MapKept.run_getObj_map hr,run_checkName,Result.andThen_ok,run_findName hn hk hc];exact run_setObj_map hr _
theorem neq_nil220 (w:World):(binOp .neq 220 .nilIface .nilIface).run Tryz.prog w= .ok (.bool false) w:=by
 obtain ⟨ms,hi⟩: ∃ms,Tryz.prog.underlying 220=some (.interface ms):=by
  have h:(match Tryz.prog.underlying 220 with | some (.interface _)=>true | _=>false)=true:=by kernel_rfl
  split at h
  ·rename_i ms hu;exact ⟨ms,hu⟩
  ·cases h
 have h: ∀d:Nat,(Op.equalIn (d + 1) 220 .nilIface .nilIface).run Tryz.prog w= .ok true w:=fun d=>by simp [Op.equalIn,run_underlying hi]
 simp only [binOp];simp [Op.equal,Op.maxDepth,h 9999]
theorem eq_mapnil (m:Option Nat)(w:World):(binOp .eql 218 (.map m) (.map none)).run Tryz.prog w= .ok (.bool m.isNone) w:=by
 have h: ∀d:Nat,(Op.equalIn (d + 1) 218 (.map m) (.map none)).run Tryz.prog w= .ok m.isNone w:=fun d=>by cases m <;>simp [Op.equalIn,run_underlying under218]
 simp only [binOp];simp [Op.equal,Op.maxDepth,h 9999]
def InsPost (w:World)(bs:Nat)(m:Option Nat)(seen:List UInt8)(e:Ending)(w':World):Prop:=
 e= .returned .nilIface/\ ∃r,w'.heap[bs]?=some (.cells #[.map (some r)] 218 (0,0))/\SetAt w' (some r) seen/\Fr (fun b=>b=bs\/m=some b) w w'/\(m=some r\/w.heap.size<=r)
theorem insert_any {E:GEnv}(bs vb:Nat)(m:Option Nat)(seen:List UInt8)(c:UInt8)(p0 v k:Value)(h1:65<=c.toNat)(h2:c.toNat<=90)(w:World)(hE:EnvOk w E)(hP:PkgOk w E)
 (hv:w.heap[vb]?=some (.cells #[p0,E.pk,.string ⟨#[c]⟩,v,k,.bool false] 201 (0,0))) (hb:w.heap[bs]?=some (.cells #[.map m] 218 (0,0))) (hm:SetAt w m seen) (hc:c ∉ seen):
 Calls Tryz.prog 116 #[.pointer (some ⟨bs,0,none⟩),.iface 133 (.pointer (some ⟨vb,0,none⟩))] w (InsPost w bs m (c::seen)):=by
 have MI:=fun w=>run_id 551 vb w
 have hN:=neq_nil220;have HI:=hid (objId_any vb c p0 v k h1 h2 w hE hP hv);have lb:=zF hb;have HB:=hid hb;have HM:=hid hm;clear hE hP hv hb hm;go_enter Tryz.func116,Tryz.ntmps116;go_wp2_with fail
 refine HI.out.mono ?_;rintro e w1 ⟨⟨s,rfl,hs⟩,nd,rfl⟩;have HS:=hid hs;have F1:=hid ((Fr.refl (fun _=>False) w).drawn nd);have S1:(w.drewN nd).heap.size=w.heap.size:=rfl;have B1:=hid (F1.out.heap id HB.out);have M1:=hid (show SetAt (w.drewN nd) m seen from HM.out);clear HI hs;generalize w.drewN nd=w1 at F1 S1 B1 M1 ⊢;have q:=zA B1.out 0;have f:=zC B1.out 0;have sz:bs < w1.heap.size:=by omega
 have hl:=run_lookName M1.out HS.out hc;rcases M1.out with ⟨rfl,rfl⟩ | ⟨r,es,n,rfl,hr,hn⟩
 ·have hE:=eq_mapnil none
  have hmk: ∀w,(Instr.makeMap 217 none).run Tryz.prog w= .ok (.map (some w.heap.size)) (w.alloc (.map #[] 0)):=fun w=>by
   simp [Instr.makeMap,run_underlying under217,Result.andThen]
  obtain ⟨W2,hW2⟩: ∃W2,W2=(w1.setCell ⟨bs,0,none⟩ (.map (some w.heap.size))).alloc (.map #[] 0):=⟨_,rfl⟩;have G0:w1.heap.size=(w1.setCell ⟨bs,0,none⟩ (.map (some w.heap.size))).heap.size:=by simp [World.setCell]
  have hr:W2.heap[w.heap.size]?=some (.map #[] 0):=by
   have h:=heap_alloc_new (w1.setCell ⟨bs,0,none⟩ (.map (some w.heap.size))) (.map #[] 0);rw [<-G0,S1,<-hW2] at h;exact h
  have hbb:W2.heap[bs]?=some (.cells #[.map (some w.heap.size)] 218 (0,0)):=by
   rw [hW2];exact ((Fr.refl (fun _=>False) _).alloc (.map #[] 0)).heap id (heap_setCell (a:=⟨bs,0,none⟩) B1.out rfl)
  have hfr:Fr (fun b=>b=bs\/(none:Option Nat)=some b) w W2:=by
   rw [hW2];exact ((F1.out.sub).setCell (p:=⟨bs,0,none⟩) (.inl (.inl rfl)) _).alloc _
  have hz:W2.heap.size=w.heap.size + 1:=by rw [hW2];simp [World.setCell,S1]
  have ha:=run_addName (es:= #[]) (seen:= []) hr (fun e he=>by simp at he) HS.out hc (.iface 133 (.pointer (some ⟨vb,0,none⟩)));have HR:=hid hr;have HBB:=hid hbb;have HFR:=hid hfr;have HZ:=hid hz;have H2:=hid hW2;rw [hW2] at ha;clear hr hbb hfr hz hW2 G0;go_wp2;go_ret;rw [<-H2.out];refine ⟨rfl,w.heap.size,?_,.inr ⟨_,_,_,rfl,wA (by rw [HZ.out];omega) _,?_⟩,HFR.out.setBlock (.inr (Nat.le_refl _)) _,.inr (Nat.le_refl _)⟩
  ·rw [xH _ (by omega)];exact HBB.out
  ·intro e he
   simp at he;subst he;exact ⟨s,rfl,c,by simp,HS.out⟩
 ·have ha:=run_addName hr hn HS.out hc (.iface 133 (.pointer (some ⟨vb,0,none⟩)))
  have hE:=eq_mapnil (some r);have lr:=zF hr;have hne:bs≠r:=fun e=>by subst e;have:=B1.out.symm.trans hr;cases this
  have HN:=hid hn;clear M1 HM hr hn;go_wp2;go_ret;refine ⟨rfl,r,?_,.inr ⟨_,_,_,rfl,wA lr _,?_⟩,(F1.out.sub).setBlock (.inl (.inr rfl)) _,.inl rfl⟩
  ·rw [xH _ hne];exact B1.out
  ·intro e he
   simp at he;rcases he with he | rfl
   ·obtain ⟨s',h1,c',h2,h3⟩:=HN.out e (by simpa using he)
    exact ⟨s',h1,c',by simp [h2],h3⟩
   ·exact ⟨s,rfl,c,by simp,HS.out⟩
structure FieldsAt (w:World) (E:GEnv) (fa:Option Addr) (cs:List UInt8) (vs:List Value):Prop where
 len:vs.length=cs.length
 at_:vs= []\/ ∃b off,fa=some ⟨b,off,none⟩/\ ∀(i:Nat) (v:Value) (c:UInt8),vs[i]?=some v->cs[i]?=some c-> ∃(vb:Nat) (p0 k:Value),w.cell? ⟨b,off + i,none⟩=some (.pointer (some ⟨vb,0,none⟩))/\
  w.heap[vb]?=some (.cells #[p0,E.pk,.string ⟨#[c]⟩,v,k,.bool false] 201 (0,0))/\65<=c.toNat/\c.toNat<=90
theorem FieldsAt.keep {w w':World}{E:GEnv}{fa:Option Addr}{cs:List UInt8}{vs:List Value}(h:FieldsAt w E fa cs vs)(f:Fr (fun _=>False) w w'):FieldsAt w' E fa cs vs:=by
 refine ⟨h.len,h.at_.imp_right fun ⟨b,off,h1,h2⟩=>⟨b,off,h1,fun i v c hv hc=> ?_⟩⟩;obtain ⟨vb,p0,k,h3,h4,h5⟩:=h2 i v c hv hc;exact ⟨vb,p0,k,f.cell id h3,f.heap id h4,h5⟩
def SetRel (w:World)(E:GEnv)(cs:List UInt8)(j:Nat)(wr:World):Prop:=
 ∃m,Fr (fun _=>False) w wr/\wr.heap[w.heap.size]?=some (.cells #[.map m] 218 (0,0))/\SetAt wr m (cs.take j).reverse/\ ∀r,m=some r->w.heap.size < r
theorem under154s:Tryz.prog.underlying 154=some (.slice 133):=by kernel_rfl
theorem info133z:(Tryz.prog.info? 133).map (fun i=>(i.zero,i.size,i.bytes))=some (some (.pointer none),1,8):=by kernel_rfl
theorem eq_nil_slice0 (w:World):(binOp .eql 154 (.slice none 0 0) (.slice none 0 0)).run Tryz.prog w= .ok (.bool true) w:=by
 have h: ∀d:Nat,(Op.equalIn (d + 1) 154 (.slice none 0 0) (.slice none 0 0)).run Tryz.prog w= .ok true w:=fun d=>by simp [Op.equalIn,Tryz.runUnderlying154]
 simp only [binOp];simp [Op.equal,Op.maxDepth,h 9999]
theorem markComplete_none (w:World)(a:Nat)(t:Value)(h:w.heap[a]?=some (.cells #[.slice none 0 0,t] 223 (0,0))):Calls Tryz.prog 117 #[.pointer (some ⟨a,0,none⟩)] w fun e w'=>e= .returned (.tuple #[])/\ ∃fa,w'.heap[a]?=some (.cells #[.slice fa 0 0,t] 223 (0,0))/\Fr (fun b=>b=a) w w':=by
 have q:=zA h;have f:=zC h;have sz:=bl (q 0);dsimp only at sz;have hE:=eq_nil_slice0;have H:=hid h;clear h;go_enter Tryz.func117,Tryz.ntmps117;obtain ⟨i0,hi0,hz0,hz1,hz2⟩:=info_parts info133z;go_wp2_with (refine wpList_make_full _ rfl _ _ 154 rfl w.heap.size 133 i0 _ 1 under154s hi0 hz0 hz1 .i64 .i64 0 0 0 rfl rfl rfl rfl (by omega) (by unfold maxLen;omega) (Nat.le_refl _) ?_)
 intro w1 _ hgr;have hfr:=(Fr.of_grown hgr).mono (M':=fun _=>False) fun b _ hb=>by cases hb
 have h1:=hfr.heap id H.out;have HF:=hid hfr;have H1:=hid h1;have q:=zA h1;have f:=zC h1;have sz:=bl (q 0);dsimp only at sz;clear hgr hfr h1 hi0 hz0 hz1 hz2;go_wp2;go_end0;exact ⟨rfl,_,heap_setCell (a:=⟨a,0,none⟩) H1.out rfl,(Fr.sub (M:=fun b=>b=a) HF.out).setCell (p:=⟨a,0,none⟩) (.inl rfl) _⟩
theorem newStruct_any {E:GEnv}(w:World)(fa:Option Addr)(n fc:Nat)(cs:List UInt8)(vs:List Value)(hE:EnvOk w E)(hP:PkgOk w E)(hF:FieldsAt w E fa cs vs)(hn:vs.length=n)(hd:cs.Nodup)(hb:n<=1954687338211)(h0:n=0->fa=none/\fc=0)(hcap:n<=fc/\fc<=maxLen):
 Calls Tryz.prog 85 #[.slice fa n fc,.slice none 0 0] w fun e w'=> ∃b fa' fc',e= .returned (.pointer (some ⟨b,0,none⟩))/\w'.heap[b]?=some (.cells #[.slice fa' n fc',.slice none 0 0] 223 (0,0))/\(0 < n->fa'=fa/\fc'=fc)/\n<=fc'/\fc'<=maxLen/\Fr (fun _=>False) w w'/\w.heap.size<=b:=by
 have HE:=hid hE;have HP:=hid hP;have HF:=hid hF;have HD:=hid hd;have HN:=hid hn;have H0:=hid h0;have hnn:=neq_nil220;clear hE hP hF hd hn h0;go_enter Tryz.func85,Tryz.ntmps85;go_wp2_with fail
 have R0:=hid (show SetRel w E cs 0 (w.alloc (.cells #[.map none] 218)) from ⟨none,(Fr.refl _ w).alloc _,heap_alloc_new w _,.inl ⟨rfl,rfl⟩,fun r h=>by cases h⟩);go_loopw [7,11] (fun _ i wr=> ∃j:Nat,j<=n/\i= .int .i64 j/\SetRel w E cs j wr) (fun _ i _=>n - (intOf i).toNat)
 case atStart=>exact ⟨0,Nat.zero_le _,rfl,R0.out⟩
 case round=>
  obtain ⟨WX,rfl⟩: ∃WX:World,WX=wr:=⟨wr,rfl⟩;obtain ⟨j,hj,rfl,m,hfr,hbx,hst,hlt⟩:=hrel;have FX:=hid hfr;have BX:=hid hbx;have SX:=hid hst;have LX:=hid hlt;clear hfr hbx hst hlt;by_cases hlt:j < n
  ·have hle:(j:Int) < n:=by omega
   obtain ⟨v,hv⟩: ∃v,vs[j]?=some v:=⟨vs[j]'(by rw [HN.out];exact hlt),by simp⟩;have hcl:cs.length=n:=by rw [<-HF.out.len,HN.out]
   obtain ⟨c,hc⟩: ∃c,cs[j]?=some c:=⟨cs[j]'(by rw [hcl];exact hlt),by simp⟩;obtain ⟨b,off,rfl,hcc⟩:=HF.out.at_.resolve_left (fun h=>by have:=HN.out;rw [h] at this;simp at this;omega);obtain ⟨vb,p0,k,h1,h2,h3,h4⟩:=hcc j v c hv hc;have c1:=FX.out.cell id h1;have szb:=World.block_lt_of_cell? _ _ c1;dsimp only at szb;have hv1:=FX.out.heap id h2;have q:=zA hv1;have szv:=zF hv1;have hc95: ¬c=95:=fun e=>by subst e;simp at h4
   have hcs:c ∉ (cs.take j).reverse:=by
    rw [List.mem_reverse];intro hm;obtain ⟨i,hi,he⟩:=List.getElem_of_mem hm;have hi':i < j:=by simp at hi;omega
    rw [List.getElem_take] at he;have hj':j < cs.length:=by rw [hcl];exact hlt
    have hcj:cs[j]=c:=by have:=hc;rw [List.getElem?_eq_getElem hj'] at this;exact Option.some.inj this
    have:=(List.pairwise_iff_getElem.1 HD.out) i j (by omega) hj' hi';exact this (he.trans hcj.symm)
   have HI:=hid (insert_any (E:=E) w.heap.size vb m _ c p0 v k h3 h4 WX (HE.out.keep FX.out.sub) (HP.out.keep FX.out) hv1 BX.out SX.out hcs);have HCJ:=hid hc;clear hv hc hcc h1 h2 hv1 hcs;go_wp2_with fail
   refine HI.out.mono ?_;rintro e w2 ⟨rfl,r,hb2,hs2,hf2,hr2⟩;have NR:=hid (show SetRel w E cs (j + 1) w2 from by
    refine ⟨some r,FX.out.transNew hf2 (fun x hx=> .inr ?_),hb2,?_,fun r' h=>by cases h;rcases hr2 with h | h;exact LX.out r h;exact Nat.lt_of_lt_of_le (zF BX.out) h⟩
    ·rcases hx with rfl | hx
     ·exact Nat.le_refl _
     ·exact Nat.le_of_lt (LX.out x hx)
    ·rw [List.take_add_one,HCJ.out];simpa using hs2)
   clear hb2 hs2 hf2 hr2;go_wp2;go_roundw
   case rel=>exact ⟨j + 1,by omega,by go_num,NR.out⟩
   case measure=>simp [intOf];omega
  ·have hjn:j=n:=by omega
   subst hjn;have hle: ¬(j:Int) < j:=by omega
   go_wp2_with fail
   obtain ⟨W1,hW1⟩: ∃W1,W1=WX.alloc (.cells #[.slice fa j fc,.slice none 0 0] 223):=⟨_,rfl⟩;have hb:=heap_alloc_new WX (.cells #[.slice fa j fc,.slice none 0 0] 223);have hf:=FX.out.alloc (.cells #[.slice fa j fc,.slice none 0 0] 223);rw [<-hW1] at hb hf ⊢;have HB:=hid hb;have HFF:=hid hf;clear hb hf hW1;by_cases hj0:j=0
   ·subst hj0
    obtain ⟨rfl,rfl⟩:=H0.out rfl;refine (markComplete_none W1 _ _ HB.out).mono ?_;rintro e w3 ⟨rfl,fa',h1,h2⟩;have HB3:=hid h1;have HF3:=hid (HFF.out.transNew h2 (fun x hx=> .inr (by subst hx;exact FX.out.size)));clear h1 h2;go_wp2;go_ret;exact ⟨_,fa',0,rfl,HB3.out,fun h=>absurd h (by omega),Nat.le_refl _,by unfold maxLen;omega,HF3.out,FX.out.size⟩
   ·obtain ⟨b,off,rfl,_⟩:=HF.out.at_.resolve_left (fun h=>by have:=HN.out;rw [h] at this;simp at this;omega)
    refine (markComplete_some W1 _ b off _ _ _ HB.out).mono ?_;rintro e w3 ⟨rfl,rfl⟩;go_wp2;go_ret;exact ⟨_,_,_,rfl,HB.out,fun h=>⟨rfl,rfl⟩,hcap.1,hcap.2,HFF.out,FX.out.size⟩
end Go.Proofs.YtpekidjfbinekaaGreatDoor
namespace Go.Proofs.YtpekidjfbinekaaGreatDoor
open Go.RowKit Uni Go.Shelf
attribute [local go_sem] Oper.semAt_some
theorem isString_slice (pv:Value)(w:World):Calls Tryz.prog 121 #[.iface 144 pv] w fun e w'=>e= .returned (.bool false)/\w'=w:=by
 have A:=zD p179;have M:=fun w=>yJ m144 551 pv w
 go_enter Tryz.func121,Tryz.ntmps121;go_wp2_with (first | (go_at_call 155;go_in) | (go_at_call 293;go_in) | fail)
 go_ret;exact ⟨rfl,rfl⟩
theorem underlying_slice (pv:Value)(w:World):Calls Tryz.prog 293 #[pv] w fun e w'=>e= .returned (.iface 144 pv)/\w'=w:=by
 go_enter Tryz.func293,Tryz.ntmps293;go_wp2;go_ret;exact ⟨rfl,rfl⟩
theorem neq_nilTP (w:World):(binOp .neq 95 (.pointer none) (.pointer none)).run Tryz.prog w= .ok (.bool false) w:=rfl
theorem YieldAt.anyD {m m':Nat}{P:Program}{l:Nat}{args:Array Value}{w:World}{R:Ending->World->Prop}(h:YieldAt Fence.wide m P l args w R):YieldAt Fence.wide m' P l args w R:=by
 obtain ⟨fn,tmps,assign,body,hy,hR⟩:=h;exact ⟨fn,tmps,assign,body,hy,hR.1,fun c cs _=>hR.2 c cs (room_wide _)⟩
theorem all_in (n:Nat)(hn:3<=n)(l:Nat)(pv:Value)(W:World)(R:Ending->World->Prop)(hY:YieldAt Fence.wide (n - 1) Tryz.prog l #[.iface 144 pv,.iface 144 pv] W R)(hR: ∀e W',R e W'-> ∃b,e= .returned (.bool b)):
 CallsIn Fence.wide n Tryz.prog 154 #[.iface 144 pv,.func (.yield l) #[] #[]] W R:=by
 have A:=zD p95;have M:=fun w=>yJ m144 551 pv w
 have hnn:=neq_nilTP;refine callsIn_of_wp Tryz.func154 rfl trivial ?_ rfl;simp only [Tryz.ntmps154,List.size_toArray,List.length_cons,List.length_nil,Nat.reduceAdd,Nat.reduceSub,Array.replicate_succ,Array.replicate_zero,List.push_toArray,List.append_toArray,List.nil_append,List.cons_append];obtain ⟨fn,tmps,assign,body,hy,hRR⟩:=hY
 gi_wp2_with (first | (refine ⟨trivial,fun _=>by omega,?_⟩;gi_at_call 127;refine (callsIn_wide.2 (zM 144 pv _ (by decide))).mono ?_;rintro e w' ⟨rfl,rfl⟩) | (refine ⟨trivial,fun _=>by omega,?_⟩;gi_at_call 293;refine (callsIn_wide.2 (underlying_slice pv _)).mono ?_;rintro e w' ⟨rfl,rfl⟩))
 refine ⟨fun _=>by omega,hRR.mono ?_⟩;intro e W' hr;obtain ⟨b,rfl⟩:=hR e W' hr
 gi_wp2
 exact hr
theorem it_in (n:Nat)(hn:4<=n)(l Bn:Nat)(pv:Value)(W:World)(R:Ending->World->Prop)(hB:W.cell? ⟨Bn,0,none⟩=some (.iface 144 pv))(hY:YieldAt Fence.wide (n - 1 - 1) Tryz.prog l #[.iface 144 pv,.iface 144 pv] W R)(hR: ∀e W',R e W'-> ∃b,e= .returned (.bool b)):
 CallsIn Fence.wide n Tryz.prog 153 #[.func (.yield l) #[] #[],.pointer (some ⟨Bn,0,none⟩)] W fun e W'=>(∃v,e= .returned v)/\ ∃b,R (.returned (.bool b)) W':=by
 have sz:=World.block_lt_of_cell? _ _ hB;dsimp only at sz;refine callsIn_of_wp Tryz.func153 rfl trivial ?_ rfl;simp only [Tryz.ntmps153,List.size_toArray,List.length_cons,List.length_nil,Nat.reduceAdd,Nat.reduceSub,Array.replicate_succ,Array.replicate_zero,List.push_toArray,List.append_toArray,List.nil_append,List.cons_append]
 gi_wp2_with fail
 refine ⟨trivial,fun _=>by omega,(all_in (n - 1) (by omega) l pv W R hY hR).mono ?_⟩;intro e W' hr;obtain ⟨b,rfl⟩:=hR e W' hr
 gi_wp2
 go_end0;exact ⟨⟨_,rfl⟩,b,hr⟩
theorem it_stops (n:Nat)(hn:4<=n)(Bn:Nat)(pv:Value)(w:World)(hBn:Bn < w.heap.size)(hc:w.cell? ⟨Bn,0,none⟩=some (.iface 144 pv)):
 SeqStopsK Fence.wide n Tryz.prog 153 #[.pointer (some ⟨Bn,0,none⟩)] (fun _:Unit=> #[.iface 144 pv,.iface 144 pv]) (fun _ _=>True) (fun ys=>ys= [()]) (fun pre=>pre= [()]) 1 w:=fun l J Jx W hW _ _ hY h0=>by
 have h:=it_in n hn l Bn pv W _ ((hW.cell (p:=⟨Bn,0,none⟩) hBn).trans hc) (by
  have h:=hY [] () W h0 (by simp);have e:n - 1 - 1=n - 1 - 1:=rfl;exact YieldAt.anyD h) (fun e W' h=>by rcases h with h | h;exact ⟨_,h.1⟩;exact ⟨_,h.1⟩)
 refine h.mono fun e W' h=> ?_
 obtain ⟨h1,b,h2⟩:=h;refine ⟨h1,?_⟩;rcases h2 with ⟨_,h2,_⟩ | ⟨_,h2⟩
 ·exact .inl ⟨[()],rfl,h2⟩
 ·exact .inr ⟨[()],rfl,h2⟩
def sigCells (pp rp:Value)(v:Bool):Array Value:= #[.pointer none,.pointer none,pp,rp,.bool v]
theorem newSig_false (w:World)(pp rp:Option Addr):Calls Tryz.prog 86 #[.pointer none,.slice none 0 0,.slice none 0 0,.pointer pp,.pointer rp,.bool false] w (Laid w (sigCells (.pointer pp) (.pointer rp) false) 136):=by
 go_enter Tryz.func86,Tryz.ntmps86;go_wp2;go_ret;exact ⟨rfl,rfl⟩
theorem typeset_any (w:World)(pv:Value):Calls Tryz.prog 120 #[.iface 144 pv] w fun e w'=>e= .returned (.func (.func 153) #[] #[.pointer (some ⟨w.heap.size,0,none⟩)])/\w'=w.alloc (.cells #[.iface 144 pv] 103):=by
 go_enter Tryz.func120,Tryz.ntmps120;go_wp2;go_ret;exact ⟨rfl,rfl⟩
theorem box_of {W:World}{B:Nat}{v:Value}{t:TypeId}(h:W.heap[B]?=some (.cells #[v] t (0,0))):W.cell? ⟨B,0,none⟩=some v/\W.frozen? ⟨B,0,none⟩=false:=⟨zA h 0,zC h 0⟩
theorem eq_nil144 (w:World):(binOp .eql 144 (.pointer none) (.pointer none)).run Tryz.prog w= .ok (.bool true) w:=by
 have h: ∀d:Nat,(Op.equalIn (d + 1) 144 (.pointer none) (.pointer none)).run Tryz.prog w= .ok true w:=fun d=>by simp [Op.equalIn,Tryz.runUnderlying144]
 simp only [binOp];simp [Op.equal,Op.maxDepth,h 9999]
theorem eq_nil144s (a:Addr)(w:World):(binOp .eql 144 (.pointer (some a)) (.pointer none)).run Tryz.prog w= .ok (.bool false) w:=by
 have h: ∀d:Nat,(Op.equalIn (d + 1) 144 (.pointer (some a)) (.pointer none)).run Tryz.prog w= .ok false w:=fun d=>by simp [Op.equalIn,Tryz.runUnderlying144]
 simp only [binOp];simp [Op.equal,Op.maxDepth,h 9999]
theorem tupleLen_some (w:World)(tb m vc:Nat)(va:Option Addr)(ht:w.heap[tb]?=some (.cells #[.slice va m vc] 275 (0,0))):Calls Tryz.prog 118 #[.pointer (some ⟨tb,0,none⟩)] w fun e w'=>e= .returned (.int .i64 m)/\w'=w:=by
 have q:=zA ht;have szt:=zF ht;have hnn: ∀w,(binOp .neq 134 (.pointer (some ⟨tb,0,none⟩)) (.pointer none)).run Tryz.prog w= .ok (.bool true) w:=fun w=>by
  have h: ∀d:Nat,(Op.equalIn (d + 1) 134 (.pointer (some ⟨tb,0,none⟩)) (.pointer none)).run Tryz.prog w= .ok false w:=fun d=>by simp [Op.equalIn,Tryz.runUnderlying134]
  simp only [binOp];simp [Op.equal,Op.maxDepth,h 9999]
 clear ht;go_enter Tryz.func118,Tryz.ntmps118;go_wp2;go_ret;exact ⟨rfl,rfl⟩
theorem tupleAt_any (w:World)(tb ab ao m vc i:Nat)(a:Addr)(hi:i < m)(ht:w.heap[tb]?=some (.cells #[.slice (some ⟨ab,ao,none⟩) m vc] 275 (0,0)))(he:w.cell? ⟨ab,ao + i,none⟩=some (.pointer (some a))):Calls Tryz.prog 119 #[.pointer (some ⟨tb,0,none⟩),.int .i64 i] w fun e w'=>e= .returned (.pointer (some a))/\w'=w:=by
 have q:=zA ht;have szt:=zF ht;have sza:=World.block_lt_of_cell? _ _ he;dsimp only at sza;have h2:(i:Int) < m:=by omega
 clear ht;go_enter Tryz.func119,Tryz.ntmps119;go_wp2;go_ret;exact ⟨rfl,rfl⟩
theorem newSig_true (w:World)(tb ab ao m vc vb sb:Nat)(rp:Option Addr)(p0 pk nm k e0:Value)(hm:0 < m)(hmb:m<=1954687338211)(ht:w.heap[tb]?=some (.cells #[.slice (some ⟨ab,ao,none⟩) m vc] 275 (0,0)))(he:w.cell? ⟨ab,ao + (m - 1),none⟩=some (.pointer (some ⟨vb,0,none⟩)))
 (hv:w.heap[vb]?=some (.cells #[p0,pk,nm,.iface 144 (.pointer (some ⟨sb,0,none⟩)),k,e0] 201 (0,0))):
 Calls Tryz.prog 86 #[.pointer none,.slice none 0 0,.slice none 0 0,.pointer (some ⟨tb,0,none⟩),.pointer rp,.bool true] w fun e w'=> ∃b,e= .returned (.pointer (some ⟨b,0,none⟩))/\w'.heap[b]?=some (.cells (sigCells (.pointer (some ⟨tb,0,none⟩)) (.pointer rp) true) 136 (0,0))/\Fr (fun _=>False) w w'/\w.heap.size<=b:=by
 have qv:=zA hv;have szt:=zF ht;have szv:=zF hv;have hm1:(m:Int) - 1=((m - 1:Nat):Int):=by omega
 have hm3:((m:Int)==0)=false:=by simp;omega
 have HL:=hid (tupleLen_some w tb m vc _ ht);have HA:=hid (tupleAt_any w tb ab ao m vc (m - 1) _ (by omega) ht he);clear ht hv;refine (callsIn_wide (n:=10)).1 ?_;refine callsIn_of_wp_marks Tryz.func86 rfl trivial ?_ rfl;simp only [Tryz.ntmps86,List.size_toArray,List.length_cons,List.length_nil,Nat.reduceAdd,Nat.reduceSub,Array.replicate_succ,Array.replicate_zero,List.push_toArray,List.append_toArray,List.nil_append,List.cons_append]
 gi_wp2_with (first | (refine ⟨trivial,?_⟩;gi_at_call 118;refine (callsIn_wide.2 HL.out).mono ?_;rintro e w' ⟨rfl,rfl⟩) | (refine ⟨trivial,?_⟩;gi_at_call 119;refine (callsIn_wide.2 HA.out).mono ?_;rintro e w' ⟨rfl,rfl⟩) | (refine ⟨trivial,?_⟩;gi_at_call 120;refine (callsIn_wide.2 (typeset_any _ _)).mono ?_;rintro e w' ⟨rfl,rfl⟩))
 obtain ⟨w0,rfl⟩: ∃w0:World,w0=w':=⟨w',rfl⟩;have hB0:Below w0.heap.size w0 ((w0.alloc (.cells #[.pointer none] 144)).alloc (.cells #[.iface 144 (.pointer (some ⟨sb,0,none⟩))] 103)):=((Below.refl _ w0).alloc (Nat.le_refl _) _).alloc (by simp) _;have hs:=box_of (heap_alloc_new w0 (.cells #[.pointer none] 144));have hb:=box_of (heap_alloc_new (w0.alloc (.cells #[.pointer none] 144)) (.cells #[.iface 144 (.pointer (some ⟨sb,0,none⟩))] 103))
 rw [World.size_alloc] at hb;refine wpIn_rangeFunc_ownF (F:=Fence.wide) rfl (by omega) (gf:=153) (lb:= #[.pointer (some ⟨w0.heap.size + 1,0,none⟩)]) rfl trivial (enters_of Tryz.func153 (by kernel_rfl) rfl)
  (it_stops 9 (by omega) (w0.heap.size + 1) (.pointer (some ⟨sb,0,none⟩)) _ (by simp) hb.1) (fun _ _=>trivial) (fun _ _ _ _ _ _ _ _=>trivial) (Below.refl _ _) (fun _=>rfl)
  (fun pre W=>(W.cell? ⟨w0.heap.size,0,none⟩=some (.pointer (if pre= [] then none else some ⟨sb,0,none⟩))/\W.frozen? ⟨w0.heap.size,0,none⟩=false)/\Below w0.heap.size w0 W)
  (fun _ _ _=>False)
  (OwnFrom.and (Own.from (fun s A B row hs hg hr=>⟨cell_kept hs.1 hg hr,(frozen_kept hs.1 hg hr).trans hs.2⟩) _) (ownFrom_below (Nat.le_refl _) (by simp;omega)))
  (fun _ _ _ _ _ hs _ _=>hs)
  ⟨⟨cell_kept hs.1 (World.grownBy_alloc _ _ none) (fun r e=>by cases e),(frozen_kept hs.1 (World.grownBy_alloc _ _ none) (fun r e=>by cases e)).trans hs.2⟩,hB0⟩
  (fun _=> {tmps:= #[.pointer none,.slice none 0 0,.slice none 0 0,.pointer (some ⟨tb,0,none⟩),.pointer rp,.bool true,undef,undef,undef,undef,undef,undef,.pointer none,.int .i64 m,.iface 144 (.pointer (some ⟨sb,0,none⟩)),.pointer (some ⟨w0.heap.size,0,none⟩),.iface 144 (.pointer (some ⟨sb,0,none⟩)),undef,undef,.bool true,.pointer (some ⟨tb,0,none⟩),.int .i64 m,.int .i64 m,.bool false,undef,.pointer (some ⟨tb,0,none⟩),.int .i64 m,.int .i64 (m - 1:Nat),.pointer (some ⟨vb,0,none⟩),.pointer (some ⟨vb,0,none⟩),.pointer (some ⟨vb,0,none⟩),.pointer (some ⟨vb,3,none⟩),.iface 144 (.pointer (some ⟨sb,0,none⟩)),.iface 144 (.pointer (some ⟨sb,0,none⟩)),.func (.func 153) #[] #[.pointer (some ⟨w0.heap.size + 1,0,none⟩)],.iface 144 (.pointer (some ⟨sb,0,none⟩)),.iface 144 (.pointer (some ⟨sb,0,none⟩)),undef,undef,undef,undef,undef,undef,undef,undef,undef,undef,undef,undef,undef,undef,undef,undef,undef,undef,undef,undef,undef,undef,undef,undef,undef,undef,undef,undef,undef,undef,undef,undef,undef,undef,undef,undef],defers:= []}) ?assign ?body ?done ?stop
 case assign=>
  intro l x W K hK
  gi_wp2
  exact hK
 case body=>
  rintro l pre x W ⟨⟨hc,hf⟩,hB⟩ hlen;have hp:pre= []:=List.eq_nil_of_length_eq_zero (by omega);subst hp;rw [if_pos rfl] at hc;have szW:=World.block_lt_of_cell? _ _ hc;dsimp only at szW;have hE:=eq_nil;have hE1:=eq_nil144;have A:=zD p144;have M:=fun w=>yJ m144 551 (.pointer (some ⟨sb,0,none⟩)) w
  gi_wp2_with (first | (refine ⟨trivial,?_⟩;gi_at_call 121;refine (CallsIn.inRound l (callsIn_wide.2 (isString_slice _ _))).mono ?_;rintro e w' ⟨rfl,rfl⟩) | (refine ⟨trivial,?_⟩;gi_at_call 293;refine (CallsIn.inRound l (callsIn_wide.2 (underlying_slice _ _))).mono ?_;rintro e w' ⟨rfl,rfl⟩))
  exact ⟨KeepsOthers.setCell _ _ _,trivial,⟨by rw [if_neg (by simp)];exact World.cell?_setCell_same' _ _ _ (by rw [hc];rfl),by rw [World.frozen?_setCell];exact hf⟩,hB.setCell (p:=⟨w0.heap.size,0,none⟩) (Nat.le_refl _) _⟩
 case done=>
  rintro D ys W hD rfl ⟨⟨hc,hf⟩,hB⟩ hK;have hE2:=eq_nil144s;have hbW:=heap_alloc_new W (.cells (sigCells (.pointer (some ⟨tb,0,none⟩)) (.pointer rp) true) 136);have hbB:=hB.alloc hB.size (.cells (sigCells (.pointer (some ⟨tb,0,none⟩)) (.pointer rp) true) 136);have hlD:D < W.heap.size:=zF hK;unfold sigCells at hbW hbB
  gi_wp2
  have hK':(W.alloc (.cells #[.pointer none,.pointer none,.pointer (some ⟨tb,0,none⟩),.pointer rp,.bool true] 136)).heap[D]?=some (.deferred (some [])):=(Below.heap_alloc _ _ _ hlD).trans hK;refine ⟨by simp,.inl ⟨_,_,rfl,run_takeDeferred hK',?_⟩⟩;refine ⟨_,results_tmp rfl _ _ _,_,rfl,?_,Fr.of_below (hbB.trans (belowK_b (w:=w0) (Nat.le_refl _) _ D _ _ (by simp at hD;omega) hK' rfl rfl)) _,hB.size⟩;rw [World.putObj_heap_other (by omega)]
  exact hbW
 case stop=>
  rintro D c pre W _ _ h _;exact h.elim
end Go.Proofs.YtpekidjfbinekaaGreatDoor
namespace Go.Proofs.YtpekidjfbinekaaGreatDoor
open Go.RowKit Uni
theorem Laid.facts {w w':World}{c:Array Value}{t:TypeId}(h:w'=w.alloc (.cells c t)):w'.heap[w.heap.size]?=some (.cells c t (0,0))/\Fr (fun _=>False) w w'/\w'.heap.size=w.heap.size + 1:=by
 subst h;exact ⟨heap_alloc_new w _,(Fr.refl _ w).alloc _,by simp⟩
theorem newInstance_any (w:World)(a o:Nat)(p pk nm t3:Value)(c0 c2 c3 c4 c5 c6 c7 c8 c9 c10:Value)(la:Option Addr)(n c:Nat)(ty:TypeId)(pv:Value)(h283: ¬ty=283)(h106: ¬ty=106)(hn:0 < n)
 (ha:w.heap[a]?=some (.cells #[c0,.pointer (some ⟨o,0,none⟩),c2,c3,c4,c5,c6,c7,c8,c9,c10] 171 (0,0))) (pb:Nat) (hpk:pk= .pointer (some ⟨pb,0,none⟩)) (ps:Int) (hp:p= .int .i64 ps) (ns:ByteArray) (hnm:nm= .string ns)
 (ho:w.heap[o]?=some (.cells #[p,pk,nm,t3] 194 (0,0))):
 Calls Tryz.prog 88 #[.pointer (some ⟨a,0,none⟩),.slice la n c,.iface ty pv] w fun e w'=> ∃b ib lb k0 k1 k2 k4 k5 k9 k10,e= .returned (.pointer (some ⟨b,0,none⟩))/\Fr (fun _=>False) w w'/\
  w'.heap[b]?=some (.cells #[k0,k1,k2,.pointer (some ⟨ib,0,none⟩),k4,k5,.int .u32 15,.iface ty pv,.iface ty pv,k9,k10] 171 (0,0))/\w'.heap[ib]?=some (.cells #[.pointer (some ⟨a,0,none⟩),.pointer (some ⟨lb,0,none⟩)] 238 (0,0))/\
  w'.heap[lb]?=some (.cells #[.slice la n c] 282 (0,0))/\w.heap.size<=b/\w.heap.size<=ib/\w.heap.size<=lb:=by
 subst hpk hp hnm;have qa:=zA ha;have qo:=zA ho;have sza:=zF ha;have szo:=zF ho;clear ha ho;go_enter Tryz.func88,Tryz.ntmps88;go_wp2_with fail
 refine zP 24 (by kernel_rfl) ?_;simp only [List.take_succ_cons,List.take_zero,List.drop_succ_cons,List.drop_zero]
 repeat still_step
 refine wpStill_nil ?_;go_wp2_with fail
 refine (newTypeName_any _ _ _ _).mono ?_;rintro e w1 ⟨rfl,hw1⟩;obtain ⟨b1,f1,s1⟩:=Laid.facts hw1;have DS:w.drew.heap.size=w.heap.size:=rfl;rw [DS] at b1 s1 ⊢;have B1:=hid b1;have F1:=hid ((Fr.refl (fun _=>False) w).drew.trans f1);have SZ:w.heap.size < w1.heap.size:=by omega
 have HS:=hid s1;clear qa qo hw1 b1 f1 s1 DS;go_wp2_with fail
 refine (newTypeList_some _ la n c hn).mono ?_;rintro e w2 ⟨rfl,hw2⟩;obtain ⟨b2,f2,s2⟩:=Laid.facts hw2;have B2:=hid b2;have F2:=hid f2;have S2:=hid s2;clear hw2 b2 f2 s2;have ob:=F2.out.heap id B1.out;have q:=zA ob;have f:=zC ob;have SZ2:w.heap.size < w2.heap.size:=by have:=S2.out;omega
 have OB:=hid ob;clear ob;go_wp2_with fail
 generalize hW3:World.setCell w2 _ _=W3;have S3:W3.heap.size=w2.heap.size:=by rw [<-hW3];simp [World.setCell]
 have F3:Fr (fun b=>b=w.heap.size) w2 W3:=by rw [<-hW3];exact (Fr.refl (fun b=>b=w.heap.size) w2).setCell (p:=⟨w.heap.size,3,none⟩) (.inl rfl) _
 generalize hW4:World.alloc W3 _=W4;obtain ⟨b4,f4,s4⟩:=Laid.facts hW4.symm;generalize hW5:World.alloc W4 _=W5;obtain ⟨b5,f5,s5⟩:=Laid.facts hW5.symm;rw [s4,S3] at b5;rw [S3] at b4;refine (setUnderlying_any W5 (w2.heap.size + 1) _ _ _ _ _ _ _ _ _ ty pv h283 h106 b5).mono ?_;rintro e w6 ⟨rfl,b6,f6,s6⟩;have h1:=S2.out;have hl:w6.heap[w1.heap.size]?=some (.cells #[.slice la n c] 282 (0,0)):=f6.heap (by omega) (f5.heap id (f4.heap id (F3.heap (by omega) B2.out)))
 have hi:w6.heap[w2.heap.size]?=some (.cells #[.pointer (some ⟨a,0,none⟩),.pointer (some ⟨w1.heap.size,0,none⟩)] 238 (0,0)):=f6.heap (by omega) (f5.heap id b4);have hf:Fr (fun _=>False) w w6:=by
  have g2:=F1.out.trans F2.out;have g3:=g2.transNew F3 (fun x hx=> .inr (by omega));have g5:=(g3.trans f4).trans f5;exact g5.transNew f6 (fun x hx=> .inr (by omega))
 have B6:=hid b6;have HL:=hid hl;have HI:=hid hi;have HF:=hid hf;have LB:=hid (show w.heap.size<=w2.heap.size + 1/\w.heap.size<=w2.heap.size/\w.heap.size<=w1.heap.size by omega);clear h1 b6 hl hi hf f6 s6 hW3 hW4 hW5 b4 b5 f4 f5 F3 q f;go_wp2;go_ret;exact ⟨_,_,_,_,_,_,_,_,_,_,rfl,HF.out,B6.out,HI.out,HL.out,LB.out.1,LB.out.2.1,LB.out.2.2⟩
end Go.Proofs.YtpekidjfbinekaaGreatDoor
