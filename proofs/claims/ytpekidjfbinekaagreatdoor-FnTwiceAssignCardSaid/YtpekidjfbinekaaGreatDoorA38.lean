/- I9, R3, J8 -/
import Derived.Test.YtpekidjfbinekaaGreatDoorA37
set_option maxRecDepth 100000
set_option maxHeartbeats 60000000
set_option linter.all false
namespace Go.Proofs.YtpekidjfbinekaaGreatDoor
open Go.RowKit Uni
theorem Fr.set7 {M:Nat->Prop}{a w:World}(h:Fr M a w){b:Nat}(hb:M b\/a.heap.size<=b)(v0 v1 v2 v3 v4 v5 v6:Value):
 Fr M a (((((((w.setCell ⟨b,0,none⟩ v0).setCell ⟨b,1,none⟩ v1).setCell ⟨b,2,none⟩ v2).setCell ⟨b,3,none⟩ v3).setCell ⟨b,4,none⟩ v4).setCell ⟨b,5,none⟩ v5).setCell ⟨b,6,none⟩ v6):=
 (h.set6 hb v0 v1 v2 v3 v4 v5).setCell hb v6
theorem heap_set7 {w:World}{b:Nat}{u0 u1 u2 u3 u4 u5 u6:Value}{t:TypeId}{fr:Nat × Nat}(h:w.heap[b]?=some (.cells #[u0,u1,u2,u3,u4,u5,u6] t fr))(v0 v1 v2 v3 v4 v5 v6:Value):
 ((((((((w.setCell ⟨b,0,none⟩ v0).setCell ⟨b,1,none⟩ v1).setCell ⟨b,2,none⟩ v2).setCell ⟨b,3,none⟩ v3).setCell ⟨b,4,none⟩ v4).setCell ⟨b,5,none⟩ v5).setCell ⟨b,6,none⟩ v6)).heap[b]?=some (.cells #[v0,v1,v2,v3,v4,v5,v6] t fr):=by
 have h0:=heap_setCell (a:=⟨b,0,none⟩) (v:=v0) h rfl;have h1:=heap_setCell (a:=⟨b,1,none⟩) (v:=v1) h0 rfl;have h2:=heap_setCell (a:=⟨b,2,none⟩) (v:=v2) h1 rfl;have h3:=heap_setCell (a:=⟨b,3,none⟩) (v:=v3) h2 rfl;have h4:=heap_setCell (a:=⟨b,4,none⟩) (v:=v4) h3 rfl;have h5:=heap_setCell (a:=⟨b,5,none⟩) (v:=v5) h4 rfl;have h6:=heap_setCell (a:=⟨b,6,none⟩) (v:=v6) h5 rfl;simpa using h6
theorem wpList_store7 {ops:Array Oper}{rest:List Oper}{o:Oper}{a:Act}{w:World}{Q:Exit->Act->World->Prop}(hgd:o.guard=none)(x v:Operand)(ho:o.op= .store 56 x v)(hd:o.dst=none)(b:Nat)(p:Int)(y:TyV){u0 u1 u2 u3 u4 u5 u6:Value}
 (hx:a.eval x= .pointer (some ⟨b,0,none⟩)) (hv:a.eval v= .agg #[.int .i64 p,.int .i64 y.k,.int .i64 y.n,.int .i64 y.c,.bool y.v,.slice y.a y.len y.cap,.string y.nm])
 (hb:w.heap[b]?=some (.cells #[u0,u1,u2,u3,u4,u5,u6] 56 (0,0)))
 (h: ∀W,W.heap[b]?=some (.cells #[.int .i64 p,.int .i64 y.k,.int .i64 y.n,.int .i64 y.c,.bool y.v,.slice y.a y.len y.cap,.string y.nm] 56 (0,0))->Fr (fun c=>c=b) w W->wpList Tryz.prog ops Q rest a W):wpList Tryz.prog ops Q (o::rest) a w:=by
 have H:=h _ (heap_set7 hb (.int .i64 p) (.int .i64 y.k) (.int .i64 y.n) (.int .i64 y.c) (.bool y.v) (.slice y.a y.len y.cap) (.string y.nm)) ((Fr.refl (fun c=>c=b) w).set7 (b:=b) (.inl rfl) _ _ _ _ _ _ _);have q0:w.cell? ⟨b,0,none⟩=some u0:=zA hb 0;have q1:w.cell? ⟨b,1,none⟩=some u1:=zA hb 1;have q2:w.cell? ⟨b,2,none⟩=some u2:=zA hb 2;have q3:w.cell? ⟨b,3,none⟩=some u3:=zA hb 3;have q4:w.cell? ⟨b,4,none⟩=some u4:=zA hb 4
 have q5:w.cell? ⟨b,5,none⟩=some u5:=zA hb 5;have q6:w.cell? ⟨b,6,none⟩=some u6:=zA hb 6;have f:=fun i=>zC hb i
 refine wpList_plain hgd fun K hK=> ?_
 have H':=hK _ _ H;clear H h hb hK;obtain ⟨dst,op,type,pos,after,guard⟩:=o;dsimp only at ho hd hgd;subst ho hd hgd;unfold Oper.wp execOp;simp only [hx,hv];simp [go_sem,q0,q1,q2,q3,q4,q5,q6,f];exact H'
def UvOk (uv:Value):Prop:=uv= .nilIface\/ ∃ty pv,uv= .iface ty pv/\ ¬ty=283/\ ¬ty=106
theorem newNamed61_uv (w:World)(o:Nat)(p pk nm uv:Value)(hu:UvOk uv)(ho:w.heap[o]?=some (.cells #[p,pk,nm,.nilIface] 194 (0,0))):
 Calls Tryz.prog 61 #[.pointer (some ⟨o,0,none⟩),uv,.slice none 0 0] w fun e w'=> ∃c2 c6,NamedPost w o p pk nm #[.pointer none,.pointer (some ⟨o,0,none⟩),c2,.pointer none,.int .i32 0,.int .u32 0,c6,uv,uv,.bool false,.slice none 0 0] e w'/\(uv≠ .nilIface->c6= .int .u32 15):=by
 rcases hu with rfl | ⟨ty,pv,rfl,h1,h2⟩
 ·exact (newNamed61_nil w o p pk nm ho).mono fun e w' h=>⟨_,_,h,fun h=>absurd rfl h⟩
 ·exact (newNamed61_any w o p pk nm ty pv h1 h2 ho).mono fun e w' h=>⟨_,_,h,fun _=>rfl⟩
theorem build_any {D:zE}{ar:Nat->Nat}(w:World)(da:Option Addr)(dl dc n:Nat)(hd:DRep w F0 da dl D ar)(hn:n<=8)(ht:TabOk w)(hG: ∀i,i < dl->Uni.Good i ar (D i))(hK: ∀i,i < dl-> ∃f bs,D i= .node f bs/\(f.kind=0\/4<=f.kind)):
 Calls Tryz.prog 36 #[.slice da dl dc,.int .i64 n] w fun e w'=>e= .returned (.pointer (some ⟨w.heap.size + 1,0,none⟩))/\ ∃tpo o tps nms obs,Dcs w w' da dl dc n D ar tpo o tps nms obs dl:=by
 obtain ⟨i0,hi0,hz0,hz1,hz2⟩:=info_parts info95b;obtain ⟨i1,hi1,hy0,hy1,hy2⟩:=info_parts info106b;have HD:=hid hd;have HT:=hid ht;have HG:=hid hG;have HK:=hid hK;clear hd ht hG hK;have hn0:(0:Int)<=n:=by omega
 go_enter Tryz.func36,Tryz.ntmps36;go_wp2_with fail
 refine (newPackage_any _ _ _).mono ?_;rintro e w1 ⟨rfl,hw1⟩;obtain ⟨b1,f1,s1⟩:=Laid.facts hw1;have B1:=hid b1;have F1:=hid f1;clear hw1 b1 f1;go_wp2_with fail
 have T0:=hid (show Tps w (w1.alloc (.cells #[.slice da dl dc,.pointer (some ⟨w.heap.size,0,none⟩),.slice none 0 0,.slice none 0 0] 94)) (.slice da dl dc) (.slice none 0 0) 0 [] from by
  have f2:Fr F0 w1 (w1.alloc (.cells #[.slice da dl dc,.pointer (some ⟨w.heap.size,0,none⟩),.slice none 0 0,.slice none 0 0] 94)):=(Fr.refl _ w1).alloc _;refine ⟨F1.out.trans f2,by simp;omega,?_,f2.heap id B1.out,PRow.start _ _ _,fun b h=>by cases h⟩;rw [<-s1];exact heap_alloc_new w1 _)
 go_loopw [14] (fun i wr=> ∃(j:Nat) (o:Value) (bs:List Nat),j<=n/\i= .int .i64 j/\Tps w wr (.slice da dl dc) o j bs) (fun i _=>n - (intOf i).toNat)
 case atStart=>exact ⟨0,_,[],Nat.zero_le _,rfl,T0.out⟩
 case round=>
  obtain ⟨WX,rfl⟩: ∃WX:World,WX=wr:=⟨wr,rfl⟩;obtain ⟨j,ow,bs,hj,rfl,hT⟩:=hrel;have TX:=hid hT;clear hT;by_cases hlt:j < n
  ·have hle:(j:Int) < n:=by omega
   have nB: ¬ow.ownBlock=some (w.heap.size + 1):=fun h=>by have h1:=(World.ownsRow.lt TX.out.r.own _ h).1;omega
   have NB:=hid nB;clear nB;have qb:=zA TX.out.b;have sb:=zF TX.out.b;go_wp2_with fail
   refine zG (Fr (fun b=>ow.ownBlock=some b) WX) [(0,true),(1,true),(2,true),(3,true),(4,true),(5,true),(6,false),(7,false),(8,false),(9,false),(10,false),(11,false),(12,false),(13,false),(14,false),(15,false)] [13,14,15] yE (by kernel_rfl) (by kernel_rfl) (by kernel_rfl) (by decide) ?_;clear qb sb
   iterate 6
    (refine zH _ rfl (Fr.refl _ _).drew (fun w' hS=>by
     have q0:=zA (hS.heap NB.out TX.out.b);have s0:=zF (hS.heap NB.out TX.out.b);clear hS;go_simp;rfl) ?_)
   go_simp;refine zB rfl ?_;have F0D:=hid ((Fr.refl F0 WX).drew);go_wp2_with fail
   refine (name57_any (E:= {n:=0,tp:=fun _=>⟨0,0,none⟩,nd:=0,nm:=fun _=>0,ob:=fun _=>0,D:=D,pk:= .pointer (some ⟨w.heap.size,0,none⟩),A:=F0}) _ _ _ _ _ _ rfl (F0D.out.heap id TX.out.b)).mono ?_;rintro e w2 ⟨rfl,hw2⟩;obtain ⟨b2,f2,s2⟩:=Laid.facts hw2;have DS:WX.drew.heap.size=WX.heap.size:=rfl;rw [DS] at b2 s2;have B2:=hid b2;have F2:=hid (F0D.out.trans f2);have S2:=hid s2;clear hw2 b2 f2 s2 DS;go_wp2
   refine And.intro (fun _=>F2.out.sub) ?_;refine zB rfl ?_;go_wp2_with fail
   refine (newInterfaceType_nil _).mono ?_;rintro e w3 ⟨ib,sb,rfl,b3,f3⟩;have B3:=hid b3;have F3:=hid (F2.out.trans f3);have O3:=hid (f3.heap id B2.out);clear b3 f3;go_wp2;refine And.intro (fun _=>F3.out.sub) ?_;refine zB rfl ?_;go_wp2_with fail
   refine (complete_any _ _ _ B3.out).mono ?_;rintro e w4 ⟨rfl,rfl⟩;go_wp2;refine And.intro (fun _=>F3.out.sub) ?_;refine zB rfl ?_;go_wp2;refine And.intro (fun _=>F3.out.sub) ?_;refine zB rfl ?_;go_wp2_with fail
   refine (newTypeParam_any _ WX.heap.size ib sb _ _ _ O3.out B3.out).mono ?_;rintro e w5 ⟨rfl,⟨c5,b5⟩,f5⟩;have SZ4:=hid (show WX.heap.size < w4.heap.size from zF O3.out);have B5:=hid b5;have F5:=hid (F3.out.transNew f5 (fun x hx=> .inr (by subst hx;exact Nat.le_refl _)));clear b5 f5;go_wp2;refine And.intro (fun _=>F5.out.sub) ?_;refine zB rfl ?_;go_wp2;refine And.intro (fun _=>F5.out.sub.alloc _) ?_
   refine zB rfl ?_;have OA:=hid ((TX.out.r.keep F5.out (fun _ _ h=>h)).own.alloc (.cells #[.pointer (some ⟨w4.heap.size,0,none⟩)] 95));have N63:=hid (show j + 1<=maxLen by unfold maxLen;omega);have N72:=hid (show (j + 1) * 8<=140737488355328 by omega);have SZ5:=hid (show w4.heap.size < w5.heap.size from zF B5.out);have SZ2:=hid (show w.heap.size + 2<=(w5.alloc (.cells #[.pointer (some ⟨w4.heap.size,0,none⟩)] 95)).heap.size by have h1:=TX.out.sz;have h2:=F5.out.size;simp;omega)
   refine wpList_append_lies _ rfl _ _ 92 rfl (w.heap.size + 2) 95 i0 _ 1 8 under92b hi0 hz0 hz1 hz2 rfl (by omega) ow j _ (by rfl) OA.out ⟨w5.heap.size,0,none⟩ 1 1 [.pointer (some ⟨w4.heap.size,0,none⟩)] (by rfl) (by rfl) (World.news_of_block (cs:= #[.pointer (some ⟨w4.heap.size,0,none⟩)]) (t:=95) (fr:=(0,0)) (heap_alloc_new w5 _)) (by simp [Value.oneCell']) (by omega) N63.out N72.out SZ2.out (w5.heap.size + 1) (by simp) ?_
   intro g cap w6 hown6 hgrow hg1 hg2;have F56:Fr (fun b=>ow.ownBlock=some b) w5 w6:=(Fr.alloc (Fr.refl _ w5) _).trans (Fr.of_grown hgrow);have F6:=hid (F5.out.sub.trans F56);have R6:=hid (PRow.next (b:=w4.heap.size) TX.out.r TX.out.sz (Nat.le_of_lt SZ4.out) SZ5.out F56.size hown6);have BB6:=hid (F6.out.heap NB.out TX.out.b);have nP: ¬ow.ownBlock=some w.heap.size:=fun h=>by have h1:=(World.ownsRow.lt TX.out.r.own _ h).1;omega
   have P6:=hid (F6.out.heap nP TX.out.p)
   have C6:=hid (show ∀b∈bs ++ [w4.heap.size],∃c,w6.heap[b]?=some (.cells c 192 (0,0)) from by
    have hne: ∀ {x:Nat} {c:Array Value},w5.heap[x]?=some (.cells c 192 (0,0))→ ¬ow.ownBlock=some x:=fun {x c} hx ho=>by
     rcases (wB (TX.out.r.keep F5.out (fun _ _ h=>h)).own).2 with ⟨_,rfl⟩ | ⟨g',_,rfl,_,_,_,⟨cs,hcs⟩,_⟩
     ·cases ho
     ·cases ho
      rw [hcs] at hx;cases hx
    intro b hb;rcases List.mem_append.1 hb with hb | hb
    ·obtain ⟨c,hc⟩:=TX.out.c b hb
     have hc5:=F5.out.heap id hc;exact ⟨c,F56.heap (hne hc5) hc5⟩
    ·have:b=w4.heap.size:=by simpa using hb
     subst this;exact ⟨c5,F56.heap (hne B5.out) B5.out⟩)
   have OW:=hid (World.ownsRow.lt TX.out.r.own);have GN:=hid (World.ownsRow.lt hown6);clear F56 hown6 hgrow hg1 hg2 nP;go_wp2;refine And.intro (fun _=>F6.out) ?_;refine zB rfl ?_;go_wp2;refine And.intro (fun h=>absurd h (by decide)) ?_;refine zB rfl ?_;go_wp2;refine And.intro (fun h=>absurd h (by decide)) ?_;refine zB rfl ?_;have q3:=zA BB6.out;have f3:=zC BB6.out;have s3:=zF BB6.out;go_wp2;refine And.intro (fun h=>absurd h (by decide)) ?_
   refine zO (NoPanic.normal ?_);clear q3 f3 s3;go_wp2;have FC:Fr (fun b=>b=w.heap.size + 1) w6 (w6.setCell ⟨w.heap.size + 1,3,none⟩ (.slice (some ⟨g,0,none⟩) (j + 1) cap)):=(Fr.refl (fun b=>b=w.heap.size + 1) w6).setCell (p:=⟨w.heap.size + 1,3,none⟩) (.inl rfl) _
   have T1:=hid (show Tps w (w6.setCell ⟨w.heap.size + 1,3,none⟩ (.slice (some ⟨g,0,none⟩) (j + 1) cap)) (.slice da dl dc) (.slice (some ⟨g,0,none⟩) (j + 1) cap) (j + 1) (bs ++ [w4.heap.size]) from by
    have h1:=TX.out.sz;have h2:=(F6.out).size;refine ⟨?_,by have:=FC.size;omega,heap_setCell (a:=⟨w.heap.size + 1,3,none⟩) BB6.out rfl,FC.heap (by omega) P6.out,R6.out.keep FC (fun g' hg' he=> ?_),fun b hb=> ?_⟩
    ·exact ((TX.out.f.transNew F6.out (fun b hb=> .inr (by have:=(OW.out b hb).1;omega))).transNew FC (fun x hx=> .inr (by omega)))
    ·have:=(GN.out g' hg').1
     omega
    ·obtain ⟨c,hc⟩:=C6.out b hb
     have:=(R6.out.lt b hb).1;exact ⟨c,FC.heap (by omega) hc⟩)
   clear FC;go_roundw
   case rel=>exact ⟨j + 1,_,_,by omega,by go_num,T1.out⟩
   case measure=>simp [intOf];omega
  ·have hjn:j=n:=by omega
   subst hjn;have hle: ¬(j:Int) < j:=by omega
   go_wp2_with fail
   have D0:=hid (show Dcs w WX da dl dc j D ar ow (.slice none 0 0) bs [] [] 0 from ⟨TX.out.f,TX.out.b,TX.out.p,TX.out.r,TX.out.c,PRow.start _ _ _,rfl,List.nodup_nil,fun b h=>(by cases h),fun k a b h=>by simp at h,fun k a h=>by simp at h⟩);go_loopw [34] (fun i wr=> ∃(k:Nat) (o:Value) (nms obs:List Nat),k<=dl/\i= .int .i64 k/\Dcs w wr da dl dc j D ar ow o bs nms obs k) (fun i _=>dl - (intOf i).toNat)
   case atStart=>exact ⟨0,_,[],[],Nat.zero_le _,rfl,D0.out⟩
   case round=>
    obtain ⟨WY,rfl⟩: ∃WY:World,WY=wr:=⟨wr,rfl⟩;obtain ⟨k,o,nms,obs,hk,rfl,hC⟩:=hrel;have CX:=hid hC;have hk16:dl<=16:=HD.out.n16;clear hC;by_cases hlt2:k < dl
    ·have hle2:(k:Int) < dl:=by omega
     obtain ⟨db,doff,rfl,_,hdd⟩:=HD.out.row.resolve_left (by omega);obtain ⟨hd0,y,hy6,hyr⟩:=hdd k hlt2;have d0:=CX.out.f.cell id hd0;obtain ⟨a0,a1,a2,a3,a4,a5⟩:=hy6.keep CX.out.f id;have hb1:db < WY.heap.size:=World.block_lt_of_cell? _ _ d0;have YR:=hid (hyr.keep CX.out.f);clear hdd hd0 hy6 hyr;go_wp2_with (refine wpList_store7 rfl _ _ rfl rfl WY.heap.size (ar k) y rfl rfl (heap_alloc_new WY _) ?_)
     intro W1 hb hf;have FW1:=hid (((Fr.refl F0 WY).alloc (.cells #[.int .i64 0,.int .i64 0,.int .i64 0,.int .i64 0,.bool false,.slice none 0 0,.string ⟨#[]⟩] 56)).transNew hf (fun x hx=> .inr (by omega)));have q:=zA hb;have sz:WY.heap.size < W1.heap.size:=zF hb;have HBB:=hid ((CX.out.benv HT.out HD.out hn).keep FW1.out);clear hb hf a0 a1 a2 a3 a4 a5 hb1 d0;have UV:ar k=0\/ ¬ar k=0:=by omega
     obtain ⟨g,ws,hDk,hgk⟩:=HK.out k hlt2;have hown:(D k).own []= .node g (ws.map (Tm.own [])):=by rw [hDk,Tm.own_node,if_neg (by omega)]
     have OWN:=hid hown;have GK:=hid (show g.kind≠1 by omega);have SZ1:=hid sz;clear hDk hown hgk;rcases UV with ha | ha;have har:((ar k:Int)==0)=true:=by simp [ha]
     go_wp2_with fail
     refine (typ60_any (E:=mkE j (.pointer (some ⟨w.heap.size,0,none⟩)) D bs nms obs F0) (bb:=w.heap.size + 1) (da:=some ⟨db,doff,none⟩) (dl:=dl) (dc:=dc) (ar:=ar) (by have:=CX.out.nm.len;show nms.length<=dl;omega) HG.out HK.out k (by have:=CX.out.nm.len;show k<=nms.length;omega) (D k) (DA w.heap.size o) W1 y none 0 0 [] [] (HG.out k hlt2) ((HD.out.noVar k hlt2).mono' (Nat.zero_le _)) (by have:=HD.out.own k hlt2;rw [ha] at this;exact this) HBB.out (YR.out.keep FW1.out) ⟨rfl,rfl,.inl rfl,fun i v t h=>(by simp at h),⟨Nat.le_refl _,Nat.zero_le _⟩,fun _=>⟨rfl,rfl⟩⟩).mono ?_
     rintro e W2 ⟨ty,pv,rfl,hp,hf2⟩;rw [OWN.out] at hp;obtain ⟨ty',pv',mf,he,hen,hm,h283,h106,hcall⟩:=under_any hp GK.out;injection he with he1 he2
     subst he1 he2;have P2:=hid hp;have F2:=hid (FW1.out.trans hf2);have UC:=hid hcall;have M:=fun w=>yJ hm 551 pv w
     clear hp hf2 hcall;go_wp2_with fail
     refine (UC.out _).mono ?_;rintro e w3 ⟨rfl,rfl⟩;clear M hen hm q sz;go_wp2_with fail
     obtain ⟨W3,rfl⟩: ∃W3:World,W3=w3:=⟨_,rfl⟩;have DP:=hid (show ar k=0->(Value.iface ty pv)≠ .nilIface/\PT W3 (mkE j (.pointer (some ⟨w.heap.size,0,none⟩)) D bs nms obs (DA w.heap.size o)) (.iface ty pv) ((D k).own []) from fun _=>⟨by simp,by rw [OWN.out];exact P2.out⟩);have UU:=hid (show UvOk (.iface ty pv) from .inr ⟨_,_,rfl,h283,h106⟩);clear P2 UC har ha
     rotate_left;have har:((ar k:Int)==0)=false:=by simp;omega
     go_wp2_with fail
     obtain ⟨W3,rfl⟩: ∃W3:World,W3=W1:=⟨_,rfl⟩;have DP:=hid (show ar k=0->Value.nilIface≠ .nilIface/\PT W3 (mkE j (.pointer (some ⟨w.heap.size,0,none⟩)) D bs nms obs (DA w.heap.size o)) .nilIface ((D k).own []) from fun h=>absurd h ha);have UU:=hid (show UvOk .nilIface from .inl rfl);have F2:=FW1;clear har ha q sz
     all_goals
      have nB: ¬o.ownBlock=some (w.heap.size + 1):=fun h=>by have h1:=(World.ownsRow.lt CX.out.nm.own _ h).1;omega
      have NB:=hid nB;clear nB;have B3:=hid (F2.out.heap id CX.out.b);refine zG (Fr (fun b=>o.ownBlock=some b) W3) [(0,true),(1,true),(2,true),(3,true),(4,true),(5,true),(7,true),(6,false),(8,false),(9,false),(10,false),(11,false),(12,false),(13,false)] [11,12,13] yE (by kernel_rfl) (by kernel_rfl) (by kernel_rfl) (by decide) ?_
      iterate 7
       (refine zH _ rfl (Fr.refl _ _).drew (fun w' hS=>by
        have q0:=zA (hS.heap NB.out B3.out);have s0:=zF (hS.heap NB.out B3.out);clear hS;go_simp;rfl) ?_)
      go_simp;refine zB rfl ?_;have F0D:=hid ((Fr.refl F0 W3).drew);go_wp2_with fail
      refine (name57_any (E:= {n:=0,tp:=fun _=>⟨0,0,none⟩,nd:=0,nm:=fun _=>0,ob:=fun _=>0,D:=D,pk:= .pointer (some ⟨w.heap.size,0,none⟩),A:=F0}) _ _ _ _ _ _ rfl (F0D.out.heap id B3.out)).mono ?_;rintro e w4 ⟨rfl,hw4⟩;obtain ⟨b4,f4,s4⟩:=Laid.facts hw4;have DS:W3.drew.heap.size=W3.heap.size:=rfl;rw [DS] at b4 s4;have B4:=hid b4;have F4:=hid (F0D.out.trans f4);have S4:=hid s4;clear hw4 b4 f4 s4 DS;go_wp2
      refine And.intro (fun _=>F4.out.sub) ?_;refine zB rfl ?_;go_wp2_with fail
      refine (newNamed61_uv w4 W3.heap.size _ _ _ _ UU.out B4.out).mono ?_;rintro e w5 ⟨c2,c6,⟨rfl,h5,h6,h7,h8⟩,h9⟩;have N5:=hid h5;have O5:=hid h6;have C6:=hid h9;have F5:=hid (F4.out.transNew h7 (fun x hx=> .inr (by subst hx;exact Nat.le_refl _)));clear h5 h6 h7 h8 h9;go_wp2;refine And.intro (fun _=>F5.out.sub) ?_;refine zB rfl ?_;go_wp2;refine And.intro (fun _=>F5.out.sub.alloc _) ?_;refine zB rfl ?_
      have OA:=hid ((CX.out.nm.keep (F2.out.trans F5.out) (fun _ _ h=>h)).own.alloc (.cells #[.pointer (some ⟨w4.heap.size,0,none⟩)] 106));have N63:=hid (show k + 1<=maxLen by have:=HD.out.n16;unfold maxLen;omega);have N72:=hid (show (k + 1) * 8<=140737488355328 by have:=HD.out.n16;omega);have SZ0:=hid (show w.heap.size + 2<=WY.heap.size by have h1:=zF CX.out.b;omega);have SZ2:=hid (show w.heap.size + 2<=(w5.alloc (.cells #[.pointer (some ⟨w4.heap.size,0,none⟩)] 106)).heap.size by have h1:=SZ0.out;have h2:=F2.out.size;have h3:=F5.out.size;simp;omega)
      refine wpList_append_lies _ rfl _ _ 91 rfl (w.heap.size + 2) 106 i1 _ 1 8 under91b hi1 hy0 hy1 hy2 rfl (by omega) o k _ (by rfl) OA.out ⟨w5.heap.size,0,none⟩ 1 1 [.pointer (some ⟨w4.heap.size,0,none⟩)] (by rfl) (by rfl) (World.news_of_block (cs:= #[.pointer (some ⟨w4.heap.size,0,none⟩)]) (t:=106) (fr:=(0,0)) (heap_alloc_new w5 _)) (by simp [Value.oneCell']) (by omega) N63.out N72.out SZ2.out (w5.heap.size + 1) (by simp) ?_
      intro g cap w6 hown6 hgrow hg1 hg2;have F56:Fr (fun b=>o.ownBlock=some b) w5 w6:=(Fr.alloc (Fr.refl _ w5) _).trans (Fr.of_grown hgrow);have F6:=hid (F5.out.sub.trans F56);have BB6:=hid (F6.out.heap NB.out B3.out);have NEXT:=hid (Dcs.next CX.out (F2.out.trans F5.out) (nb:=w4.heap.size) (ob:=W3.heap.size) F2.out.size (Nat.le_trans F2.out.size F4.out.size) O5.out N5.out (fun ha=>⟨C6.out (DP.out ha).1,((DP.out ha).2.keep (F5.out.sub))⟩) F56 hown6 (by rcases hg1 with h | h;exact .inl h;exact .inr (by omega)) SZ0.out)
      clear F56 hown6 hgrow hg1 hg2;go_wp2;refine And.intro (fun _=>F6.out) ?_;refine zB rfl ?_;go_wp2;refine And.intro (fun h=>absurd h (by decide)) ?_;refine zB rfl ?_;go_wp2;refine And.intro (fun h=>absurd h (by decide)) ?_;refine zB rfl ?_;have q3:=zA BB6.out;have f3:=zC BB6.out;have s3:=zF BB6.out;go_wp2;refine And.intro (fun h=>absurd h (by decide)) ?_;refine zO (NoPanic.normal ?_);clear q3 f3 s3
      go_wp2;go_roundw
      case rel=>exact ⟨k + 1,_,_,_,by omega,by go_num,NEXT.out⟩
      case measure=>simp [intOf];omega
    ·have hkn:k=dl:=by omega
     subst hkn;have hle2: ¬(k:Int) < k:=by omega
     go_wp2;go_ret;exact ⟨rfl,_,_,_,_,_,CX.out⟩
end Go.Proofs.YtpekidjfbinekaaGreatDoor
section
namespace Go
section
variable {P:Program}{ops:Array Oper}{Q:Exit->Act->World->Prop}{S:World->Prop}
inductive PlanT where
 |nil
 |fl (i:Nat) (p:PlanT)
 |st (i:Nat) (p:PlanT)
 |fk (i j:Nat) (p q:PlanT)
def PlanT.floats:PlanT→List Nat
 |.nil=> []
 |.fl i p=>i::p.floats
 |.st _ p=>p.floats
 |.fk _ _ p q=>p.floats ++ q.floats
def PlanT.len:PlanT→Nat
 |.nil=>0
 |.fl _ p=>p.len + 1
 |.st _ p=>p.len + 1
 |.fk _ _ p q=>max p.len q.len + 1
def planT (P:Program)(ops:Array Oper)(Q:Exit→Act→World→Prop)(S:World→Prop)(T:Nat→Bool):PlanT→Act→World→Prop
 |.nil,a,w=>Q .normal a w
 |.fl i p,a,w=>S w/\ ∃o v,ops[i]?=some o/\YieldsIf P ops S o v a/\planT P ops Q S T p (a.put o.dst v) w
 |.st i p,a,w=>wpOp P ops Q i (fun a' w'=>(T i=true->S w')/\planT P ops Q S T p a' w') a w
 |.fk i j p q,a,w=>wpOp P ops Q i (fun a' w'=>(T i=true->S w')/\planT P ops Q S T p a' w') a w/\wpOp P ops Q j (fun a' w'=>(T j=true->S w')/\planT P ops Q S T q a' w') a w
def planTB (ops:Array Oper):PlanT→Array Bool→Bool
 |.nil,listed=>(Region.ready .any ops listed).isEmpty
 |.fl i p,listed=>(Region.ready .any ops listed).contains i && Region.free .any ops listed i && planTB ops p (listed.setIfInBounds i true)
 |.st i p,listed=>(Region.ready .any ops listed== [i]) && planTB ops p (listed.setIfInBounds i true)
 |.fk i j p q,listed=>(Region.ready .any ops listed== [i,j]) && planTB ops p (listed.setIfInBounds i true) && planTB ops q (listed.setIfInBounds j true)
def lateT (ops:Array Oper)(fl:List Nat)(late:List Nat):Bool:=lateB ops (fl.map fun i=>(i,true)) late
theorem planT_sound {T:Nat->Bool}(hs:Region.noSelect ops=true)(hQ: ∀c a a' w,Q (.panic c) a w->Q (.panic c) a' w):
 ∀(pl:PlanT) (fuel:Nat) (listed:Array Bool) (a:Act) (w:World),
  (∀i,i∈pl.floats-> ∀j oj,ops[j]?=some oj->j≠i->T j=false-> ∃e∈oj.after,Region.binds .any e=true/\e.on=i)->
  planTB ops pl listed=true->pl.len<=fuel->planT P ops Q S T pl a w->wpAnyG P .any ops Q S T fuel listed a w:=by
 intro pl
 induction pl with
 |nil=>
  intro fuel listed a w _ hB _ h;have hr:Region.ready .any ops listed= []:=by simpa [planTB] using hB
  cases fuel with
  |zero=>exact ⟨hr,h⟩
  |succ fuel=>exact ⟨fun _=>h,by rw [hr];simp⟩
 |fl i p ih=>
  intro fuel listed a w hT hB hl h
  cases fuel with
  |zero=>simp [PlanT.len] at hl
  |succ fuel=>
   simp only [planTB,Bool.and_eq_true] at hB;obtain ⟨⟨h1,h2⟩,h3⟩:=hB;obtain ⟨hS,o,v,ho,hy,hrest⟩:=h
   exact wpAnyG_first ho (Region.noSelect_spec hs) (fun c a w h=>hQ c _ _ w h) (fun j oj hj hji=>hT i (by simp [PlanT.floats]) j oj hj hji) fuel listed a w
    (Region.free_spec ho h2) (by simpa using h1) hy hS (ih fuel _ _ _ (fun i hi=>hT i (by simp [PlanT.floats,hi])) h3 (by simpa [PlanT.len] using hl) hrest)
 |st i p ih=>
  intro fuel listed a w hT hB hl h
  cases fuel with
  |zero=>simp [PlanT.len] at hl
  |succ fuel=>
   simp only [planTB,Bool.and_eq_true,beq_iff_eq] at hB;refine ⟨fun h0=>(by rw [hB.1] at h0;cases h0),fun j hj=> ?_⟩;rw [hB.1] at hj;obtain rfl:j=i:=by simpa using hj
   exact wpOp_mono (fun a' w' h'=>⟨h'.1,ih fuel _ a' w' (fun i hi=>hT i (by simpa [PlanT.floats] using hi)) hB.2 (by simpa [PlanT.len] using hl) h'.2⟩) h
 |fk i j p q ihp ihq=>
  intro fuel listed a w hT hB hl h
  cases fuel with
  |zero=>simp [PlanT.len] at hl
  |succ fuel=>
   simp only [planTB,Bool.and_eq_true,beq_iff_eq] at hB;obtain ⟨⟨h1,h2⟩,h3⟩:=hB;have hl':max p.len q.len<=fuel:=by simpa [PlanT.len] using hl
   refine ⟨fun h0=>(by rw [h1] at h0;cases h0),fun k hk=> ?_⟩;rw [h1] at hk;have hk':k=i\/k=j:=by simpa using hk
   rcases hk' with rfl | rfl
   ·exact wpOp_mono (fun a' w' h'=>⟨h'.1,ihp fuel _ a' w' (fun i hi=>hT i (by simp [PlanT.floats,hi])) h2 (Nat.le_trans (Nat.le_max_left _ _) hl') h'.2⟩) h.1
   ·exact wpOp_mono (fun a' w' h'=>⟨h'.1,ihq fuel _ a' w' (fun i hi=>hT i (by simp [PlanT.floats,hi])) h3 (Nat.le_trans (Nat.le_max_right _ _) hl') h'.2⟩) h.2
theorem wp_region_planT {id:Nat}{l:List Oper}{a:Act}{w:World}(S:World->Prop)(pl:PlanT)(late:List Nat)(hm:P.follows .mixedOrders=true)
 (hs:Region.noSelect l.toArray=true) (hB:planTB l.toArray pl (Array.replicate l.toArray.size false)=true) (hL:lateT l.toArray pl.floats late=true) (hn:pl.len<=l.toArray.size)
 (h:planT P l.toArray (NoPanic Q) S (fun i=> !late.contains i) pl a w.drew):(Code.region id l.toArray true).wp P Q a w:=
 wp_region_noPanic (wp_region_any hm (wpAny_of_G _ _ _ _ (planT_sound hs (fun _ _ _ _ h=>h.elim) pl _ _ _ _ (fun i hi j oj hj hji hT=>lateB_spec hL (List.mem_map.2 ⟨i,hi,rfl⟩) j oj hj hji hT) hB hn h)))
theorem planT_nil {T:Nat->Bool}{a:Act}{w:World}(h:Q .normal a w):planT P ops Q S T .nil a w:=h
theorem planT_float {T:Nat->Bool}{i:Nat}{pl:PlanT}{a:Act}{w:World}{o:Oper}(v:Value)(ho:ops[i]?=some o)(hS:S w)
 (h1: ∀w',S w'->if Region.wanted o (yielded ops a.tmps)=true then (execOp a.eval o).run P w'= .ok (.value v) w' else v=undef)
 (h:planT P ops Q S T pl (a.put o.dst v) w):planT P ops Q S T (.fl i pl) a w:=by
 refine ⟨hS,o,v,ho,?_,h⟩;unfold YieldsIf;by_cases hwd:Region.wanted o (yielded ops a.tmps)=true
 ·exact .inl ⟨hwd,fun w' hw'=>by have:=h1 w' hw';rwa [if_pos hwd] at this⟩
 ·have:=h1 w hS
  rw [if_neg hwd] at this;exact .inr ⟨by simpa using hwd,this⟩
theorem planT_op {T:Nat->Bool}{i:Nat}{pl:PlanT}{a:Act}{w:World}{o:Oper}(ho:ops[i]?=some o)
 (h:wpList P ops (NextG (T i=true) S (planT P ops Q S T pl) Q) [o] a w):wpOp P ops Q i (fun a' w'=>(T i=true->S w')/\planT P ops Q S T pl a' w') a w:=by
 unfold wpOp;simp only [ho];unfold wpList at h
 have up: ∀(K:Act→World→Prop) (r:Result Next),o.upon P a (fun a w=>(T i=true→S w)∧K a w) (NextG (T i=true) S K Q) r→o.upon P a (fun a w=>(T i=true→S w)∧K a w) Q r:=by
  intro K r hr
  cases r with
  |ok n w'=>cases n <;>simp only [Oper.upon] at hr ⊢ <;>exact hr
  |halt x w'=>cases x <;>simp only [Oper.upon] at hr ⊢ <;>exact hr
 split
 ·rename_i hw
  rw [if_pos hw] at h;rcases h with h | ⟨h1,a0,w0,h2⟩
  ·exact .inl (up _ _ h)
  ·exact .inr ⟨h1,a0,w0,h2⟩
 ·rename_i hw
  rw [if_neg hw] at h;exact h
theorem planT_step {T:Nat->Bool}{i:Nat}{pl:PlanT}{a:Act}{w:World}{o:Oper}(ho:ops[i]?=some o)
 (h:wpList P ops (NextG (T i=true) S (planT P ops Q S T pl) Q) [o] a w):planT P ops Q S T (.st i pl) a w:=planT_op ho h
theorem planT_fork {T:Nat->Bool}{i j:Nat}{p q:PlanT}{a:Act}{w:World}{oi oj:Oper}(hi:ops[i]?=some oi)(hj:ops[j]?=some oj)
 (h1:wpList P ops (NextG (T i=true) S (planT P ops Q S T p) Q) [oi] a w) (h2:wpList P ops (NextG (T j=true) S (planT P ops Q S T q) Q) [oj] a w):planT P ops Q S T (.fk i j p q) a w:=⟨planT_op hi h1,planT_op hj h2⟩
end
end Go
end
namespace Go.Proofs.YtpekidjfbinekaaGreatDoor
open Go.RowKit Uni
def okB (oks:List Bool)(L:Nat):Bool:=decide (oks.length=L) && oks.getLastD false
def UniInf (w:World)(n:Nat)(D:zE)(m:Uni.Mode)(qs:List (Tm × Tm))(e:Ending)(w':World):Prop:=
 ∃(a:Option Addr) (c:Nat) (ls:List (Bool × TyV)) (oks:List Bool) (s':St),e= .returned (.tuple #[.slice a n c,.bool (okB oks qs.length)])∧Fr F0 w w'∧PairsR D m St.init qs oks s'∧
  ls.length=n/\InfOf w' a ls ((List.range n).map fun p=>s'.v (s'.j p))/\n<=c
structure DIn (w:World) (da:Option Addr) (dl:Nat) (D:zE) (ar:Nat→Nat) (n:Nat):Prop where
 d:DRep w F0 da dl D ar
 n8:n<=8
 tab:TabOk w
 good: ∀i,i < dl->Uni.Good i ar (D i)
 kind: ∀i,i < dl-> ∃f bs,D i= .node f bs/\(f.kind=0\/4<=f.kind)
 ok:zZ D
theorem DIn.keep {w w':World}{da:Option Addr}{dl:Nat}{D:zE}{ar:Nat->Nat}{n:Nat}(h:DIn w da dl D ar n)(f:Fr F0 w w'):DIn w' da dl D ar n:=⟨h.d.keep f,h.n8,h.tab.keep f,h.good,h.kind,h.ok⟩
theorem unify_behind {da:Option Addr}{dl dc n:Nat}{D:zE}{ar:Nat->Nat}{w w1 w2:World}{tpo o:Value}{tps nms obs:List Nat}(h:DIn w da dl D ar n)(hC:Dcs w w1 da dl dc n D ar tpo o tps nms obs dl)(f12:Fr F0 w1 w2)
 (m:Uni.Mode) (pa:Option Addr) (L pc:Nat) (ps:List (TyV × TyV)) (qs:List (Tm × Tm)) (hpa:PairsAt w2 pa ps) (hpl:ps.length=L) (hql:qs.length=L) (hL0:0 < L) (hL2:L<=2)
 (hin: ∀(i:Nat) (p:TyV × TyV) (q:Tm × Tm),ps[i]?=some p->qs[i]?=some q->TIn w2 dl ar n p.1 q.1/\TIn w2 dl ar n p.2 q.2) (hok:PairsOk D m St.init qs):
 Calls Tryz.prog 37 #[.pointer (some ⟨w.heap.size + 1,0,none⟩),.slice pa L pc,.int .i64 (zU m)] w2 (UniInf w2 n D m qs):=by
 have hB:=(hC.benv h.tab h.d h.n8).avoid (A:=F0) f12 (fun b hb=>hb.elim) (fun b hb=>hb.elim);have hl:nms.length=dl:=hC.nm.len
 exact unify37_any (E:=(mkE n (.pointer (some ⟨w.heap.size,0,none⟩)) D tps nms obs (DA w.heap.size o)).setA F0) w2 hB rfl (by show nms.length≤dl;omega) h.good h.kind h.ok m pa L pc ps qs hpa hpl hql hL0 hL2 (fun i p q h1 h2=>by
  have h3:=hin i p q h1 h2;show TIn w2 nms.length ar n p.1 q.1/\TIn w2 nms.length ar n p.2 q.2;rw [hl];exact h3) hok
theorem pairsAt_one {w:World}{b:Nat}{x y:TyV}{t:TypeId}(h:w.heap[b]?=some (.cells (arr12 x y) t (0,0))):PairsAt w (some ⟨b,0,none⟩) [(x,y)]:=by
 have q:=zA h;refine .inr ⟨b,0,rfl,fun i p hp=> ?_⟩
 cases i with
 |zero=>cases hp;exact ⟨q 0,q 1,q 2,q 3,q 4,q 5,q 6,q 7,q 8,q 9,q 10,q 11⟩
 |succ i=>simp at hp
theorem unify20_any {da:Option Addr}{dl dc n:Nat}{D:zE}{ar:Nat->Nat}(w:World)(h:DIn w da dl D ar n)(m:Uni.Mode)(x y:TyV)(s t:Tm)(hx:TIn w dl ar n x s)(hy:TIn w dl ar n y t)(hok:PairsOk D m St.init [(s,t)]):
 Calls Tryz.prog 20 #[.slice da dl dc,.int .i64 n,x.val,y.val,.int .i64 (zU m)] w (UniInf w n D m [(s,t)]):=by
 have HH:=hid h;have HX:=hid hx;have HY:=hid hy;have OKS:=hid hok;clear h hx hy hok;unfold TyV.val;go_enter Tryz.func20,Tryz.ntmps20;go_wp2_with fail
 obtain ⟨W,hW⟩: ∃W,W=(w.alloc (.cells #[.int .i64 x.k,.int .i64 x.n,.int .i64 x.c,.bool x.v,.slice x.a x.len x.cap,.string x.nm] 26)).alloc (.cells #[.int .i64 y.k,.int .i64 y.n,.int .i64 y.c,.bool y.v,.slice y.a y.len y.cap,.string y.nm] 26):=⟨_,rfl⟩;have FW:=hid (show Fr F0 w W by rw [hW];exact ((Fr.refl F0 w).alloc _).alloc _);have BX:=hid (show W.heap[w.heap.size]?=some (.cells #[.int .i64 x.k,.int .i64 x.n,.int .i64 x.c,.bool x.v,.slice x.a x.len x.cap,.string x.nm] 26 (0,0)) by rw [hW];exact ((Fr.refl F0 _).alloc _).heap id (heap_alloc_new w _))
 have BY:=hid (show W.heap[w.heap.size + 1]?=some (.cells #[.int .i64 y.k,.int .i64 y.n,.int .i64 y.c,.bool y.v,.slice y.a y.len y.cap,.string y.nm] 26 (0,0)) by rw [hW];exact zS w _ _);rw [<-hW];clear hW;refine wp_region_planT (Fr F0 W) (.fl 0 (.fl 1 (.fl 3 (.fl 4 (.fl 5 (.fl 7 (.fk 2 6 (.st 6 (.st 8 (.fl 9 (.fl 10 (.st 11 (.st 12 .nil)))))) (.st 2 (.st 8 (.fl 9 (.fl 10 (.st 11 (.st 12 .nil))))))))))))) [12] yE (by kernel_rfl) (by kernel_rfl) (by kernel_rfl) (by decide) ?_
 have F0D:=hid ((Fr.refl F0 W).drew)
 iterate 6
  (refine planT_float _ rfl (Fr.refl _ _).drew (fun w' hS=>by
   have q0:=zA (hS.heap id BX.out);have s0:=zF (hS.heap id BX.out);have q1:=zA (hS.heap id BY.out);have s1:=zF (hS.heap id BY.out);clear hS;go_simp;rfl) ?_)
 go_simp;refine planT_fork rfl rfl ?_ ?_;have tg:Fin 10:=0;rotate_left;have tg:Fin 11:=0;rotate_left
 all_goals
  first
  |rename Fin 10=>tg
  |go_wp2
   have F2:=hid (((Fr.refl F0 W).alloc (.cells #[.int .i64 x.k,.int .i64 x.n,.int .i64 x.c,.bool x.v,.slice x.a x.len x.cap,.string x.nm,.int .i64 y.k,.int .i64 y.n,.int .i64 y.c,.bool y.v,.slice y.a y.len y.cap,.string y.nm] 64)).drew);have P2:=hid (show (W.alloc (.cells #[.int .i64 x.k,.int .i64 x.n,.int .i64 x.c,.bool x.v,.slice x.a x.len x.cap,.string x.nm,.int .i64 y.k,.int .i64 y.n,.int .i64 y.c,.bool y.v,.slice y.a y.len y.cap,.string y.nm] 64)).drew.heap[W.heap.size]?=some (.cells #[.int .i64 x.k,.int .i64 x.n,.int .i64 x.c,.bool x.v,.slice x.a x.len x.cap,.string x.nm,.int .i64 y.k,.int .i64 y.n,.int .i64 y.c,.bool y.v,.slice y.a y.len y.cap,.string y.nm] 64 (0,0)) from heap_alloc_new W _)
   generalize (W.alloc (.cells #[.int .i64 x.k,.int .i64 x.n,.int .i64 x.c,.bool x.v,.slice x.a x.len x.cap,.string x.nm,.int .i64 y.k,.int .i64 y.n,.int .i64 y.c,.bool y.v,.slice y.a y.len y.cap,.string y.nm] 64)).drew=w2 at F2 P2 ⊢;refine And.intro (fun _=>F2.out) ?_;refine planT_step rfl ?_
  go_wp2_with fail
  first
  |rename Fin 10=>tg
   refine (build_any W.drew da dl dc n (HH.out.keep (FW.out.trans F0D.out)).d HH.out.n8 (HH.out.keep (FW.out.trans F0D.out)).tab HH.out.good HH.out.kind).mono ?_;rintro e w2 ⟨rfl,tpo,o,tps,nms,obs,hC⟩;have C2:=hid hC;have F2:=hid (F0D.out.trans hC.f)
  |refine (build_any w2 da dl dc n (HH.out.keep (FW.out.trans F2.out)).d HH.out.n8 (HH.out.keep (FW.out.trans F2.out)).tab HH.out.good HH.out.kind).mono ?_
   rintro e w3 ⟨rfl,tpo,o,tps,nms,obs,hC⟩;have C3:=hid hC;have F3:=hid (F2.out.trans hC.f);have P3:=hid (pairsAt_one (x:=x) (y:=y) (hC.f.heap id P2.out))
  clear hC;go_wp2
  first
  |rename Fin 10=>tg
   refine And.intro (fun _=>F2.out) ?_;refine planT_step rfl ?_;go_wp2;have F3:=hid (F2.out.alloc (.cells #[.int .i64 x.k,.int .i64 x.n,.int .i64 x.c,.bool x.v,.slice x.a x.len x.cap,.string x.nm,.int .i64 y.k,.int .i64 y.n,.int .i64 y.c,.bool y.v,.slice y.a y.len y.cap,.string y.nm] 64));have P3:=hid (pairsAt_one (x:=x) (y:=y) (heap_alloc_new w2 (.cells #[.int .i64 x.k,.int .i64 x.n,.int .i64 x.c,.bool x.v,.slice x.a x.len x.cap,.string x.nm,.int .i64 y.k,.int .i64 y.n,.int .i64 y.c,.bool y.v,.slice y.a y.len y.cap,.string y.nm] 64)))
   have F23:=hid ((Fr.refl F0 w2).alloc (.cells #[.int .i64 x.k,.int .i64 x.n,.int .i64 x.c,.bool x.v,.slice x.a x.len x.cap,.string x.nm,.int .i64 y.k,.int .i64 y.n,.int .i64 y.c,.bool y.v,.slice y.a y.len y.cap,.string y.nm] 64));generalize w2.alloc (.cells #[.int .i64 x.k,.int .i64 x.n,.int .i64 x.c,.bool x.v,.slice x.a x.len x.cap,.string x.nm,.int .i64 y.k,.int .i64 y.n,.int .i64 y.c,.bool y.v,.slice y.a y.len y.cap,.string y.nm] 64)=w3 at F3 P3 F23 ⊢
  |skip
  refine And.intro (fun _=>F3.out) ?_;refine planT_step rfl ?_;go_wp2_with fail
  first
  |rename Fin 10=>tg
   refine (unify_behind (HH.out.keep (FW.out.trans F0D.out)) C2.out F23.out m _ 1 1 [(x,y)] [(s,t)] P3.out rfl rfl (by decide) (by decide) (fun i p q h1 h2=>by
    cases i with
    |zero=>cases h1;cases h2;exact ⟨HX.out.keep (FW.out.trans F3.out),HY.out.keep (FW.out.trans F3.out)⟩
    |succ i=>simp at h1) OKS.out).mono ?_
  |refine (unify_behind (HH.out.keep (FW.out.trans F2.out)) C3.out (Fr.refl F0 w3) m _ 1 1 [(x,y)] [(s,t)] P3.out rfl rfl (by decide) (by decide) (fun i p q h1 h2=>by
   cases i with
   |zero=>cases h1;cases h2;exact ⟨HX.out.keep (FW.out.trans F3.out),HY.out.keep (FW.out.trans F3.out)⟩
   |succ i=>simp at h1) OKS.out).mono ?_
  rintro e w4 ⟨ia,ic,ls,oks,s',rfl,hf4,hpr,hll,hinf,hic⟩;have F4:=hid (F3.out.trans hf4);have PR:=hid hpr;have LL:=hid hll;have INF:=hid hinf;have IC:=hid hic;clear hf4 hpr hll hinf hic;go_wp2;refine And.intro (fun _=>F4.out) ?_
  iterate 2
   (refine planT_float _ rfl F4.out (fun w' hS=>by
    clear hS;go_simp;rfl) ?_)
  go_simp;refine planT_step rfl ?_;go_wp2;refine And.intro (fun _=>F4.out) ?_;refine planT_step rfl ?_;go_wp2;refine And.intro (fun h=>absurd h (by decide)) ?_;refine planT_nil (NoPanic.normal ?_);go_wp2;go_ret2;exact ⟨ia,ic,ls,oks,s',rfl,FW.out.trans F4.out,PR.out,LL.out,INF.out,IC.out⟩
end Go.Proofs.YtpekidjfbinekaaGreatDoor
