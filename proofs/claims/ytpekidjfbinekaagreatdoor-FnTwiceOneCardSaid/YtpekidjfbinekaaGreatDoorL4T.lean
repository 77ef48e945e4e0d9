import Derived.Test.YtpekidjfbinekaaGreatDoorC41
set_option maxRecDepth 100000
set_option maxHeartbeats 60000000
set_option linter.all false
namespace Go.Proofs.YtpekidjfbinekaaGreatDoor
open Go.RowKit Uni
structure RefIn (w:World) (da:Option Addr) (dl dc:Nat) (ar:Nat→Nat) (D:zE) (n:Nat) (B:UB) (x y:TyV) (s t:Tm):Prop where
 E:UEnv da dl dc D ar w B n St.init (.slice none 0 0)
 X:XIn ar dl w B n x s
 Y:XIn ar dl w B n y t
section
variable {da:Option Addr}{dl dc n:Nat}{ar:Nat->Nat}{D:zE}{x y:TyV}{s t:Tm}{w:World}
theorem RefIn.keep {w':World}{B:UB}(h:RefIn w da dl dc ar D n B x y s t)(f:Fr F0 w w'):RefIn w' da dl dc ar D n B x y s t:=⟨h.E.keep f,h.X.keep f.sub,h.Y.keep f.sub⟩
theorem ref_new (dc:Nat)(h:LIn w da dl ar D n)(hx:TIn w dl ar n x s)(hy:TIn w dl ar n y t):
 Calls Tryz.prog 17 #[.slice da dl dc,.int .i64 n] w fun e w'=> ∃B:UB,e= .returned (.pointer (some ⟨B.u,0,none⟩))/\RefIn w' da dl dc ar D n B x y s t/\Fr F0 w w'/\ ∀b,B.M b->w.heap.size<=b/\b < w'.heap.size:=
 (new_any n da dl dc w h.n8).mono fun _ _ ⟨B,he,hU,hf,hM,_⟩=>⟨B,he,⟨uenv_new h hf hU hM,xin_new hx hf hM,xin_new hy hf hM⟩,hf,hM⟩
def okO:Option St→Res
 |none=> .fail
 |some s=> .ok s
def RefFact (D:zE)(s t:Tm)(m:Uni.Mode)(o:Option St):Prop:=Tame D [(s,t)]/\zI D 50 St.init s t m=some (okO o)
def RefOut (da:Option Addr)(dl dc:Nat)(ar:Nat→Nat)(D:zE)(n:Nat)(B:UB)(s t:Tm)(m:Uni.Mode)(w w':World)(b sil:Bool):Prop:=
 sil=false-> ∃o,RefFact D s t m o/\b=o.isSome/\ ∀s',o=some s'-> ∃(B':UB) (pv:Value),B'.u=B.u/\UEnv da dl dc D ar w' B' n s' pv/\ ∀b,B'.M b->(B.M b\/w.heap.size<=b)/\b < w'.heap.size
theorem ref_unify {B:UB}(hG:xF dl ar D)(hDk:zZ D)(m:Uni.Mode)(h:RefIn w da dl dc ar D n B x y s t):
 Calls Tryz.prog 18 #[.pointer (some ⟨B.u,0,none⟩),x.val,y.val,.int .i64 (zU m)] w fun e w'=> ∃b sil,e= .returned (.bool b)/\Fr B.M w w'/\w'.cell? ⟨B.u,4,none⟩=some (.bool sil)/\RefOut da dl dc ar D n B s t m w w' b sil:=by
 refine (unify18_any hG hDk s t x y m w B n St.init (.slice none 0 0) [] [] h.E ⟨rfl,World.ownsRow_nil _ _ _ _,fun i p q h=>by simp at h⟩ (by simp) (fun g hg=>by cases hg) h.X h.Y (Reached.init D)).mono ?_;rintro e w' ⟨B',pv',hBu,hf,hM,⟨rfl,s',hU⟩ | ⟨rfl,hT,hr,s',hU⟩ | ⟨rfl,hT,s',hr,hE,_⟩⟩
 ·obtain ⟨ja,cj,ka,ck,hu,_⟩:=hU.u
  have q:=zA hu 4;rw [hBu] at q;exact ⟨_,true,rfl,hf,q,fun h=>by cases h⟩
 ·obtain ⟨ja,cj,ka,ck,hu,_⟩:=hU.u
  have q:=zA hu 4;rw [hBu] at q;exact ⟨_,false,rfl,hf,q,fun _=>⟨none,⟨hT,hr⟩,rfl,fun s' h=>by cases h⟩⟩
 ·obtain ⟨ja,cj,ka,ck,hu,_⟩:=hE.U.u
  have q:=zA hu 4;rw [hBu] at q;exact ⟨_,false,rfl,hf,q,fun _=>⟨some s',⟨hT,hr⟩,rfl,fun s'' h=>by cases h;exact ⟨B',pv',hBu,hE,hM⟩⟩⟩
end
end Go.Proofs.YtpekidjfbinekaaGreatDoor
