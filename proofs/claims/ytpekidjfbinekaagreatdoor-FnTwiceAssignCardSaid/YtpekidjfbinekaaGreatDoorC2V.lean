/-   The arguments of the laws with five or six parameters. -/
import Derived.Test.YtpekidjfbinekaaGreatDoorE42
set_option maxRecDepth 100000
set_option maxHeartbeats 60000000
set_option linter.all false
namespace Go.Proofs.YtpekidjfbinekaaGreatDoor
open Go.RowKit Uni
set_option maxRecDepth 100000
theorem args_six {W:World}{args:Array Value}(ht:TabOk W)(hl:args.toList.length=6)(ha: ∀(j:Nat) t v,[22,3,26,26,26,26][j]?=some t->args.toList[j]?=some v->ArgOk W t v):
 ∃da dl dc n x y x2 y2,args= #[.slice da dl dc,.int .i64 n,TyV.val x,TyV.val y,TyV.val x2,TyV.val y2]/\ArgIn W da dl dc/\Raw W x/\Raw W y/\Raw W x2/\Raw W y2:=by
 obtain ⟨l⟩:=args;rcases l with _ | ⟨v0,_ | ⟨v1,_ | ⟨v2,_ | ⟨v3,_ | ⟨v4,_ | ⟨v5,_ | ⟨v6,l⟩⟩⟩⟩⟩⟩⟩ <;>simp at hl
 obtain ⟨da,dl,dc,rfl,hd⟩:=arg22 (ha 0 22 v0 rfl rfl);obtain ⟨n,rfl⟩:=arg3 (ha 1 3 v1 rfl rfl);obtain ⟨x,rfl,hx⟩:=arg26 (ha 2 26 v2 rfl rfl);obtain ⟨y,rfl,hy⟩:=arg26 (ha 3 26 v3 rfl rfl);obtain ⟨x2,rfl,hx2⟩:=arg26 (ha 4 26 v4 rfl rfl);obtain ⟨y2,rfl,hy2⟩:=arg26 (ha 5 26 v5 rfl rfl);exact ⟨da,dl,dc,n,x,y,x2,y2,rfl,⟨hd,ht⟩,hx,hy,hx2,hy2⟩
end Go.Proofs.YtpekidjfbinekaaGreatDoor
