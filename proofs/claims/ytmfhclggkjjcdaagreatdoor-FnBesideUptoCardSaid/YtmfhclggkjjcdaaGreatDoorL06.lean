import Derived.Test.YtmfhclggkjjcdaaGreatDoorL05
set_option linter.all false
set_option maxHeartbeats 4000000
namespace Go.Proofs.YtmfhclggkjjcdaaGreatDoor
open Go Go.RowKit Go.Proofs.Tryz
set_option maxRecDepth 100000
def hasB (t:Ty) (e f m n:Bool):Bool:=
 (e||t.elem.length==0)&&(f||t.fields.length==0)&&(m||(t.methods.length==0&&t.embeds.length==0))&&(n||t.num==0)
theorem qce (bt:Nat) (t:Ty) (e f m n:Bool) {x1 x2 x3 x4:Option Addr} {d1 d2 d3 d4:Nat} (w:World) (hc:qat w bt 0 [.int .i64 t.kind,.int .i64 t.num,.slice x1 t.elem.length d1,.slice x2 t.fields.length d2,.slice x3 t.methods.length d3,.slice x4 t.embeds.length d4]) (hm:[e,f,m,n]∈[[false,false,false,true],[true,false,false,false],[false,true,false,false],[false,false,true,false]]) (hl:t.elem.length≤1048576∧t.fields.length≤1048576∧t.methods.length≤1048576∧t.embeds.length≤1048576):
  Calls prog 54 #[.bool e,.bool f,.bool m,.bool n,.pointer (some ⟨bt,0,none⟩)] w (qa2 (.bool (hasB t e f m n)) w):=by
 obtain⟨c0,c1,c2,c3,c4,c5⟩:=six hc;simp only[Nat.zero_add] at c0 c1 c2 c3 c4 c5;obtain⟨l1,l2,l3,l4⟩:=hl;have hB:hasB t e f m n=((e||((t.elem.length:Int)==0))&&(f||((t.fields.length:Int)==0))&&(m||(((t.methods.length:Int)==0)&&((t.embeds.length:Int)==0)))&&(n||t.num==0)):=by
  unfold hasB;have:∀ k:Nat,(k==0)=((k:Int)==0):=fun k=>by cases k <;> rfl
  rw[this,this,this,this]
 have HB:=hid hB;clear hB hc;simp only[zgb,List.cons.injEq,and_true,List.not_mem_nil,or_false] at hm;rcases hm with ⟨rfl,rfl,rfl,rfl⟩|⟨rfl,rfl,rfl,rfl⟩|⟨rfl,rfl,rfl,rfl⟩|⟨rfl,rfl,rfl,rfl⟩
 all_goals
  cases h1:((t.elem.length:Int)==0)
  all_goals cases h2:((t.fields.length:Int)==0)
  all_goals cases h3:((t.methods.length:Int)==0)
  all_goals cases h4:((t.embeds.length:Int)==0)
  all_goals
   go_enter func54,ntmps54
   go_wp2_with fail
   go_ret
   exact⟨by rw[HB.out,h1,h2,h3,h4];simp,bel⟩
