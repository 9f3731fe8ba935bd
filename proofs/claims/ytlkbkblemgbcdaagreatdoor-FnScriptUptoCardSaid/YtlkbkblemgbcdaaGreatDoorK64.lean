import Derived.Test.YtlkbkblemgbcdaaGreatDoorK04
import Derived.Test.YtlkbkblemgbcdaaGreatDoorWLawX
set_option linter.all false
namespace Go.Proofs.YtlkbkblemgbcdaaGreatDoor
open Go Go.RowKit Go.Shelf
open Go.ChangeShapes Go.WideShapes Go.ChangeAt Go.Deep
set_option maxRecDepth 100000
theorem c3:Tryz.prog.cellsOf 51=3:=by kernel_rfl
section
variable {H:Type} {enc:TypeId×Value→H} {w:World} {base:Nat} {spare:Nat→Bool} {held:Bool}
theorem open_ak {n:Nat} {cs:List Value} {y:DP H} (h:DataW.trod enc Tryz.prog w base spare held n 51 cs=some y):∃ m:Ak,cs=[.bool m.ad,.int .i64 m.pkg,.int .i64 m.name]:=by
 obtain⟨y0,y1,y2,k,rfl,hy,hl,h0,h1,h2⟩:=st3 Tryz.underlying51 h;rw[c3] at hl
 match cs,hl with
 | [v0,v1,v2],_=>
  simp only[ci,cb,List.drop_zero,List.drop_succ_cons,List.take_succ_cons,List.take_zero] at h0 h1 h2;obtain⟨b,e0,-⟩:=DataW.trod_bool Tryz.underlying4 h0;obtain⟨z,e1,-,-⟩:=DataW.trod_int Tryz.underlying3 h1;obtain⟨u,e2,-,-⟩:=DataW.trod_int Tryz.underlying3 h2;cases e0;cases e1;cases e2;exact⟨⟨b,z,u⟩,rfl⟩
theorem open_aks {n:Nat} {cs:List Value} {x:DP H} (h:DataW.trod enc Tryz.prog w base spare held n 49 cs=some x):∃ (a:Option Addr) (c:Nat) (l:List Ak),cs=[.slice a l.length c]∧AkR w a l∧l.length≤Rows.uptoBulk x.1:=by
 obtain⟨a,c,l,ds,rs,e,hc,hx,hd,hg⟩:=qjb Tryz.underlying49 (by rw[c3];decide) h (fun cs (m:Ak) (_:DataW H)=>cs=[.bool m.ad,.int .i64 m.pkg,.int .i64 m.name]) fun m cs y _ hy=>open_ak hy;refine⟨a,c,l,e,fun k hk => ?_,?_⟩
 ·obtain⟨b,o,cs',e1,h1,rfl⟩:=hg k hk (by omega);rw[c3] at h1;exact⟨b,o,e1,h1⟩
 ·exact qjd (n:=0) hx (by have:=qxa ds;omega) fun e=>by rw[e] at hd;exact hd.symm
end
theorem argK {H:Type} {enc:TypeId×Value→H} {W:World} {base:Nat} {v:Value} {d:DataW H} {p:List MemPlace} (hv:Value.okWide Tryz.prog W .any base 49 v) (h:DataW.Trod enc Tryz.prog W 0 (fun _=>true) true 49 v d p):
  ∃ (a:Option Addr) (c:Nat) (l:List Ak),v = .slice a l.length c∧AkR W a l∧l.length≤Rows.uptoBulk d:=by
 obtain⟨a,l,c,rfl⟩:=okWide_slice Tryz.underlying49 hv;obtain⟨n,hn⟩:=h;obtain⟨a',c',Ws,e,h2,h3⟩:=open_aks hn;have e':[Value.slice a l c]=[.slice a' Ws.length c']:=e;cases e';exact⟨_,_,Ws,rfl,h2,h3⟩
theorem readK:Tryz.prog.readableRec 49=true∧49<Tryz.prog.types.size:=⟨by kernel_rfl,of_decide_eq_true (by kernel_rfl)⟩
