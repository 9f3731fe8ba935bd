import Derived.Test.YtmfhclggkjjcdaaGreatDoorLWNai2
set_option linter.all false
namespace Go.Proofs.YtmfhclggkjjcdaaGreatDoor
open Go Go.RowKit
variable {W:Wd} {s0:Spot}
abbrev HitP:=Nat→List Nat→Bool→Ow→Prop
structure HitP.Ok (H:HitP):Prop where
 len:∀ {k ix ind o},H k ix ind o→ix.length=k
 fn:∀ {k ix ind o ind' o'},H k ix ind o→H k ix ind' o'→ind=ind'
def OutH (H:HitP) (addr:Bool) (r:Rs):Prop:=
 ((∀ {k ix ind o},¬ H k ix ind o)∧r=⟨none,[],false⟩)∨
 ∃ k ix ind o,(∀ {j ix ind o},j<k→¬ H j ix ind o)∧H k ix ind o∧
  (((∀ {ix' ind' o'},H k ix' ind' o'→ix'=ix∧o'=o)∧r=resH addr ix ind o)∨
    ((∃ ix' ind' o',H k ix' ind' o'∧(ix'≠ix∨o'≠o))∧r=⟨none,ix++[o.1],false⟩))
def hitW (W:Wd) (s0:Spot) (i0:Bool) (q m:Int):HitP:=fun k ix ind o=>∃ s,Wy W s0 i0 k s ix ind∧o∈ownL W q m s
theorem hitW_ok (W:Wd) (s0:Spot) (i0:Bool) (q m:Int):(hitW W s0 i0 q m).Ok:=
 ⟨fun⟨_,h,_⟩=>h.len,fun⟨_,h,_⟩ ⟨_,h',_⟩=>(h.uniq h').2⟩
theorem Out.toH {i0 addr:Bool} {q m:Int} {r:Rs} (h:Out W s0 i0 addr q m r):OutH (hitW W s0 i0 q m) addr r:=by
 rcases h with ⟨h1,h2⟩|⟨k,s,ix,ind,o,h1,h2,h3,h4⟩
 ·refine .inl ⟨?_,h2⟩;rintro k ix ind o ⟨s,a,b⟩;rw[h1 a] at b;cases b
 ·refine .inr ⟨k,ix,ind,o,?_,⟨s,h2,h3⟩,?_⟩
  ·rintro j ix ind o hj ⟨s,a,b⟩;rw[h1 hj a] at b;cases b
  ·rcases h4 with ⟨h4,h5⟩|⟨⟨s',ix',ind',o',a,b,c⟩,h5⟩
   ·refine .inl ⟨?_,h5⟩;rintro ix' ind' o' ⟨s',a,b⟩;exact h4 a b
   ·exact .inr ⟨⟨ix',ind',o',⟨s',a,b⟩,c⟩,h5⟩
def AmbR (r:Rs):Prop:=r.ob=none∧r.ind=false∧r.ix≠[]
theorem Wy.behind {i0:Bool} {j:Nat} (hE:Embd W s0 j) {k:Nat} {s:Spot} {ix:List Nat} {ind:Bool} (h:Wy W (subT W s0 j) (i0||subP W s0 j) k s ix ind):Wy W s0 i0 (k+1) s (j::ix) ind:=by
 induction h with
 | root=>exact Wy.root.step hE
 | step _ he ih=>exact ih.step he
theorem Wy.head {i0:Bool}:∀ {k:Nat} {s:Spot} {ix:List Nat} {ind:Bool},Wy W s0 i0 (k+1) s ix ind→∃ j ix',Embd W s0 j∧ix=j::ix'∧Wy W (subT W s0 j) (i0||subP W s0 j) k s ix' ind
 | 0,_,_,_,.step (i:=i) h he=>by
  cases h;exact⟨i,[],he,rfl,.root⟩
 | k+1,_,_,_,.step (i:=i) h he=>by
  obtain⟨j,ix',h1,h2,h3⟩:=Wy.head h;subst h2;exact⟨j,ix'++[i],h1,rfl,h3.step he⟩
theorem lookM_nd {P:Nat→Nat} (hW:WdO W P) {d:Nat} (hs:SpO W P (operand W (ndT d))) (h2:(under W (operand W (ndT d))).of.kind≠2) {m:Int} (hm:m≠8) (addr:Bool) (q:Int):
  Out W (plD W d) false addr q m (qch W (operand W (ndT d)) addr q m):=by
 unfold qch;rw[if_neg (fun h=>h2 h.2),qt8 hm (kind_plain hW.by_ hs.numOk h2)];have h1:=lvs_out hW hs (i0:=false) (addr:=addr) (q:=q) (m:=m);have h3:pl W (operand W (ndT d))=plD W d:=by
  rw[pl_nd (s:=operand W (ndT d)) rfl];show plD W (Int.toNat ((d:Nat):Int))=_;rw[Int.toNat_natCast]
 rw[h3] at h1 ⊢;exact h1
