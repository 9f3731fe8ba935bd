/- The card of FnBeside: Of two embedded types that one has a name which has it at the smaller depth; at the same depth it is ambiguous. For every argument of bulk at most 1048576; the tables of unicode and unicode/utf8 that the row lists are as their texts lay them. -/
import Derived.Test.YtmfhclggkjjcdaaGreatDoorL03
import Derived.Test.YtmfhclggkjjcdaaGreatDoorLWLawF
set_option linter.all false
namespace Go.Proofs.YtmfhclggkjjcdaaGreatDoor
open Go Go.RowKit Go.Shelf
open Go.ChangeShapes Go.WideShapes Go.ChangeAt
set_option maxRecDepth 100000
theorem tabs_of_fnBeside {W:World} (h:laidMetH Tryz.prog Rows.fnBesideUptoRow.laid W):Tabs W:=by
 rw[MakeChecks.laidMetH_plain _ _ _ (by kernel_rfl)] at h;have h1 : Lib.VarReads Tryz.prog W "unicode/utf8.acceptRanges" Lib.acceptData := by
  have := Lib.laidMet.reads h (n := "unicode/utf8.acceptRanges") (d := Rows.laid_unicode_utf8_acceptRanges) (by simp [Rows.fnBesideUptoRow])
  rwa [show(Rows.laid_unicode_utf8_acceptRanges:DataW Unit)=Lib.acceptData by kernel_rfl] at this
 have h2 : Lib.VarReads Tryz.prog W "unicode.properties" (Lib.tabData .u8 Lib.propertiesTab) := by
  have := Lib.laidMet.reads h (n := "unicode.properties") (d := Rows.laid_unicode_properties) (by simp [Rows.fnBesideUptoRow])
  rwa [show(Rows.laid_unicode_properties:DataW Unit)=Lib.tabData .u8 Lib.propertiesTab by kernel_rfl] at this
 have h3 : Lib.VarReads Tryz.prog W "unicode.Upper" (Lib.rtabData Lib.upperT) := by
  have := Lib.laidMet.reads h (n := "unicode.Upper") (d := Rows.laid_unicode_Upper) (by simp [Rows.fnBesideUptoRow])
  rwa [show Rows.laid_unicode_Upper=Lib.rtabData Lib.upperT by kernel_rfl] at this
 have h4 : Lib.VarReads Tryz.prog W "unicode/utf8.first" Lib.firstData := by
  have := Lib.laidMet.reads h (n := "unicode/utf8.first") (d := Rows.laid_unicode_utf8_first) (by simp [Rows.fnBesideUptoRow])
  rwa [show Rows.laid_unicode_utf8_first=Lib.firstData by kernel_rfl] at this
 exact qr5 h1 h2 h3 h4
theorem contract_fnBeside (H:Type) (enc:TypeId×Value→H) (W:World) (base:Nat) (args:Array Value) (ds gs:List (DataW H)) (before:List MemPlace)
  (hval:∀ (j:Nat) t v,Tryz.f5.params[j]?=some t→args[j]?=some v→Value.okWide Tryz.prog W .any base t v)
  (hW:DataW.Whole enc Tryz.prog Tryz.f5.params.toList Rows.fnBesideSpec.vars false W args.toList ds gs before) (hk:Rows.uptoSmall H (ds++gs)=true) (hL:laidMetH Tryz.prog Rows.fnBesideUptoRow.laid W):
  Calls Tryz.prog 5 args W fun e W'=>∃ v,e = .returned v∧Rows.fnBesideSpec.post enc Tryz.prog Tryz.f5 false true false false W args v W':=by
 have hW':=hW;have hlt:=hW.lt;obtain⟨p,q,hA0,hV,rfl,hfz,hnd⟩:=hW;have hA:DataW.TrodAll enc Tryz.prog W 0 (fun _=>true) true Tryz.f5.params.toList args.toList ds p:=hA0;rw[Tryz.params5] at hA hval;obtain⟨v0,vs0,d0,ds0,p0,q0,hargs,rfl,rfl,h0,r0⟩:=trodAll_cons hA;obtain⟨v1,vs1,d1,ds1,p1,q1,rfl,rfl,rfl,h1,r1⟩:=trodAll_cons r0;obtain⟨v2,vs2,d2,ds2,p2,q2,rfl,rfl,rfl,h2,r2⟩:=trodAll_cons r1;obtain⟨v3,vs3,d3,ds3,p3,q3,rfl,rfl,rfl,h3,r3⟩:=trodAll_cons r2;obtain⟨v4,vs4,d4,ds4,p4,q4,rfl,rfl,rfl,h4,r4⟩:=trodAll_cons r3;obtain⟨rfl,rfl,rfl⟩:=trodAll_nil r4;obtain rfl:args=#[v0,v1,v2,v3,v4]:=by cases args;simp_all
 obtain⟨rfl,rfl⟩:=trodVars_none hV;have hk':=of_decide_eq_true hk;simp only[List.append_nil,Rows.uptoBulkAll] at hk';obtain⟨a0,c0,Ws,rfl,hc0,hw0,hbw⟩:=argW (hval 0 23 v0 rfl rfl) h0;have hW0:WOk W Ws a0 c0:=⟨hw0,hc0,by omega⟩;obtain⟨x1,rfl,rfl,rfl,wx1⟩:=open_int Tryz.underlying3 (hval 1 3 v1 rfl rfl) h1;obtain⟨x2,rfl,rfl,rfl,wx2⟩:=open_int Tryz.underlying3 (hval 2 3 v2 rfl rfl) h2;obtain⟨x3,rfl,rfl,rfl,wx3⟩:=open_int Tryz.underlying3 (hval 3 3 v3 rfl rfl) h3;obtain⟨x4,rfl,rfl,rfl,wx4⟩:=open_int Tryz.underlying3 (hval 4 3 v4 rfl rfl) h4;have hT:=tabs_of_fnBeside hL;simp only[List.append_nil] at hW' hlt hA0;have HA:=hid hA0;have hrd:∀ t∈Tryz.f5.params.toList,Tryz.prog.readableRec t=true∧t<Tryz.prog.types.size:=by
  rw[Tryz.params5];intro t ht;have hm:t∈[23,3,3,3,3]:=by simpa using ht
  simp only[zgb,List.mem_nil_iff,or_false] at hm;rcases hm with rfl|rfl|rfl|rfl|rfl
  all_goals first|exact readW|exact readT|exact readI|exact readB
 clear hA0;refine(lawBeside Ws a0 c0 W hW0 hT x1 x2 x3 x4).mono fun e W' ⟨he,hb⟩ => ?_;subst he;refine⟨_,rfl,qmj (pa:=p0) (pv:=[]) hW' (fun _ _ _=>trodAll_cons_mk (shut_bool Tryz.underlying4 _) trodAll_mk0) (fun sp hs => ?_) (fun _ _=>rfl) (by simp)
  hb (ok_one (by kernel_rfl) rfl (okWide_bool_mk Tryz.underlying4 _))⟩
 exact qht Tryz.laidOutP hrd HA.out (fun x hx=>hb.same (hlt x (by simpa using hx))) (fun x hx=>hs x (by simpa using hx))
theorem laid_met_fnBeside (os:Os):laidMet Tryz.prog Rows.fnBesideUptoRow.laid ((World.laidAll Tryz.prog os Rows.fnBesideUptoRow.laid).forCall (fun _ _=>0) ⟨#[],#[.slice none 0 0,.int .i64 0,.int .i64 0,.int .i64 0,.int .i64 0],[]⟩).memory:=
 laidMet_laidAll _ (by kernel_rfl) (by kernel_rfl)
theorem reads_fnBeside (os:Os) {H:Type} (enc:TypeId×Value→H):∃ places,DataW.whole enc Tryz.prog ((World.laidAll Tryz.prog os Rows.fnBesideUptoRow.laid).forCall (fun _ _=>0) ⟨#[],#[.slice none 0 0,.int .i64 0,.int .i64 0,.int .i64 0,.int .i64 0],[]⟩).memory Tryz.f5.params.toList Rows.fnBesideSpec.vars false (#[.slice none 0 0,.int .i64 0,.int .i64 0,.int .i64 0,.int .i64 0]:Array Value).toList 8=some ([.nil,.lit (.int .i64 0),.lit (.int .i64 0),.lit (.int .i64 0),.lit (.int .i64 0)],[],places):=
 ⟨[],by kernel_rfl⟩
theorem lifted_fnBeside (os:Os) (started:os.Started) (H:Type) (enc:TypeId×Value→H) (F:Stop.Interp):
  ReturnsInHanded {} Tryz.checked os 5 .any ((Rows.OpenSpec.upto Rows.fnBesideSpec).preRow enc Tryz.prog Tryz.f5 Rows.fnBesideUptoRow.domain false Rows.fnBesideUptoRow.laid) (((Rows.OpenSpec.upto Rows.fnBesideSpec).at F).post enc Tryz.prog Tryz.f5 false true false false):=by
 obtain⟨places,hx⟩:=reads_fnBeside os enc;refine returnsInHanded_of_row (C:=Tryz.checked) (s:=Rows.OpenSpec.upto Rows.fnBesideSpec) own started (by kernel_rfl) Tryz.func5
  (qpt (enc:=enc) (C:=Tryz.checked) false (World.laidAll Tryz.prog os Rows.fnBesideUptoRow.laid) #[.slice none 0 0,.int .i64 0,.int .i64 0,.int .i64 0,.int .i64 0] (World.laidAll_os _ _ _) (by kernel_rfl) (by kernel_rfl) (by kernel_rfl)
   (OpenSpec.preRow_of_cond 8 hx (by kernel_rfl) (fun k hk=>by cases hk;kernel_rfl) (by kernel_rfl) (by rw[MakeChecks.laidMetH_plain _ _ _ (by kernel_rfl)];exact laid_met_fnBeside os))) ?_
 intro W base args ds gs before hval hW _ hcond _ hL _ _;exact contract_fnBeside H enc W base args ds gs before hval hW (hcond _ rfl) hL
theorem cl1_fnBeside:(Rows.fnBesideUptoRow.inPlace==Tryz.pinned.checked.prog.inPlace 5)=true:=by kernel_rfl
theorem cl2_fnBeside:(Rows.fnBesideUptoRow.unfollowed==Tryz.pinned.checked.prog.unfollowed 5)=true:=by kernel_rfl
theorem cl3_fnBeside:(Rows.fnBesideUptoRow.recurses==Tryz.pinned.checked.prog.recurses 5)=true:=by kernel_rfl
theorem cl4_fnBeside:(Rows.fnBesideUptoRow.named==Tryz.pinned.checked.prog.varsNamed 5)=true:=by kernel_rfl
theorem closed_fnBeside:joinedFacts Tryz.pinned.checked.prog 5 Tryz.f5 (Rows.OpenSpec.upto Rows.fnBesideSpec).bare Rows.fnBesideUptoRow=true:=by
 unfold joinedFacts;rw[cl1_fnBeside,cl2_fnBeside,cl3_fnBeside,cl4_fnBeside,cl5,cl6]
 kernel_rfl
theorem said_fnBeside:Rows.FnBesideUptoSaid:=
 OpenClaim.holds_of_cond 5 Tryz.f5 rfl rfl rfl rfl rfl rfl rfl ⟨rfl,rfl,rfl,rfl,rfl⟩ rfl rfl rfl rfl rfl (by kernel_rfl) Tryz.func5 closed_fnBeside
  (of_decide_eq_true (by kernel_rfl)) (by unfold Func.isWrapper;first|(rw[if_pos (by decide +kernel)];kernel_rfl)|(rw[if_neg (by decide +kernel)];exact⟨rfl,rfl⟩))
  (fun os started H enc _ F=>by rw[OpenClaim.pre_eq_preRow];exact lifted_fnBeside os started H enc F)
theorem plain_fnBeside (f : FuncId) (fn : Func) (hf : Tryz.pinned.checked.prog.funcNamed "selectors/laws.FnBeside" = some f) (hfn : Tryz.pinned.checked.prog.funcs[f]? = some fn) :
  true=Tryz.pinned.checked.prog.looks []∧∀ (j:Nat) t,fn.params[j]?=some t→Tryz.pinned.checked.prog.wantsStandIn t=false:=by
 obtain rfl : f = 5 := Option.some.inj ((show Tryz.prog.funcNamed "selectors/laws.FnBeside" = some 5 by kernel_rfl).symm.trans hf) |>.symm
 obtain rfl:fn=Tryz.f5:=(Option.some.inj (Tryz.func5.symm.trans hfn)).symm;refine⟨by kernel_rfl,fun j t ht => ?_⟩;rw[Tryz.params5] at ht;have hm:t∈[23,3,3,3,3]:=by simpa using Array.mem_of_getElem? ht
 have hall:([23,3,3,3,3].all fun u=>!Tryz.prog.wantsStandIn u)=true:=by kernel_rfl
 exact(show Tryz.prog.wantsStandIn t=false by simpa using zhb.1 hall t hm)
theorem cardFnBeside:Rows.FnBesideUptoCardSaid:=
 Claim7.holds_tied_plain_at .later [] _ _ _ _ said_fnBeside (fun _ h=>by cases h) (by kernel_rfl) (fun _ h=>by cases h) fnBesideUpto_row_tie rfl ⟨rfl,rfl⟩ (by kernel_rfl) rfl plain_fnBeside (by kernel_rfl)
#print axioms cardFnBeside
