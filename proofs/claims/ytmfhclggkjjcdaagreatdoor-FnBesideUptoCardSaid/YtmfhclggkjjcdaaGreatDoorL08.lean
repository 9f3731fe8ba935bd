import Derived.Test.YtmfhclggkjjcdaaGreatDoorL07
import Derived.Test.YtmfhclggkjjcdaaGreatDoorL03
import Derived.Deep.LoopGhost
import Derived.Test.YtmfhclggkjjcdaaGreatDoorProg
import Derived.Conc.RwLib
import Derived.Conc.MuData
import Derived.KernelRfl
import Derived.Conc.MuLone
import Derived.Laws.LoneSync
import Derived.Test.YtmfhclggkjjcdaaGreatDoorL04
import Derived.Deep.QuietTactic
import Derived.BigQuiet
import Derived.LaidEqlPtr
import Derived.Test.YtmfhclggkjjcdaaGreatDoorL01
import Derived.Deep.RegionWith
set_option linter.all false
set_option maxHeartbeats 4000000
namespace Go.Proofs.YtmfhclggkjjcdaaGreatDoor
open Go Go.RowKit Go.Proofs.Tryz
set_option maxRecDepth 100000
def qk0 (cs:List Value) (T:TypeId) (w:World) (e:Ending) (w':World):Prop:=e = .returned (.pointer (some ⟨w.heap.size,0,none⟩))∧w'=w.alloc (.cells cs.toArray T)
theorem qk4 (p q:ByteArray) (w:World):Calls prog 39 #[.string p,.string q] w (qk0 [.string p,.string q] 128 w):=by
 go_enter func39,ntmps39
 go_wp2_with fail
 go_ret
 exact⟨rfl,rfl⟩
theorem qgh (pk:Option Addr) (s:ByteArray) (w:World):Calls prog 42 #[.int .i64 0,.pointer pk,.string s,.nilIface] w (qk0 [.int .i64 0,.pointer pk,.string s,.nilIface] 144 w):=by
 go_enter func42,ntmps42
 go_wp2_with fail
 go_ret
 exact⟨rfl,rfl⟩
theorem qg1 (T:TypeId) (x:Option Addr) (w:World):Calls prog 65 #[.iface T (.pointer x)] w (qk0 [.iface T (.pointer x)] 185 w):=by
 go_enter func65,ntmps65
 go_wp2_with fail
 go_ret
 exact⟨rfl,rfl⟩
theorem qox (T:TypeId) (x:Option Addr) (w:World):Calls prog 66 #[.iface T (.pointer x)] w (qk0 [.iface T (.pointer x)] 187 w):=by
 go_enter func66,ntmps66
 go_wp2_with fail
 go_ret
 exact⟨rfl,rfl⟩
theorem qir (k:Int) (pk:Option Addr) (s:ByteArray) (T:TypeId) (x:Option Addr) (w:World):Calls prog 88 #[.int .u8 k,.int .i64 0,.pointer pk,.string s,.iface T (.pointer x)] w
  (qk0 [.int .i64 0,.pointer pk,.string s,.iface T (.pointer x),.int .u8 k,.bool false] 191 w):=by
 go_enter func88,ntmps88
 go_wp2_with fail
 go_ret
 exact⟨rfl,rfl⟩
theorem qix (pk:Option Addr) (s:ByteArray) (T:TypeId) (x:Option Addr) (w:World):Calls prog 72 #[.int .i64 0,.pointer pk,.string s,.iface T (.pointer x)] w
  (qk0 [.int .i64 0,.pointer pk,.string s,.iface T (.pointer x),.int .u8 4,.bool false] 191 w):=by
 go_enter func72,ntmps72
 go_wp2_with (go_at_call 88;refine(qir _ _ _ _ _ _).mono ?_;rintro e w' ⟨rfl,rfl⟩)
 go_ret
 exact⟨rfl,rfl⟩
theorem qiw (pk:Option Addr) (s:ByteArray) (T:TypeId) (x:Option Addr) (em:Bool) (w:World):Calls prog 68 #[.int .i64 0,.pointer pk,.string s,.iface T (.pointer x),.bool em] w
  (qk0 [.int .i64 0,.pointer pk,.string s,.iface T (.pointer x),.int .u8 6,.bool em] 191 w):=by
 go_enter func68,ntmps68
 go_wp2_with (go_at_call 88;refine(qir _ _ _ _ _ _).mono ?_;rintro e w' ⟨rfl,rfl⟩)
 go_ret
 exact⟨rfl,rfl⟩
theorem qhd (pk:Option Addr) (s:ByteArray) (sg:Addr) (w:World):Calls prog 73 #[.int .i64 0,.pointer pk,.string s,.pointer (some sg)] w
  (qk0 [.int .i64 0,.pointer pk,.string s,.iface 162 (.pointer (some sg)),.bool false,.bool false] 167 w):=by
 go_enter func73,ntmps73
 go_wp2_with fail
 go_ret
 exact⟨rfl,rfl⟩
theorem qie (rv:Option Addr) (w:World):Calls prog 74 #[.pointer rv,.slice none 0 0,.slice none 0 0,.pointer none,.pointer none,.bool false] w
  (qk0 [.pointer rv,.pointer none,.pointer none,.pointer none,.bool false] 199 w):=by
 go_enter func74,ntmps74
 go_wp2_with fail
 go_ret
 exact⟨rfl,rfl⟩
theorem qfu (w:World):Calls prog 92 #[.pointer none] w
  (qk0 [.pointer none,.slice none 0 0,.slice none 0 0,.pointer none,.bool false,.bool false,.pointer none] 175 w):=by
 go_enter func92,ntmps92
 go_wp2_with fail
 go_ret
 exact⟨rfl,rfl⟩
def qhb (tn:Nat) (nil:Bool) (state:Int) (rhs under:Value) (ms:Value):List Value:=
 [.pointer none,.pointer (some ⟨tn,0,none⟩),.bool nil,.int .i32 0,.int .u32 0,.int .u32 state,rhs,under,.bool false,ms]
theorem qb5 {D:TypeId} {e:TypeId} (hu:prog.underlying D=some (.pointer e)) (v:Value) (w:World):(Instr.typeAssert (.iface D v) 63 D true).run prog w = .ok (.tuple #[v,.bool true]) w:=by
 simp[Instr.typeAssert,run_underlying hu,go_sem]
theorem qaw {T D:TypeId} {e:TypeId} (hu:prog.underlying D=some (.pointer e)) (hz:(prog.info? D).map (·.zero)=some (some (.pointer none))) (hT:T≠D) (v:Value) (w:World):(Instr.typeAssert (.iface T v) 63 D true).run prog w = .ok (.tuple #[.pointer none,.bool false]) w:=by
 obtain⟨j,hj,hz'⟩:=zbb.1 hz;simp[Instr.typeAssert,run_underlying hu,go_sem,typeInfo,zeroValue,hj,hz',hT]
theorem qw4 {D:TypeId} {e:TypeId} (hu:prog.underlying D=some (.pointer e)) (hz:(prog.info? D).map (·.zero)=some (some (.pointer none))) (w:World):(Instr.typeAssert .nilIface 63 D true).run prog w = .ok (.tuple #[.pointer none,.bool false]) w:=by
 obtain⟨j,hj,hz'⟩:=zbb.1 hz;simp[Instr.typeAssert,run_underlying hu,go_sem,typeInfo,zeroValue,hj,hz']
theorem qme (tn:Nat) (w:World) (T:TypeId) (a b c:Value) (h:Blk w tn T [a,b,c,.nilIface]):Calls prog 62 #[.pointer none,.pointer (some ⟨tn,0,none⟩),.nilIface,.slice none 0 0] w fun e w'=>
  e = .returned (.pointer (some ⟨w.heap.size,0,none⟩))∧w'=(w.setCell ⟨tn,3,none⟩ (.iface 98 (.pointer (some ⟨w.heap.size,0,none⟩)))).alloc (.cells (qhb tn false 0 .nilIface .nilIface (.slice none 0 0)).toArray 140):=by
 have c3:=h.cell 3;have f3:=h.soft 3;simp only[zu,zt] at c3;have hl:=h.lt;clear h;go_enter func62,ntmps62
 go_wp2_with fail
 go_ret
 exact⟨rfl,rfl⟩
theorem Tryz.zAlias:(prog.info? 103).map (·.zero)=some (some (.pointer none)):=by kernel_rfl
theorem Tryz.zNamed:(prog.info? 98).map (·.zero)=some (some (.pointer none)):=by kernel_rfl
def qgl (v:Value):Prop:=∃ T x,v = .iface T (.pointer (some x))∧T≠103
theorem qpj (w:World):Calls prog 86 #[.nilIface] w fun e w'=>e = .returned .nilIface∧w'=w:=by
 have h1:=fun w=>qw4 underlying103 Tryz.zAlias w;go_enter func86,ntmps86
 go_wp2_with fail
 go_ret
 exact⟨rfl,rfl⟩
theorem qfl (v:Value) (hv:qgl v) (w:World):Calls prog 86 #[v] w fun e w'=>e = .returned v∧w'=w:=by
 obtain⟨T,x,rfl,hT⟩:=hv;have h1:=fun v w=>qaw (T:=T) underlying103 Tryz.zAlias hT v w;go_enter func86,ntmps86
 go_wp2_with fail
 go_ret
 exact⟨rfl,rfl⟩
theorem qhn (al:Nat) (u:Value) (hu:qgl u) (w:World) (h:w.cell? ⟨al,3,none⟩=some u):Calls prog 87 #[.pointer (some ⟨al,0,none⟩)] w fun e w'=>e = .returned u∧w'=w:=by
 obtain⟨T,x,rfl,hT⟩:=hu;go_enter func87,ntmps87
 go_wp2_with fail
 go_ret
 exact⟨rfl,rfl⟩
theorem qm8 (al:Nat) (u:Value) (hu:qgl u) (w:World) (h:w.cell? ⟨al,3,none⟩=some u):Calls prog 86 #[.iface 103 (.pointer (some ⟨al,0,none⟩))] w fun e w'=>e = .returned u∧w'=w:=by
 have h1:=fun v w=>qb5 underlying103 v w;have Hu:=hid hu;have Hc:=hid h;clear h;go_enter func86,ntmps86
 go_wp2_with (go_at_call 87;refine(qhn al u Hu.out _ Hc.out).mono ?_;rintro e w' ⟨rfl,rfl⟩)
 go_ret
 exact⟨rfl,rfl⟩
def qbs (w:World) (v u:Value):Prop:=qgl u∧(v=u∨∃ al:Nat,v = .iface 103 (.pointer (some ⟨al,0,none⟩))∧w.cell? ⟨al,3,none⟩=some u)
theorem qan (v u:Value) (w:World) (h:qbs w v u):Calls prog 86 #[v] w fun e w'=>e = .returned u∧w'=w:=by
 obtain⟨hu,rfl|⟨al,rfl,hc⟩⟩:=h
 ·exact qfl _ hu w
 ·exact qm8 al u hu w hc
theorem qqb (w:World):Calls prog 61 #[.nilIface] w fun e w'=>e = .returned (.pointer none)∧w'=w:=by
 have h1:=fun w=>qw4 underlying98 Tryz.zNamed w;go_enter func61,ntmps61
 go_wp2_with (go_at_call 86;refine(qpj _).mono ?_;rintro e w' ⟨rfl,rfl⟩)
 go_ret
 exact⟨rfl,rfl⟩
theorem qfg (v:Value) (x:Addr) (w:World) (h:qbs w v (.iface 98 (.pointer (some x)))):Calls prog 61 #[v] w fun e w'=>e = .returned (.pointer (some x))∧w'=w:=by
 have h1:=fun v w=>qb5 underlying98 v w;have H:=hid h;clear h;go_enter func61,ntmps61
 go_wp2_with (go_at_call 86;refine(qan _ _ _ H.out).mono ?_;rintro e w' ⟨rfl,rfl⟩)
 go_ret
 exact⟨rfl,rfl⟩
theorem qgm (v:Value) (T:TypeId) (x:Addr) (w:World) (hT:T≠98) (h:qbs w v (.iface T (.pointer (some x)))):Calls prog 61 #[v] w fun e w'=>e = .returned (.pointer none)∧w'=w:=by
 have h1:=fun v w=>qaw (T:=T) underlying98 Tryz.zNamed hT v w;have H:=hid h;clear h;go_enter func61,ntmps61
 go_wp2_with (go_at_call 86;refine(qan _ _ _ H.out).mono ?_;rintro e w' ⟨rfl,rfl⟩)
 go_ret
 exact⟨rfl,rfl⟩
theorem qnv (tn:Nat) (w:World) (T:TypeId) (a b c:Value) (h:Blk w tn T [a,b,c,.nilIface]):Calls prog 41 #[.pointer (some ⟨tn,0,none⟩),.nilIface,.slice none 0 0] w fun e w'=>
  e = .returned (.pointer (some ⟨w.heap.size,0,none⟩))∧w'=(w.setCell ⟨tn,3,none⟩ (.iface 98 (.pointer (some ⟨w.heap.size,0,none⟩)))).alloc (.cells (qhb tn true 0 .nilIface .nilIface (.slice none 0 0)).toArray 140):=by
 have H:=hid h;clear h;go_enter func41,ntmps41
 go_wp2_with (first|(go_at_call 61;refine(qqb _).mono ?_;rintro e w' ⟨rfl,rfl⟩)|(go_at_call 62;refine(qme tn _ T a b c H.out).mono ?_;rintro e w' ⟨rfl,rfl⟩;unfold qhb))
 go_ret
 exact⟨rfl,rfl⟩
def qjh (w:World) (u:Value):Nat→Value→Prop
 | 0,v=>v=u
 | n+1,v=>∃ (al:Nat) (v':Value),v = .iface 103 (.pointer (some ⟨al,0,none⟩))∧w.cell? ⟨al,2,none⟩=some v'∧qjh w u n v'
theorem qom (al:Nat) (T:TypeId) (a b rhs u:Value) (n:Nat) (hu:qgl u) (w:World) (h:Blk w al T [a,b,rhs,.nilIface]) (hc:qjh w u n rhs) (hr:rhs.oneCell'=true):
  Calls prog 87 #[.pointer (some ⟨al,0,none⟩)] w fun e w'=>e = .returned u∧w'=w.setCell ⟨al,3,none⟩ u:=by
 have c2:=h.cell 2;have c3:=h.cell 3;have f3:=h.soft 3;simp only[zu,zt] at c2 c3;obtain⟨U,ux,rfl,hU⟩:=hu;have hyes:=fun v w=>qb5 underlying103 v w;have hno:=fun v w=>qaw (T:=U) underlying103 Tryz.zAlias hU v w;have Hc:=hid hc;have C2:=hid c2;clear hc h c2 hr;go_enter func87,ntmps87
 go_wp2_with fail
 go_loopg [3,4] (n+1) (fun k t a wr=>wr=w∧((∃ (x:Nat) (v':Value) (m:Nat),a = .pointer (some ⟨x,0,none⟩)∧w.cell? ⟨x,2,none⟩=some v'∧qjh w (.iface U (.pointer (some ux))) m v'∧k=m+1)∨(a = .pointer none∧t = .iface U (.pointer (some ux))∧k=0)))
 case atStart=>exact⟨rfl,.inl ⟨al,rhs,n,rfl,C2.out,Hc.out,rfl⟩⟩
 case round=>
  obtain⟨rfl,⟨x,v',m,rfl,hx,hch,rfl⟩|⟨rfl,rfl,rfl⟩⟩:=hrel
  ·cases m with
   | zero=>
    obtain rfl:v'=_:=hch
    go_wp2_with fail
    go_roundg 0
    case measure=>omega
    case rel=>exact⟨rfl,.inr ⟨rfl,rfl,rfl⟩⟩
   | succ m=>
    obtain⟨al2,v2,rfl,hx2,hch2⟩:=hch;have X2:=hid hx2;have Ch2:=hid hch2;clear hx2 hch2
    go_wp2_with fail
    go_roundg (m+1)
    case measure=>omega
    case rel=>exact⟨rfl,.inl ⟨al2,v2,m,rfl,X2.out,Ch2.out,rfl⟩⟩
  ·go_wp2_with fail
   go_ret
   exact⟨rfl,rfl⟩
theorem qmv (tn:Nat) (w:World) (T R:TypeId) (rx:Option Addr) (a b c:Value) (h:Blk w tn T [a,b,c,.nilIface]):Calls prog 63 #[.pointer none,.pointer (some ⟨tn,0,none⟩),.iface R (.pointer rx)] w fun e w'=>
  e = .returned (.pointer (some ⟨w.heap.size,0,none⟩))∧w'=(w.setCell ⟨tn,3,none⟩ (.iface 103 (.pointer (some ⟨w.heap.size,0,none⟩)))).alloc (.cells #[.pointer (some ⟨tn,0,none⟩),.pointer (some ⟨w.heap.size,0,none⟩),.iface R (.pointer rx),.nilIface] 182):=by
 have c3:=h.cell 3;have f3:=h.soft 3;simp only[zu,zt] at c3;have hl:=h.lt;clear h;go_enter func63,ntmps63
 go_wp2_with fail
 go_ret
 exact⟨rfl,rfl⟩
theorem qpg (al:Nat) (T:TypeId) (a b rhs u:Value) (n:Nat) (hu:qgl u) (w:World) (h:Blk w al T [a,b,rhs,.nilIface]) (hc:qjh w u n rhs) (hr:rhs.oneCell'=true):
  Calls prog 64 #[.pointer (some ⟨al,0,none⟩)] w fun e w'=>e = .returned (.tuple #[])∧w'=w.setCell ⟨al,3,none⟩ u:=by
 have H:=hid h;have Hc:=hid hc;clear h hc;go_enter func64,ntmps64
 go_wp2_with (go_at_call 87;refine(qom al T a b rhs u n hu _ H.out Hc.out hr).mono ?_;rintro e w' ⟨rfl,rfl⟩)
 go_end0
 exact⟨rfl,rfl⟩
theorem qjh.mono {w W:World} {u:Value} (h:∀ x v,w.cell? ⟨x,2,none⟩=some v→W.cell? ⟨x,2,none⟩=some v):∀ {n:Nat} {v:Value},qjh w u n v→qjh W u n v
 | 0,v,hc=>hc
 | n+1,v,⟨al,v',e,hx,hc⟩=>⟨al,v',e,h _ _ hx,qjh.mono h hc⟩
theorem qtg (w:World) (b x:Nat) (z v:Value) (h:w.cell? ⟨x,2,none⟩=some v):(w.setCell ⟨b,3,none⟩ z).cell? ⟨x,2,none⟩=some v:=by
 rw[← h];simp only[World.cell?,World.setCell,Array.getElem?_modify];by_cases hb:b=x
 ·subst hb;rw[if_pos rfl];cases hx:w.heap[b]? with
  | none=>rfl
  | some o=>cases o <;> simp
 ·rw[if_neg hb]
theorem set_new (Y:World) (T:TypeId) (cs:List Value) (j:Nat) (u:Value):(Y.alloc (.cells cs.toArray T)).setCell ⟨Y.heap.size,j,none⟩ u=Y.alloc (.cells (cs.set j u).toArray T):=by
 rw[World.setCell_alloc_at _ _ _ _ _ rfl];simp
theorem qor (tn:Nat) (w:World) (T R:TypeId) (rx:Option Addr) (a b c u:Value) (n:Nat) (hu:qgl u) (h:Blk w tn T [a,b,c,.nilIface]) (hc:qjh w u n (.iface R (.pointer rx))):
  Calls prog 43 #[.pointer (some ⟨tn,0,none⟩),.iface R (.pointer rx)] w fun e w'=>
  e = .returned (.pointer (some ⟨w.heap.size,0,none⟩))∧w'=(w.setCell ⟨tn,3,none⟩ (.iface 103 (.pointer (some ⟨w.heap.size,0,none⟩)))).alloc (.cells #[.pointer (some ⟨tn,0,none⟩),.pointer (some ⟨w.heap.size,0,none⟩),.iface R (.pointer rx),u] 182):=by
 have H:=hid h;have Hc:=hid hc;clear h hc;go_enter func43,ntmps43;have Hn:=hid (Blk.new (w.setCell ⟨tn,3,none⟩ (.iface 103 (.pointer (some ⟨w.heap.size,0,none⟩)))) 182 [.pointer (some ⟨tn,0,none⟩),.pointer (some ⟨w.heap.size,0,none⟩),.iface R (.pointer rx),.nilIface]);have Hs:=hid (set_new (w.setCell ⟨tn,3,none⟩ (.iface 103 (.pointer (some ⟨w.heap.size,0,none⟩)))) 182 [.pointer (some ⟨tn,0,none⟩),.pointer (some ⟨w.heap.size,0,none⟩),.iface R (.pointer rx),.nilIface] 3 u);have hsz:(w.setCell ⟨tn,3,none⟩ (.iface 103 (.pointer (some ⟨w.heap.size,0,none⟩)))).heap.size=w.heap.size:=by simp[World.setCell]
 rw[hsz] at Hn Hs;clear hsz
 go_wp2_with (first|(go_at_call 63;refine(qmv tn _ T R rx a b c H.out).mono ?_;rintro e w' ⟨rfl,rfl⟩)|(go_at_call 64;refine(qpg w.heap.size _ _ _ _ u n hu _ Hn.out (qjh.mono (fun x v hx=>qac.alloc _ _ _ _ (qtg _ _ _ _ _ hx)) Hc.out) rfl).mono ?_;rintro e w' ⟨rfl,rfl⟩;rw[Hs.out]))
 go_ret
 exact⟨rfl,rfl⟩
abbrev muLink:Go.Conc.Locks.MuLink:={ lock:=79,unlock:=80,ilock:=102,iunlock:=103,lockSlow:=132,unlockSlow:=135,disable:=128,enable:=130,acquire:=131,relMerge:=133,cas32:=129,add32:=134,tMutex:=138,tIMutex:=136,tPMutex:=217,tPIMutex:=260,tPI32:=262,tUP:=264,tNoCopy:=133,tU32:=134 }
theorem qwk:Go.Conc.Locks.MuLib prog muLink:=by
 constructor <;> first|kernel_rfl|(intro w;kernel_rfl)
open Go.MuLone
def stB (st m:Int):Bool:=if st=0 then false else if m=8 then st==15 else true
theorem qcz (b:Nat) (st m:Int) (hs:st=0∨st=7∨st=15) (hm:m=3∨m=4∨m=8) (w:World) (h:w.cell? ⟨b,5,none⟩=some (.int .u32 st)):Calls prog 100 #[.pointer (some ⟨b,0,none⟩),.int .u32 m] w fun e w'=>e = .returned (.bool (stB st m))∧w'=w:=by
 have hl:=run_call_load (P:=prog) func126 (by kernel_rfl) (by kernel_rfl) (by kernel_rfl) .u32 (by kernel_rfl) h;clear h;rcases hs with rfl|rfl|rfl
 all_goals rcases hm with rfl|rfl|rfl
 all_goals
  go_enter func100,ntmps100
  go_wp2_with fail
  go_ret
  exact⟨rfl,rfl⟩
theorem run_or {P : Program} {f : FuncId} {fn : Func} (hf : P.funcs[f]? = some fn) (hname : (fn.name == "runtime.NumGoroutine") = false) (hb : fn.body.isNone = true) (hn : Extern.findNext fn = none)
  (he:Extern.find fn=some (Extern.Atomic.update (Op.intBits .or) .u32 false)) {a:Addr} {x y s:Int} {w:World} (hc:w.cell? a=some (.int .u32 x)) (hz:w.frozen? a=false)
  (hs:(Op.intBits .or .u32 x y).run P w = .ok (.int .u32 s) w):
  (callFunc f #[.pointer (some a),.int .u32 y]).run P w = .ok (.value (.int .u32 x)) (w.setCell a (.int .u32 s)):=by
 rw[run_callFunc_extern hf hname hb hn he];change (Sem.run P (do
  let a' ← asAddr (.pointer (some a))
  let old ← Extern.Atomic.read (.int .u32) a'
  let new ← Op.intBits .or .u32 (← asInt old) (← asInt (.int .u32 y))
  store a' new .atomic
  pure (if false=true then new else old)) w).andThen _=_
 simp[Extern.Atomic.read,asAddr,asInt,asIntOf,hc,hz,hs,run_store P w a (.int .u32 s) .atomic rfl,Result.andThen]
theorem qf8 (b:Nat) (st m s:Int) (hs:st=0∧m=7∧s=7∨st=7∧m=7∧s=7∨st=7∧m=8∧s=15) (w:World) (h:w.cell? ⟨b,5,none⟩=some (.int .u32 st)) (hf:w.frozen? ⟨b,5,none⟩=false):
  Calls prog 81 #[.pointer (some ⟨b,0,none⟩),.int .u32 m] w fun e w'=>e = .returned (.tuple #[])∧w'=w.setCell ⟨b,5,none⟩ (.int .u32 s):=by
 have hl:=run_or (P:=prog) (y:=m) (s:=s) func104 (by kernel_rfl) (by kernel_rfl) (by kernel_rfl) (by kernel_rfl) h hf (by rcases hs with ⟨rfl,rfl,rfl⟩|⟨rfl,rfl,rfl⟩|⟨rfl,rfl,rfl⟩ <;> rfl);clear h hf hs;go_enter func81,ntmps81
 go_wp2_with fail
 go_end0
 exact⟨rfl,rfl⟩
theorem qd8 (w:World):Calls prog 75 #[.bool true] w fun e w'=>e = .returned (.tuple #[])∧w'=w:=by
 go_enter func75,ntmps75
 go_wp2_with fail
 go_end0
 exact⟨rfl,rfl⟩
theorem qci (b:Nat) (st:Int) (hs:st=7∨st=15) (w:World) (h:w.cell? ⟨b,5,none⟩=some (.int .u32 st)):Calls prog 77 #[.pointer (some ⟨b,0,none⟩)] w fun e w'=>e = .returned (.pointer (some ⟨b,0,none⟩))∧w'=w:=by
 have hB:stB st 3=true:=by rcases hs with rfl|rfl <;> rfl
 have H:=hid h;have Hs:=hid hs;have HB:=hid hB;clear h hs hB
 go_enter_defers func77,ntmps77
 go_wp2_with (go_at_call 100;refine(qcz b st 3 (.inr Hs.out) (.inl rfl) _ H.out).mono ?_;rintro e w' ⟨rfl,rfl⟩;rw[HB.out])
 exact⟨_,results_tmp rfl _ _ _,rfl,rfl⟩
theorem qrr (b:Nat) (w:World) (T:TypeId) (a0 a1 a2 a6 a7 a8 a9:Value) (h:Blk w b T [a0,a1,a2,.int .i32 0,.int .u32 0,.int .u32 0,a6,a7,a8,a9]):Calls prog 77 #[.pointer (some ⟨b,0,none⟩)] w fun e w'=>e = .returned (.pointer (some ⟨b,0,none⟩))∧
  w'=((w.setCell ⟨b,3,none⟩ (.int .i32 1)).setCell ⟨b,5,none⟩ (.int .u32 7)).setCell ⟨b,3,none⟩ (.int .i32 0):=by
 have c3:=h.cell 3;have f3:=h.soft 3;have c5:=h.cell 5;have f5:=h.soft 5;simp only[zu,zt] at c3 c5;have H:=hid h;have H1:=hid (h.set 3 (.int .i32 1));have H2:=hid ((h.set 3 (.int .i32 1)).set 5 (.int .u32 7));clear h;have tok1:True:=trivial;have tok2:True:=trivial;have tok3:True:=trivial
 go_enter_defers func77,ntmps77
 go_wp2_with (first
  | (go_at_call 100;have _t:=tok1;clear _t tok1;refine(qcz b 0 3 (.inl rfl) (.inl rfl) _ c5).mono ?_;rintro e w' ⟨rfl,rfl⟩)
  | (go_at_call 100;have _t:=tok2;clear _t tok2;refine(qcz b 0 3 (.inl rfl) (.inl rfl) _ (H1.out.cell 5)).mono ?_;rintro e w' ⟨rfl,rfl⟩)
  | (go_at_call 100;have _t:=tok3;clear _t tok3;refine(qcz b 7 8 (.inr (.inl rfl)) (.inr (.inr rfl)) _ (H2.out.cell 5)).mono ?_;rintro e w' ⟨rfl,rfl⟩)
  | (go_at_call 79;refine(lock_free qwk ⟨b,3,none⟩ _ c3 f3).mono ?_;rintro e w' ⟨rfl,rfl⟩)
  | (go_at_call 81;refine(qf8 b 0 7 7 (.inl ⟨rfl,rfl,rfl⟩) _ (H1.out.cell 5) (H1.out.soft 5)).mono ?_;rintro e w' ⟨rfl,rfl⟩)
  | (go_at_call 75;refine(qd8 _).mono ?_;rintro e w' ⟨rfl,rfl⟩))
 refine leaves_cons (f:=80) (args:=#[.pointer (some ⟨b,3,none⟩)]) (by simp) (by simp[go_sem]) ?_;refine(unlock_deferred qwk ⟨b,3,none⟩ .returning _ (H2.out.cell 3) (H2.out.soft 3)).mono ?_;rintro e u' w'' ⟨rfl,rfl,rfl⟩;exact⟨_,results_tmp rfl _ _ _,rfl,rfl⟩
theorem qrj (b:Nat) (w:World) (T:TypeId) (a0 a1 a2 a6 a7 a8 a9:Value) (st:Int) (hs:st=0∨st=7∨st=15) (h:Blk w b T [a0,a1,a2,.int .i32 0,.int .u32 0,.int .u32 st,a6,a7,a8,a9]):
  Calls prog 77 #[.pointer (some ⟨b,0,none⟩)] w fun e w'=>e = .returned (.pointer (some ⟨b,0,none⟩))∧Blk w' b T [a0,a1,a2,.int .i32 0,.int .u32 0,.int .u32 (if st=0 then 7 else st),a6,a7,a8,a9]∧
   w'.heap.size=w.heap.size∧(∀ k,k≠b→w'.heap[k]?=w.heap[k]?)∧w'.os=w.os∧w'.tape=w.tape∧w'.output=w.output:=by
 rcases hs with rfl|hs
 ·refine(qrr b w T a0 a1 a2 a6 a7 a8 a9 h).mono ?_;rintro e w' ⟨rfl,rfl⟩;refine⟨rfl,((h.set 3 (.int .i32 1)).set 5 (.int .u32 7)).set 3 (.int .i32 0),by simp[World.setCell],fun k hk => ?_,rfl,rfl,rfl⟩;rw[Below.heap_setCell _ _ _ _ hk,Below.heap_setCell _ _ _ _ hk,Below.heap_setCell _ _ _ _ hk]
 ·have hn:¬ st=0:=by omega
  refine(qci b st hs w (by have:=h.cell 5;simpa using this)).mono ?_;rintro e w' ⟨rfl,rfl⟩;rw[if_neg hn];exact⟨rfl,h,rfl,fun _ _=>rfl,rfl,rfl,rfl⟩
structure qah (S:Nat→Prop) (w w':World):Prop where
 os:w'.os=w.os
 tape:w'.tape=w.tape
 output:w'.output=w.output
 apart:qag S w w'
theorem qah.refl (S:Nat→Prop) (w:World):qah S w w:=⟨rfl,rfl,rfl,qag.refl S w⟩
theorem qah.trans {S:Nat→Prop} {a b c:World} (h:qah S a b) (k:qah S b c):qah S a c:=⟨k.os.trans h.os,k.tape.trans h.tape,k.output.trans h.output,h.apart.trans k.apart⟩
theorem qah.keep {S:Nat→Prop} {w w':World} (h:Below w.heap.size w w'):qah S w w':=⟨h.os,h.tape,h.output,qag.keep h⟩
theorem qah.setCell (S:Nat→Prop) (w:World) {a:Addr} (ha:S a.block) (v:Value):qah S w (w.setCell a v):=⟨rfl,rfl,rfl,qag.setCell S w ha v⟩
theorem qah.grown {S:Nat→Prop} {w w':World} {row:Option Nat} (h:w.grownBy w' row) (hr:∀ b,row=some b→b<w.heap.size→S b):qah S w w':=⟨h.os,h.tape,h.output,qag.grown h hr⟩
theorem qah.drew {S:Nat→Prop} {a w:World} (h:qah S a w):qah S a w.drew:=⟨h.os,h.tape,h.output,⟨h.apart.size,h.apart.block⟩⟩
theorem qah.mono {S S':Nat→Prop} {w w':World} (h:qah S w w') (hs:∀ b,b<w.heap.size→S b→S' b):qah S' w w':=⟨h.os,h.tape,h.output,h.apart.mono hs⟩
theorem qah.below {S:Nat→Prop} {B:Nat} {w w':World} (h:qah S w w') (hB:B≤w.heap.size) (hs:∀ b,S b→B≤b):Below B w w':=
 ⟨h.os,h.tape,h.output,h.apart.size,fun k hk=>h.apart.block k (by omega) fun hS=>by have:=hs k hS;omega⟩
theorem qpo (a b:Nat) (p:ByteArray) (w:World) (ha:w.cell? ⟨a,0,none⟩=some (.string p)) (hb:w.cell? ⟨b,0,none⟩=some (.string p)):
  Calls prog 76 #[.pointer (some ⟨a,0,none⟩),.pointer (some ⟨b,0,none⟩)] w fun e w'=>e = .returned (.bool true)∧∃ n,w'=w.drewN n:=by
 go_enter func76,ntmps76
 go_wp2_with fail
 go_quiet (fail)
 go_wp2_with fail
 go_ret
 exact⟨by simp,_,rfl⟩
theorem qg2 (b:Nat) (w:World) (T:TypeId) (a0 a1 a2 a8 a9:Value) (R U:TypeId) (rx ux:Option Addr) (h:Blk w b T [a0,a1,a2,.int .i32 0,.int .u32 0,.int .u32 15,.iface R (.pointer rx),.iface U (.pointer ux),a8,a9]):
  Calls prog 83 #[.pointer (some ⟨b,0,none⟩)] w fun e w'=>e = .returned (.iface U (.pointer ux))∧w'=w:=by
 have c5:=h.cell 5;have c6:=h.cell 6;have c7:=h.cell 7;simp only[zu,zt] at c5 c6 c7;clear h;go_enter func83,ntmps83
 go_wp2_with (first
  | (go_at_call 77;refine(qci b 15 (.inr rfl) _ c5).mono ?_;rintro e w' ⟨rfl,rfl⟩)
  | (go_at_call 106;go_in)
  | (go_at_call 100;refine(qcz b 15 8 (.inr (.inr rfl)) (.inr (.inr rfl)) _ c5).mono ?_;rintro e w' ⟨rfl,rfl⟩;rw[show stB 15 8=true from rfl]))
 go_ret
 exact⟨rfl,rfl⟩
theorem qoe (b:Nat) (w:World) (T:TypeId) (a0 a1 a2 a6 a7 a8 a9:Value) (st:Int) (hs:st=0∨st=7) (U:TypeId) (ux:Addr) (hU:U≠103) (hN:U≠98) (h:Blk w b T [a0,a1,a2,.int .i32 0,.int .u32 0,.int .u32 st,a6,a7,a8,a9]):
  Calls prog 48 #[.pointer (some ⟨b,0,none⟩),.iface U (.pointer (some ux))] w fun e w'=>e = .returned (.tuple #[])∧w'.heap.size=w.heap.size∧qah (fun k=>k=b) w w'∧
   Blk w' b T [a0,a1,.bool false,.int .i32 0,.int .u32 0,.int .u32 15,.iface U (.pointer (some ux)),.iface U (.pointer (some ux)),a8,a9]:=by
 have H0:=hid h;have H1:=hid (h.set 3 (.int .i32 1));have H2:=hid (((h.set 3 (.int .i32 1)).set 6 (.iface U (.pointer (some ux)))).set 2 (.bool false));have H3:=hid ((((h.set 3 (.int .i32 1)).set 6 (.iface U (.pointer (some ux)))).set 2 (.bool false)).set 5 (.int .u32 7));have H4:=hid (((((h.set 3 (.int .i32 1)).set 6 (.iface U (.pointer (some ux)))).set 2 (.bool false)).set 5 (.int .u32 7)).set 7 (.iface U (.pointer (some ux))));have c3:=h.cell 3;have f3:=h.soft 3;have c2:=h.cell 2;have f2:=h.soft 2;have c6:=h.cell 6;have f6:=h.soft 6;have c7:=h.cell 7;have f7:=h.soft 7;simp only[zu,zt] at c3 c2 c6 c7;have Hst:=hid hs;clear h hs;have tok1:True:=trivial
 go_enter_defers func48,ntmps48
 go_wp2_with (first
  | (go_at_call 61;refine(qgm _ U ux _ hN ⟨⟨U,ux,rfl,hU⟩,.inl rfl⟩).mono ?_;rintro e w' ⟨rfl,rfl⟩)
  | (go_at_call 79;refine(lock_free qwk ⟨b,3,none⟩ _ c3 f3).mono ?_;rintro e w' ⟨rfl,rfl⟩)
  | (go_at_call 81;have _t:=tok1;clear _t tok1;refine(qf8 b st 7 7 (by rcases Hst.out with h|h <;> simp[h]) _ (H2.out.cell 5) (H2.out.soft 5)).mono ?_;rintro e w' ⟨rfl,rfl⟩)
  | (go_at_call 81;refine(qf8 b 7 8 15 (.inr (.inr ⟨rfl,rfl,rfl⟩)) _ (H4.out.cell 5) (H4.out.soft 5)).mono ?_;rintro e w' ⟨rfl,rfl⟩))
 refine leaves_cons (f:=80) (args:=#[.pointer (some ⟨b,3,none⟩)]) (by simp) (by simp[go_sem]) ?_;have H5:=H4.out.set 5 (.int .u32 15);refine(unlock_deferred qwk ⟨b,3,none⟩ .returning _ (H5.cell 3) (H5.soft 3)).mono ?_;rintro e u' w'' ⟨rfl,rfl,rfl⟩;refine⟨_,results_none rfl _ _ _,rfl,?_,?_,H5.set 3 (.int .i32 0)⟩
 ·simp[World.setCell]
 ·have t:∀ (u:World) (j:Nat) (v:Value),qah (fun k=>k=b) u (u.setCell ⟨b,j,none⟩ v):=fun u j v=>qah.setCell (fun k=>k=b) u (a:=⟨b,j,none⟩) rfl v;exact((((((t _ _ _).trans (t _ _ _)).trans (t _ _ _)).trans (t _ _ _)).trans (t _ _ _)).trans (t _ _ _)).trans (t _ _ _)
theorem qia {a b:Int} (ha:IsNm a) (hb:IsNm b) (h:a≠b):((qas a).toList==(qas b).toList)=false:=by
 have key:∀ i:Fin 16,∀ j:Fin 16,i≠j→(((⟨(nmB.getD i.val []).toArray⟩:ByteArray)).toList==((⟨(nmB.getD j.val []).toArray⟩:ByteArray)).toList)=false:=by decide +kernel
 unfold IsNm at ha hb;have:=key ⟨a.toNat,by omega⟩ ⟨b.toNat,by omega⟩ (by intro e;injection e with e;omega);simpa[qas] using this
theorem qwz (a:Int):((qas a).toList==(qas a).toList)=true:=by simp
theorem qhk {a:Int} (ha:IsNm a) (h:a≠8):((qas a).toList==[95])=false:=by
 have:=qia ha (by constructor <;> decide:IsNm 8) h
 rwa [show(qas 8).toList=[95] by decide +kernel] at this
def qa7 (l:List Nat):List Value:=l.map fun f=>Value.pointer (some ⟨f,0,none⟩)
def qlm (w:World) (a:Option Addr) (l:List Nat):Prop:=∀ i (hi:i<l.length),∃ b o,a=some ⟨b,o,none⟩∧w.cell? ⟨b,o+i,none⟩=some (.pointer (some ⟨l[i],0,none⟩))
theorem qk3 (b:Nat) (ra:Option Addr) (rc:Nat) (fs:List Nat) (ns:List Int) (nm:Int) (w:World) (h:w.cell? ⟨b,9,none⟩=some (.slice ra fs.length rc)) (hr:qlm w ra fs)
  (hn:∀ i (hi:i<fs.length),w.cell? ⟨fs[i],2,none⟩=some (.string (qas (ns.getD i 0)))∧IsNm (ns.getD i 0)∧ns.getD i 0≠nm) (hnm:IsNm nm) (h8:nm≠8) (hrc:fs.length≤rc) (hl:fs.length≤1048576):
  Calls prog 78 #[.pointer (some ⟨b,0,none⟩),.string (qas nm),.bool false] w fun e w'=>e = .returned (.int .i64 (-1))∧w'=w:=by
 have hbl:=qhk hnm h8;have Hr:=hid hr;have Hn:=hid hn;have Hnm:=hid hnm;clear hr hn hnm h8;go_enter func78,ntmps78
 go_wp2_with fail
 go_loop [38] (fun j=>∃ k:Nat,k≤fs.length∧j = .int .i64 k) (fun j=>fs.length - (intOf j).toNat)
 case atStart=>exact⟨0,by omega,rfl⟩
 case round=>
  obtain⟨k,hk,rfl⟩:=hrel;by_cases hlt:k<fs.length
  ·obtain⟨g,o,rfl,hg⟩:=Hr.out k hlt;obtain⟨hc,hi,hne⟩:=Hn.out k hlt;have hq:=qia hi Hnm.out hne;clear hi hne
   generalize ns.getD k 0=x at hc hq
   go_wp2_with fail
   go_round
   case rel=>exact⟨k+1,by omega,by go_num⟩
   case measure=>simp[intOf];omega
  ·obtain rfl:k=fs.length:=by omega
   go_wp2_with fail
   go_ret
   exact⟨rfl,rfl⟩
theorem qeh {w:World} {T:TypeId} {ra:Option Addr} {rc:Nat} {fs:List Nat} (h:w.ownsRow 0 T 1 (.slice ra fs.length rc) fs.length (qa7 fs)):qlm w ra fs:=by
 intro i hi;obtain⟨a,c,he,-,h1,h2⟩:=qak h;cases he;cases ra with
 | none=>have:=(h2 rfl).1;omega
 | some ad=>
  obtain⟨g,rfl,-,-,hc⟩:=h1 ad rfl;exact⟨g,0,rfl,hc i _ (by simp[qa7,zr hi])⟩
theorem Tryz.infoPF:(prog.info? 106).map (fun i=>(i.zero,i.size,i.bytes))=some (some (.pointer none),1,8):=by kernel_rfl
theorem qmc (b tn pk f:Nat) (ra:Option Addr) (rc:Nat) (fs:List Nat) (ns:List Int) (nm:Int) (st:Int) (hs:st=0∨st=7) (w:World) (T:TypeId) (a0 a2 a6 a7 a8:Value) (p:ByteArray)
  (h:Blk w b T [a0,.pointer (some ⟨tn,0,none⟩),a2,.int .i32 0,.int .u32 0,.int .u32 st,a6,a7,a8,.slice ra fs.length rc])
  (ht:w.cell? ⟨tn,1,none⟩=some (.pointer (some ⟨pk,0,none⟩))) (hp:w.cell? ⟨pk,0,none⟩=some (.string p)) (hf1:w.cell? ⟨f,1,none⟩=some (.pointer (some ⟨pk,0,none⟩))) (hf2:w.cell? ⟨f,2,none⟩=some (.string (qas nm)))
  (hown:w.ownsRow 0 106 1 (.slice ra fs.length rc) fs.length (qa7 fs)) (hob:∀ g,(Value.slice ra fs.length rc).ownBlock=some g→g≠b)
  (hn:∀ i (hi:i<fs.length),w.cell? ⟨fs[i],2,none⟩=some (.string (qas (ns.getD i 0)))∧fs[i]≠b∧IsNm (ns.getD i 0)∧ns.getD i 0≠nm) (hnm:IsNm nm) (h8:nm≠8) (hl:fs.length≤1048576) (hne:tn≠b∧pk≠b∧f≠b):
  Calls prog 47 #[.pointer (some ⟨b,0,none⟩),.pointer (some ⟨f,0,none⟩)] w fun e w'=>e = .returned (.tuple #[])∧∃ ra' rc',qah (fun k=>k=b∨(Value.slice ra fs.length rc).ownBlock=some k) w w'∧
   Blk w' b T [a0,.pointer (some ⟨tn,0,none⟩),a2,.int .i32 0,.int .u32 0,.int .u32 7,a6,a7,a8,.slice ra' (fs.length+1) rc']∧w'.ownsRow 0 106 1 (.slice ra' (fs.length+1) rc') (fs.length+1) (qa7 (fs++[f]))∧
   ((Value.slice ra' (fs.length+1) rc').ownBlock=(Value.slice ra fs.length rc).ownBlock∨∃ g,(Value.slice ra' (fs.length+1) rc').ownBlock=some g∧w.heap.size≤g):=by
 have c1:=h.cell 1;simp only[zu,zt] at c1;have H:=hid h;have Hs:=hid hs;have Hown:=hid hown;have Hob:=hid hob;have Hn:=hid hn;have Hnm:=hid hnm;have H8:=hid h8;have Hne:=hid hne;have Hp:=hid hp;clear h hs hown hob hn hnm h8 hne;obtain⟨i0,hi,hz0,hz1,hzb⟩:=info_parts Tryz.infoPF;have Di:=hid hi;have D0:=hid hz0;have D1:=hid hz1;have D2:=hid hzb;clear hi hz0 hz1 hzb;go_enter func47,ntmps47
 go_wp2_with fail
 go_quiet ((first|(go_at_call 76;exact Calls.quiet_of (qpo pk pk p _ (by assumption) (by assumption)))|(go_at_call 75;exact Calls.quiet_of_same (qd8 _))))
 have HD:Hid (Blk (w.drewN nq) b T [a0,.pointer (some ⟨tn,0,none⟩),a2,.int .i32 0,.int .u32 0,.int .u32 st,a6,a7,a8,.slice ra fs.length rc]):=hid H.out;have hd:qah (fun k=>k=b∨(Value.slice ra fs.length rc).ownBlock=some k) w (w.drewN nq):=⟨rfl,rfl,rfl,⟨zl _,fun _ _ _=>rfl⟩⟩;have HDt:=hid hd;have Hc2:Hid ((w.drewN nq).cell? ⟨f,2,none⟩=some (.string (qas nm))):=hid hf2;have Hown2:Hid ((w.drewN nq).ownsRow 0 106 1 (.slice ra fs.length rc) fs.length (qa7 fs)):=hid Hown.out;have Hn2:Hid (∀ i (hi:i<fs.length),(w.drewN nq).cell? ⟨fs[i],2,none⟩=some (.string (qas (ns.getD i 0)))∧fs[i]≠b∧IsNm (ns.getD i 0)∧ns.getD i 0≠nm):=hid Hn.out;have hzd:(w.drewN nq).heap.size=w.heap.size:=rfl;have Hzd:=hid hzd;clear hd hf2 ht hf1 hp hzd
 generalize w.drewN nq=w1 at *
 go_wp2_with (first
  | (go_at_call 77;refine(qrj b _ T _ _ _ _ _ _ _ st (by have:=Hs.out;omega) HD.out).mono ?_;rintro e w2 ⟨rfl,hb2,hz2,ho2,hos,htp,hou⟩;have Hb2:=hid hb2;have Ho2:=hid ho2;have Htu:Hid (qah (fun k=>k=b∨(Value.slice ra fs.length rc).ownBlock=some k) w1 w2):=hid ⟨hos,htp,hou,⟨Nat.le_of_eq hz2.symm,fun k _ hk=>ho2 k fun e=>hk (.inl e)⟩⟩;have q2:w2.cell? ⟨f,2,none⟩=some (.string (qas nm)):=(zlb (ho2 f Hne.out.2.2)).trans Hc2.out;have Hw2:Hid (w2.ownsRow 0 106 1 (.slice ra fs.length rc) fs.length (qa7 fs)):=hid (qab Hown2.out (S:=fun k=>k=b) ⟨Nat.le_of_eq hz2.symm,fun k _ hk=>ho2 k hk⟩ fun g hg e=>Hob.out g hg e);have Hz2:=hid hz2;clear hb2 ho2 hos htp hou hz2)
  | fail)
 refine(qk3 b ra rc fs ns nm _ (by have:=Hb2.out.cell 9;simpa using this) (qeh Hw2.out) (fun i hi=>⟨(zlb (Ho2.out _ (Hn2.out i hi).2.1)).trans (Hn2.out i hi).1,(Hn2.out i hi).2.2⟩) Hnm.out H8.out (by obtain⟨_,_,he,hle,-⟩:=qak Hw2.out;cases he;exact hle) hl).mono ?_;rintro e w3 ⟨rfl,hw3⟩;have hw4:=hw3.symm;subst hw4;have c9:=Hb2.out.cell 9;simp only[zu,zt] at c9;have hbl:b<w2.heap.size:=Hb2.out.lt;have hbl1:b<w2.heap.size+1:=by omega
 have HBX:Hid (Below w2.heap.size w2 (w2.alloc (Obj.cells #[.pointer (some ⟨f,0,none⟩)] 106))):=hid ((zp _ _).alloc (zl _) _);have Hnew:=hid (Blk.new w2 106 [.pointer (some ⟨f,0,none⟩)]);have Hown5:=hid (qab Hw2.out (qag.keep (S:=fun _=>False) HBX.out) (fun _ _ h=>h));have Hbk5:=hid (Hb2.out.keep HBX.out);clear q2
 go_wp2_with (at_builtin;refine qb2 _ rfl _ _ 129 rfl 106 i0 _ 1 8 underlying129 Di.out D0.out D1.out D2.out rfl (by decide) (.slice ra fs.length rc) fs.length (qa7 fs) rfl Hown5.out _ 1 1 [.pointer (some ⟨f,0,none⟩)] rfl rfl ?c1 ?c2 ?c3 ?c4 (by decide) ?c5)
 case c1=>exact qck Hnew.out
 case c2=>intro u hu;simp only[zgb,List.not_mem_nil,or_false] at hu;subst hu;rfl
 case c3=>unfold maxLen;omega
 case c4=>omega
 case c5=>
  intro v' w5 hown' hgrow hloc;obtain⟨ra',rc',rfl,-,-⟩:=qak hown';have hbk6:=Hbk5.out.apart (S:=fun k=>(Value.slice ra fs.length rc).ownBlock=some k) (qag.grown hgrow fun k h _=>h) (fun h=>Hob.out b h rfl);have hb6:=hbk6.cell 9;have hf6:=hbk6.soft 9;simp only[zu,zt] at hb6;have Hbk6:=hid hbk6;have Hown':=hid hown';have Hgrow:=hid hgrow;have Hloc:=hid hloc;clear hbk6 hown' hgrow hloc
  go_wp2_with fail
  go_end0
  refine⟨rfl,ra',rc',?_,?_,?_,?_⟩
  ·exact(HDt.out.trans Htu.out).trans (((qah.keep HBX.out).trans (qah.grown Hgrow.out fun k h _ => .inr h)).trans (qah.setCell _ _ (.inl rfl) _))
  ·have:=Hbk6.out.set 9 (.slice ra' (fs.length+1) rc');have e:(if st=0 then(7:Int) else st)=7:=by rcases Hs.out with h|h <;> simp[h]
   rw[e] at this;exact this
  ·have:=qab Hown'.out (qag.setCell (fun k=>k=b) w5 (a:=⟨b,9,none⟩) rfl (.slice ra' (fs.length+1) rc')) (fun g hg e=>by
    rcases Hloc.out with h|h
    ·exact Hob.out g (h ▸ hg) e
    ·rw[h] at hg;cases hg;have hz:b<(w2.alloc (Obj.cells #[.pointer (some ⟨f,0,none⟩)] 106)).heap.size:=by simp;omega
     omega)
   simpa[qa7] using this
  ·rcases Hloc.out with h|h
   ·exact .inl h
   ·refine .inr ⟨_,h,?_⟩;have:=Hz2.out;have:=Hzd.out;simp;omega
open Go.Shelf Go.Lib
theorem qgy (s:ByteArray) (h:0<s.size):s.toList.isEmpty=false:=by
 rw[Lib.toList_data]
 cases e:s.data.toList with
 | nil=>rw[Lib.size_eq,e] at h;simp at h
 | cons _ _=>rfl
theorem get0 (s:ByteArray) (h:0<s.size):s[0]'h=s.get! 0:=(Utf8W.get!_of_lt s 0 h).symm
theorem get1 (s:ByteArray) (h:1<s.size):s[1]'h=s.get! 1:=(Utf8W.get!_of_lt s 1 h).symm
theorem get2 (s:ByteArray) (h:2<s.size):s[2]'h=s.get! 2:=(Utf8W.get!_of_lt s 2 h).symm
theorem dec_low:∀ k:Nat,k<16→k<9∨12<k→0<(qas k).size∧((qas k).get! 0).toNat<128∧decodeGo (qas k)=(((qas k).get! 0).toNat,1):=by decide +kernel
theorem qwx (s:ByteArray) (x0:UInt8) (hs:0<s.size) (h0:s[0]'hs=x0) (hx:x0.toNat<128) (w:World):
 Calls prog 117 #[.string s] w fun e w'=>e = .returned (.tuple #[.int .i32 (x0.toNat:Nat),.int .i64 1])∧qca w w':=by
 have hz:(0:Int)<(s.size:Int):=by omega
 have hne:s.toList.isEmpty=false:=qgy s hs
 have hxi:(x0.toNat:Int)<128:=by omega
 go_enter func117,ntmps117
 go_wp2
 go_ret2
 exact⟨rfl,qca.refl _⟩
theorem qhr (s:ByteArray) (x0:UInt8) (hs:0<s.size) (h0:s[0]'hs=x0) (hx:128≤x0.toNat) (a b:Int) (w:World)
 (hc:Calls prog 146 #[.string s] w fun e w'=>e = .returned (.tuple #[.int .i32 a,.int .i64 b])∧qca w w'):
 Calls prog 117 #[.string s] w fun e w'=>e = .returned (.tuple #[.int .i32 a,.int .i64 b])∧qca w w':=by
 have hz:(0:Int)<(s.size:Int):=by omega
 have hne:s.toList.isEmpty=false:=qgy s hs
 have hxi:¬ ((x0.toNat:Int)<128):=by omega
 go_enter func117,ntmps117
 go_wp2_with (go_at_call 146;refine hc.mono ?_;rintro e w' ⟨rfl,hg⟩)
 go_ret2
 exact⟨rfl,hg⟩
theorem quy (n:Int) (h:IsNm n) (w:World) (hT:Tabs w):
 Calls prog 117 #[.string (qas n)] w fun e w'=>e = .returned (.tuple #[.int .i32 ((decodeGo (qas n)).1:Nat),.int .i64 ((decodeGo (qas n)).2:Nat)])∧qca w w':=by
 obtain⟨k,rfl⟩:∃ k:Nat,n=k:=⟨n.toNat,by have:=h.1;omega⟩
 have hk:k<16:=by have:=h.2;omega
 by_cases hl:k<9∨12<k
 ·obtain⟨h1,h2,h3⟩:=dec_low k hk hl
  rw[h3]
  exact qwx _ _ h1 (get0 _ h1) h2 w
 ·have hh:k=9∨k=10∨k=11∨k=12:=by omega
  rcases hh with rfl|rfl|rfl|rfl
  ·have e:decodeGo (qas ((9:Nat):Int))=(233,2):=by decide +kernel
   rw[e]
   exact qhr _ 195 (by decide +kernel) (by rw[get0];decide +kernel) (by decide) _ _ _ (slow2 _ 195 169 (by decide +kernel) (by rw[get0];decide +kernel) (by rw[get1];decide +kernel) (by decide) w hT.utf)
  ·have e:decodeGo (qas ((10:Nat):Int))=(201,2):=by decide +kernel
   rw[e]
   exact qhr _ 195 (by decide +kernel) (by rw[get0];decide +kernel) (by decide) _ _ _ (slow2 _ 195 137 (by decide +kernel) (by rw[get0];decide +kernel) (by rw[get1];decide +kernel) (by decide) w hT.utf)
  ·have e:decodeGo (qas ((11:Nat):Int))=(453,2):=by decide +kernel
   rw[e]
   exact qhr _ 199 (by decide +kernel) (by rw[get0];decide +kernel) (by decide) _ _ _ (slow2 _ 199 133 (by decide +kernel) (by rw[get0];decide +kernel) (by rw[get1];decide +kernel) (by decide) w hT.utf)
  ·have e:decodeGo (qas ((12:Nat):Int))=(19990,3):=by decide +kernel
   rw[e]
   exact qhr _ 228 (by decide +kernel) (by rw[get0];decide +kernel) (by decide) _ _ _ (slow3 _ (by decide +kernel) (by rw[get0];decide +kernel) (by rw[get1];decide +kernel) (by rw[get2];decide +kernel) w hT.utf)
theorem qti:∀ k:Nat,k<16→(decodeGo (qas k)).1≤65000∧isUpperU ((decodeGo (qas k)).1:Nat)=qay k:=by decide +kernel
theorem exp_x (n:Int) (h:IsNm n) (w:World) (hT:Tabs w):Calls prog 85 #[.string (qas n)] w fun e w'=>e = .returned (.bool (qay n))∧qca w w':=by
 have hd:(decodeGo (qas n)).1≤65000∧isUpperU ((decodeGo (qas n)).1:Nat)=qay n:=by
  obtain⟨k,rfl⟩:∃ k:Nat,n=k:=⟨n.toNat,by have:=h.1;omega⟩
  exact qti k (by have:=h.2;omega)
 obtain⟨d1,d2⟩:=hd
 have HT:=hid hT
 have hc:=quy n h w hT
 rw[← d2]
 clear d2 h hT
 generalize (decodeGo (qas n)).1=r at *
 generalize (decodeGo (qas n)).2=r2 at *
 generalize qas n=s at *
 have Hc:=hid hc
 clear hc
 go_enter func85,ntmps85
 go_wp2_with (first
  | (go_at_call 117;refine Hc.out.mono ?_;rintro e w1 ⟨rfl,hg1⟩;have Hg1:=hid hg1;clear hg1)
  | (go_at_call 118;refine(upper_x _ _ ⟨by omega,by omega⟩ (HT.out.below Hg1.out.below)).mono ?_;rintro e w2 ⟨rfl,q2,rfl⟩))
 go_ret
 exact⟨rfl,Hg1.out.trans (qca.drew _ _)⟩
def cmpI (x y:Nat):Int:=if x<y then -1 else if y<x then 1 else 0
theorem qrp:∀ i:Fin 16,∀ j:Fin 16,∀ p:Fin 2,∀ q:Fin 2,(i≠j∧qay (i.val:Nat)=qay (j.val:Nat))→Lib.compareBytes (qas (i.val:Nat)).data.toList (qas (j.val:Nat)).data.toList=cmpI (rank (p.val:Nat) (i.val:Nat)) (rank (q.val:Nat) (j.val:Nat)):=by decide +kernel
theorem qs5:∀ i:Fin 16,∀ p:Fin 2,∀ q:Fin 2,qay (i.val:Nat)=false→Lib.compareBytes (qbo (p.val:Nat)).data.toList (qbo (q.val:Nat)).data.toList=cmpI (rank (p.val:Nat) (i.val:Nat)) (rank (q.val:Nat) (i.val:Nat)):=by decide +kernel
theorem qvx:∀ i:Fin 16,∀ j:Fin 16,∀ p:Fin 2,∀ q:Fin 2,qay (i.val:Nat)≠qay (j.val:Nat)→cmpI (rank (p.val:Nat) (i.val:Nat)) (rank (q.val:Nat) (j.val:Nat))=if qay (i.val:Nat) then -1 else 1:=by decide +kernel
theorem qul:∀ i:Fin 16,∀ p:Fin 2,∀ q:Fin 2,qay (i.val:Nat)=true→cmpI (rank (p.val:Nat) (i.val:Nat)) (rank (q.val:Nat) (i.val:Nat))=0:=by decide +kernel
structure qgt (w:World) (f pk:Nat) (p n:Int):Prop where
 c1:w.cell? ⟨f,1,none⟩=some (.pointer (some ⟨pk,0,none⟩))
 c2:w.cell? ⟨f,2,none⟩=some (.string (qas n))
 cp:w.cell? ⟨pk,0,none⟩=some (.string (qbo p))
 nm:IsNm n
 pp:p=0∨p=1
 bk:∃ T cs,Blk w f T cs
theorem qgt.below {w w':World} {f pk:Nat} {p n:Int} (h:qgt w f pk p n) (k:Below w.heap.size w w'):qgt w' f pk p n:=⟨qac.below k _ _ h.c1,qac.below k _ _ h.c2,qac.below k _ _ h.cp,h.nm,h.pp,by obtain⟨T,cs,hb⟩:=h.bk;exact⟨T,cs,hb.keep k⟩⟩
theorem Tryz.szObj:(prog.info? 142).map (·.size)=some 4:=by kernel_rfl
theorem cmp_go (a b pa pb:Nat) (s t u v:ByteArray) (es et:Bool) (w:World) (a1:w.cell? ⟨a,1,none⟩=some (.pointer (some ⟨pa,0,none⟩))) (a2:w.cell? ⟨a,2,none⟩=some (.string s)) (a3:w.cell? ⟨pa,0,none⟩=some (.string u))
 (b1:w.cell? ⟨b,1,none⟩=some (.pointer (some ⟨pb,0,none⟩))) (b2:w.cell? ⟨b,2,none⟩=some (.string t)) (b3:w.cell? ⟨pb,0,none⟩=some (.string v)) (hne:a≠b) (Ta Tb:TypeId) (ca cb:List Value) (hba:Blk w a Ta ca) (hbb:Blk w b Tb cb)
 (hs:∀ W,Below w.heap.size w W→Calls prog 85 #[.string s] W fun e w'=>e = .returned (.bool es)∧qca W w')
 (ht:∀ W,Below w.heap.size w W→Calls prog 85 #[.string t] W fun e w'=>e = .returned (.bool et)∧qca W w'):
 Calls prog 150 #[.pointer (some ⟨a,0,none⟩),.pointer (some ⟨b,0,none⟩)] w fun e w'=>e = .returned (.int .i64 (if es=et then if(s.toList==t.toList)=true then if es=true then 0 else Lib.compareBytes u.data.toList v.data.toList else Lib.compareBytes s.data.toList t.data.toList else if es=true then -1 else 1))∧qca w w':=by
 have Hs:=hid hs
 have Ht:=hid ht
 have hal:=zj w _ a1
 have hbl:=zj w _ b1
 have hpl:=zj w _ a3
 have hql:=zj w _ b3
 simp only at hal hbl hpl hql
 have A1:=hid a1
 have B1:=hid b1
 have A3:=hid a3
 have B3:=hid b3
 have tok1:True:=trivial
 obtain⟨io,hio,hsz⟩:=zbb.1 Tryz.szObj
 have qne:=run_eql_ptr_other (P:=prog) w (a:=⟨a,0,none⟩) (b:=⟨b,0,none⟩) underlying281 hio (by rw[hsz];decide) (by first|(simp;done)|simpa using hne) hba hbb
 clear hba hbb hio hsz
 clear hs ht a1 b1 a3 b3
 cases hst:(s.toList==t.toList) <;> cases es <;> cases et
 all_goals
  go_enter func150,ntmps150
  go_wp2_with (first
   | (go_at_call 85;have _t:=tok1;clear _t tok1;refine(Hs.out _ (zp _ _)).mono ?_;rintro e w1 ⟨rfl,hg1⟩;have Hg1:=hid hg1;have b2':=(qac.below hg1.below) _ _ b2;clear hg1)
   | (go_at_call 85;refine(Ht.out _ Hg1.out.below).mono ?_;rintro e w2 ⟨rfl,hg2⟩;have Hg2:=hid (Hg1.out.trans hg2);have a2':=(qac.below Hg2.out.below) _ _ a2;have b2'':=(qac.below Hg2.out.below) _ _ b2;have a1':=(qac.below Hg2.out.below) _ _ A1.out;have b1':=(qac.below Hg2.out.below) _ _ B1.out;have a3':=(qac.below Hg2.out.below) _ _ A3.out;have b3':=(qac.below Hg2.out.below) _ _ B3.out;have hz2:=zq Hg2.out.below;have hal2:a<w2.heap.size:=(by omega);have hbl2:b<w2.heap.size:=(by omega);have hpl2:pa<w2.heap.size:=(by omega);have hql2:pb<w2.heap.size:=(by omega);clear hg2 a2 b2 b2'))
  first
  | (go_ret;exact⟨by simp,Hg2.out⟩)
  | (go_quiet (fail)
     go_wp2_with fail
     first
     | (go_ret;exact⟨by simp,Hg2.out.trans (qca.drew _ _)⟩)
     | (have Hg3:Hid (qca w (w2.drewN nq)):=hid (Hg2.out.trans (qca.drew _ _))
        have x1:(w2.drewN nq).cell? ⟨a,1,none⟩=some (.pointer (some ⟨pa,0,none⟩)):=a1'
        have x2:(w2.drewN nq).cell? ⟨a,2,none⟩=some (.string s):=a2'
        have x3:(w2.drewN nq).cell? ⟨pa,0,none⟩=some (.string u):=a3'
        have y1:(w2.drewN nq).cell? ⟨b,1,none⟩=some (.pointer (some ⟨pb,0,none⟩)):=b1'
        have y2:(w2.drewN nq).cell? ⟨b,2,none⟩=some (.string t):=b2''
        have y3:(w2.drewN nq).cell? ⟨pb,0,none⟩=some (.string v):=b3'
        have hz3:(w2.drewN nq).heap.size=w2.heap.size:=rfl
        clear a1' a2' a3' b1' b2'' b3'
        generalize w2.drewN nq=w3 at *
        rw[← hz3] at hal2 hbl2 hpl2 hql2
        go_quiet ((go_at_call 184;exact Calls.quiet_of_same (Tryz.strings_Compare _ _ _)))
        go_wp2_with fail
        go_ret
        exact⟨by simp,Hg3.out.trans (qca.drew _ _)⟩))
theorem cmp_x (a b pa pb:Nat) (p q n m:Int) (w:World) (hT:Tabs w) (ha:qgt w a pa p n) (hb:qgt w b pb q m) (hne:a≠b):
 Calls prog 150 #[.pointer (some ⟨a,0,none⟩),.pointer (some ⟨b,0,none⟩)] w fun e w'=>e = .returned (.int .i64 (cmpI (rank p n) (rank q m)))∧qca w w':=by
 obtain⟨Ta,ca,ba⟩:=ha.bk
 obtain⟨Tb,cb,bb⟩:=hb.bk
 have h:=cmp_go a b pa pb (qas n) (qas m) (qbo p) (qbo q) (qay n) (qay m) w ha.c1 ha.c2 ha.cp hb.c1 hb.c2 hb.cp hne Ta Tb ca cb ba bb (fun W hW=>exp_x n ha.nm W (hT.below hW)) (fun W hW=>exp_x m hb.nm W (hT.below hW))
 refine h.mono ?_
 rintro e w' ⟨rfl,hg⟩
 refine⟨?_,hg⟩
 congr 2
 obtain⟨i,rfl⟩:∃ i:Nat,n=i:=⟨n.toNat,by have:=ha.nm.1;omega⟩
 obtain⟨j,rfl⟩:∃ j:Nat,m=j:=⟨m.toNat,by have:=hb.nm.1;omega⟩
 obtain⟨x,rfl⟩:∃ x:Nat,p=x:=⟨p.toNat,by have:=ha.pp;omega⟩
 obtain⟨y,rfl⟩:∃ y:Nat,q=y:=⟨q.toNat,by have:=hb.pp;omega⟩
 have hi:i<16:=by have:=ha.nm.2;omega
 have hj:j<16:=by have:=hb.nm.2;omega
 have hx:x<2:=by have:=ha.pp;omega
 have hy:y<2:=by have:=hb.pp;omega
 by_cases he:qay (i:Int)=qay (j:Int)
 ·rw[if_pos he]
  by_cases hij:i=j
  ·subst hij
   rw[if_pos (qwz _)]
   cases hx1:qay (i:Int) with
   | true=>simpa using (qul ⟨i,hi⟩ ⟨x,hx⟩ ⟨y,hy⟩ hx1).symm
   | false=>simpa using qs5 ⟨i,hi⟩ ⟨x,hx⟩ ⟨y,hy⟩ hx1
  ·rw[qia ha.nm hb.nm (by omega)]
   simpa using qrp ⟨i,hi⟩ ⟨j,hj⟩ ⟨x,hx⟩ ⟨y,hy⟩ ⟨by simpa using hij,he⟩
 ·rw[if_neg he]
  exact(qvx ⟨i,hi⟩ ⟨j,hj⟩ ⟨x,hx⟩ ⟨y,hy⟩ he).symm
def qbp (opkg oname pkg name:Int):Bool:=oname==name&&(qay oname||opkg==pkg)
theorem qun {p q:Int} (hp:p=0∨p=1) (hq:q=0∨q=1):((qbo p).toList==(qbo q).toList)=(p==q):=by
 rcases hp with rfl|rfl <;> rcases hq with rfl|rfl <;> decide +kernel
theorem qjr (a b:Nat) (p q:Int) (hp:p=0∨p=1) (hq:q=0∨q=1) (w:World) (ha:w.cell? ⟨a,0,none⟩=some (.string (qbo p))) (hb:w.cell? ⟨b,0,none⟩=some (.string (qbo q))):
  Calls prog 76 #[.pointer (some ⟨a,0,none⟩),.pointer (some ⟨b,0,none⟩)] w (qa2 (.bool (p==q)) w):=by
 have he:=qun hp hq;obtain⟨s,hs⟩:∃ s,s=qbo p:=⟨_,rfl⟩;obtain⟨t,ht⟩:∃ t,t=qbo q:=⟨_,rfl⟩;rw[← hs] at ha he;rw[← ht] at hb he;clear hs ht;cases hpq:(p==q) <;> rw[hpq] at he <;> clear hpq
 ·go_enter func76,ntmps76
  go_wp2_with fail
  go_quiet (fail)
  go_wp2_with fail
  go_ret
  exact⟨by simp[*],⟨rfl,rfl,rfl,zl _,fun _ _=>rfl⟩⟩
 ·go_enter func76,ntmps76
  go_wp2_with fail
  go_quiet (fail)
  go_wp2_with fail
  go_ret
  exact⟨by simp[*],⟨rfl,rfl,rfl,zl _,fun _ _=>rfl⟩⟩
theorem ql6 {n m:Int} (hn:IsNm n) (hm:IsNm m):((qas n).toList==(qas m).toList)=(n==m):=by
 by_cases h:n=m
 ·subst h;simp
 ·rw[qia hn hm h];simp[h]
theorem qge (x:Nat) (n:Int) (w:World) (hn:IsNm n) (hT:Tabs w) (h:w.cell? ⟨x,2,none⟩=some (.string (qas n))):
  Calls prog 143 #[.pointer (some ⟨x,0,none⟩)] w (qa2 (.bool (qay n)) w):=by
 have Hn:=hid hn;have HT:=hid hT;have hl:=zj w _ h;clear hn hT;go_enter func143,ntmps143
 go_wp2_with (go_at_call 85;refine(qcb n _ Hn.out HT.out).mono ?_;rintro e w2 ⟨rfl,hb2⟩;have Hb2:=hid hb2;clear hb2)
 go_ret
 exact⟨rfl,Hb2.out⟩
theorem qik (x pk pk2:Nat) (p n q m:Int) (w:World) (hn:IsNm n) (hm:IsNm m) (hp:p=0∨p=1) (hq:q=0∨q=1) (hT:Tabs w) (h1:w.cell? ⟨x,1,none⟩=some (.pointer (some ⟨pk,0,none⟩))) (h2:w.cell? ⟨x,2,none⟩=some (.string (qas n)))
  (h3:w.cell? ⟨pk,0,none⟩=some (.string (qbo p))) (h4:w.cell? ⟨pk2,0,none⟩=some (.string (qbo q))):
  Calls prog 113 #[.pointer (some ⟨x,0,none⟩),.pointer (some ⟨pk2,0,none⟩),.string (qas m),.bool false] w (qa2 (.bool (qbp p n q m)) w):=by
 have hne:=ql6 hn hm;have Hn:=hid hn;have HT:=hid hT;have H2:=hid h2;have H3:=hid h3;have H4:=hid h4;have Hp:=hid hp;have Hq:=hid hq;have hl:=zj w _ h1;clear hn hm hp hq hT h3 h4;unfold qbp;cases hnm:(n==m) with
 | false=>
  rw[hnm] at hne;clear hnm;go_enter func113,ntmps113
  go_wp2_with fail
  go_ret
  exact⟨by simp,zp _ _⟩
 | true=>
  rw[hnm] at hne;clear hnm;cases hx:qay n with
  | true=>
   have Hx:=hid hx;clear hx;go_enter func113,ntmps113
   go_wp2_with (go_at_call 143;refine(qge x n _ Hn.out HT.out H2.out).mono ?_;rintro e w2 ⟨rfl,hb2⟩;have Hb2:=hid hb2;clear hb2;rw[Hx.out])
   go_ret
   exact⟨by simp,Hb2.out⟩
  | false=>
   have Hx:=hid hx;clear hx;go_enter func113,ntmps113
   go_wp2_with (first
    | (go_at_call 143;refine(qge x n _ Hn.out HT.out H2.out).mono ?_;rintro e w2 ⟨rfl,hb2⟩;have Hb2:=hid hb2;have hk1:=qac.below hb2 _ _ h1;have hz2:=hb2.size;clear hb2;rw[Hx.out])
    | (go_at_call 76;refine(qjr pk pk2 p q Hp.out Hq.out _ (qac.below Hb2.out _ _ H3.out) (qac.below Hb2.out _ _ H4.out)).mono ?_;rintro e w3 ⟨rfl,hb3⟩;have Hb3:=hid hb3;clear hb3))
   go_ret
   exact⟨by simp,Hb2.out.trans (Hb3.out.mono Hb2.out.size)⟩
def qhz (ids:List (Int×Int)) (q m:Int):Option Nat:=ids.findIdx? fun x=>qbp x.1 x.2 q m
theorem qrg {ids:List (Int×Int)} {q m:Int} {k:Nat} (hk:k<ids.length) (h:qbp ids[k].1 ids[k].2 q m=true) (hb:∀ j (hj:j<k),qbp (ids[j]'(by omega)).1 (ids[j]'(by omega)).2 q m=false):qhz ids q m=some k:=by
 unfold qhz;rw[List.findIdx?_eq_some_iff_getElem];exact⟨hk,h,fun j hj=>by rw[hb j hj];decide⟩
theorem qsd {ids:List (Int×Int)} {q m:Int} (hb:∀ j (hj:j<ids.length),qbp ids[j].1 ids[j].2 q m=false):qhz ids q m=none:=by
 unfold qhz;rw[List.findIdx?_eq_none_iff];intro x hx;obtain⟨j,hj,rfl⟩:=List.mem_iff_getElem.1 hx;exact hb j hj
def idxV (o:Option Nat) (fs:List Nat):Value:=match o with
 | some i => .tuple #[.int .i64 (i:Int),.pointer (some ⟨fs.getD i 0,0,none⟩)]
 | none => .tuple #[.int .i64 (-1),.pointer none]
theorem qmb (ra:Option Addr) (rc:Nat) (fs:List Nat) (ids:List (Int×Int)) (pkb:Int→Nat) (q m:Int) (w:World) (hT:Tabs w) (hl:fs.length=ids.length) (hr:qlm w ra fs) (hrc:fs.length≤rc) (hbd:fs.length≤1048576)
  (ho:∀ i (hi:i<fs.length) (hk:i<ids.length),qgt w fs[i] (pkb ids[i].1) ids[i].1 ids[i].2) (hm:IsNm m) (h8:m≠8) (hq:q=0∨q=1) (hq2:w.cell? ⟨pkb q,0,none⟩=some (.string (qbo q))):
  Calls prog 144 #[.slice ra fs.length rc,.pointer (some ⟨pkb q,0,none⟩),.string (qas m),.bool false] w (qa2 (idxV (qhz ids q m) fs) w):=by
 have hbl:=qhk hm h8;have Hr:=hid hr;have Ho:=hid ho;have Hm:=hid hm;have Hq:=hid hq;have Hq2:=hid hq2;have HT:=hid hT;have Hl:=hid hl;clear hr ho hm hq hq2 hT hl h8;go_enter func144,ntmps144
 go_wp2_with fail
 go_loopw [16] (fun j wr=>∃ k:Nat,k≤fs.length∧j = .int .i64 k∧w.heap.size≤wr.heap.size∧Hid (Below w.heap.size w wr∧∀ i (hi:i<k) (hk:i<ids.length),qbp ids[i].1 ids[i].2 q m=false)) (fun j _=>fs.length - (intOf j).toNat)
 case atStart=>exact⟨0,by omega,rfl,zl _,hid ⟨zp _ _,fun i hi=>by omega⟩⟩
 case round=>
  obtain⟨k,hk,rfl,hz,hst⟩:=hrel;by_cases hlt:k<fs.length
  ·obtain⟨b,o,rfl,hc⟩:=Hr.out k hlt;have hlt':(k:Int)<(fs.length:Int):=by omega
   have hki:k<ids.length:=by have:=Hl.out;omega
   have e0:=qac.below hst.out.1 _ _ hc;have hbb:=zj wr _ e0;simp only at hbb;have HOb:=hid ((Ho.out k hlt hki).below hst.out.1);have hobl:=zj wr _ HOb.out.c1;simp only at hobl;have HS:=hid (qik fs[k] (pkb ids[k].1) (pkb q) ids[k].1 ids[k].2 q m wr HOb.out.nm Hm.out HOb.out.pp Hq.out (HT.out.below hst.out.1) HOb.out.c1 HOb.out.c2 HOb.out.cp (qac.below hst.out.1 _ _ Hq2.out));clear hc;cases hs:qbp ids[k].1 ids[k].2 q m with
   | true=>
    have Hs:=hid hs;clear hs
    go_wp2_with (go_at_call 113;refine HS.out.mono ?_;rintro e w2 ⟨rfl,hb2⟩;have Hb2:=hid hb2;clear hb2;rw[Hs.out])
    go_ret2
    rw[qrg hki Hs.out fun j hj=>hst.out.2 j hj (by omega)];refine⟨?_,hst.out.1.trans (Hb2.out.mono hz)⟩;simp[idxV,zv,zr hlt]
   | false=>
    have Hs:=hid hs;clear hs
    go_wp2_with (go_at_call 113;refine HS.out.mono ?_;rintro e w2 ⟨rfl,hb2⟩;have Hb2:=hid hb2;have hz2:=hb2.size;clear hb2;rw[Hs.out])
    go_roundw
    case rel=>exact⟨k+1,by omega,by go_num,by omega,hid ⟨hst.out.1.trans (Hb2.out.mono hz),fun i hi hil=>by
     by_cases e:i=k
     ·subst e;exact Hs.out
     ·exact hst.out.2 i (by omega) hil⟩⟩
    case measure=>simp[intOf];omega
  ·obtain rfl:k=fs.length:=by omega
   go_wp2_with fail
   go_ret2
   rw[qsd fun j hj=>hst.out.2 j (by have:=Hl.out;omega) hj];exact⟨rfl,hst.out.1⟩
def qst (o:Option Nat):Int:=match o with
 | some i=>i
 | none => -1
def qj9 (ns:List Int) (m:Int):Option Nat:=ns.findIdx? fun x=>x==m
theorem qnq (b:Nat) (ra:Option Addr) (rc:Nat) (fs:List Nat) (ns:List Int) (m:Int) (w:World) (h:w.cell? ⟨b,9,none⟩=some (.slice ra fs.length rc)) (hl:fs.length=ns.length) (hr:qlm w ra fs) (hrc:fs.length≤rc) (hbd:fs.length≤1048576)
  (ho:∀ i (hi:i<fs.length) (hk:i<ns.length),w.cell? ⟨fs[i],2,none⟩=some (.string (qas ns[i]))∧IsNm ns[i]) (hm:IsNm m) (h8:m≠8):
  Calls prog 78 #[.pointer (some ⟨b,0,none⟩),.string (qas m),.bool false] w fun e w'=>e = .returned (.int .i64 (qst (qj9 ns m)))∧w'=w:=by
 have hbl:=qhk hm h8;have Hr:=hid hr;have Ho:=hid ho;have Hm:=hid hm;have Hl:=hid hl;clear hr ho hm hl h8;go_enter func78,ntmps78
 go_wp2_with fail
 go_loop [38] (fun j=>∃ k:Nat,k≤fs.length∧j = .int .i64 k∧Hid (∀ i (hi:i<k) (hk:i<ns.length),(ns[i]==m)=false)) (fun j=>fs.length - (intOf j).toNat)
 case atStart=>exact⟨0,by omega,rfl,hid fun i hi=>by omega⟩
 case round=>
  obtain⟨k,hk,rfl,hst⟩:=hrel;by_cases hlt:k<fs.length
  ·obtain⟨b1,o1,rfl,hc⟩:=Hr.out k hlt;have hlt':(k:Int)<(fs.length:Int):=by omega
   have hki:k<ns.length:=by have:=Hl.out;omega
   have e2:=(Ho.out k hlt hki).1;have hne:=ql6 (Ho.out k hlt hki).2 Hm.out;cases hs:(ns[k]==m) with
   | true=>
    rw[hs] at hne;have Hs:=hid hs;clear hs
    go_wp2_with fail
    go_ret
    refine⟨?_,rfl⟩;have:qj9 ns m=some k:=by
     unfold qj9;rw[List.findIdx?_eq_some_iff_getElem];exact⟨hki,Hs.out,fun j hj=>by rw[hst.out j hj (by omega)];decide⟩
    rw[this];rfl
   | false=>
    rw[hs] at hne;have Hs:=hid hs;clear hs
    go_wp2_with fail
    go_round
    case rel=>exact⟨k+1,by omega,by go_num,hid fun i hi hil=>by
     by_cases e:i=k
     ·subst e;exact Hs.out
     ·exact hst.out i (by omega) hil⟩
    case measure=>simp[intOf];omega
  ·obtain rfl:k=fs.length:=by omega
   go_wp2_with fail
   go_ret
   have:qj9 ns m=none:=by
    unfold qj9;rw[List.findIdx?_eq_none_iff];intro x hx;obtain⟨j,hj,rfl⟩:=List.mem_iff_getElem.1 hx;exact hst.out j (by have:=Hl.out;omega) hj
   rw[this];exact⟨rfl,rfl⟩
open Go.Sort
theorem qmp (a b pa pb:Nat) (p q n m:Int) (w:World) (hT:Tabs w) (ha:qgt w a pa p n) (hb:qgt w b pb q m) (hne:a≠b):
  Calls prog 121 #[.pointer (some ⟨a,0,none⟩),.pointer (some ⟨b,0,none⟩)] w fun e w'=>e = .returned (.int .i64 (cmpI (rank p n) (rank q m)))∧qca w w':=by
 have hal:=zj w _ ha.c1;have hbl:=zj w _ hb.c1;simp only at hal hbl;have a1:=ha.c1;have b1:=hb.c1;have HC:Hid (∀ k,Calls prog 150 #[.pointer (some ⟨a,0,none⟩),.pointer (some ⟨b,0,none⟩)] (w.drewN k) fun e w'=>e = .returned (.int .i64 (cmpI (rank p n) (rank q m)))∧qca w w'):=hid fun k=>
  (cmp_x a b pa pb p q n m (w.drewN k) ⟨hT.props,hT.utf,hT.upper⟩ ⟨ha.c1,ha.c2,ha.cp,ha.nm,ha.pp,ha.bk⟩ ⟨hb.c1,hb.c2,hb.cp,hb.nm,hb.pp,hb.bk⟩ hne).mono fun e w' h=>⟨h.1,(qca.drew w k).trans h.2⟩
 clear ha hb hT
 generalize cmpI (rank p n) (rank q m)=r at *
 go_enter func121,ntmps121
 go_wp2_with fail
 go_region_with (go_at_call 150;refine(HC.out ?_).mono ?_;rotate_left;rintro e w' ⟨rfl,hg⟩)
 all_goals
  go_wp2_with fail
  go_ret
  exact⟨rfl,hg⟩
theorem qu8 (a:Nat) (w:World):Calls prog 150 #[.pointer (some ⟨a,0,none⟩),.pointer (some ⟨a,0,none⟩)] w fun e w'=>e = .returned (.int .i64 0)∧w'=w:=by
 obtain⟨io,hio,hsz⟩:=zbb.1 Tryz.szObj;have qeq:=fun w=>run_eql_ptr_same (P:=prog) w (⟨a,0,none⟩:Addr) underlying281 hio;clear hio hsz;go_enter func150,ntmps150
 go_wp2_with fail
 go_ret
 exact⟨rfl,rfl⟩
theorem qi2 (a:Nat) (w:World) (v:Value) (a1:w.cell? ⟨a,1,none⟩=some v):Calls prog 121 #[.pointer (some ⟨a,0,none⟩),.pointer (some ⟨a,0,none⟩)] w fun e w'=>e = .returned (.int .i64 0)∧qca w w':=by
 have hl:=zj w _ a1;simp only at hl;go_enter func121,ntmps121
 go_wp2_with fail
 go_region_with (go_at_call 150;refine(qu8 a _).mono ?_;rintro e w' ⟨rfl,rfl⟩)
 all_goals
  go_wp2_with fail
  go_ret
  exact⟨rfl,qca.drew w _⟩
section
variable {α:Type} [Inhabited α] {enc:α→Value}
theorem qnn {w:World} {g n:Nat} {os:Array Obj} {cur:Array Value} {e:TypeId} {fr:Nat×Nat} (d:Array α) (hb:w.heap[g]?=some (.cells cur e fr)):
  (sortWorld enc w g 0 n d os).heap[g]?=some (.cells (putCells enc 0 d cur) e fr):=by
 have hg:g<w.heap.size:=(zab.1 hb).1;unfold sortWorld;rw[heap_grow_old _ _ (by simpa using hg)];simp[putRow,mapBlock,Sort.ahead,Array.getElem?_modify,hb,onCells]
theorem qh2 {w:World} {g n:Nat} {os:Array Obj} (d:Array α):qah (fun b=>b=g) w (sortWorld enc w g 0 n d os):=by
 unfold sortWorld;refine⟨rfl,rfl,rfl,⟨by simp,fun k hk hne => ?_⟩⟩;rw[heap_grow_old _ _ (by simpa using hk)];have:g≠k:=fun e=>hne e.symm;simp[putRow,mapBlock,Sort.ahead,Array.getElem?_modify,this]
theorem qkx (cur:Array Value) (d:Array α) (h:d.size≤cur.size):(putCells enc 0 d cur).toList.take d.size=d.toList.map enc:=by
 apply List.ext_getElem?;intro j;by_cases hj:j<d.size
 ·rw[List.getElem?_take_of_lt hj,Array.getElem?_toList];simp[putCells,hj,show j<cur.size by omega]
 ·rw[List.getElem?_take_eq_none (by omega),List.getElem?_eq_none (by simp;omega)]
end
theorem qke {α:Type} (d:Array α) (n:Nat) (h:d.size=n):d.extract 0 n=d:=by subst h;simp
theorem qtt {α:Type} {l:List α} (h:l.Nodup) {i j:Nat} (hi:i<l.length) (hj:j<l.length) (e:l[i]=l[j]):i=j:=by
 have hp:=List.pairwise_iff_getElem.1 h;rcases Nat.lt_trichotomy i j with h1|h1|h1
 ·exact absurd e (hp i j hi hj h1)
 ·exact h1
 ·exact absurd e.symm (hp j i hj hi h1)
theorem qu6 {α:Type} (r:α→Nat):SWO (ltOf fun x y=>cmpI (r x) (r y)):=by
 have e:∀ x y,ltOf (fun x y=>cmpI (r x) (r y)) x y=decide (r x<r y):=fun x y=>by
  unfold ltOf cmpI;by_cases h:r x<r y
  ·simp[h]
  ·by_cases h2:r y<r x <;> simp[h,h2]
 constructor
 ·intro x;rw[e];simp
 ·intro x y z;rw[e,e,e];simp;omega
 ·intro x y z;rw[e,e,e];simp;omega
def Srt (rk:Nat→Nat) (n:Nat) (π:List Nat):Prop:=π.Perm (List.range n)∧π.Pairwise fun i j=>rk i≤rk j
theorem qgt.turns {S:Nat→Prop} {w w':World} {f pk:Nat} {p n:Int} (h:qgt w f pk p n) (k:qah S w w') (hf:¬ S f) (hp:¬ S pk):qgt w' f pk p n:=by
 have l1:=zj w _ h.c1;have l2:=zj w _ h.cp;obtain⟨T,cs,hb⟩:=h.bk;exact⟨(zlb (k.apart.block f l1 hf)).trans h.c1,(zlb (k.apart.block f l1 hf)).trans h.c2,(zlb (k.apart.block pk l2 hp)).trans h.cp,h.nm,h.pp,T,cs,hb.apart k.apart hf⟩
theorem qi0 {α:Type} [Inhabited α] {enc:α→Value} {w:World} {g n:Nat} {os:Array Obj} {d:Array α} {w':World} (h:qca (sortWorld enc w g 0 n d os) w'):∃ q os',w'=grow ((sortWorld enc w g 0 n d os).drewN q) os':=by
 obtain⟨q,os',e⟩:=h;exact⟨q,os',e⟩
theorem Tryz.entersCmp:∀ args w,(callFunc 121 args).run prog w = .ok (.enter 121 args) w:=enters_of func121 (by kernel_rfl) rfl
theorem ql8 (g c:Nat) (fs:List Nat) (pks:Nat→Nat) (P N:Nat→Int) (w0 w:World) (hT:Tabs w0) (hB:Below w0.heap.size w0 w) (hg:w0.heap.size≤g) (h0:0<fs.length)
  (hown:w.ownsRow 0 106 1 (.slice (some ⟨g,0,none⟩) fs.length c) fs.length (qa7 fs)) (hO:∀ i (hi:i<fs.length),qgt w fs[i] (pks i) (P i) (N i)∧fs[i]≠g∧pks i≠g) (hnd:fs.Nodup) (hl:fs.length≤1048576):
  Calls prog 120 #[.slice (some ⟨g,0,none⟩) fs.length c,.func (.func 121) #[] #[]] w fun e w'=>e = .returned (.tuple #[])∧∃ π,Srt (fun i=>rank (P i) (N i)) fs.length π∧qah (fun b=>b=g) w w'∧
   w'.ownsRow 0 106 1 (.slice (some ⟨g,0,none⟩) fs.length c) fs.length (qa7 (π.map fun i=>fs.getD i 0)):=by
 haveI:Inhabited (Fin fs.length):=⟨⟨0,h0⟩⟩
 obtain⟨hlen,⟨he,-⟩|⟨g',cap,cur,he,-,hb,hn1,hn2,hn3,hn4⟩⟩:=hown
 ·cases he
 cases he
 let enc:Fin fs.length→Value:=fun i => .pointer (some ⟨fs[i.val],0,none⟩)
 let rk:Fin fs.length→Nat:=fun i=>rank (P i.val) (N i.val)
 let d0:Array (Fin fs.length):=(List.finRange fs.length).toArray
 have hd0:d0.size=fs.length:=by simp[d0]
 have hgl:g<w.heap.size:=(zab.1 hb).1;have hH:Holds enc w g 0 d0:=by
  intro j hj;have hj':j<fs.length:=by omega
  refine⟨?_,by simp[World.frozen?,hb]⟩;have h1:(cur.toList.take (fs.length * 1))[j]?=(qa7 fs)[j]?:=by rw[hn4]
  rw[Nat.mul_one,List.getElem?_take_of_lt hj'] at h1;simp only[World.cell?,hb,Nat.zero_add];simp only[Option.isSome_none,Bool.false_eq_true,if_false];rw[← Array.getElem?_toList,h1];simp[qa7,enc,d0,hj']
 have hcmp:CmpLays1 prog 121 #[] enc (fun x y=>cmpI (rk x) (rk y)) g 0 d0.size w:=by
  intro m os dk hdk x y;have ht:=qh2 (enc:=enc) (w:=w) (g:=g) (n:=m) (os:=os) dk;have hTs:Tabs (sortWorld enc w g 0 m dk os):=hT.below (hB.trans (ht.below hB.size fun b hb=>by subst hb;exact hg));obtain⟨ox,ox1,ox2⟩:=hO x.val x.isLt;obtain⟨oy,oy1,oy2⟩:=hO y.val y.isLt;have ox:=ox.turns ht ox1 ox2;have oy:=oy.turns ht oy1 oy2;by_cases hxy:x=y
  ·subst hxy;refine(qi2 fs[x.val] _ _ ox.c1).mono ?_;rintro e w' ⟨rfl,hgr⟩;exact⟨by simp[cmpI],qi0 hgr⟩
  ·have hne:fs[x.val]≠fs[y.val]:=fun e=>hxy (Fin.ext (qtt hnd _ _ e));refine(qmp fs[x.val] fs[y.val] _ _ _ _ _ _ _ hTs ox oy hne).mono ?_;rintro e w' ⟨rfl,hgr⟩;exact⟨rfl,qi0 hgr⟩
 have h:=Any.slices_SortFunc Tryz.slF6 enc (fun x=>rfl) (fun x y=>cmpI (rk x) (rk y)) (qu6 rk) 121 #[] g 0 c d0 w Tryz.entersCmp hcmp hH hgl (by omega);rw[hd0] at h;refine Calls.mono h ?_;rintro e w' ⟨rfl,d',n,os,hp,hs,rfl⟩;obtain⟨p1,-,p3⟩:=hp;have hsz:d'.size=fs.length:=by omega
 have e1:d'.extract 0 fs.length=d':=qke _ _ hsz;have e2:d0.extract 0 fs.length=d0:=qke _ _ hd0;rw[e1,e2] at p3;refine⟨rfl,d'.toList.map (·.val),⟨?_,?_⟩,qh2 d',by simp[qa7,hsz],.inr ⟨g,c,_,rfl,Nat.zero_le _,qnn d' hb,hn1,hn2,by simp[putCells,hn3],?_⟩⟩
 ·have h1:=p3.map (fun i:Fin fs.length=>i.val);refine h1.trans ?_;rw[show(d0.toList.map fun i=>i.val)=List.range fs.length by
   apply List.ext_getElem
   ·simp[d0]
   ·intro i h1 h2;simp[d0]]
 ·rw[List.pairwise_map,List.pairwise_iff_getElem];intro i j hi hj hij;have hi':i<d'.size:=by simpa using hi
  have hj':j<d'.size:=by simpa using hj
  have:=hs i j (Nat.zero_le _) hij (by omega);rw[getElem!_pos d' j hj',getElem!_pos d' i hi'] at this;simp only[Array.getElem_toList];have h2:¬ (rk d'[j]<rk d'[i]):=by
   intro hlt;simp[ltOf,cmpI,hlt] at this
  show rk d'[i]≤rk d'[j];omega
 ·have h1:=qkx (enc:=enc) cur d' (by omega);rw[hsz] at h1;rw[Nat.mul_one,h1];simp only[qa7,List.map_map];apply List.map_congr_left;intro i _;simp[enc,zv]
theorem qi7 (g c:Nat) (fs:List Nat) (pks:Nat→Nat) (P N:Nat→Int) (w0 w:World) (hT:Tabs w0) (hB:Below w0.heap.size w0 w) (hg:w0.heap.size≤g) (h0:0<fs.length)
  (hown:w.ownsRow 0 106 1 (.slice (some ⟨g,0,none⟩) fs.length c) fs.length (qa7 fs)) (hO:∀ i (hi:i<fs.length),qgt w fs[i] (pks i) (P i) (N i)∧fs[i]≠g∧pks i≠g) (hnd:fs.Nodup) (hl:fs.length≤1048576):
  Calls prog 93 #[.slice (some ⟨g,0,none⟩) fs.length c] w fun e w'=>e = .returned (.tuple #[])∧∃ π,Srt (fun i=>rank (P i) (N i)) fs.length π∧qah (fun b=>b=g) w w'∧
   w'.ownsRow 0 106 1 (.slice (some ⟨g,0,none⟩) fs.length c) fs.length (qa7 (π.map fun i=>fs.getD i 0)):=by
 have H:=hid (ql8 g c fs pks P N w0 w hT hB hg h0 hown hO hnd hl);clear hT hB hown hO hnd;go_enter func93,ntmps93
 go_wp2_with (go_at_call 120;refine H.out.mono ?_;rintro e w' ⟨rfl,h⟩;have Hp:=hid h;clear h)
 go_end0
 exact⟨rfl,Hp.out⟩
theorem qfs (p:Option Addr) (c:Nat) (w:World):Calls prog 93 #[.slice p 0 c] w fun e w'=>e = .returned (.tuple #[])∧w'=w:=by
 have H:=AnyF.slices_SortFunc_none (P:=prog) (ρ:=Tryz.slF06_ren) Tryz.slF06 p c (.func (.func 121) #[] #[]) w;go_enter func93,ntmps93
 go_wp2_with (go_at_call 120;refine Calls.mono H ?_;rintro e w' ⟨rfl,rfl⟩)
 go_end0
 exact⟨rfl,rfl⟩
theorem qgi (ra:Option Addr) (c:Nat) (fs:List Nat) (pks:Nat→Nat) (P N:Nat→Int) (w0 w:World) (hT:Tabs w0) (hB:Below w0.heap.size w0 w) (hg:∀ g,(Value.slice ra fs.length c).ownBlock=some g→w0.heap.size≤g)
  (hown:w.ownsRow 0 106 1 (.slice ra fs.length c) fs.length (qa7 fs)) (hO:∀ i (hi:i<fs.length),qgt w fs[i] (pks i) (P i) (N i)∧(Value.slice ra fs.length c).ownBlock≠some fs[i]∧(Value.slice ra fs.length c).ownBlock≠some (pks i)) (hnd:fs.Nodup) (hl:fs.length≤1048576):
  Calls prog 93 #[.slice ra fs.length c] w fun e w'=>e = .returned (.tuple #[])∧∃ π,Srt (fun i=>rank (P i) (N i)) fs.length π∧qah (fun b=>(Value.slice ra fs.length c).ownBlock=some b) w w'∧
   w'.ownsRow 0 106 1 (.slice ra fs.length c) fs.length (qa7 (π.map fun i=>fs.getD i 0)):=by
 by_cases h0:0<fs.length
 ·have hs:=qak hown;obtain⟨a',c',he,-,h1,h2⟩:=hs;cases he;cases ra with
  | none=>have:=(h2 rfl).1;omega
  | some ad=>
   obtain⟨g,rfl,-,-,-⟩:=h1 ad rfl;refine(qi7 g c fs pks P N w0 w hT hB (hg g rfl) h0 hown (fun i hi=>⟨(hO i hi).1,fun e=>(hO i hi).2.1 (by rw[e];rfl),fun e=>(hO i hi).2.2 (by rw[e];rfl)⟩) hnd hl).mono ?_;rintro e w' ⟨rfl,π,h3,h4,h5⟩;exact⟨rfl,π,h3,h4.mono fun b _ hb=>by subst hb;rfl,h5⟩
 ·obtain rfl:fs=[]:=by cases fs with|nil=>rfl|cons=>simp at h0
  refine(qfs ra c w).mono ?_;rintro e w' ⟨rfl,rfl⟩;exact⟨rfl,[],⟨by simp,by simp⟩,qah.refl _ _,by simpa using hown⟩
def qt1 (w:World) (b:Nat) (k:Int):Prop:=∃ i s,Blk w b 203 [.int .i64 k,.int .i64 i,.string s]
theorem qbb {w:World} {b:Nat} (h:b=w.heap.size) (T:TypeId) (cs:List Value):Blk (w.alloc (.cells cs.toArray T)) b T cs:=by
 subst h;exact Blk.new w T cs
theorem qjs (k:Int) (hk:k=2∨k=17∨k=1) (w:World):Calls prog 71 #[.int .i64 k] w fun e w'=>∃ b,e = .returned (.pointer (some ⟨b,0,none⟩))∧qt1 w' b k∧w.heap.size≤b∧Below w.heap.size w w':=by
 rcases hk with rfl|rfl|rfl
 ·go_enter func71,ntmps71
  go_wp2_with fail
  go_ret
  refine⟨_,rfl,⟨?i1,?s1,?h1⟩,by omega,?b1⟩
  case h1=>
   iterate 24 refine Blk.alloc ?_ _
   refine qbb ?_ _ _;simp
  case b1=>
   iterate 27 refine Below.alloc ?_ (by simp <;> omega) _
   exact zp _ _
 ·go_enter func71,ntmps71
  go_wp2_with fail
  go_ret
  refine⟨_,rfl,⟨?i2,?s2,?h2⟩,by omega,?b2⟩
  case h2=>
   iterate 9 refine Blk.alloc ?_ _
   refine qbb ?_ _ _;simp
  case b2=>
   iterate 27 refine Below.alloc ?_ (by simp <;> omega) _
   exact zp _ _
 ·go_enter func71,ntmps71
  go_wp2_with fail
  go_ret
  refine⟨_,rfl,⟨?i3,?s3,?h3⟩,by omega,?b3⟩
  case h3=>
   iterate 25 refine Blk.alloc ?_ _
   refine qbb ?_ _ _;simp
  case b3=>
   iterate 27 refine Below.alloc ?_ (by simp <;> omega) _
   exact zp _ _
theorem qvn (n:Nat):∀ (t:Ty) (cs:List Value) (w:World),t.bulk≤n→t.bulk≤1048576→TyC w t cs→
  Calls prog 40 #[.agg cs.toArray] w (qa2 (.int .i64 t.size) w):=by
 induction n with
 | zero=>
  intro t cs w h;have:=qd3 t;omega
 | succ n ih=>
  intro t cs w h hb ht;obtain⟨k,num,el,fs,ms,em⟩:=t;simp only[TyC] at ht;obtain⟨a1,c1,a2,c2,a3,c3,a4,c4,rfl,-,hk,hn,h1,h2,h3,h4⟩:=ht;simp only[Ty.bulk] at h hb;have hl1:=qa3 el;have hl2:=qbv fs;have hl3:=qa3 em;have hs1:=qem el;have hs2:=qh6 fs;have hs3:=qem em;have IH:=hid ih;clear ih;obtain⟨O,hO⟩:∃ O,O=(Obj.cells #[.int .i64 k,.int .i64 num,.slice a1 el.length c1,.slice a2 fs.length c2,.slice a3 ms.length c3,.slice a4 em.length c4] 29):=⟨_,rfl⟩;have HO:=hid hO;clear hk hn h3;go_enter func40,ntmps40
  go_wp2_with fail
  rw[← hO];clear hO
  go_loopw [3,16] (fun v i wr=>∃ k':Nat,k'≤fs.length∧i = .int .i64 k'∧v = .int .i64 (ms.length+qar (fs.take k'))∧Below (w.heap.size+1) (w.alloc O) wr)
   (fun _ i _=>fs.length - (intOf i).toNat)
  case atStart=>exact⟨0,by omega,rfl,by simp[qar],zp _ _⟩
  case round=>
   obtain⟨k',hk',rfl,rfl,hbel⟩:=hrel;have hK:qac w wr:=(qac.alloc w O).trans (qac.belowGe hbel (by simp));have hz:=zq hbel;(try simp only[zd,qaa] at hz);have hts:=qbj fs k';by_cases hlt:k'<fs.length
   ·obtain⟨b,o,cs,rfl,hn1,hc,htt⟩:=FdsR.get h2 k' hlt;have htt:=htt.keep hK;obtain⟨x1,d1,x2,d2,x3,d3,x4,d4,rfl,-⟩:=htt.open;obtain⟨e0,e1,e2,e3,e4,e5,e6,e7⟩:=qhx (hc.keep hK);simp only[Nat.zero_add] at e0 e1 e2 e3 e4 e5 e6 e7;have htk:=qdi fs k' hlt;have hbk:=qbx fs k' hlt;have hsk:=qbj fs (k'+1);have hle:qar (fs.take k')+(1+fs[k'].of.size)≤qcm fs:=by omega
    have Htk:=hid htk;clear htk;have Htt:=hid htt;clear htt;clear h2 h4 h1 hc hK hn1
    go_wp2_with (go_at_call 40;refine(IH.out _ _ _ (by omega) (by omega) (Htt.out.keep (qac.alloc _ _))).mono ?_;rintro e w1 ⟨rfl,hb1⟩)
    have hz1:=zq hb1;(try simp only[zd,qaa] at hz1)
    go_roundw
    case rel=>exact⟨k'+1,by omega,by go_num,by rw[Htk.out];go_num,bel⟩
    case measure=>simp[intOf];omega
   ·obtain rfl:k'=fs.length:=by omega
    obtain⟨-,-,q2,-,-,q5⟩:=six (box hbel HO.out);simp only[zeb] at *;clear h2 hlt
    go_wp2_with fail
    go_loopw [3,30] (fun v i wr=>∃ k':Nat,k'≤em.length∧i = .int .i64 k'∧v = .int .i64 (ms.length+qar fs+qau (em.take k'))∧Below (w.heap.size+1) (w.alloc O) wr)
     (fun _ i _=>em.length - (intOf i).toNat)
    case atStart=>exact⟨0,by omega,rfl,by simp[qau],hbel⟩
    clear hbel q2 q5 hK hz
    case round=>
     obtain⟨k',hk',rfl,rfl,hbel⟩:=hrel;have hK:qac w wr:=(qac.alloc w O).trans (qac.belowGe hbel (by simp));have hz:=zq hbel;(try simp only[zd,qaa] at hz);have hts:=qa5 em k';by_cases hlt:k'<em.length
     ·obtain⟨b,o,cs,rfl,hc,htt⟩:=TysR.get h4 k' hlt;have htt:=htt.keep hK;obtain⟨x1,d1,x2,d2,x3,d3,x4,d4,rfl,-⟩:=htt.open;obtain⟨e0,e1,e2,e3,e4,e5⟩:=six (hc.keep hK);simp only[Nat.zero_add] at e0 e1 e2 e3 e4 e5;have htk:=qc1 em k' hlt;have hbk:=qa6 em k' hlt;have hsk:=qa5 em (k'+1);have hle:qau (em.take k')+em[k'].size≤qbt em:=by omega
      have Htk:=hid htk;clear htk;have Htt:=hid htt;clear htt;clear h1 h4 hc hK
      go_wp2_with (go_at_call 40;refine(IH.out _ _ _ (by omega) (by omega) (Htt.out.keep (qac.alloc _ _))).mono ?_;rintro e w1 ⟨rfl,hb1⟩)
      have hz1:=zq hb1;(try simp only[zd,qaa] at hz1)
      go_roundw
      case rel=>exact⟨k'+1,by omega,by go_num,by rw[Htk.out];go_num,bel⟩
      case measure=>simp[intOf];omega
     ·obtain rfl:k'=em.length:=by omega
      obtain⟨-,-,q2,-,-,-⟩:=six (box hbel HO.out);simp only[zeb] at *;clear h4 hlt
      go_wp2_with fail
      go_loopw [3,42] (fun v i wr=>∃ k':Nat,k'≤el.length∧i = .int .i64 k'∧v = .int .i64 (ms.length+qar fs+qau em+qau (el.take k'))∧Below (w.heap.size+1) (w.alloc O) wr)
       (fun _ i _=>el.length - (intOf i).toNat)
      case atStart=>exact⟨0,by omega,rfl,by simp[qau],hbel⟩
      clear hbel q2 hK hz
      case round=>
       obtain⟨k',hk',rfl,rfl,hbel⟩:=hrel;have hK:qac w wr:=(qac.alloc w O).trans (qac.belowGe hbel (by simp));have hz:=zq hbel;(try simp only[zd,qaa] at hz);have hts:=qa5 el k';by_cases hlt:k'<el.length
       ·obtain⟨b,o,cs,rfl,hc,htt⟩:=TysR.get h1 k' hlt;have htt:=htt.keep hK;obtain⟨x1,d1,x2,d2,x3,d3,x4,d4,rfl,-⟩:=htt.open;obtain⟨e0,e1,e2,e3,e4,e5⟩:=six (hc.keep hK);simp only[Nat.zero_add] at e0 e1 e2 e3 e4 e5;have htk:=qc1 el k' hlt;have hbk:=qa6 el k' hlt;have hsk:=qa5 el (k'+1);have hle:qau (el.take k')+el[k'].size≤qbt el:=by omega
        have Htk:=hid htk;clear htk;have Htt:=hid htt;clear htt;clear h1 hc hK
        go_wp2_with (go_at_call 40;refine(IH.out _ _ _ (by omega) (by omega) (Htt.out.keep (qac.alloc _ _))).mono ?_;rintro e w1 ⟨rfl,hb1⟩)
        have hz1:=zq hb1;(try simp only[zd,qaa] at hz1)
        go_roundw
        case rel=>exact⟨k'+1,by omega,by go_num,by rw[Htk.out];go_num,bel⟩
        case measure=>simp[intOf];omega
       ·obtain rfl:k'=el.length:=by omega
        simp only[zeb] at *;clear h1 hlt
        go_wp2_with fail
        go_ret
        exact⟨by simp[Ty.size];omega,(((zp _ _).alloc (zl _) _).trans (hbel.mono (by omega)))⟩
theorem qf1 (t:Ty) (cs:List Value) (w:World) (hb:t.bulk≤1048576) (h:TyC w t cs):
  Calls prog 40 #[.agg cs.toArray] w (qa2 (.int .i64 t.size) w):=qvn t.bulk t cs w (zl _) hb h
theorem qmk (bb ob N c k:Nat) (D:TypeId) (x:Option Addr) (v:Value) (w:World) (h:w.cell? ⟨bb,2,none⟩=some (.slice (some ⟨ob,0,none⟩) N c)) (hk:k<N) (hc:w.cell? ⟨ob,k,none⟩=some v) (hf:w.frozen? ⟨ob,k,none⟩=false):
  Calls prog 46 #[.pointer (some ⟨bb,0,none⟩),.int .i64 k,.iface D (.pointer x)] w fun e w'=>e = .returned (.tuple #[])∧w'=w.setCell ⟨ob,k,none⟩ (.iface D (.pointer x)):=by
 go_enter func46,ntmps46
 go_wp2_with fail
 go_end0
 exact⟨rfl,rfl⟩
theorem qlg (W:Wd) (a:Option Addr) (c:Nat) (t:Ty) (cs:List Value) (w0 w:World) (k0:qac w0 w) (hW:WOk w0 W a c) (ht:TyC w0 t cs) (hk:t.kind=1) (hn:0≤t.num∧t.num<W.length) (hnm:IsNm (dc W t.num.toNat).name):
  Calls prog 67 #[.slice a W.length c,.agg cs.toArray] w (qa2 (.string (qas (dc W t.num.toNat).name)) w):=by
 obtain⟨x1,d1,x2,d2,x3,d3,x4,d4,rfl,-⟩:=ht.full;have hnl:t.num.toNat<W.length:=by omega
 have hnn:t.num=(t.num.toNat:Int):=by omega
 obtain⟨b,o,p1,g1,p2,g2,p3,g3,p4,g4,p5,g5,rfl,-,-,-,-,-,hdd⟩:=hW.row.get t.num.toNat hnl;obtain⟨D0,-⟩:=ten (hdd.keep k0);have hbb:=zj w _ D0;simp only at hbb;have hkd:(t.kind==2)=false:=by simp[hk]
 have hcap:=hW.cap;rw[qcg hnl] at hnm ⊢;have Hnm:=hid hnm;clear hdd hk hnm ht hW hn
 generalize W[t.num.toNat].name=N at *
 rw[hnn];clear hnn
 generalize t.num.toNat=nn at *
 go_enter func67,ntmps67
 go_wp2_with (go_at_call 26;refine(qbq _ _ Hnm.out).mono ?_;rintro e w2 ⟨rfl,hb2⟩)
 go_ret
 exact⟨rfl,((zp _ _).alloc (zl _) _).trans (hb2.mono (by simp))⟩
theorem qr3 (W:Wd) (a:Option Addr) (c:Nat) (t:Ty) (cs:List Value) (w0 w:World) (k0:qac w0 w) (hW:WOk w0 W a c) (ht:TyC w0 t cs) (hk:t.kind=2) (he:0<t.elem.length) (hk1:t.el0.kind=1) (hn:0≤t.el0.num∧t.el0.num<W.length) (hnm:IsNm (dc W t.el0.num.toNat).name):
  Calls prog 67 #[.slice a W.length c,.agg cs.toArray] w (qa2 (.string (qas (dc W t.el0.num.toNat).name)) w):=by
 obtain⟨x1,d1,x2,d2,x3,d3,x4,d4,rfl,-,-,-,h1,-⟩:=ht.full;obtain⟨b,o,cs1,rfl,hc,ht1⟩:=TysR.get h1 0 he;have e0:t.elem[0]=t.el0:=by simp[Ty.el0,zv,zr he]
 rw[e0] at ht1;have Ht1:=hid ht1;obtain⟨y1,g1,y2,g2,y3,g3,y4,g4,rfl,-⟩:=ht1.open;obtain⟨c0,c1,c2,c3,c4,c5⟩:=six (hc.keep k0);simp only[Nat.zero_add,Nat.zero_mul,Nat.add_zero] at c0 c1 c2 c3 c4 c5;have hbb:=zj w _ c0;simp only at hbb;have hbb1:b<w.heap.size+1:=by omega
 have hkd:(t.kind==2)=true:=by simp[hk]
 have HW:=hid hW;have Hk1:=hid hk1;have Hn:=hid hn;have Hnm:=hid hnm;have K0:=hid k0;clear hc ht1 hk hk1 hn hnm ht hW e0 h1;go_enter func67,ntmps67
 go_wp2_with (go_at_call 67;refine(qlg W a c t.el0 _ w0 _ (K0.out.trans (qac.alloc _ _)) HW.out Ht1.out Hk1.out Hn.out Hnm.out).mono ?_;rintro e w2 ⟨rfl,hb2⟩)
 go_ret
 exact⟨rfl,((zp _ _).alloc (zl _) _).trans (hb2.mono (by simp))⟩
def qjt (B:Nat) (w:World) (f pk:Nat) (n:Int) (rv:Value):Prop:=∃ sg,Blk w f 167 [.int .i64 0,.pointer (some ⟨pk,0,none⟩),.string (qas n),.iface 162 (.pointer (some ⟨sg,0,none⟩)),.bool false,.bool false]∧
 Blk w sg 199 [rv,.pointer none,.pointer none,.pointer none,.bool false]∧B≤f∧B≤sg∧sg≠f
theorem qr9 (bb pr pn pk:Nat) (p n:Int) (c:Nat) (m:Bool) (w:World) (hn:IsNm n) (hp:p=0∨p=1) (h:w.cell? ⟨bb,0,none⟩=some (.slice (some ⟨pr,0,none⟩) 2 c)) (hk:w.cell? ⟨pr,p.toNat,none⟩=some (.pointer (some ⟨pk,0,none⟩))):
  Calls prog 45 #[.pointer (some ⟨bb,0,none⟩),.int .i64 p,.agg #[.int .i64 n,.bool m],.nilIface] w fun e w'=>∃ f,e = .returned (.pointer (some ⟨f,0,none⟩))∧qjt w.heap.size w' f pk n (.pointer none)∧Below w.heap.size w w':=by
 have hpn:p=(p.toNat:Int):=by omega
 have hp2:p.toNat<2:=by omega
 have hbl:=zj w _ h;have hpl:=zj w _ hk;simp only at hbl hpl;have hpl1:pr<w.heap.size+1:=by omega
 have hbl1:bb<w.heap.size+1:=by omega
 have Hn:=hid hn;clear hn hp
 generalize p.toNat=q at *
 subst hpn;have hq2:(q:Int)<2:=by omega
 go_enter func45,ntmps45
 go_wp2_with fail
 refine Mix.wp_region [0,1,2,3,4,5,6,7,8,9,10] [(11,false),(12,false)] [13] (fun _=>default) (by kernel_rfl) (by kernel_rfl) (by decide) ?_
 iterate 11 (first|(refine pre_yes rfl rfl ?_;apply Exists.intro;refine⟨fun W1 hW1 => ?_,?_⟩;(focus (have hc1:=(qal hW1).1;(try simp only[zd,qaa] at hc1);have hk1:=qac.below hW1;go_simp;first|exact rfl|(go_at_call 26;exact qbq _ _ Hn.out)));simp only[Act.put,zk,zh,zi,ze,zm,zn])|(refine pre_no rfl rfl ?_;simp only[Act.put,zk,zh,zi,ze,zm,zn]))
 refine pre_end (fl_op (fl_op fl_nil)) (fun W2 hW2 => ?_);have hz2:=zq hW2;(try simp only[zd,qaa] at hz2);refine mid_call hW2 rfl rfl (fun Kp hKp => ?_);go_simp;refine(qie _ _).mono ?_;rintro e W3 ⟨rfl,rfl⟩;refine⟨_,rfl,hKp _ _ ((zp _ _).alloc (zl _) _) fun W4 hW4 => ?_⟩;simp only[Act.put,zk,zh,zi,ze,zm,zn];have hz4:=zq hW4;(try simp only[zd,qaa] at hz4);have hB4:=qa4 hW4 (qbl ((zp _ _).alloc (zl _) _) hW2 (by first|omega|(simp;done)|(simp;omega)));refine mid_call hB4 rfl rfl (fun Kp2 hKp2 => ?_);go_simp;refine(qhd _ _ _ _).mono ?_;rintro e W5 ⟨rfl,rfl⟩;refine⟨_,rfl,hKp2 _ _ ((zp _ _).alloc (zl _) _) fun W6 hW6 => ?_⟩;simp only[Act.put,zk,zh,zi,ze,zm,zn];have hz6:=zq hW6;(try simp only[zd,qaa] at hz6);refine mid_nil (qco rfl ?_)
 go_wp2_with fail
 go_ret
 refine⟨_,rfl,⟨W2.heap.size,(Blk.new W4 _ _).keep hW6,(((Blk.new W2 _ _).keep hW4).alloc _).keep hW6,by omega,by omega,by omega⟩,?_⟩;exact(((zp _ _).alloc (zl _) _).drew).trans ((hB4.mono (by simp)).trans (((zp _ _).alloc (by omega) _).trans (hW6.mono (by simp;omega))))
theorem qsj (T:TypeId) (x:Addr) (bb pr pn pk:Nat) (p n:Int) (c:Nat) (w:World) (hn:IsNm n) (hp:p=0∨p=1) (h:w.cell? ⟨bb,0,none⟩=some (.slice (some ⟨pr,0,none⟩) 2 c)) (hk:w.cell? ⟨pr,p.toNat,none⟩=some (.pointer (some ⟨pk,0,none⟩))):
  Calls prog 45 #[.pointer (some ⟨bb,0,none⟩),.int .i64 p,.agg #[.int .i64 n,.bool false],.iface T (.pointer (some x))] w fun e w'=>∃ f,e = .returned (.pointer (some ⟨f,0,none⟩))∧(∃ v,qjt w.heap.size w' f pk n (.pointer (some ⟨v,0,none⟩))∧w.heap.size≤v∧Blk w' v 191 [.int .i64 0,.pointer (some ⟨pk,0,none⟩),.string ⟨#[]⟩,.iface T (.pointer (some x)),.int .u8 4,.bool false])∧Below w.heap.size w w':=by
 have hpn:p=(p.toNat:Int):=by omega
 have hp2:p.toNat<2:=by omega
 have hbl:=zj w _ h;have hpl:=zj w _ hk;simp only at hbl hpl;have hpl2:pr<w.heap.size+1+1:=by omega
 have hbl2:bb<w.heap.size+1+1:=by omega
 have hpl1:pr<w.heap.size+1:=by omega
 have hbl1:bb<w.heap.size+1:=by omega
 have Hn:=hid hn;clear hn hp
 generalize p.toNat=q at *
 subst hpn;have hq2:(q:Int)<2:=by omega
 go_enter func45,ntmps45
 go_wp2_with (go_at_call 72;refine(qix _ _ _ _ _).mono ?_;rintro e w1 ⟨rfl,rfl⟩)
 refine Mix.wp_region [0,1,2,3,4,5,6,7,8,9,10] [(11,false),(12,false)] [13] (fun _=>default) (by kernel_rfl) (by kernel_rfl) (by decide) ?_
 iterate 11 (first|(refine pre_yes rfl rfl ?_;apply Exists.intro;refine⟨fun W1 hW1 => ?_,?_⟩;(focus (have hc1:=(qal hW1).1;(try simp only[zd,qaa] at hc1);have hk1:=qac.below hW1;go_simp;first|exact rfl|(go_at_call 26;exact qbq _ _ Hn.out)));simp only[Act.put,zk,zh,zi,ze,zm,zn])|(refine pre_no rfl rfl ?_;simp only[Act.put,zk,zh,zi,ze,zm,zn]))
 refine pre_end (fl_op (fl_op fl_nil)) (fun W2 hW2 => ?_);have hz2:=zq hW2;(try simp only[zd,qaa] at hz2);refine mid_call hW2 rfl rfl (fun Kp hKp => ?_);go_simp;refine(qie _ _).mono ?_;rintro e W3 ⟨rfl,rfl⟩;refine⟨_,rfl,hKp _ _ ((zp _ _).alloc (zl _) _) fun W4 hW4 => ?_⟩;simp only[Act.put,zk,zh,zi,ze,zm,zn];have hz4:=zq hW4;(try simp only[zd,qaa] at hz4);have hB4:=qa4 hW4 (qbl ((zp _ _).alloc (zl _) _) hW2 (by first|omega|(simp;done)|(simp;omega)));refine mid_call hB4 rfl rfl (fun Kp2 hKp2 => ?_);go_simp;refine(qhd _ _ _ _).mono ?_;rintro e W5 ⟨rfl,rfl⟩;refine⟨_,rfl,hKp2 _ _ ((zp _ _).alloc (zl _) _) fun W6 hW6 => ?_⟩;simp only[Act.put,zk,zh,zi,ze,zm,zn];have hz6:=zq hW6;(try simp only[zd,qaa] at hz6);refine mid_nil (qco rfl ?_)
 go_wp2_with fail
 go_ret
 refine⟨_,rfl,⟨_,⟨W2.heap.size,(Blk.new W4 _ _).keep hW6,(((Blk.new W2 _ _).keep hW4).alloc _).keep hW6,by omega,by omega,by omega⟩,?_,?v⟩,?_⟩
 case v=>
  have h1:=(Blk.new (w.alloc (.cells #[.int .i64 ↑n,.bool false] 84)) 191 [.int .i64 0,.pointer (some ⟨pk,0,none⟩),.string ⟨#[]⟩,.iface T (.pointer (some x)),.int .u8 4,.bool false]);rw[show(w.alloc (.cells #[.int .i64 ↑n,.bool false] 84)).heap.size=w.heap.size+1 by simp] at h1;exact((((h1.drew).keep hW2).alloc _ |>.keep hW4).alloc _).keep hW6
 ·simp
 ·exact((((zp _ _).alloc (zl _) _).alloc (by simp) _).drew).trans ((hB4.mono (by simp;omega)).trans (((zp _ _).alloc (by omega) _).trans (hW6.mono (by simp;omega))))
theorem qsc (T:TypeId) (x:Addr) (bb pr pn pk:Nat) (p n:Int) (c:Nat) (w:World) (hn:IsNm n) (hp:p=0∨p=1) (h:w.cell? ⟨bb,0,none⟩=some (.slice (some ⟨pr,0,none⟩) 2 c)) (hk:w.cell? ⟨pr,p.toNat,none⟩=some (.pointer (some ⟨pk,0,none⟩))):
  Calls prog 45 #[.pointer (some ⟨bb,0,none⟩),.int .i64 p,   .agg #[.int .i64 n,.bool true],.iface T (.pointer (some x))] w fun e w'=>∃ f,e = .returned (.pointer (some ⟨f,0,none⟩))∧(∃ v,qjt w.heap.size w' f pk n (.pointer (some ⟨v,0,none⟩))∧w.heap.size≤v∧∃ q,w.heap.size≤q∧Blk w' q 185 [.iface T (.pointer (some x))]∧Blk w' v 191 [.int .i64 0,.pointer (some ⟨pk,0,none⟩),.string ⟨#[]⟩,.iface 145 (.pointer (some ⟨q,0,none⟩)),.int .u8 4,.bool false])∧Below w.heap.size w w':=by
 have hpn:p=(p.toNat:Int):=by omega
 have hp2:p.toNat<2:=by omega
 have hbl:=zj w _ h;have hpl:=zj w _ hk;simp only at hbl hpl;have hpl3:pr<w.heap.size+1+1+1:=by omega
 have hbl3:bb<w.heap.size+1+1+1:=by omega
 have hpl2:pr<w.heap.size+1+1:=by omega
 have hbl2:bb<w.heap.size+1+1:=by omega
 have hpl1:pr<w.heap.size+1:=by omega
 have hbl1:bb<w.heap.size+1:=by omega
 have Hn:=hid hn;clear hn hp
 generalize p.toNat=q at *
 subst hpn;have hq2:(q:Int)<2:=by omega
 go_enter func45,ntmps45
 go_wp2_with (first|(go_at_call 65;refine(qg1 _ _ _).mono ?_;rintro e w1 ⟨rfl,rfl⟩)|(go_at_call 72;refine(qix _ _ _ _ _).mono ?_;rintro e w1 ⟨rfl,rfl⟩))
 refine Mix.wp_region [0,1,2,3,4,5,6,7,8,9,10] [(11,false),(12,false)] [13] (fun _=>default) (by kernel_rfl) (by kernel_rfl) (by decide) ?_
 iterate 11 (first|(refine pre_yes rfl rfl ?_;apply Exists.intro;refine⟨fun W1 hW1 => ?_,?_⟩;(focus (have hc1:=(qal hW1).1;(try simp only[zd,qaa] at hc1);have hk1:=qac.below hW1;go_simp;first|exact rfl|(go_at_call 26;exact qbq _ _ Hn.out)));simp only[Act.put,zk,zh,zi,ze,zm,zn])|(refine pre_no rfl rfl ?_;simp only[Act.put,zk,zh,zi,ze,zm,zn]))
 refine pre_end (fl_op (fl_op fl_nil)) (fun W2 hW2 => ?_);have hz2:=zq hW2;(try simp only[zd,qaa] at hz2);refine mid_call hW2 rfl rfl (fun Kp hKp => ?_);go_simp;refine(qie _ _).mono ?_;rintro e W3 ⟨rfl,rfl⟩;refine⟨_,rfl,hKp _ _ ((zp _ _).alloc (zl _) _) fun W4 hW4 => ?_⟩;simp only[Act.put,zk,zh,zi,ze,zm,zn];have hz4:=zq hW4;(try simp only[zd,qaa] at hz4);have hB4:=qa4 hW4 (qbl ((zp _ _).alloc (zl _) _) hW2 (by first|omega|(simp;done)|(simp;omega)));refine mid_call hB4 rfl rfl (fun Kp2 hKp2 => ?_);go_simp;refine(qhd _ _ _ _).mono ?_;rintro e W5 ⟨rfl,rfl⟩;refine⟨_,rfl,hKp2 _ _ ((zp _ _).alloc (zl _) _) fun W6 hW6 => ?_⟩;simp only[Act.put,zk,zh,zi,ze,zm,zn];have hz6:=zq hW6;(try simp only[zd,qaa] at hz6);refine mid_nil (qco rfl ?_)
 go_wp2_with fail
 go_ret
 refine⟨_,rfl,⟨_,⟨W2.heap.size,(Blk.new W4 _ _).keep hW6,(((Blk.new W2 _ _).keep hW4).alloc _).keep hW6,by omega,by omega,by omega⟩,?_,w.heap.size+1,by omega,?hpp,?hvv⟩,?_⟩
 case hpp=>
  have h1:=(Blk.new (w.alloc (.cells #[.int .i64 ↑n,.bool true] 84)) 185 [.iface T (.pointer (some x))]);rw[show(w.alloc (.cells #[.int .i64 ↑n,.bool true] 84)).heap.size=w.heap.size+1 by simp] at h1;exact(((((h1.alloc _).drew).keep hW2).alloc _ |>.keep hW4).alloc _).keep hW6
 case hvv=>
  have h1:=(Blk.new ((w.alloc (.cells #[.int .i64 ↑n,.bool true] 84)).alloc (.cells #[.iface T (.pointer (some x))] 185)) 191 [.int .i64 0,.pointer (some ⟨pk,0,none⟩),.string ⟨#[]⟩,.iface 145 (.pointer (some ⟨w.heap.size+1,0,none⟩)),.int .u8 4,.bool false]);rw[show((w.alloc (.cells #[.int .i64 ↑n,.bool true] 84)).alloc (.cells #[.iface T (.pointer (some x))] 185)).heap.size=w.heap.size+1+1 by simp] at h1;exact((((h1.drew).keep hW2).alloc _ |>.keep hW4).alloc _).keep hW6
 ·omega
 ·exact(((((zp _ _).alloc (zl _) _).alloc (by simp) _).alloc (by simp <;> omega) _).drew).trans ((hB4.mono (by simp;omega)).trans (((zp _ _).alloc (by omega) _).trans (hW6.mono (by simp;omega))))
