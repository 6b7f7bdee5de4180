import PyProof.Rows.All
import Wide.All
import OpenK.AllK
import Wide.FinOn
import KE.KRevSl
import KE.KItem
import KE.KIntText
import KE.KDictObj
import KE.KDictAnyGet
import PyProof.SetRoads
import PyProof.IsiH_dict
import PyProof.IsiH_set
import PyProof.TupleOfSeq
import KE.KSortTup
import Lean
import PySem.Challenge.RW_ik0105_01
set_option Elab.async false
set_option tactic.hygienic false
set_option genInjectivity false
set_option genSizeOf false
set_option genSizeOfSpec false
set_option backward.match.sparseCases false
set_option genCtorIdx false
set_option linter.unusedVariables false
set_option linter.unusedSimpArgs false
section
open PySem PySem.W PyProof.Rows
set_option maxRecDepth 1000000
set_option maxHeartbeats 0
namespace MineH
noncomputable def anyL {α:Type} (p:α->Bool) (l:List α):Bool:=@List.rec α (fun _=>Bool) false (fun c _ r=>@Bool.rec (fun _=>Bool) r true (p c)) l
theorem Gk {α:Type} (p:α->Bool) (l:List α):anyL p l=l.any p:=by
 induction l with
 | nil=>rfl
 | cons c r ih=>
  rw [List.any_cons,← ih]
  show @Bool.rec (fun _=>Bool) (anyL p r) true (p c)=_
  cases p c <;> rfl
noncomputable def anyG {α:Type} (a:Array α) (p:α->Bool) (s:Nat:=0) (t:Nat:=a.size):Bool:=
 @Bool.rec (fun _=>Bool) (Array.any a p s t) (@Bool.rec (fun _=>Bool) (Array.any a p s t) (anyL p a.toList) (Nat.beq t a.size)) (Nat.beq s 0)
theorem any_eq:@Array.any.{0} = @anyG:=by
 funext α a p s t
 unfold anyG
 cases hs:Nat.beq s 0 with
 | false=>rfl
 | true=>
  cases ht:Nat.beq t a.size with
  | false=>rfl
  | true=>
   obtain rfl:=Nat.eq_of_beq_eq_true hs
   obtain rfl:=Nat.eq_of_beq_eq_true ht
   show _=anyL p a.toList
   rw [Gk,Array.any_toList]
inductive EqT {α:Type} (a:α):α->Type
 | refl:EqT a a
theorem EqT.eq {α:Type} {a b:α} (h:EqT a b):a=b:=by cases h;rfl
structure Var (a:Builtin) where
 b:Builtin
 h:EqT a b
theorem Gl:@anyG = @Array.any.{0}:=any_eq.symm
noncomputable def EqT.put {α:Type} {G:Type 1} {x y:G} (e:x=y) (B:G->α):EqT (B y) (B x):=@Eq.rec G x (fun z _=>EqT (B z) (B x)) EqT.refl y e
noncomputable def YE:Var PySem.W.Fast.tw4202317264376624991:=by
 refine ⟨?_,?_⟩
 rotate_left
 ·delta PySem.W.Fast.tw4202317264376624991
  generalize h:(@Array.any.{0})=z
  have h1:(@anyG)=(@z):=Gl.trans h
  clear h
  subst h1
  exact EqT.refl
theorem zcm:PySem.Builtin.«type.__new__» = YE.b:=PySem.W.Fast.te4202317264376624991.trans YE.h.eq
noncomputable def tbF:String->Option Builtin:=fun id=>
 @Bool.rec (fun _=>Option Builtin) (PySem.W.Fast.tw14364793385576792824 id) (some YE.b) (PySem.W.S.eqLit 29827186395103491166823348853 id)
theorem UA:treeTable "type.__new__" = some PySem.Builtin.«type.__new__»:=by kernel_rfl
theorem H5:treeTable=tbF:=by
 funext id
 have e:=congrFun (PySem.W.S.eqLit_eq "type.__new__" 29827186395103491166823348853 (by decide +kernel)) id
 unfold tbF
 rw [← e]
 cases h:(id == "type.__new__") with
 | true=>
  obtain rfl:=beq_iff_eq.mp h
  show treeTable "type.__new__" = some YE.b
  rw [UA,zcm]
 | false=>
  show treeTable id=PySem.W.Fast.tw14364793385576792824 id
  rw [PySem.W.Fast.te14364793385576792824]
noncomputable def Jw:List Obj->Nat->BT->Option BT
 | [],_,t=>some t
 | o::r,n,t=>match ((t.ins n o).get n).isSome with
  | true=>Jw r (n+1) (t.ins n o)
  | false=>none
theorem Jx:∀ (l:List Obj) (n:Nat) (t t':BT),Jw l n t=some t'->(∀ i,i<n->t'.get i=t.get i)/\∀ i,i<l.length->t'.get (n+i)=l[i]?
 | [],n,t,t',h=>by cases h;exact ⟨fun _ _=>rfl,fun i hi=>absurd hi (Nat.not_lt_zero i)⟩
 | o::r,n,t,t',h=>by
  unfold Jw at h
  cases hs:((t.ins n o).get n).isSome with
  | false=>rw [hs] at h;cases h
  | true=>
   rw [hs] at h
   obtain ⟨a,b⟩:=Jx r (n+1) _ _ h
   have g:=BT.get_ins o t n hs
   refine ⟨fun i hi=>?_,fun i hi=>?_⟩
   ·rw [a i (Nat.lt_succ_of_lt hi),g i,if_neg (Nat.ne_of_lt hi)]
   ·cases i with
    | zero=>rw [Nat.add_zero,a n (Nat.lt_succ_self n),g n,if_pos rfl];rfl
    | succ i=>
     have:=b i (Nat.lt_of_succ_lt_succ hi)
     rw [show n+(i+1)=n+1+i by omega,this];rfl
theorem kZ {l:List Obj} {t:BT} (life:Life) (h:Jw l 0 .nil=some t):absHeap t l.length life=⟨l.toArray,life⟩:=by
 obtain ⟨_,b⟩:=Jx l 0 _ _ h
 have e:(absHeap t l.length life).objs=l.toArray:=by
  apply Array.ext_getElem?
  intro i
  rw [absHeap_at]
  by_cases hi:i<l.length
  ·rw [if_pos hi]
   have:=b i hi
   rw [Nat.zero_add] at this
   rw [this,List.getElem?_toArray,List.getElem?_eq_getElem hi]
   rfl
  ·rw [if_neg hi,List.getElem?_toArray,List.getElem?_eq_none (Nat.le_of_not_lt hi)]
 show (⟨(absHeap t l.length life).objs,life⟩:Heap)=_
 rw [e]
noncomputable def runQ (ok:Thread->Bool) (st:SharedT->Thread->Option (SharedT×Thread)):Nat->SharedT->Thread->Option SharedT
 | 0,_,_=>none
 | n+1,s,t=>match through t with
  | true=>some s
  | false=>match ok t with
   | false=>none
   | true=>match st s t with
    | some (s',t')=>runQ ok st n s' t'
    | none=>none
theorem vo {tb:String->Option Builtin} {p:Program} {w:World} {n₀:Nat} {ann:Option Value}:∀ {n:Nat} {s s':SharedT} {t:Thread},runQ (stepOk n₀ ann) (stepT (denote tb) p w) n s t=some s'->topRun tb p w n₀ ann n s.abs t=some s'.abs
 | 0,_,_,_,h=>by cases h
 | n+1,s,s',t,h=>by
  unfold runQ at h
  unfold topRun
  cases ht:through t with
  | true=>rw [ht] at h;cases h;rfl
  | false=>
   rw [ht] at h
   cases hk:stepOk n₀ ann t with
   | false=>rw [hk] at h;cases h
   | true=>
    rw [hk] at h
    cases hs:stepT (denote tb) p w s t with
    | none=>rw [hs] at h;cases h
    | some r=>
     obtain ⟨s₂,t₂⟩:=r
     rw [hs] at h
     dsimp only
     rw [stepT_spec hs]
     exact vo h
noncomputable def Jy (p q:Program) (loose:List Str) (Xt:Shared->Bool) {α:Type} (Yf:Shared->α) (s₀ s₁:Shared):=
 (staticsOk (importedModules p.main.body) s₀.heap s₁.heap&&namesBound p s₁.heap&&gensDone s₁&&laidKept s₀.heap s₁.heap,openSeen q loose (importedModules p.main.body) Xt true s₁,Yf s₁)
theorem Gm {p q:Program} {loose:List Str} {Xt:Shared->Bool} {α:Type} {Yf:Shared->α} {Ya:World->α} {N:Nat}
  (h:∀ w:World,(fencedOpening treeTable p w N).bind (fun s₀=>match s₀.heap.isNs mainGlobals&&s₀.gens.size==0 with
   | true=>(Jw s₀.heap.objs.toList 0 .nil).bind fun T=>
     (runQ (stepOk s₀.heap.objs.size (s₀.heap.nsMap mainGlobals "__annotations__")) (stepT (denote treeTable) p w) N ⟨T,s₀.heap.objs.toList.length,s₀.heap.life,s₀.gens,s₀.drawn,s₀.toks,s₀.os⟩ (topStub p)).map fun s₁=>Jy p q loose Xt Yf s₀ s₁.abs
   | false=>none)=some (true,openGood q loose,Ya w)):LeftO p q loose Xt Yf Ya N:=fun w=>by
 obtain ⟨s₀,h0,h1⟩:=Option.bind_eq_some_iff.mp (h w)
 cases hz:(s₀.heap.isNs mainGlobals&&s₀.gens.size==0) with
 | false=>rw [hz] at h1;cases h1
 | true=>
  rw [hz] at h1
  obtain ⟨T,hT,h2⟩:=Option.bind_eq_some_iff.mp h1
  obtain ⟨s₁,hr,h3⟩:=Option.map_eq_some_iff.mp h2
  obtain ⟨l1,l2,l3⟩:_/\_/\_:=by simpa only [Jy,Prod.mk.injEq] using h3
  have r:=vo hr
  have e0:(SharedT.mk T s₀.heap.objs.toList.length s₀.heap.life s₀.gens s₀.drawn s₀.toks s₀.os).abs=s₀:=by
   unfold SharedT.abs
   dsimp only
   rw [kZ _ hT]
  rw [e0] at r
  unfold openEnds
  rw [h0]
  show (topFrom treeTable p w N s₀).map _=_
  unfold topFrom
  rw [hz]
  dsimp only
  rw [r]
  show ((match staticsOk (importedModules p.main.body) s₀.heap s₁.abs.heap&&namesBound p s₁.abs.heap&&gensDone s₁.abs&&laidKept s₀.heap s₁.abs.heap with | true=>some s₁.abs | false=>none)).map _=_
  rw [l1]
  exact congrArg some (Prod.ext l2 l3)
end MineH
end
section
set_option maxRecDepth 1000000
set_option maxHeartbeats 0
open PySem PySem.W PyProof.Rows
namespace MineH
noncomputable abbrev pw:Program:=PySem.Challenge.pw_ik0105_01
noncomputable def q:Program:={ pw with main:={ pw.main with body:=pw.main.body.drop 42 } }
noncomputable def loose:List Str:=(["deque","_wall","_whence","_index","UnsupportedOperation","IOBase","BufferedIOBase","TextIOBase","BytesIO","StringIO","_kind","_fspath","_check_arg_types","isabs","join","dirname","shlex","split","_tuplegetter","tuplegetter_difflib","Match","_calculate_ratio","SequenceMatcher","tuplegetter_util","unorderable_list_difference","Mismatch","_Mismatch","_count_diff_all_purpose","_law_versions","_law_step","_law_line","_law_replayed","_law_forth_and_back","_law_cancelled","_law_counted"]:List String).map Str.ofString
noncomputable def Gn:List Stmt->Str
 | .ClassDef _ _ _ (.Expr (.Constant (.str d) _ _) _::_) _ _ _ _ _ _ _::_=>d
 | _=>Str.empty
noncomputable def doc0:Str:=Gn (pw.main.body.drop 26)
structure DocS (a:Str) where
 s:String
 h:a=Str.ofString s
structure DocL (s:String) where
 cs:List Char
 h:s=String.ofList cs
noncomputable def docS:DocS doc0:=⟨_,rfl⟩
noncomputable def docL:DocL docS.s:=by
 refine ⟨?_,?_⟩
 rotate_left
 ·delta docS
  dsimp only
  exact rfl
noncomputable def docA:Str:=⟨(docL.cs.map Char.toNat).toArray⟩
theorem za3:doc0=docA:=docS.h.trans ((congrArg Str.ofString docL.h).trans (PySem.W.Fast.ofString_ofList _))
noncomputable def za4 (d:Str):Stmt->Stmt
 | .ClassDef a1 a2 a3 (.Expr (.Constant (.str _) b1 b2) b3::body) a5 a6 a7 a8 a9 a10 a11=>.ClassDef a1 a2 a3 (.Expr (.Constant (.str d) b1 b2) b3::body) a5 a6 a7 a8 a9 a10 a11
 | s=>s
noncomputable def setAt (f:Stmt->Stmt):Nat->List Stmt->List Stmt
 | _,[]=>[]
 | 0,s::r=>f s::r
 | n+1,s::r=>s::setAt f n r
noncomputable def pwD (d:Str):Program:={ pw with main:={ pw.main with body:=setAt (za4 d) 26 pw.main.body } }
theorem za5:pw=pwD doc0:=by kernel_rfl
theorem za6:pw=pwD docA:=za5.trans (congrArg pwD za3)
end MineH
end
section
set_option maxRecDepth 1000000
set_option maxHeartbeats 0
open PySem PySem.W PyProof.Rows
namespace MineH
theorem said:PySem.Challenge.rw_ik0105_01.wellSaid=true:=by
 unfold OpenLaw.wellSaid OpenRow.wellSaid OpenRow.partSaid
 try unfold looksOpen
 repeat' (with_reducible apply look_both)
 all_goals ((try rw [PySem.W.Fast.te8377067652309620493]);(try rw [PySem.W.Fast.te8326940854005059898]);(try rw [PySem.W.Fast.te17119622794617984870]);decide +kernel)
end MineH
end
section
set_option maxRecDepth 1000000
set_option maxHeartbeats 4000000
open PySem PySem.W PyProof.Rows
namespace MineH
theorem reduce (said:PySem.Challenge.rw_ik0105_01.wellSaid=true) {α:Type} {Yf:Shared->α} {Ya:World->α} {YP:World->Heap->Prop}
  (left:LeftO pw q loose (fun _=>true) Yf Ya 17160)
  (hY:∀ w s,Yf s=Ya w->YP w s.heap) (hYk:∀ w h h',YP w h->(∀ b o,h.get? b=some o->h'.get? b=some o)->YP w h')
  (call:∀ (w:World) (s₀ s₁:Shared) (mg mb:Str->Option Value),Ground q loose [] (fun _ _=>True) w s₀ mg mb s₁.heap->YP w s₁.heap->∀ (a:Addr),mg "law" = some (.ref a)->s₁.gens = #[]->
   ∀ (l:Addr) (vs:List Value) (ns:List Int),s₁.heap.IsList l vs.toArray->IntsAre vs ns->ns.length<=63->
    wpAny (model pw w) callerA (PySem.call (.ref a) [.ref l]) (fun v s'=>v=.bool true/\(∀ b o,s₁.heap.get? b=some o->s'.heap.get? b=some o)/\s'.os=s₁.os/\s'.gens = #[]) (fun _ _=>False) s₁) :
  PySem.Challenge.rw_ik0105_01.Holds:=by
 refine holds_law said fun k1=>holds_open (q:=q) (loose:=loose) (Xt:=fun _=>true) (XP:=fun _ _=>True) (Yf:=Yf) (Ya:=Ya) (YP:=YP) (N:=17160) left hY hYk (fun _ _=>trivial) (fun _ _ _ _ _=>trivial) (by rfl) (by rfl) (by rfl) (fun _ _=>recFacts_nil rfl) (by rfl) k1 (by kernel_rfl) ⟨rfl,rfl,rfl,rfl,rfl,by decide +kernel⟩ ?hw ?hc
 case hw=>w_witness2
 case hc=>
  intro w s₀ s₁ mg mb G Y fa o pm cd doc dV kV ho hd hcd hD hmg hg args vals as hpre hlay hrd hwl hlo
  clear ho hd hcd hD
  have G':=G
  have hmg':mg "law" = some (.ref fa):=hmg
  wrow_args hpre hlay hrd hwl hlo
  rename IntsAre _ _=>hI
  rename Heap.IsList _ _ _=>hL
  rename ¬ _=>hc
  refine wpAny_mono (call w s₀ s₁ mg mb G' Y fa hmg' hg _ _ _ hL hI (by omega)) (fun v s' z=>?_) (fun _ _ x=>x.elim)
  obtain ⟨rfl,hk,hos,hg'⟩:=z
  exact ⟨.inl ⟨_,.bool true,[],rfl,fun _=>rfl,.bool true,postW_of (r:=PySem.Challenge.rw_ik0105_01.row.toRowW) (X:=(true==true)) rfl (w_eq_bool (w_res rfl) w_lit) rfl,fun _=>⟨.nil,fun _ h=>nomatch h⟩⟩,.of_keep hk,hos,.of_eq hg'⟩
end MineH
end
section
open PySem PySem.W PySem.Calls PyProof.Rows PySem.Spec
set_option maxRecDepth 100000
namespace Mine
set_option genCtorIdx true in
inductive V where
 | none
 | bool (b:Bool)
 | int (i:Int)
 | str (l:List Nat)
 | ref (a:Addr)
 | bi (id:String)
 | ty (t:String)
 deriving DecidableEq
inductive PE where
 | bad
 | const (v:V)
 | loc (i:Nat)
 | cellv (k:Nat)
 | attr (e:PE) (nm:Str)
 | item (e i:PE)
 | slice (e:PE) (lo hi st:Option PE)
 | neg (e:PE)
 | call (f:PE) (args:List PE)
 | kw (f:PE) (args:List PE) (names:List Str) (kws:List PE)
 | meth (o:PE) (nm:Str) (args:List PE)
 | bin (op:Operator) (l r:PE)
 | cmp (op:CmpOp) (l r:PE)
 | bop (op:BoolOp) (es:List PE)
 | not (e:PE)
 | ite (t a b:PE)
 | list (es:List PE)
 | tup (es:List PE)
 | dict0
 | comp (elt src:PE) (ifs:List PE)
 | comp2 (src:PE)
inductive PT where
 | loc (i:Nat)
 | attr (e:PE) (nm:Str)
 | item (e i:PE)
 | tup (is:List Nat)
 | bad
set_option genCtorIdx true in
inductive PS where
 | bad
 | expr (e:PE)
 | assign (ts:List PT) (e:PE)
 | swap (is:List Nat) (e:PE)
 | assignC (i:Nat) (e:PE)
 | augL (i:Nat) (op:Operator) (e:PE)
 | augA (o:PE) (nm:Str) (op:Operator) (e:PE)
 | augS (o i:PE) (op:Operator) (e:PE)
 | ite (t:PE) (a b:List PS)
 | whil (t:PE) (body:List PS)
 | forr (t:PT) (src:PE) (body:List PS)
 | ret (e:PE)
 | pass | brk | cont
 | tri (l x m:Option Nat)
 | raiseStop
structure Nm where
 scope:Scope
 locs:List Str
 cells:List Str
 glob:Str->Option V
noncomputable def idxOf (x:Str):List Str->Option Nat
 | []=>none
 | y::r=>if y=x then some 0 else (idxOf x r).map (· + 1)
noncomputable def YF:Const->Option V
 | .none=>some .none
 | .bool b=>some (.bool b)
 | .int i=>some (.int i)
 | .str s=>if s.cps.toList.length<=1000 then some (.str s.cps.toList) else none
 | _=>none
noncomputable def qN:Option PE->PE
 | some e=>e
 | none=>.bad
noncomputable def vp (n:Nm) (x:Str) (d:Bool) (k:Option NameKind):PE:=match d with
 | true=>.bad
 | false=>(match k with
  | some .local=>qN ((idxOf x n.locs).map .loc)
  | some .globalImplicit=>qN ((n.glob x).map .const)
  | some .cell=>qN ((idxOf x n.cells).map .cellv)
  | some .free=>if x==("__classdict__" : Str) then .bad else qN ((idxOf x n.cells).map .cellv)
  | _=>.bad)
noncomputable def yE (n:Nm) (x:Str):PE:=vp n x (x==("__debug__" : Str)) (n.scope.names.lookup x)
noncomputable def toV:Value->Option V
 | .ref a=>some (.ref a)
 | .builtin i=>some (.bi i)
 | .type t=>some (.ty t)
 | _=>none
noncomputable def ZO (K:Frag) (x:Str):Option V:=match nsIn K mainGlobals x with
 | some (some v)=>toV v
 | some none=>if x = "__name__" then none else (bootBuiltins x).bind toV
 | none=>none
noncomputable def vq (sc:Scope):List Str:=(sc.names.filter fun x=>x.2==.local&&x.1 != (".0" : Str)).map (·.1)
noncomputable def q5 (e:PySem.Expr):Bool:=[2,16,19,20,23].contains e.ctorIdx
noncomputable def q6:PySem.Expr->Bool
 | .Call _ [] [] _=>true
 | _=>false
noncomputable def noStar:List PySem.Expr->Bool
 | []=>true
 | e::r=>e.ctorIdx != 22&&noStar r
noncomputable def ZE:List Keyword->Option (List Str)
 | []=>some []
 | ⟨some k,_,_⟩::r=>(ZE r).map (k :: ·)
 | _=>none
noncomputable def Zs (e:PySem.Expr):Option Str:=if h:e.ctorIdx=23 then PySem.Expr.Name.elim (motive_1:=fun _=>Option Str) e h fun x _=>some x else none
noncomputable def opt1 (t:Option Str) (b:Bool) (f:Str->PE):PE:=match t with
 | some x=>(match b with
  | true=>f x
  | false=>.bad)
 | none=>.bad
noncomputable def zr (outer:List (Str×NameKind)) (sc:Scope) (xs cells:List Str):Bool:=
 sc.kind==.function&&xs.all (fun x=>sc.names.lookup x==some .local)&&sc.names.all (fun x=>x.2==.local || x.2==.globalImplicit || (x.2==.free&&cells.contains x.1&&(outer.lookup x.1==some .cell || outer.lookup x.1==some .free)))
  && decide ((sc.names.map (·.1)).Nodup)
mutual
noncomputable def cE (n:Nm):PySem.Expr->PE
 | .Constant c _ _=>qN ((YF c).map .const)
 | .Name x _=>yE n x
 | .BoolOp op es _=>.bop op (cEs n es)
 | .BinOp l op r _=>.bin op (cE n l) (cE n r)
 | .UnaryOp .Not e _=>.not (cE n e)
 | .UnaryOp .USub e _=>.neg (cE n e)
 | .IfExp t a b _=>.ite (cE n t) (cE n a) (cE n b)
 | .Compare l [op] [r] _=>if behindInMarks op r then .bad else .cmp op (cE n l) (cE n r)
 | .Call (.Attribute o nm ap) args kws pos=>if kws.isEmpty && !q6 o&&q5 o&&(ap.endLine==pos.line)&&decide (args.length<20)&&noStar args then .meth (cE n o) nm (cEs n args) else .bad
 | .Call f args kws _=>if noStar args then match kws with
   | []=>.call (cE n f) (cEs n args)
   | kw=>match ZE kw,args with
    | some ns,_::_=>.kw (cE n f) (cEs n args) ns (cKs n kw)
    | _,_=>.bad
  else .bad
 | .Attribute o nm _=>if !q6 o&&q5 o then .attr (cE n o) nm else .bad
 | .Subscript o (.Slice lo hi st _) _=>.slice (cE n o) (cEo n lo) (cEo n hi) (cEo n st)
 | .Subscript o i _=>.item (cE n o) (cE n i)
 | .List es _=>if noStar es then .list (cEs n es) else .bad
 | .Tuple es _ _=>if noStar es then .tup (cEs n es) else .bad
 | .Dict [] [] _=>.dict0
 | .ListComp elt gens sc _=>match gens with
  | [⟨t,src,ifs,k⟩]=>opt1 (Zs t) (k==0) fun x=>if zr n.scope.names sc [x] n.cells then .comp (cE ⟨sc,[x],n.cells,n.glob⟩ elt) (cE n src) (cEs ⟨sc,[x],n.cells,n.glob⟩ ifs) else .bad
  | [⟨t,src,ifs,k⟩,⟨t2,s2,ifs2,k2⟩]=>opt1 (Zs elt) true fun y=>opt1 (Zs t) true fun x=>opt1 (Zs t2) true fun y'=>opt1 (Zs s2) (ifs.isEmpty&&ifs2.isEmpty&&k==0&&k2==0) fun x'=>
   if zr n.scope.names sc [x,y] n.cells&&(x==x')&&(y==y')&&(x != ("__debug__" : Str))&&(y != ("__debug__" : Str)) then .comp2 (cE n src) else .bad
  | _=>.bad
 | _=>.bad
noncomputable def cEo (n:Nm):Option PySem.Expr->Option PE
 | none=>none
 | some e=>some (cE n e)
noncomputable def cEs (n:Nm):List PySem.Expr->List PE
 | []=>[]
 | e::r=>cE n e::cEs n r
noncomputable def cKs (n:Nm):List Keyword->List PE
 | []=>[]
 | ⟨_,e,_⟩::r=>cE n e::cKs n r
end
set_option backward.match.sparseCases true in
noncomputable def isStarred:PySem.Expr->Bool
 | .Starred ..=>true
 | _=>false
set_option backward.match.sparseCases true in
noncomputable def Xl (nm:List (Str×NameKind)) (line:Nat):PySem.Expr->Option Str
 | .Name id pos=>if nm.lookup id==some .local&&pos.line==line then some id else none
 | _=>none
noncomputable def YG (nm:List (Str×NameKind)) (ts vs:List PySem.Expr):Option (Option (List Str)):=
 if !(ts.length==2 || ts.length==3) || vs.length != ts.length then some none
 else if vs.any isStarred then some none
 else
  if (ts.filterMap (Xl nm ((ts.head?.map (·.pos.line)).getD 0))).length != ts.length || (ts.filterMap (Xl nm ((ts.head?.map (·.pos.line)).getD 0))).eraseDups.length != (ts.filterMap (Xl nm ((ts.head?.map (·.pos.line)).getD 0))).length then some none
  else if vs.all (foldedForSure 8) then some none
  else if vs.all (constantsAlone 8) then none
  else some (some (ts.filterMap (Xl nm ((ts.head?.map (·.pos.line)).getD 0))))
noncomputable def tupE (e:PySem.Expr):Option (List PySem.Expr):=if h:e.ctorIdx=25 then PySem.Expr.Tuple.elim (motive_1:=fun _=>Option (List PySem.Expr)) e h fun ts _ _=>some ts else none
noncomputable def JX (nm:List (Str×NameKind)) (ts:List PySem.Expr) (v:PySem.Expr):Option (Option (List Str)):=match ts with
 | [t]=>(match tupE v with
  | none=>some none
  | some vs=>(match tupE t with
   | some ts=>YG nm ts vs
   | none=>if t.ctorIdx=24 then none else some none))
 | _=>some none
noncomputable def JY:PySem.Expr->Option Scope
 | .ListComp _ _ s _=>some s
 | .SetComp _ _ s _=>some s
 | .DictComp _ _ _ s _=>some s
 | _=>none
noncomputable def vt (nm:List (Str×NameKind)) (l:Nat) (s:Scope):PySem.Expr->Bool
 | .Name t pos=>nm.lookup t==some .local&&pos.line==l && !(s.names.any fun (n,k)=>n==t&&(k==.local || k==.cell))
 | _=>false
noncomputable def Ze (nm:List (Str×NameKind)) (ts:List PySem.Expr) (e:PySem.Expr):Bool:=match JY e with
 | none=>false
 | some s=>(match ts with
  | [t]=>vt nm e.pos.line s t
  | _=>false)
noncomputable def idx (n:Nm) (x:Str):Option Nat:=if n.scope.names.lookup x==some .local then idxOf x n.locs else none
noncomputable def idxs (n:Nm):List Str->Option (List Nat)
 | []=>some []
 | x::r=>match idx n x,idxs n r with
  | some i,some is=>some (i::is)
  | _,_=>none
noncomputable def nameList:List PySem.Expr->Option (List Str)
 | []=>some []
 | e::r=>(Zs e).bind fun x=>(nameList r).map (x :: ·)
noncomputable def isSlice (e:PySem.Expr):Bool:=e.ctorIdx==26
noncomputable def cT (n:Nm):PySem.Expr->PT
 | .Name x _=>match idx n x with
  | some i=>.loc i
  | none=>.bad
 | .Attribute o nm _=>.attr (cE n o) nm
 | .Subscript o i _=>if isSlice i then .bad else .item (cE n o) (cE n i)
 | .Tuple es _ _=>match (nameList es).bind (idxs n) with
  | some is=>.tup is
  | none=>.bad
 | _=>.bad
noncomputable def Xm (e:PySem.Expr):Bool:=e.ctorIdx==23 || e.ctorIdx==25
noncomputable def vu (e:PySem.Expr):Bool:=e.ctorIdx==8 || e.ctorIdx==9 || e.ctorIdx==10
noncomputable def isVE:Option V->Option NameKind->Bool
 | some (.ty t),some .globalImplicit=>t == "ValueError"
 | _,_=>false
noncomputable def vx (e:PySem.Expr):Bool:=if h:e.ctorIdx=19 then PySem.Expr.Constant.elim (motive_1:=fun _=>Bool) e h fun c _ _=>(match c with
  | .str _=>true
  | _=>false) else false
noncomputable def vy (n:Nm) (e:PySem.Expr):PS:=if vx e then .pass else if vu e then .bad else .expr (cE n e)
noncomputable def JZ (n:Nm) (ts:List PySem.Expr) (e:PySem.Expr):PS:=match Ze n.scope.names ts e with
 | true=>(match ts with
  | [t]=>(match Zs t with
   | some x=>(match idx n x with
    | some i=>.assignC i (cE n e)
    | none=>.bad)
   | none=>.bad)
  | _=>.bad)
 | false=>(match JX n.scope.names ts e with
  | none=>.bad
  | some none=>.assign (ts.map (cT n)) (cE n e)
  | some (some names)=>(match idxs n names with
   | some is=>.swap is (cE n e)
   | none=>.bad))
noncomputable def Gp (e:PySem.Expr) (k:PySem.Expr->Str->Pos->Bool):Bool:=if h:e.ctorIdx=20 then PySem.Expr.Attribute.elim (motive_1:=fun _=>Bool) e h k else false
noncomputable def Gq (e:PySem.Expr) (k:PySem.Expr->List PySem.Expr->List Keyword->Pos->Bool):Bool:=if h:e.ctorIdx=16 then PySem.Expr.Call.elim (motive_1:=fun _=>Bool) e h k else false
noncomputable def Gr (s:Stmt) (k:PySem.Expr->Bool):Bool:=if h:s.ctorIdx=24 then Stmt.Expr.elim (motive_2:=fun _=>Bool) s h fun e _=>k e else false
noncomputable def oneB {α:Type} (l:List α) (k:α->Bool):Bool:=match l with
 | [a]=>k a
 | _=>false
noncomputable def vz (b:List Stmt) (l m x:Str):Bool:=oneB b fun s=>Gr s fun e=>Gq e fun f as ks c=>oneB as fun y=>Gp f fun o m' a=>decide (Zs o=some l)&&(m'==m)&&decide (Zs y=some x)&&ks.isEmpty&&a.endLine==c.line
noncomputable def Gs (hs:List ExceptHandler) (v:Str) (q:List Stmt->Bool):Bool:=oneB hs fun
 | ⟨some t,none,b,_⟩=>decide (Zs t=some v)&&q b
 | _=>false
noncomputable def Gu (n:Nm) (b:List Stmt) (hs:List ExceptHandler):PS:=
 if vz b "actual" "remove" "item" && Gs hs "ValueError" (fun b=>vz b "missing" "append" "item")&&isVE (n.glob "ValueError") (n.scope.names.lookup ("ValueError" : Str)) then .tri (idx n "actual") (idx n "item") (idx n "missing") else .bad
mutual
noncomputable def cS (n:Nm):Stmt->PS
 | .Expr e _=>vy n e
 | .Pass _=>.pass
 | .Break _=>.brk
 | .Continue _=>.cont
 | .Return e _=>(match e with
  | some e=>.ret (cE n e)
  | none=>.ret (.const .none))
 | .Assign ts e _=>JZ n ts e
 | .AugAssign t op e _=>(match t with
  | .Name x _=>(match idx n x with
   | some i=>.augL i op (cE n e)
   | none=>.bad)
  | .Attribute o nm _=>.augA (cE n o) nm op (cE n e)
  | .Subscript o i _=>if isSlice i then .bad else .augS (cE n o) (cE n i) op (cE n e)
  | _=>.bad)
 | .If t a b _=>.ite (cE n t) (cSs n a) (cSs n b)
 | .While t b o _=>(match o with
  | []=>.whil (cE n t) (cSs n b)
  | _=>.bad)
 | .For t it b o _=>(match o with
  | []=>if Xm t then .forr (cT n t) (cE n it) (cSs n b) else .bad
  | _=>.bad)
 | .Raise e cs _=>(match e,cs with
  | some e,none=>(match Zs e with
   | some x=>if x == "StopIteration" then .raiseStop else .bad
   | none=>.bad)
  | _,_=>.bad)
 | .Try b hs o f _=>(match o,f with
  | [],[]=>Gu n b hs
  | _,_=>.bad)
 | _=>.bad
noncomputable def cSs (n:Nm):List Stmt->List PS
 | []=>[]
 | s::r=>cS n s::cSs n r
end
structure FV where
 ps:List Str
 rest:List Str
 ys:List V
 body:List PS
noncomputable def valV:Value->Option V
 | .none=>some .none
 | .bool b=>some (.bool b)
 | .int i _=>some (.int i)
 | .str s _=>if s.cps.toList.length<=1000 then some (.str s.cps.toList) else none
 | .ref a=>some (.ref a)
 | .builtin i=>some (.bi i)
 | .type t=>some (.ty t)
 | _=>none
noncomputable def Gv:List Value->Option (List V)
 | []=>some []
 | v::r=>(valV v).bind fun x=>(Gv r).map (x :: ·)
noncomputable def za7:Data->Option (List Value)
 | .seq vs _=>some vs.toList
 | _=>none
noncomputable def Xn (K:Frag):Value->Option (List Value)
 | .none=>some []
 | .ref a=>(K.lookup a).bind fun o=>za7 o.data
 | _=>none
noncomputable def nmOf (K:Frag) (sc:Scope) (ps:List Str):Nm:=⟨sc,ps++((vq sc).filter fun x=>!ps.contains x),[],ZO K⟩
noncomputable def bodyOf:FuncBody->List Stmt
 | .stmts b=>b
 | _=>[]
noncomputable def vA:FuncBody->Bool
 | .stmts _=>true
 | _=>false
noncomputable def YH:Data->Option FuncData
 | .func fd=>some fd
 | _=>none
noncomputable def zcn (K:Frag) (fd:FuncData) (ps:List Str) (ys:List V):Option FV:=
  if fd.globals==mainGlobals&&fd.builtins==builtinsNs&&vA fd.body&&codeIn K fd.code fd.qualname&&fd.params.kwonlyargs.isEmpty&&fd.params.vararg.isNone&&fd.params.kwarg.isNone&&decide ((nmOf K fd.scope ps).locs.Nodup)&&fd.closure.isEmpty && !fd.scope.isCoroutine && !fd.scope.isGenerator
    && fd.scope.kind==.function&&ps.all (fun x=>fd.scope.names.lookup x==some .local)&&fd.scope.names.all (fun x=>x.2 != .cell)&&decide (ys.length<=ps.length)
   then some ⟨ps,(nmOf K fd.scope ps).locs.drop ps.length,ys,cSs (nmOf K fd.scope ps) (bodyOf fd.body)⟩ else none
noncomputable def zt (K:Frag) (f:Addr):Option FV:=(K.lookup f).bind fun o=>(YH o.data).bind fun fd=>((Xn K fd.defaults).bind Gv).bind fun ys=>zcn K fd (fd.params.posonlyargs.map (·.arg)++fd.params.args.map (·.arg)) ys
noncomputable def QA:FV:=⟨["script"],["number","deeds","place","versions","deed","words","word","fresh"],[],[
  .assign [(.loc 2)] (.bin .Add (.list [(.const (.int 15)),(.const (.int 32))]) (.comp (.bin .Mod (.loc 0) (.bin .Pow (.const (.int 10)) (.const (.int 6)))) (.slice (.loc 0) none (some (.const (.int 5))) none) [])),
  .forr (.tup [3,1]) (.call (.const (.ty "enumerate")) [(.slice (.loc 0) (some (.const (.int 5))) (some (.const (.int 40))) none)]) [
   .augS (.loc 2) (.bin .Mod (.loc 3) (.const (.int 7))) .Add (.bin .Mod (.loc 1) (.bin .Pow (.const (.int 10)) (.const (.int 6))))],
  .assign [(.loc 4)] (.list [(.list [])]),
  .forr (.loc 5) (.loc 2) [
   .assign [(.loc 6)] (.item (.loc 4) (.neg (.const (.int 1)))),
   .assign [(.loc 7)] (.item (.list [(.const (.str [])),(.const (.str [105,116,39,115])),(.const (.str [97,32,98])),(.const (.str [61,49])),(.const (.str [35,34])),(.const (.str [45,49]))]) (.bin .Mod (.bin .FloorDiv (.loc 5) (.const (.int 4))) (.const (.int 6)))),
   .assign [(.loc 3)] (.bin .Mod (.bin .FloorDiv (.loc 5) (.const (.int 24))) (.bin .Add (.call (.const (.bi "len")) [(.loc 6)]) (.const (.int 1)))),
   .ite (.cmp .Eq (.bin .Mod (.loc 5) (.const (.int 4))) (.const (.int 0))) [
    .assign [(.loc 8)] (.bin .Add (.bin .Add (.slice (.loc 6) none (some (.loc 3)) none) (.list [(.loc 7)])) (.slice (.loc 6) (some (.loc 3)) none none))] [
    .ite (.cmp .Eq (.bin .Mod (.loc 5) (.const (.int 4))) (.const (.int 1))) [
     .assign [(.loc 8)] (.bin .Add (.slice (.loc 6) none (some (.loc 3)) none) (.slice (.loc 6) (some (.bin .Add (.loc 3) (.const (.int 1)))) none none))] [
     .ite (.cmp .Eq (.bin .Mod (.loc 5) (.const (.int 4))) (.const (.int 2))) [
      .assign [(.loc 8)] (.bin .Add (.slice (.loc 6) (some (.loc 3)) none none) (.slice (.loc 6) none (some (.loc 3)) none))] [
      .assign [(.loc 8)] (.bin .Add (.bin .Add (.list [(.loc 7)]) (.loc 6)) (.list [(.loc 7)]))]]],
   .expr (.meth (.loc 4) "append" [(.loc 8)])],
  .ret (.loc 4)]⟩
noncomputable def YI:FV:=⟨["old_words","new_words"],["tokens","tag","old_low","old_high","new_low","new_high"],[],[
  .assign [(.loc 2)] (.list []),
  .forr (.tup [3,4,5,6,7]) (.meth (.call (.const (.ref 955)) [(.const .none),(.loc 0),(.loc 1)]) "get_opcodes" []) [
   .ite (.cmp .NotEq (.loc 3) (.const (.str [101,113,117,97,108]))) [
    .augL 2 .Add (.list [(.bin .Add (.const (.str [64])) (.call (.const (.ty "str")) [(.loc 4)])),(.bin .Add (.const (.str [61])) (.call (.const (.ty "str")) [(.loc 6)]))]),
    .augL 2 .Add (.comp (.bin .Add (.const (.str [45])) (.loc 0)) (.slice (.loc 0) (some (.loc 4)) (some (.loc 5)) none) []),
    .augL 2 .Add (.comp (.bin .Add (.const (.str [43])) (.loc 0)) (.slice (.loc 1) (some (.loc 6)) (some (.loc 7)) none) [])] []],
  .ret (.loc 2)]⟩
noncomputable def vB:FV:=⟨["words"],["written","word"],[],[
  .assign [(.loc 1)] (.list []),
  .forr (.loc 2) (.loc 0) [
   .ite (.bop .And [(.loc 2),(.cmp .Lt (.call (.const (.bi "len")) [(.loc 2)]) (.const (.int 5)))]) [
    .expr (.meth (.loc 1) "append" [(.meth (.const (.str [])) "join" [(.comp (.ite (.cmp .In (.loc 0) (.const (.str [32,39,34,92]))) (.bin .Add (.const (.str [92])) (.loc 0)) (.loc 0)) (.loc 2) [])])])] [
    .expr (.meth (.loc 1) "append" [(.bin .Add (.bin .Add (.const (.str [34])) (.meth (.const (.str [])) "join" [(.comp (.ite (.cmp .In (.loc 0) (.const (.str [34,92]))) (.bin .Add (.const (.str [92])) (.loc 0)) (.loc 0)) (.loc 2) [])])) (.const (.str [34])))])]],
  .ret (.meth (.const (.str [32])) "join" [(.loc 1)])]⟩
noncomputable def QB:FV:=⟨["version","tokens","side"],["fresh","reached","token","mark","word"],[],[
  .swap [3,4] (.tup [(.list []),(.const (.int 0))]),
  .forr (.loc 5) (.loc 1) [
   .swap [6,7] (.tup [(.slice (.loc 5) none (some (.const (.int 1))) none),(.slice (.loc 5) (some (.const (.int 1))) none none)]),
   .ite (.cmp .Eq (.loc 6) (.item (.const (.str [64,61])) (.loc 2))) [
    .augL 3 .Add (.slice (.loc 0) (some (.loc 4)) (some (.call (.const (.ty "int")) [(.loc 7)])) none),
    .assign [(.loc 4)] (.call (.const (.ty "int")) [(.loc 7)])] [],
   .ite (.cmp .Eq (.loc 6) (.item (.const (.str [45,43])) (.loc 2))) [
    .ite (.cmp .NotEq (.slice (.loc 0) (some (.loc 4)) (some (.bin .Add (.loc 4) (.const (.int 1)))) none) (.list [(.loc 7)])) [
     .ret (.list [(.const (.str [97,110,111,116,104,101,114,32,119,111,114,100,32,115,116,97,110,100,115,32,104,101,114,101]))])] [],
    .augL 4 .Add (.const (.int 1))] [],
   .ite (.cmp .Eq (.loc 6) (.item (.const (.str [43,45])) (.loc 2))) [
    .expr (.meth (.loc 3) "append" [(.loc 7)])] []],
  .ret (.bin .Add (.loc 3) (.slice (.loc 0) (some (.loc 4)) none none))]⟩
noncomputable def Zd:FV:=⟨["versions","steps"],["forth","back","tokens"],[],[
  .swap [2,3] (.tup [(.list [(.list [])]),(.list [(.item (.loc 0) (.neg (.const (.int 1))))])]),
  .forr (.loc 4) (.loc 1) [
   .expr (.meth (.loc 2) "append" [(.call (.const (.ref 1112)) [(.item (.loc 2) (.neg (.const (.int 1)))),(.loc 4),(.const (.int 0))])])],
  .forr (.loc 4) (.slice (.loc 1) none none (some (.neg (.const (.int 1))))) [
   .expr (.meth (.loc 3) "append" [(.call (.const (.ref 1112)) [(.item (.loc 3) (.neg (.const (.int 1)))),(.loc 4),(.const (.int 1))])])],
  .ret (.bop .And [(.cmp .Eq (.loc 2) (.loc 0)),(.cmp .Eq (.loc 3) (.slice (.loc 0) none none (some (.neg (.const (.int 1))))))])]⟩
noncomputable def jj:FV:=⟨["tokens"],["struck","laid","gone","come"],[],[
  .assignC 1 (.comp (.slice (.loc 0) (some (.const (.int 1))) none none) (.loc 0) [(.cmp .Eq (.slice (.loc 0) none (some (.const (.int 1))) none) (.const (.str [45])))]),
  .assignC 2 (.comp (.slice (.loc 0) (some (.const (.int 1))) none none) (.loc 0) [(.cmp .Eq (.slice (.loc 0) none (some (.const (.int 1))) none) (.const (.str [43])))]),
  .assign [(.tup [3,4])] (.call (.const (.ref 1009)) [(.loc 1),(.loc 2)]),
  .ret (.tup [(.call (.const (.bi "sorted")) [(.loc 3)]),(.call (.const (.bi "sorted")) [(.loc 4)])])]⟩
noncomputable def jk:FV:=⟨["old_words","new_words"],["gone","come","old_times","new_times","word"],[],[
  .swap [2,3] (.tup [(.list []),(.list [])]),
  .forr (.tup [4,5,6]) (.call (.const (.ref 1090)) [(.loc 0),(.loc 1)]) [
   .augL 2 .Add (.bin .Mult (.list [(.loc 6)]) (.bin .Sub (.loc 4) (.loc 5))),
   .augL 3 .Add (.bin .Mult (.list [(.loc 6)]) (.bin .Sub (.loc 5) (.loc 4)))],
  .ret (.tup [(.call (.const (.bi "sorted")) [(.loc 2)]),(.call (.const (.bi "sorted")) [(.loc 3)])])]⟩
noncomputable def Z2:FV:=⟨["actual","expected"],["s","t","m","n","NULL","result","i","elem","cnt_s","cnt_t","j","other_elem","diff"],[],[
  .pass,
  .swap [2,3] (.tup [(.call (.const (.ty "list")) [(.loc 0)]),(.call (.const (.ty "list")) [(.loc 1)])]),
  .swap [4,5] (.tup [(.call (.const (.bi "len")) [(.loc 2)]),(.call (.const (.bi "len")) [(.loc 3)])]),
  .assign [(.loc 6)] (.call (.const (.ty "object")) []),
  .assign [(.loc 7)] (.list []),
  .forr (.tup [8,9]) (.call (.const (.ty "enumerate")) [(.loc 2)]) [
   .ite (.cmp .Is (.loc 9) (.loc 6)) [
    .cont] [],
   .assign [(.loc 10),(.loc 11)] (.const (.int 0)),
   .forr (.loc 12) (.call (.const (.ty "range")) [(.loc 8),(.loc 4)]) [
    .ite (.cmp .Eq (.item (.loc 2) (.loc 12)) (.loc 9)) [
     .augL 10 .Add (.const (.int 1)),
     .assign [(.item (.loc 2) (.loc 12))] (.loc 6)] []],
   .forr (.tup [12,13]) (.call (.const (.ty "enumerate")) [(.loc 3)]) [
    .ite (.cmp .Eq (.loc 13) (.loc 9)) [
     .augL 11 .Add (.const (.int 1)),
     .assign [(.item (.loc 3) (.loc 12))] (.loc 6)] []],
   .ite (.cmp .NotEq (.loc 10) (.loc 11)) [
    .assign [(.loc 14)] (.call (.const (.ref 1080)) [(.loc 10),(.loc 11),(.loc 9)]),
    .expr (.meth (.loc 7) "append" [(.loc 14)])] []],
  .forr (.tup [8,9]) (.call (.const (.ty "enumerate")) [(.loc 3)]) [
   .ite (.cmp .Is (.loc 9) (.loc 6)) [
    .cont] [],
   .assign [(.loc 11)] (.const (.int 0)),
   .forr (.loc 12) (.call (.const (.ty "range")) [(.loc 8),(.loc 5)]) [
    .ite (.cmp .Eq (.item (.loc 3) (.loc 12)) (.loc 9)) [
     .augL 11 .Add (.const (.int 1)),
     .assign [(.item (.loc 3) (.loc 12))] (.loc 6)] []],
   .assign [(.loc 14)] (.call (.const (.ref 1080)) [(.const (.int 0)),(.loc 11),(.loc 9)]),
   .expr (.meth (.loc 7) "append" [(.loc 14)])],
  .ret (.loc 7)]⟩
noncomputable def q7:FV:=⟨["expected","actual"],["missing","item"],[],[
  .pass,
  .assign [(.loc 2)] (.list []),
  .whil (.loc 0) [
   .assign [(.loc 3)] (.meth (.loc 0) "pop" []),
   .tri (some 1) (some 3) (some 2)],
  .ret (.tup [(.loc 2),(.loc 1)])]⟩
noncomputable def ZF:FV:=⟨["_cls","actual","expected","value"],[],[],[
  .pass,
  .ret (.meth (.const (.ty "tuple")) "__new__" [(.loc 0),(.tup [(.loc 1),(.loc 2),(.loc 3)])])]⟩
noncomputable def Xo:FV:=⟨["self","isjunk","a","b","autojunk"],[],[.none,(.str []),(.str []),(.bool true)],[
  .pass,
  .assign [(.attr (.loc 0) "isjunk")] (.loc 1),
  .assign [(.attr (.loc 0) "a"),(.attr (.loc 0) "b")] (.const .none),
  .assign [(.attr (.loc 0) "autojunk")] (.loc 4),
  .expr (.meth (.loc 0) "set_seqs" [(.loc 2),(.loc 3)])]⟩
noncomputable def Jz:FV:=⟨["self","a","b"],[],[],[
  .pass,
  .expr (.meth (.loc 0) "set_seq1" [(.loc 1)]),
  .expr (.meth (.loc 0) "set_seq2" [(.loc 2)])]⟩
noncomputable def JA:FV:=⟨["self","a"],[],[],[
  .pass,
  .ite (.cmp .Is (.loc 1) (.attr (.loc 0) "a")) [
   .ret (.const .none)] [],
  .assign [(.attr (.loc 0) "a")] (.loc 1),
  .assign [(.attr (.loc 0) "matching_blocks"),(.attr (.loc 0) "opcodes")] (.const .none)]⟩
noncomputable def JB:FV:=⟨["self","b"],[],[],[
  .pass,
  .ite (.cmp .Is (.loc 1) (.attr (.loc 0) "b")) [
   .ret (.const .none)] [],
  .assign [(.attr (.loc 0) "b")] (.loc 1),
  .assign [(.attr (.loc 0) "matching_blocks"),(.attr (.loc 0) "opcodes")] (.const .none),
  .assign [(.attr (.loc 0) "fullbcount")] (.const .none),
  .expr (.meth (.loc 0) "_SequenceMatcher__chain_b" [])]⟩
noncomputable def jl:FV:=⟨["self"],["b","b2j","i","elt","indices","junk","isjunk","popular","n","ntest","idxs"],[],[
  .assign [(.loc 1)] (.attr (.loc 0) "b"),
  .assign [(.attr (.loc 0) "b2j"),(.loc 2)] .dict0,
  .forr (.tup [3,4]) (.call (.const (.ty "enumerate")) [(.loc 1)]) [
   .assign [(.loc 5)] (.meth (.loc 2) "setdefault" [(.loc 4),(.list [])]),
   .expr (.meth (.loc 5) "append" [(.loc 3)])],
  .assign [(.attr (.loc 0) "bjunk"),(.loc 6)] (.call (.const (.ty "set")) []),
  .assign [(.loc 7)] (.attr (.loc 0) "isjunk"),
  .ite (.loc 7) [
   .forr (.loc 4) (.meth (.loc 2) "keys" []) [
    .ite (.call (.loc 7) [(.loc 4)]) [
     .expr (.meth (.loc 6) "add" [(.loc 4)])] []],
   .forr (.loc 4) (.loc 6) [
    .bad]] [],
  .assign [(.attr (.loc 0) "bpopular"),(.loc 8)] (.call (.const (.ty "set")) []),
  .assign [(.loc 9)] (.call (.const (.bi "len")) [(.loc 1)]),
  .ite (.bop .And [(.attr (.loc 0) "autojunk"),(.cmp .GtE (.loc 9) (.const (.int 200)))]) [
   .assign [(.loc 10)] (.bin .Add (.bin .FloorDiv (.loc 9) (.const (.int 100))) (.const (.int 1))),
   .forr (.tup [4,11]) (.meth (.loc 2) "items" []) [
    .ite (.cmp .Gt (.call (.const (.bi "len")) [(.loc 11)]) (.loc 10)) [
     .expr (.meth (.loc 8) "add" [(.loc 4)])] []],
   .forr (.loc 4) (.loc 8) [
    .bad]] []]⟩
noncomputable def vC:FV:=⟨["self","alo","ahi","blo","bhi"],["a","b","b2j","isbjunk","besti","bestj","bestsize","j2len","nothing","i","j2lenget","newj2len","j","k"],[(.int 0),.none,(.int 0),.none],[
  .pass,
  .assign [(.tup [5,6,7,8])] (.tup [(.attr (.loc 0) "a"),(.attr (.loc 0) "b"),(.attr (.loc 0) "b2j"),(.attr (.attr (.loc 0) "bjunk") "__contains__")]),
  .ite (.cmp .Is (.loc 2) (.const .none)) [
   .assign [(.loc 2)] (.call (.const (.bi "len")) [(.loc 5)])] [],
  .ite (.cmp .Is (.loc 4) (.const .none)) [
   .assign [(.loc 4)] (.call (.const (.bi "len")) [(.loc 6)])] [],
  .swap [9,10,11] (.tup [(.loc 1),(.loc 3),(.const (.int 0))]),
  .assign [(.loc 12)] .dict0,
  .assign [(.loc 13)] (.list []),
  .forr (.loc 14) (.call (.const (.ty "range")) [(.loc 1),(.loc 2)]) [
   .assign [(.loc 15)] (.attr (.loc 12) "get"),
   .assign [(.loc 16)] .dict0,
   .forr (.loc 17) (.meth (.loc 7) "get" [(.item (.loc 5) (.loc 14)),(.loc 13)]) [
    .ite (.cmp .Lt (.loc 17) (.loc 3)) [
     .cont] [],
    .ite (.cmp .GtE (.loc 17) (.loc 4)) [
     .brk] [],
    .assign [(.loc 18),(.item (.loc 16) (.loc 17))] (.bin .Add (.call (.loc 15) [(.bin .Sub (.loc 17) (.const (.int 1))),(.const (.int 0))]) (.const (.int 1))),
    .ite (.cmp .Gt (.loc 18) (.loc 11)) [
     .swap [9,10,11] (.tup [(.bin .Add (.bin .Sub (.loc 14) (.loc 18)) (.const (.int 1))),(.bin .Add (.bin .Sub (.loc 17) (.loc 18)) (.const (.int 1))),(.loc 18)])] []],
   .assign [(.loc 12)] (.loc 16)],
  .whil (.bop .And [(.cmp .Gt (.loc 9) (.loc 1)),(.cmp .Gt (.loc 10) (.loc 3)),(.not (.call (.loc 8) [(.item (.loc 6) (.bin .Sub (.loc 10) (.const (.int 1))))])),(.cmp .Eq (.item (.loc 5) (.bin .Sub (.loc 9) (.const (.int 1)))) (.item (.loc 6) (.bin .Sub (.loc 10) (.const (.int 1)))))]) [
   .swap [9,10,11] (.tup [(.bin .Sub (.loc 9) (.const (.int 1))),(.bin .Sub (.loc 10) (.const (.int 1))),(.bin .Add (.loc 11) (.const (.int 1)))])],
  .whil (.bop .And [(.cmp .Lt (.bin .Add (.loc 9) (.loc 11)) (.loc 2)),(.cmp .Lt (.bin .Add (.loc 10) (.loc 11)) (.loc 4)),(.not (.call (.loc 8) [(.item (.loc 6) (.bin .Add (.loc 10) (.loc 11)))])),(.cmp .Eq (.item (.loc 5) (.bin .Add (.loc 9) (.loc 11))) (.item (.loc 6) (.bin .Add (.loc 10) (.loc 11))))]) [
   .augL 11 .Add (.const (.int 1))],
  .whil (.bop .And [(.cmp .Gt (.loc 9) (.loc 1)),(.cmp .Gt (.loc 10) (.loc 3)),(.call (.loc 8) [(.item (.loc 6) (.bin .Sub (.loc 10) (.const (.int 1))))]),(.cmp .Eq (.item (.loc 5) (.bin .Sub (.loc 9) (.const (.int 1)))) (.item (.loc 6) (.bin .Sub (.loc 10) (.const (.int 1)))))]) [
   .swap [9,10,11] (.tup [(.bin .Sub (.loc 9) (.const (.int 1))),(.bin .Sub (.loc 10) (.const (.int 1))),(.bin .Add (.loc 11) (.const (.int 1)))])],
  .whil (.bop .And [(.cmp .Lt (.bin .Add (.loc 9) (.loc 11)) (.loc 2)),(.cmp .Lt (.bin .Add (.loc 10) (.loc 11)) (.loc 4)),(.call (.loc 8) [(.item (.loc 6) (.bin .Add (.loc 10) (.loc 11)))]),(.cmp .Eq (.item (.loc 5) (.bin .Add (.loc 9) (.loc 11))) (.item (.loc 6) (.bin .Add (.loc 10) (.loc 11))))]) [
   .assign [(.loc 11)] (.bin .Add (.loc 11) (.const (.int 1)))],
  .ret (.call (.const (.ref 848)) [(.loc 9),(.loc 10),(.loc 11)])]⟩
noncomputable def k0:FV:=⟨["self"],["la","lb","queue","matching_blocks","alo","ahi","blo","bhi","i","j","k","x","i1","j1","k1","non_adjacent","i2","j2","k2"],[],[
  .pass,
  .ite (.cmp .IsNot (.attr (.loc 0) "matching_blocks") (.const .none)) [
   .ret (.attr (.loc 0) "matching_blocks")] [],
  .swap [1,2] (.tup [(.call (.const (.bi "len")) [(.attr (.loc 0) "a")]),(.call (.const (.bi "len")) [(.attr (.loc 0) "b")])]),
  .assign [(.loc 3)] (.list [(.tup [(.const (.int 0)),(.loc 1),(.const (.int 0)),(.loc 2)])]),
  .assign [(.loc 4)] (.list []),
  .whil (.loc 3) [
   .assign [(.tup [5,6,7,8])] (.meth (.loc 3) "pop" []),
   .assign [(.tup [9,10,11]),(.loc 12)] (.meth (.loc 0) "find_longest_match" [(.loc 5),(.loc 6),(.loc 7),(.loc 8)]),
   .ite (.loc 11) [
    .expr (.meth (.loc 4) "append" [(.loc 12)]),
    .ite (.bop .And [(.cmp .Lt (.loc 5) (.loc 9)),(.cmp .Lt (.loc 7) (.loc 10))]) [
     .expr (.meth (.loc 3) "append" [(.tup [(.loc 5),(.loc 9),(.loc 7),(.loc 10)])])] [],
    .ite (.bop .And [(.cmp .Lt (.bin .Add (.loc 9) (.loc 11)) (.loc 6)),(.cmp .Lt (.bin .Add (.loc 10) (.loc 11)) (.loc 8))]) [
     .expr (.meth (.loc 3) "append" [(.tup [(.bin .Add (.loc 9) (.loc 11)),(.loc 6),(.bin .Add (.loc 10) (.loc 11)),(.loc 8)])])] []] []],
  .expr (.meth (.loc 4) "sort" []),
  .assign [(.loc 13),(.loc 14),(.loc 15)] (.const (.int 0)),
  .assign [(.loc 16)] (.list []),
  .forr (.tup [17,18,19]) (.loc 4) [
   .ite (.bop .And [(.cmp .Eq (.bin .Add (.loc 13) (.loc 15)) (.loc 17)),(.cmp .Eq (.bin .Add (.loc 14) (.loc 15)) (.loc 18))]) [
    .augL 15 .Add (.loc 19)] [
    .ite (.loc 15) [
     .expr (.meth (.loc 16) "append" [(.tup [(.loc 13),(.loc 14),(.loc 15)])])] [],
    .swap [13,14,15] (.tup [(.loc 17),(.loc 18),(.loc 19)])]],
  .ite (.loc 15) [
   .expr (.meth (.loc 16) "append" [(.tup [(.loc 13),(.loc 14),(.loc 15)])])] [],
  .expr (.meth (.loc 16) "append" [(.tup [(.loc 1),(.loc 2),(.const (.int 0))])]),
  .assign [(.attr (.loc 0) "matching_blocks")] (.call (.const (.ty "list")) [(.call (.const (.ty "map")) [(.attr (.const (.ref 848)) "_make"),(.loc 16)])]),
  .ret (.attr (.loc 0) "matching_blocks")]⟩
noncomputable def jm:FV:=⟨["self"],["i","j","answer","ai","bj","size","tag"],[],[
  .pass,
  .ite (.cmp .IsNot (.attr (.loc 0) "opcodes") (.const .none)) [
   .ret (.attr (.loc 0) "opcodes")] [],
  .assign [(.loc 1),(.loc 2)] (.const (.int 0)),
  .assign [(.attr (.loc 0) "opcodes"),(.loc 3)] (.list []),
  .forr (.tup [4,5,6]) (.meth (.loc 0) "get_matching_blocks" []) [
   .assign [(.loc 7)] (.const (.str [])),
   .ite (.bop .And [(.cmp .Lt (.loc 1) (.loc 4)),(.cmp .Lt (.loc 2) (.loc 5))]) [
    .assign [(.loc 7)] (.const (.str [114,101,112,108,97,99,101]))] [
    .ite (.cmp .Lt (.loc 1) (.loc 4)) [
     .assign [(.loc 7)] (.const (.str [100,101,108,101,116,101]))] [
     .ite (.cmp .Lt (.loc 2) (.loc 5)) [
      .assign [(.loc 7)] (.const (.str [105,110,115,101,114,116]))] []]],
   .ite (.loc 7) [
    .expr (.meth (.loc 3) "append" [(.tup [(.loc 7),(.loc 1),(.loc 4),(.loc 2),(.loc 5)])])] [],
   .swap [1,2] (.tup [(.bin .Add (.loc 4) (.loc 6)),(.bin .Add (.loc 5) (.loc 6))]),
   .ite (.loc 6) [
    .expr (.meth (.loc 3) "append" [(.tup [(.const (.str [101,113,117,97,108])),(.loc 4),(.loc 1),(.loc 5),(.loc 2)])])] []],
  .ret (.loc 3)]⟩
noncomputable def qO:FV:=⟨["_cls","a","b","size"],[],[],[
  .pass,
  .ret (.meth (.const (.ty "tuple")) "__new__" [(.loc 0),(.tup [(.loc 1),(.loc 2),(.loc 3)])])]⟩
noncomputable def Zu:FV:=⟨["cls","iterable"],["result"],[],[
  .pass,
  .assign [(.loc 2)] (.meth (.const (.ty "tuple")) "__new__" [(.loc 0),(.loc 1)]),
  .ite (.cmp .NotEq (.call (.const (.bi "len")) [(.loc 2)]) (.const (.int 3))) [
   .bad] [],
  .ret (.loc 2)]⟩
noncomputable def zh:FV:=⟨["self","instream","infile","posix","punctuation_chars"],["t"],[.none,.none,(.bool false),(.bool false)],[
  .ite (.call (.const (.bi "isinstance")) [(.loc 1),(.const (.ty "str"))]) [
   .assign [(.loc 1)] (.call (.const (.ref 587)) [(.loc 1)])] [],
  .ite (.cmp .IsNot (.loc 1) (.const .none)) [
   .assign [(.attr (.loc 0) "instream")] (.loc 1),
   .assign [(.attr (.loc 0) "infile")] (.loc 2)] [
   .assign [(.attr (.loc 0) "instream")] (.call (.const (.ref 39)) [(.const (.int 34))]),
   .assign [(.attr (.loc 0) "infile")] (.const .none)],
  .assign [(.attr (.loc 0) "posix")] (.loc 3),
  .ite (.loc 3) [
   .assign [(.attr (.loc 0) "eof")] (.const .none)] [
   .assign [(.attr (.loc 0) "eof")] (.const (.str []))],
  .assign [(.attr (.loc 0) "commenters")] (.const (.str [35])),
  .assign [(.attr (.loc 0) "wordchars")] (.const (.str [97,98,99,100,102,101,103,104,105,106,107,108,109,110,111,112,113,114,115,116,117,118,119,120,121,122,65,66,67,68,69,70,71,72,73,74,75,76,77,78,79,80,81,82,83,84,85,86,87,88,89,90,48,49,50,51,52,53,54,55,56,57,95])),
  .ite (.attr (.loc 0) "posix") [
   .augA (.loc 0) "wordchars" .Add (.const (.str [223,224,225,226,227,228,229,230,231,232,233,234,235,236,237,238,239,240,241,242,243,244,245,246,248,249,250,251,252,253,254,255,192,193,194,195,196,197,198,199,200,201,202,203,204,205,206,207,208,209,210,211,212,213,214,216,217,218,219,220,221,222]))] [],
  .assign [(.attr (.loc 0) "whitespace")] (.const (.str [32,9,13,10])),
  .assign [(.attr (.loc 0) "whitespace_split")] (.const (.bool false)),
  .assign [(.attr (.loc 0) "quotes")] (.const (.str [39,34])),
  .assign [(.attr (.loc 0) "escape")] (.const (.str [92])),
  .assign [(.attr (.loc 0) "escapedquotes")] (.const (.str [34])),
  .assign [(.attr (.loc 0) "state")] (.const (.str [32])),
  .assign [(.attr (.loc 0) "pushback")] (.call (.const (.ty "collections.deque")) []),
  .assign [(.attr (.loc 0) "lineno")] (.const (.int 1)),
  .assign [(.attr (.loc 0) "debug")] (.const (.int 0)),
  .assign [(.attr (.loc 0) "token")] (.const (.str [])),
  .assign [(.attr (.loc 0) "filestack")] (.call (.const (.ty "collections.deque")) []),
  .assign [(.attr (.loc 0) "source")] (.const .none),
  .ite (.not (.loc 4)) [
   .assign [(.loc 4)] (.const (.str []))] [
   .ite (.cmp .Is (.loc 4) (.const (.bool true))) [
    .assign [(.loc 4)] (.const (.str [40,41,59,60,62,124,38]))] []],
  .assign [(.attr (.loc 0) "_punctuation_chars")] (.loc 4),
  .ite (.loc 4) [
   .assign [(.attr (.loc 0) "_pushback_chars")] (.call (.const (.ty "collections.deque")) []),
   .augA (.loc 0) "wordchars" .Add (.const (.str [126,45,46,47,42,63,61])),
   .assign [(.loc 5)] (.meth (.attr (.loc 0) "wordchars") "maketrans" [(.meth (.const (.ty "dict")) "fromkeys" [(.loc 4)])]),
   .assign [(.attr (.loc 0) "wordchars")] (.meth (.attr (.loc 0) "wordchars") "translate" [(.loc 5)])] []]⟩
noncomputable def jo:FV:=⟨["self"],["tok","raw","spec","newfile","newstream"],[],[
  .pass,
  .ite (.attr (.loc 0) "pushback") [
   .assign [(.loc 1)] (.meth (.attr (.loc 0) "pushback") "popleft" []),
   .ite (.cmp .GtE (.attr (.loc 0) "debug") (.const (.int 1))) [
    .expr (.call (.const (.bi "print")) [(.bin .Add (.const (.str [115,104,108,101,120,58,32,112,111,112,112,105,110,103,32,116,111,107,101,110,32])) (.call (.const (.bi "repr")) [(.loc 1)]))])] [],
   .ret (.loc 1)] [],
  .assign [(.loc 2)] (.meth (.loc 0) "read_token" []),
  .ite (.cmp .IsNot (.attr (.loc 0) "source") (.const .none)) [
   .whil (.cmp .Eq (.loc 2) (.attr (.loc 0) "source")) [
    .assign [(.loc 3)] (.meth (.loc 0) "sourcehook" [(.meth (.loc 0) "read_token" [])]),
    .ite (.loc 3) [
     .assign [(.tup [4,5])] (.loc 3),
     .expr (.meth (.loc 0) "push_source" [(.loc 5),(.loc 4)])] [],
    .assign [(.loc 2)] (.meth (.loc 0) "get_token" [])]] [],
  .whil (.cmp .Eq (.loc 2) (.attr (.loc 0) "eof")) [
   .ite (.not (.attr (.loc 0) "filestack")) [
    .ret (.attr (.loc 0) "eof")] [
    .expr (.meth (.loc 0) "pop_source" []),
    .assign [(.loc 2)] (.meth (.loc 0) "get_token" [])]],
  .ite (.cmp .GtE (.attr (.loc 0) "debug") (.const (.int 1))) [
   .ite (.cmp .NotEq (.loc 2) (.attr (.loc 0) "eof")) [
    .expr (.call (.const (.bi "print")) [(.bin .Add (.const (.str [115,104,108,101,120,58,32,116,111,107,101,110,61])) (.call (.const (.bi "repr")) [(.loc 2)]))])] [
    .expr (.call (.const (.bi "print")) [(.const (.str [115,104,108,101,120,58,32,116,111,107,101,110,61,69,79,70]))])]] [],
  .ret (.loc 2)]⟩
noncomputable def zS:FV:=⟨["self"],["quoted","escapedstate","nextchar","result"],[],[
  .assign [(.loc 1)] (.const (.bool false)),
  .assign [(.loc 2)] (.const (.str [32])),
  .whil (.const (.bool true)) [
   .ite (.bop .And [(.attr (.loc 0) "punctuation_chars"),(.attr (.loc 0) "_pushback_chars")]) [
    .assign [(.loc 3)] (.meth (.attr (.loc 0) "_pushback_chars") "pop" [])] [
    .assign [(.loc 3)] (.meth (.attr (.loc 0) "instream") "read" [(.const (.int 1))])],
   .ite (.cmp .Eq (.loc 3) (.const (.str [10]))) [
    .augA (.loc 0) "lineno" .Add (.const (.int 1))] [],
   .ite (.cmp .GtE (.attr (.loc 0) "debug") (.const (.int 3))) [
    .expr (.call (.const (.bi "print")) [.bad])] [],
   .ite (.cmp .Is (.attr (.loc 0) "state") (.const .none)) [
    .assign [(.attr (.loc 0) "token")] (.const (.str [])),
    .brk] [
    .ite (.cmp .Eq (.attr (.loc 0) "state") (.const (.str [32]))) [
     .ite (.not (.loc 3)) [
      .assign [(.attr (.loc 0) "state")] (.const .none),
      .brk] [
      .ite (.cmp .In (.loc 3) (.attr (.loc 0) "whitespace")) [
       .ite (.cmp .GtE (.attr (.loc 0) "debug") (.const (.int 2))) [
        .expr (.call (.const (.bi "print")) [(.const (.str [115,104,108,101,120,58,32,73,32,115,101,101,32,119,104,105,116,101,115,112,97,99,101,32,105,110,32,119,104,105,116,101,115,112,97,99,101,32,115,116,97,116,101]))])] [],
       .ite (.bop .Or [(.attr (.loc 0) "token"),(.bop .And [(.attr (.loc 0) "posix"),(.loc 1)])]) [
        .brk] [
        .cont]] [
       .ite (.cmp .In (.loc 3) (.attr (.loc 0) "commenters")) [
        .expr (.meth (.attr (.loc 0) "instream") "readline" []),
        .augA (.loc 0) "lineno" .Add (.const (.int 1))] [
        .ite (.bop .And [(.attr (.loc 0) "posix"),(.cmp .In (.loc 3) (.attr (.loc 0) "escape"))]) [
         .assign [(.loc 2)] (.const (.str [97])),
         .assign [(.attr (.loc 0) "state")] (.loc 3)] [
         .ite (.cmp .In (.loc 3) (.attr (.loc 0) "wordchars")) [
          .assign [(.attr (.loc 0) "token")] (.loc 3),
          .assign [(.attr (.loc 0) "state")] (.const (.str [97]))] [
          .ite (.cmp .In (.loc 3) (.attr (.loc 0) "punctuation_chars")) [
           .assign [(.attr (.loc 0) "token")] (.loc 3),
           .assign [(.attr (.loc 0) "state")] (.const (.str [99]))] [
           .ite (.cmp .In (.loc 3) (.attr (.loc 0) "quotes")) [
            .ite (.not (.attr (.loc 0) "posix")) [
             .assign [(.attr (.loc 0) "token")] (.loc 3)] [],
            .assign [(.attr (.loc 0) "state")] (.loc 3)] [
            .ite (.attr (.loc 0) "whitespace_split") [
             .assign [(.attr (.loc 0) "token")] (.loc 3),
             .assign [(.attr (.loc 0) "state")] (.const (.str [97]))] [
             .assign [(.attr (.loc 0) "token")] (.loc 3),
             .ite (.bop .Or [(.attr (.loc 0) "token"),(.bop .And [(.attr (.loc 0) "posix"),(.loc 1)])]) [
              .brk] [
              .cont]]]]]]]]]] [
     .ite (.cmp .In (.attr (.loc 0) "state") (.attr (.loc 0) "quotes")) [
      .assign [(.loc 1)] (.const (.bool true)),
      .ite (.not (.loc 3)) [
       .ite (.cmp .GtE (.attr (.loc 0) "debug") (.const (.int 2))) [
        .expr (.call (.const (.bi "print")) [(.const (.str [115,104,108,101,120,58,32,73,32,115,101,101,32,69,79,70,32,105,110,32,113,117,111,116,101,115,32,115,116,97,116,101]))])] [],
       .bad] [],
      .ite (.cmp .Eq (.loc 3) (.attr (.loc 0) "state")) [
       .ite (.not (.attr (.loc 0) "posix")) [
        .augA (.loc 0) "token" .Add (.loc 3),
        .assign [(.attr (.loc 0) "state")] (.const (.str [32])),
        .brk] [
        .assign [(.attr (.loc 0) "state")] (.const (.str [97]))]] [
       .ite (.bop .And [(.attr (.loc 0) "posix"),(.cmp .In (.loc 3) (.attr (.loc 0) "escape")),(.cmp .In (.attr (.loc 0) "state") (.attr (.loc 0) "escapedquotes"))]) [
        .assign [(.loc 2)] (.attr (.loc 0) "state"),
        .assign [(.attr (.loc 0) "state")] (.loc 3)] [
        .augA (.loc 0) "token" .Add (.loc 3)]]] [
      .ite (.cmp .In (.attr (.loc 0) "state") (.attr (.loc 0) "escape")) [
       .ite (.not (.loc 3)) [
        .ite (.cmp .GtE (.attr (.loc 0) "debug") (.const (.int 2))) [
         .expr (.call (.const (.bi "print")) [(.const (.str [115,104,108,101,120,58,32,73,32,115,101,101,32,69,79,70,32,105,110,32,101,115,99,97,112,101,32,115,116,97,116,101]))])] [],
        .bad] [],
       .ite (.bop .And [(.cmp .In (.loc 2) (.attr (.loc 0) "quotes")),(.cmp .NotEq (.loc 3) (.attr (.loc 0) "state")),(.cmp .NotEq (.loc 3) (.loc 2))]) [
        .augA (.loc 0) "token" .Add (.attr (.loc 0) "state")] [],
       .augA (.loc 0) "token" .Add (.loc 3),
       .assign [(.attr (.loc 0) "state")] (.loc 2)] [
       .ite (.cmp .In (.attr (.loc 0) "state") (.tup [(.const (.str [97])),(.const (.str [99]))])) [
        .ite (.not (.loc 3)) [
         .assign [(.attr (.loc 0) "state")] (.const .none),
         .brk] [
         .ite (.cmp .In (.loc 3) (.attr (.loc 0) "whitespace")) [
          .ite (.cmp .GtE (.attr (.loc 0) "debug") (.const (.int 2))) [
           .expr (.call (.const (.bi "print")) [(.const (.str [115,104,108,101,120,58,32,73,32,115,101,101,32,119,104,105,116,101,115,112,97,99,101,32,105,110,32,119,111,114,100,32,115,116,97,116,101]))])] [],
          .assign [(.attr (.loc 0) "state")] (.const (.str [32])),
          .ite (.bop .Or [(.attr (.loc 0) "token"),(.bop .And [(.attr (.loc 0) "posix"),(.loc 1)])]) [
           .brk] [
           .cont]] [
          .ite (.cmp .In (.loc 3) (.attr (.loc 0) "commenters")) [
           .expr (.meth (.attr (.loc 0) "instream") "readline" []),
           .augA (.loc 0) "lineno" .Add (.const (.int 1)),
           .ite (.attr (.loc 0) "posix") [
            .assign [(.attr (.loc 0) "state")] (.const (.str [32])),
            .ite (.bop .Or [(.attr (.loc 0) "token"),(.bop .And [(.attr (.loc 0) "posix"),(.loc 1)])]) [
             .brk] [
             .cont]] []] [
           .ite (.cmp .Eq (.attr (.loc 0) "state") (.const (.str [99]))) [
            .ite (.cmp .In (.loc 3) (.attr (.loc 0) "punctuation_chars")) [
             .augA (.loc 0) "token" .Add (.loc 3)] [
             .ite (.cmp .NotIn (.loc 3) (.attr (.loc 0) "whitespace")) [
              .expr (.meth (.attr (.loc 0) "_pushback_chars") "append" [(.loc 3)])] [],
             .assign [(.attr (.loc 0) "state")] (.const (.str [32])),
             .brk]] [
            .ite (.bop .And [(.attr (.loc 0) "posix"),(.cmp .In (.loc 3) (.attr (.loc 0) "quotes"))]) [
             .assign [(.attr (.loc 0) "state")] (.loc 3)] [
             .ite (.bop .And [(.attr (.loc 0) "posix"),(.cmp .In (.loc 3) (.attr (.loc 0) "escape"))]) [
              .assign [(.loc 2)] (.const (.str [97])),
              .assign [(.attr (.loc 0) "state")] (.loc 3)] [
              .ite (.bop .Or [(.cmp .In (.loc 3) (.attr (.loc 0) "wordchars")),(.cmp .In (.loc 3) (.attr (.loc 0) "quotes")),(.bop .And [(.attr (.loc 0) "whitespace_split"),(.cmp .NotIn (.loc 3) (.attr (.loc 0) "punctuation_chars"))])]) [
               .augA (.loc 0) "token" .Add (.loc 3)] [
               .ite (.attr (.loc 0) "punctuation_chars") [
                .expr (.meth (.attr (.loc 0) "_pushback_chars") "append" [(.loc 3)])] [
                .expr (.meth (.attr (.loc 0) "pushback") "appendleft" [(.loc 3)])],
               .ite (.cmp .GtE (.attr (.loc 0) "debug") (.const (.int 2))) [
                .expr (.call (.const (.bi "print")) [(.const (.str [115,104,108,101,120,58,32,73,32,115,101,101,32,112,117,110,99,116,117,97,116,105,111,110,32,105,110,32,119,111,114,100,32,115,116,97,116,101]))])] [],
               .assign [(.attr (.loc 0) "state")] (.const (.str [32])),
               .ite (.bop .Or [(.attr (.loc 0) "token"),(.bop .And [(.attr (.loc 0) "posix"),(.loc 1)])]) [
                .brk] [
                .cont]]]]]]]]] []]]]]],
  .assign [(.loc 4)] (.attr (.loc 0) "token"),
  .assign [(.attr (.loc 0) "token")] (.const (.str [])),
  .ite (.bop .And [(.attr (.loc 0) "posix"),(.not (.loc 1)),(.cmp .Eq (.loc 4) (.const (.str [])))]) [
   .assign [(.loc 4)] (.const .none)] [],
  .ite (.cmp .Gt (.attr (.loc 0) "debug") (.const (.int 1))) [
   .ite (.loc 4) [
    .expr (.call (.const (.bi "print")) [(.bin .Add (.const (.str [115,104,108,101,120,58,32,114,97,119,32,116,111,107,101,110,61])) (.call (.const (.bi "repr")) [(.loc 4)]))])] [
    .expr (.call (.const (.bi "print")) [(.const (.str [115,104,108,101,120,58,32,114,97,119,32,116,111,107,101,110,61,69,79,70]))])]] [],
  .ret (.loc 4)]⟩
noncomputable def H6:FV:=⟨["self"],[],[],[
  .ret (.loc 0)]⟩
noncomputable def JC:FV:=⟨["self"],["token"],[],[
  .assign [(.loc 1)] (.meth (.loc 0) "get_token" []),
  .ite (.cmp .Eq (.loc 1) (.attr (.loc 0) "eof")) [
   .raiseStop] [],
  .ret (.loc 1)]⟩
noncomputable def vD:FV:=⟨["s","comments","posix"],["lex"],[(.bool false),(.bool true)],[
  .pass,
  .ite (.cmp .Is (.loc 0) (.const .none)) [
   .bad] [],
  .assign [(.loc 3)] (.kw (.const (.ref 722)) [(.loc 0)] ["posix"] [(.loc 2)]),
  .assign [(.attr (.loc 3) "whitespace_split")] (.const (.bool true)),
  .ite (.not (.loc 1)) [
   .assign [(.attr (.loc 3) "commenters")] (.const (.str []))] [],
  .ret (.call (.const (.ty "list")) [(.loc 3)])]⟩
noncomputable def JD:FV:=⟨["self","initial_value","newline"],[],[(.str []),(.str [10])],[
  .ite (.bop .And [(.cmp .IsNot (.loc 2) (.const .none)),(.cmp .IsNot (.call (.const (.ty "type")) [(.loc 2)]) (.const (.ty "str")))]) [
   .expr (.call (.const (.ref 39)) [(.const (.int 17))])] [],
  .ite (.bop .And [(.cmp .IsNot (.loc 2) (.const .none)),(.cmp .NotEq (.loc 2) (.const (.str []))),(.cmp .NotEq (.loc 2) (.const (.str [10]))),(.cmp .NotEq (.loc 2) (.const (.str [13]))),(.cmp .NotEq (.loc 2) (.const (.str [13,10])))]) [
   .bad] [],
  .ite (.bop .And [(.cmp .IsNot (.loc 1) (.const .none)),(.cmp .IsNot (.call (.const (.ty "type")) [(.loc 1)]) (.const (.ty "str")))]) [
   .expr (.call (.const (.ref 39)) [(.const (.int 18))])] [],
  .assign [(.attr (.loc 0) "_StringIO__newline")] (.loc 2),
  .assign [(.attr (.loc 0) "_StringIO__buf")] (.const (.str [])),
  .assign [(.attr (.loc 0) "_StringIO__pos")] (.const (.int 0)),
  .ite (.cmp .IsNot (.loc 1) (.const .none)) [
   .assign [(.attr (.loc 0) "_StringIO__buf")] (.meth (.loc 0) "_StringIO__translated" [(.loc 1)])] []]⟩
noncomputable def QW:FV:=⟨["self","s"],["newline"],[],[
  .assign [(.loc 2)] (.attr (.loc 0) "_StringIO__newline"),
  .ite (.cmp .Is (.loc 2) (.const .none)) [
   .ret (.meth (.meth (.loc 1) "replace" [(.const (.str [13,10])),(.const (.str [10]))]) "replace" [(.const (.str [13])),(.const (.str [10]))])] [],
  .ite (.bop .Or [(.cmp .Eq (.loc 2) (.const (.str [13]))),(.cmp .Eq (.loc 2) (.const (.str [13,10])))]) [
   .ret (.meth (.loc 1) "replace" [(.const (.str [10])),(.loc 2)])] [],
  .ret (.loc 1)]⟩
noncomputable def vE:FV:=⟨["self"],[],[],[
  .ite (.cmp .Is (.attr (.loc 0) "_StringIO__buf") (.const .none)) [
   .bad] []]⟩
noncomputable def H7:FV:=⟨["self","size"],["start","stop"],[(.int (-1))],[
  .ite (.cmp .Is (.loc 1) (.const .none)) [
   .assign [(.loc 1)] (.neg (.const (.int 1)))] [],
  .assign [(.loc 1)] (.call (.const (.ref 53)) [(.loc 1),(.const (.str [83,116,114,105,110,103,73,79,46,114,101,97,100,32,111,102,32,97,32,115,105,122,101,32,116,104,97,116,32,105,115,32,110,111,32,101,120,97,99,116,32,105,110,116]))]),
  .expr (.meth (.loc 0) "_StringIO__check" []),
  .assign [(.loc 2)] (.attr (.loc 0) "_StringIO__pos"),
  .assign [(.loc 3)] (.call (.const (.bi "len")) [(.attr (.loc 0) "_StringIO__buf")]),
  .ite (.cmp .GtE (.loc 2) (.loc 3)) [
   .ret (.const (.str []))] [],
  .ite (.bop .And [(.cmp .GtE (.loc 1) (.const (.int 0))),(.cmp .Lt (.bin .Add (.loc 2) (.loc 1)) (.loc 3))]) [
   .assign [(.loc 3)] (.bin .Add (.loc 2) (.loc 1))] [],
  .assign [(.attr (.loc 0) "_StringIO__pos")] (.loc 3),
  .ret (.slice (.bin .Add (.slice (.attr (.loc 0) "_StringIO__buf") (some (.loc 2)) (some (.loc 3)) none) (.const (.str [32]))) none (some (.neg (.const (.int 1)))) none)]⟩
noncomputable def JE:FV:=⟨["cls","iterable"],["result"],[],[
  .pass,
  .assign [(.loc 2)] (.meth (.const (.ty "tuple")) "__new__" [(.loc 0),(.loc 1)]),
  .ite (.cmp .NotEq (.call (.const (.bi "len")) [(.loc 2)]) (.const (.int 3))) [
   .bad] [],
  .ret (.loc 2)]⟩
noncomputable def vF:FV:=⟨["n","what"],[],[],[
  .ite (.bop .And [(.cmp .IsNot (.call (.const (.ty "type")) [(.loc 0)]) (.const (.ty "int"))),(.cmp .IsNot (.call (.const (.ty "type")) [(.loc 0)]) (.const (.ty "bool")))]) [
   .expr (.call (.const (.ref 39)) [(.const (.int 1))])] [],
  .assign [(.loc 0)] (.call (.const (.ty "int")) [(.loc 0)]),
  .ite (.bop .Or [(.cmp .Gt (.loc 0) (.const (.int 1099511627776))),(.cmp .Lt (.loc 0) (.neg (.const (.int 1099511627776))))]) [
   .expr (.call (.const (.ref 39)) [(.const (.int 2))])] [],
  .ret (.loc 0)]⟩
noncomputable def vG:List Str:=["isjunk","a","b","autojunk","matching_blocks","opcodes","fullbcount","b2j","bjunk","bpopular"]
noncomputable def qv (K:Frag) (f:Addr):Option (List PS):=(K.lookup f).bind fun o=>(YH o.data).bind fun fd=>
  if fd.globals==mainGlobals&&fd.builtins==builtinsNs&&vA fd.body&&codeIn K fd.code fd.qualname&&fd.params.kwonlyargs.isEmpty&&fd.params.args.isEmpty&&fd.params.posonlyargs.map (·.arg)==[("cls" : Str)]&&fd.params.vararg.map (·.arg)==some ("args" : Str)&&fd.params.kwarg.map (·.arg)==some ("kwargs" : Str)
    && (vq fd.scope==[("cls" : Str),"args","kwargs"])&&fd.closure.isEmpty && !fd.scope.isCoroutine && !fd.scope.isGenerator&&fd.scope.kind==.function&&([("cls" : Str),"args","kwargs"].all fun x=>fd.scope.names.lookup x==some .local)&&fd.scope.names.all (fun x=>x.2 != .cell)&&fd.defaults==.none
   then some (cSs ⟨fd.scope,[("cls" : Str),"args","kwargs"],[],ZO K⟩ (bodyOf fd.body)) else none
noncomputable def ZP:List PS:=[
 .ite (.bop .And [(.cmp .IsNot (.loc 0) (.const (.ref 340))),(.cmp .IsNot (.loc 0) (.const (.ref 587)))]) [
  .expr (.call (.const (.ref 39)) [(.const (.int 3))])] [],
 .ret (.meth (.const (.ty "object")) "__new__" [(.loc 0)])]
noncomputable def YJ (K:Frag) (f:Addr):Bool:=match K.lookup f with
 | some ⟨_,_,.func fd,_⟩=>fd.params.posonlyargs.isEmpty
 | _=>false
noncomputable def sioK:List Str:=[("_StringIO__newline" : Str),"_StringIO__buf","_StringIO__pos"]
noncomputable def shK:List Str:=[("instream" : Str),"infile","posix","eof","commenters","wordchars","whitespace","whitespace_split","quotes","escape","escapedquotes","state","pushback","lineno","debug","token","filestack","source","_punctuation_chars"]
noncomputable def vH:FV:=⟨["self"],[],[],[.ret (.attr (.loc 0) "_punctuation_chars")]⟩
noncomputable def q8:List Stmt->Bool
 | [_,s,_]=>if h:s.ctorIdx=12 then Stmt.If.elim (motive_2:=fun _=>Bool) s h fun _ a _ _=>(match a with
  | [r]=>r.ctorIdx==16
  | _=>false) else false
 | _=>false
noncomputable def jq (K:Frag) (f:Addr):Bool:=(match K.lookup f with
 | some ⟨_,_,.func fd,_⟩=>fd.scope.names.lookup ("StopIteration" : Str)==some .globalImplicit&&(match fd.body with
  | .stmts b=>q8 b
  | _=>false)
 | _=>false)&&ZO K "StopIteration" == some (.ty "StopIteration")
noncomputable abbrev ls1:PS:=.assignC 1 (.comp (.call (.const (.ref 1100)) [(.item (.cellv 0) (.loc 0)),(.item (.cellv 0) (.bin .Add (.loc 0) (.const (.int 1))))]) (.call (.const (.ty "range")) [(.bin .Sub (.call (.const (.bi "len")) [(.cellv 0)]) (.const (.int 1)))]) [])
noncomputable abbrev ls2:PS:=.assignC 2 (.comp (.call (.const (.ref 1105)) [(.loc 0)]) (.loc 1) [])
noncomputable abbrev ls3:PS:=.assign [(.loc 3)] (.call (.const (.ref 734)) [(.call (.const (.ref 1105)) [(.loc 2)])])
noncomputable abbrev ls4:PS:=.ite (.cmp .NotEq (.loc 3) (.loc 2)) [
   .ret (.const (.bool false))] []
noncomputable abbrev ls5:PS:=.assignC 4 (.comp (.call (.const (.ref 734)) [(.loc 0)]) (.loc 3) [])
noncomputable abbrev ls6:PS:=.assignC 5 (.comp (.call (.const (.ref 1131)) [(.item (.cellv 0) (.loc 0)),(.item (.cellv 0) (.bin .Add (.loc 0) (.const (.int 1))))]) (.call (.const (.ty "range")) [(.bin .Sub (.call (.const (.bi "len")) [(.cellv 0)]) (.const (.int 1)))]) [])
noncomputable abbrev lc3:PE:=.cmp .Eq (.comp (.call (.const (.ref 1124)) [(.loc 0)]) (.loc 4) []) (.loc 5)
noncomputable abbrev lc4:PE:=.cmp .Eq (.call (.const (.ref 1124)) [(.loc 6)]) (.tup [(.list []),(.call (.const (.bi "sorted")) [(.item (.cellv 0) (.neg (.const (.int 1))))])])
noncomputable def jr:List PS:=[ls1,ls2,ls3,ls4,ls5,ls6,.assignC 6 (.comp2 (.loc 4)),
  .ret (.bop .And [(.cmp .Eq (.loc 4) (.loc 1)),(.call (.const (.ref 1119)) [(.cellv 0),(.loc 4)]),lc3,lc4])]
noncomputable abbrev zY:List Str:=[("script" : Str),"steps","told","lines","read","counted","every_token"]
noncomputable def isPlain:Option (Option (List Str))->Bool
 | some none=>true
 | _=>false
noncomputable def nameP (e:PySem.Expr):Option (Str×Pos):=if h:e.ctorIdx=23 then PySem.Expr.Name.elim (motive_1:=fun _=>Option (Str×Pos)) e h fun x p=>some (x,p) else none
noncomputable def asgP (s:Stmt):Option (List PySem.Expr×PySem.Expr×Pos):=if h:s.ctorIdx=5 then Stmt.Assign.elim (motive_2:=fun _=>Option (List PySem.Expr×PySem.Expr×Pos)) s h fun ts e p=>some (ts,e,p) else none
noncomputable def lawT:List PySem.Expr->Option (Str×Pos)
 | [t]=>nameP t
 | _=>none
noncomputable def lawB:FuncBody->Option ((List PySem.Expr×PySem.Expr×Pos)×(Str×Pos)×List Stmt)
 | .stmts (s::rest)=>(asgP s).bind fun a=>(lawT a.1).map fun x=>(a,x,rest)
 | _=>none
noncomputable def lawV (K:Frag):Option (PE×List PS):=(K.lookup 1136).bind fun o=>(YH o.data).bind fun fd=>
  if fd.globals==mainGlobals&&fd.builtins==builtinsNs&&codeIn K fd.code fd.qualname&&fd.params.kwonlyargs.isEmpty&&fd.params.vararg.isNone&&fd.params.kwarg.isNone&&fd.closure.isEmpty && !fd.scope.isCoroutine && !fd.scope.isGenerator
    && fd.scope.kind==.function&&fd.defaults==.none&&(fd.params.posonlyargs.map (·.arg)++fd.params.args.map (·.arg)==[("script" : Str)])&&(vq fd.scope==zY)&&decide (zY.Nodup)
    && (cellsFrom 0 fd.scope.names []).map (·.1)==[("versions" : Str)]&&fd.scope.names.lookup ("script" : Str)==some .local&&fd.scope.names.lookup ("versions" : Str)==some .cell
  then (lawB fd.body).bind fun y=>
    if y.2.1.1==("versions" : Str)&&Ze fd.scope.names [.Name y.2.1.1 y.2.1.2] y.1.2.1==false&&isPlain (JX fd.scope.names [.Name y.2.1.1 y.2.1.2] y.1.2.1)
    then some (cE ⟨fd.scope,zY,[],ZO K⟩ y.1.2.1,cSs ⟨fd.scope,zY,["versions"],ZO K⟩ y.2.2) else none
  else none
noncomputable def kept:List Addr:=[1,2,3,52,53,79,80,82,83,84,109,110,340,350,356,357,363,364,370,371,526,532,533,586,587,639,645,646,652,653,654,682,683,689,690,711,712,718,719,721,722,727,733,734,794,795,801,802,804,847,848,849,866,872,873,879,880,886,887,893,894,900,901,902,908,909,915,916,922,923,954,955,1008,1009,1026,1027,1033,1034,1079,1080,1081,1089,1090,1094,1095,1099,1100,1104,1105,1111,1112,1118,1119,1123,1124,1130,1131,1135,1136]
noncomputable def Xp:List Obj->Nat->List Addr->Frag
 | [],_,_=>[]
 | _::_,_,[]=>[]
 | o::r,n,a::as=>match Nat.beq n a with
  | true=>if o.isFreed || o.cls==.type "list" then Xp r (n+1) as else (n,o)::Xp r (n+1) as
  | false=>Xp r (n+1) (a::as)
noncomputable def yF (h:Heap):Frag:=Xp h.objs.toList 0 kept
noncomputable def clsQ (K:Frag) (C:Addr) (q:Value->ClassData->Bool):Bool:=(K.lookup C).elim false fun o=>match o.data with
 | .cls cd=>o.slots.toList[4]?==some (some .none)&&q o.cls cd
 | _=>false
noncomputable def UB (x:Option CFound) (a b c d:Value):Bool:=match x with
 | some (.get a' b' c' d')=>a'==a&&b'==b&&c'==c&&d'==d
 | _=>false
noncomputable def vI (K:Frag) (C:Addr) (names:List Str):Bool:=plainGet K C "" && hasDictIn K C&&findIn K (.ref C) "__setattr__" == some (some (.builtin "object.__setattr__"))&&plainOver K C&&names.all fun nm=>findIn K (.ref C) nm==some none
noncomputable def UC (K:Frag) (C f:Addr):Bool:=makesIn K C&&findIn K (.ref C) "__init__" == some (some (.ref f))&&isFn K (.ref f)&&keepIn K (.ref C)
noncomputable def q9 (K:Frag) (C:Addr) (nm:Str) (f:Addr):Bool:=plainGet K C "" && findIn K (.ref C) nm==some (some (.ref f))&&isFn K (.ref f)
noncomputable def Gw (K:Frag) (C f sm:Addr):Bool:=clsQ K C (fun _ cd=>!cd.hasDel&&cd.bases==[.type "tuple"]&&cd.mro==[.ref C,.type "tuple",.type "object"])
 && findIn K (.ref C) "__iter__" == some (some (.builtin "tuple.__iter__"))&&findIn K (.ref C) "__len__" == some (some (.builtin "tuple.__len__"))&&findIn K (.ref C) "__init__" == some (some (.builtin "object.__init__"))
 && findIn K (.ref C) "__lt__" == some (some (.builtin "tuple.__lt__"))&&specialIn K (.ref C) "__call__" == some (some (.builtin "type.__call__"))&&instIn K (.ref C) (.type "type")==some true&&typeIn K (.ref C)==some (.type "type")
 && readsIn K C (.type "type")&&UB (findCls K (.ref C) (.type "type") "__new__") (.builtin "staticmethod.__get__") (.ref sm) .none (.ref C)&&recIn K sm "staticmethod" == some [.ref f]&&keepIn K (.ref C)
noncomputable def UD (K:Frag) (c:Addr) (b:Value) (m:List Value):Bool:=clsQ K c fun oc cd=>oc==.type "type" && !cd.hasDel && !cd.abstract&&cd.slotNames.isEmpty&&cd.bases==[b]&&cd.mro==m
noncomputable def za8 (K:Frag):Bool:=UD K 587 (.ref 110) [.ref 587,.ref 110,.ref 83,.type "object"]&&UD K 110 (.ref 83) [.ref 110,.ref 83,.type "object"]&&UD K 83 (.type "object") [.ref 83,.type "object"]
 && findIn K (.ref 587) "__init__" == some (some (.ref 357))&&isFn K (.ref 357)&&specialIn K (.ref 587) "__call__" == some (some (.builtin "type.__call__"))&&instIn K (.ref 587) (.type "type")==some true&&typeIn K (.ref 587)==some (.type "type")
 && readsIn K 587 (.type "type")&&UB (findCls K (.ref 587) (.type "type") "__new__") (.builtin "staticmethod.__get__") (.ref 84) .none (.ref 587)&&recIn K 84 "staticmethod" == some [.ref 80]&&keepIn K (.ref 587)&&typeIn K (.ref 340)==some (.type "type")
noncomputable def za9 (K:Frag) (C:Addr) (nm:Str) (p f:Addr):Bool:=plainGet K C "" && hasDictIn K C&&findIn K (.ref C) nm==some (some (.ref p))&&specialIn K (.ref p) "__get__" == some (some (.builtin "property.__get__"))&&takesIn K (.ref p)==some true
 && (recIn K p "property").elim false fun l=>l.head?==some (.ref f)
noncomputable def zba (K:Frag) (C p f:Addr):Bool:=UB (findCls K (.ref C) (.type "type") "_make") (.builtin "classmethod.__get__") (.ref p) .none (.ref C)&&recIn K p "classmethod" == some [.ref f,.bool false]
noncomputable def chks (K:Frag):List Bool:=[(K.lookup sysModules).isSome,nsIn K mainGlobals "law" == some (some (.ref 1136)),vI K 955 vG,UC K 955 873,q9 K 955 "set_seqs" 880,q9 K 955 "set_seq1" 887,q9 K 955 "set_seq2" 894,q9 K 955 "_SequenceMatcher__chain_b" 901,q9 K 955 "find_longest_match" 909,q9 K 955 "get_matching_blocks" 916,q9 K 955 "get_opcodes" 923,Gw K 848 795 849,zba K 848 804 802,Gw K 1080 1027 1081,vI K 587 sioK,q9 K 587 "_StringIO__translated" 364,q9 K 587 "_StringIO__check" 371,q9 K 587 "read" 533,za8 K,vI K 722 shK,UC K 722 646,q9 K 722 "get_token" 683,q9 K 722 "read_token" 690,za9 K 722 "punctuation_chars" 654 653,YJ K 646,findIn K (.ref 722) "__iter__" == some (some (.ref 712)),isFn K (.ref 712),findIn K (.ref 722) "__next__" == some (some (.ref 719)),isFn K (.ref 719),findIn K (.ref 722) "__len__" == some none,findIn K (.ref 722) "__length_hint__" == some none,jq K 719]
noncomputable def chk (K:Frag):Bool:=(chks K).all id
noncomputable def addrs:List Addr:=[1095,1100,1105,1112,1119,1124,1131,1090,1009,1027,873,880,887,894,901,909,916,923,795,802,646,683,690,712,719,734,357,364,371,533,1034,53,653]
noncomputable def vJ:List FV:=[QA,YI,vB,QB,Zd,jj,jk,Z2,q7,ZF,Xo,Jz,JA,JB,jl,vC,k0,jm,qO,Zu,
 zh,jo,zS,H6,JC,vD,JD,QW,vE,H7,JE,vF,vH]
end Mine
end
section
open MineH
set_option maxRecDepth 1000000
set_option maxHeartbeats 0
open PySem PySem.W PyProof.Rows
namespace Mine
noncomputable def QX {β:Type} (p:Program) (w:World) (N:Nat) (F:Shared->Shared->β):Option β:=(fencedOpening treeTable p w N).bind (fun s₀=>match s₀.heap.isNs mainGlobals&&s₀.gens.size==0 with
   | true=>(Jw s₀.heap.objs.toList 0 .nil).bind fun T=>
     (runQ (stepOk s₀.heap.objs.size (s₀.heap.nsMap mainGlobals "__annotations__")) (PySem.W.stepT (denote treeTable) p w) N ⟨T,s₀.heap.objs.toList.length,s₀.heap.life,s₀.gens,s₀.drawn,s₀.toks,s₀.os⟩ (topStub p)).map fun s₁=>F s₀ s₁.abs
   | false=>none)
theorem vK {α β γ:Type} {p:Program} {w:World} {N:Nat} {F:Shared->Shared->α} {G:Shared->Shared->β} {H:Shared->Shared->γ} {a:α} {b:β} {c:γ} (h1:QX p w N F=some a) (h2:QX p w N G=some b)
  (h:∀ s t,F s t=a->G s t=b->H s t=c):QX p w N H=some c:=by
 unfold QX at h1 h2 ⊢
 obtain ⟨s₀,e0,f1⟩:=Option.bind_eq_some_iff.mp h1
 rw [e0] at h2 ⊢
 simp only [Option.bind_some] at h2 ⊢
 split at f1
 ·rename_i hb
  rw [hb] at h2
  simp only at h2 ⊢
  obtain ⟨T,eT,f2⟩:=Option.bind_eq_some_iff.mp f1
  rw [eT] at h2 ⊢
  simp only [Option.bind_some] at h2 ⊢
  obtain ⟨s₁,r,f3⟩:=Option.map_eq_some_iff.mp f2
  rw [r] at h2 ⊢
  simp only [Option.map_some,Option.some.injEq] at h2 ⊢
  exact h _ _ f3 h2
 ·cases f1
end Mine
end
section
open MineH
set_option maxRecDepth 1000000
set_option maxHeartbeats 0
open PySem PySem.W PyProof.Rows
namespace Mine
noncomputable abbrev zbb:Type:=List (Option FV)×Option (List PS)×Option (PE×List PS)
noncomputable def yG (s:Shared):zbb:=(addrs.map (zt (yF s.heap)),qv (yF s.heap) 80,lawV (yF s.heap))
noncomputable def k6:zbb:=(vJ.map some,some ZP,some (.call (.const (.ref 1095)) [.loc 0],jr))
noncomputable def vL (s:Shared):Bool:=chk (yF s.heap)
theorem zco (w:World):QX pw w 17160 (fun s t=>Jy pw q loose (fun _=>true) vL s t)=some (true,openGood q loose,true):=by
 unfold QX fencedOpening Jy
 rw [za6,H5,PySem.W.Fast.te10156331382660048174,PySem.W.Fast.te11892475500146522536,PySem.W.Fast.te6613529449190102663,PySem.W.Fast.te10274390034422433532,PySem.W.Fast.te1435165496053646825,PySem.W.Fast.te14289696077712309145,PySem.W.Fast.te4187177175401517315]
 kernel_rfl
theorem zcp (w:World):QX pw w 17160 (fun _ t=>yG t)=some k6:=by
 unfold QX fencedOpening
 rw [za6,H5,PySem.W.Fast.te10156331382660048174,PySem.W.Fast.te11892475500146522536,PySem.W.Fast.te6613529449190102663,PySem.W.Fast.te10274390034422433532,PySem.W.Fast.te1435165496053646825,PySem.W.Fast.te14289696077712309145]
 kernel_rfl
end Mine
end
section
open PySem PySem.W PySem.Calls PyProof.Rows PySem.Spec
set_option maxRecDepth 100000
namespace Mine
end Mine
end
section
namespace Mine
theorem oka {a b c:Nat} (h:a<b) (k:b<=c):a<c:=Nat.lt_of_lt_of_le h k
theorem okb {a b c:Nat} (h:a<=b) (k:b<c):a<c:=Nat.lt_of_le_of_lt h k
theorem okc {a b c:Nat} (h:a<=b) (k:b<=c):a<=c:=Nat.le_trans h k
theorem okd {a b:Nat} (h:a<b):a<=b:=Nat.le_of_lt h
theorem oke {a b:Nat} (h:a=b):a<=b:=Nat.le_of_eq h
theorem okg {a b:Nat} (h:a<=b):a<b+1:=Nat.succ_le_succ h
theorem okh {a b:Nat} (h:¬ a<b):b<=a:=Nat.le_of_not_lt h
theorem oki {a b:Nat} (h:¬ a<=b):b<a:=Nat.lt_of_not_le h
theorem okj {a b:Nat} (h:a<b):(a:Int)<b:=Int.ofNat_lt.mpr h
theorem okk {a b:Nat} (h:a<=b):(a:Int)<=b:=Int.ofNat_le.mpr h
theorem okl {a b:Nat} (h:a=b):(a:Int)=b:=congrArg Int.ofNat h
theorem okn {a b:Nat} (h:¬ a<=b):¬ (a:Int)<=b:=fun x=>h (Int.ofNat_le.mp x)
theorem oko {a b:Nat} (h:¬ a=b):¬ (a:Int)=b:=fun x=>h (Int.ofNat_inj.mp x)
theorem oks {a b k:Nat} (h:a+k<=b):a<=b:=Nat.le_trans (Nat.le_add_right a k) h
theorem okt {a b k:Nat} (h:a+k<b):a<b:=Nat.lt_of_le_of_lt (Nat.le_add_right a k) h
theorem oku {a b k:Nat} (h:a+(k+1)=b):a<b:=h ▸ Nat.lt_add_of_pos_right (Nat.succ_pos k)
theorem okv {a b k:Nat} (h:a+(k+1)=b):a+1+k=b:=(Nat.succ_add a k).trans h
theorem okw {a b:Nat} (h:a<b-1):a<b:=Nat.lt_of_lt_of_le h (Nat.sub_le b 1)
theorem okx {a b:Nat} (h:a<b-1):a+1<b:=Nat.add_lt_of_lt_sub h
theorem oky {a b c:Nat} (h:a<b) (e:c=b+1):a<c:=e ▸ Nat.lt_succ_of_lt h
theorem okz {a b c:Nat} (h:a<b) (e:c=b+1):a+1<c:=e ▸ Nat.succ_lt_succ h
theorem okA {a b k:Nat} (h:a+(k+1)<=b):a<b:=Nat.lt_of_lt_of_le (Nat.lt_add_of_pos_right (Nat.succ_pos k)) h
theorem okB {a b k:Nat} (h:a+(k+1)<=b):a+1+k<=b:=Nat.le_trans (Nat.le_of_eq (Nat.succ_add a k)) h
theorem okC {a b c:Nat} (h:a<=b):a<=b+c:=Nat.le_trans h (Nat.le_add_right b c)
theorem ok0 {a b:Nat} (h:a<b):0<b:=Nat.lt_of_le_of_lt (Nat.zero_le a) h
theorem okF {n a m:Nat} (h:m=n+1) (k:a<n):n-1-a+1<m:=h ▸ Nat.succ_lt_succ (Nat.lt_of_le_of_lt (Nat.sub_le _ _) (Nat.sub_lt (ok0 k) Nat.one_pos))
theorem okG (n:Nat):-2 ^ 62<=(n:Int):=Int.le_trans (by decide:(-2 ^ 62:Int)<=0) (Int.natCast_nonneg n)
theorem okH {n:Nat} (h:n<2 ^ 62):(n:Int)<2 ^ 62:=Int.lt_of_lt_of_le (Int.ofNat_lt.mpr h) (by decide)
theorem okI {a n:Nat} (h:a<n):((n:Int)-1)=((n-1:Nat):Int):=(Int.ofNat_sub (ok0 h)).symm
theorem okJ {a k b:Nat} (h:a+(k+1)<=b):a-1<b:=Nat.lt_of_le_of_lt (Nat.sub_le _ _) (okA h)
theorem okK {n:Nat}:¬ (n:Int)<0:=Int.not_lt.mpr (Int.natCast_nonneg n)
theorem okL {a b:Nat} (h:a<b+1) (k:¬ a=b):a<b:=Nat.lt_of_le_of_ne (Nat.le_of_lt_succ h) k
theorem okO {a c:Nat} (h:c<a):a-1<a:=Nat.sub_lt (ok0 h) Nat.one_pos
theorem okM {a b c k:Nat} (h:c<a) (h2:a+k<=b):a-1<b:=Nat.lt_of_lt_of_le (okO h) (oks h2)
theorem okN {a b c:Nat} (h:c<a) (h2:a<b+1):a-1<b:=Nat.lt_of_lt_of_le (okO h) (Nat.le_of_lt_succ h2)
theorem okP {a c:Nat} (h:c<a):a-1+1=a:=Nat.sub_add_cancel (ok0 h)
theorem okT {a b:Nat} (h:a<b):a<=b-1:=Nat.le_sub_one_of_lt h
theorem okU {a c b k:Nat} (h:c<a) (h2:a+k<=b):a-1+(k+1)<=b:=Nat.le_trans (Nat.le_of_eq ((Nat.succ_add (a-1) k).symm.trans (congrArg (· + k) (okP h)))) h2
theorem okV {a b c:Nat} (h:a<b) (k:b=c):a<c:=k ▸ h
theorem okY {a b c:Nat} (h:a<=b) (k:c=a):c<=b:=k ▸ h
theorem okZ {a b c:Nat} (h:a<b) (k:c=a):c<b:=k ▸ h
theorem and2 {a1 a2:Bool} {G:Prop} (h:(a1&&a2)=true) (k:a1=true->a2=true->G):G:=k (Bool.and_eq_true_iff.mp h).1 (Bool.and_eq_true_iff.mp h).2
theorem and3 {a1 a2 a3:Bool} {G:Prop} (h:(a1&&a2&&a3)=true) (k:a1=true->a2=true->a3=true->G):G:=and2 h fun h c=>and2 h fun c1 c2=>k c1 c2 c
theorem and4 {a1 a2 a3 a4:Bool} {G:Prop} (h:(a1&&a2&&a3&&a4)=true) (k:a1=true->a2=true->a3=true->a4=true->G):G:=and2 h fun h c=>and3 h fun c1 c2 c3=>k c1 c2 c3 c
theorem and5 {a1 a2 a3 a4 a5:Bool} {G:Prop} (h:(a1&&a2&&a3&&a4&&a5)=true) (k:a1=true->a2=true->a3=true->a4=true->a5=true->G):G:=and2 h fun h c=>and4 h fun c1 c2 c3 c4=>k c1 c2 c3 c4 c
theorem and6 {a1 a2 a3 a4 a5 a6:Bool} {G:Prop} (h:(a1&&a2&&a3&&a4&&a5&&a6)=true) (k:a1=true->a2=true->a3=true->a4=true->a5=true->a6=true->G):G:=and2 h fun h c=>and5 h fun c1 c2 c3 c4 c5=>k c1 c2 c3 c4 c5 c
theorem and7 {a1 a2 a3 a4 a5 a6 a7:Bool} {G:Prop} (h:(a1&&a2&&a3&&a4&&a5&&a6&&a7)=true) (k:a1=true->a2=true->a3=true->a4=true->a5=true->a6=true->a7=true->G):G:=and2 h fun h c=>and6 h fun c1 c2 c3 c4 c5 c6=>k c1 c2 c3 c4 c5 c6 c
theorem and8 {a1 a2 a3 a4 a5 a6 a7 a8:Bool} {G:Prop} (h:(a1&&a2&&a3&&a4&&a5&&a6&&a7&&a8)=true) (k:a1=true->a2=true->a3=true->a4=true->a5=true->a6=true->a7=true->a8=true->G):G:=and2 h fun h c=>and7 h fun c1 c2 c3 c4 c5 c6 c7=>k c1 c2 c3 c4 c5 c6 c7 c
theorem and9 {a1 a2 a3 a4 a5 a6 a7 a8 a9:Bool} {G:Prop} (h:(a1&&a2&&a3&&a4&&a5&&a6&&a7&&a8&&a9)=true) (k:a1=true->a2=true->a3=true->a4=true->a5=true->a6=true->a7=true->a8=true->a9=true->G):G:=and2 h fun h c=>and8 h fun c1 c2 c3 c4 c5 c6 c7 c8=>k c1 c2 c3 c4 c5 c6 c7 c8 c
theorem zcq {a1 a2 a3 a4 a5 a6 a7 a8 a9 a10:Bool} {G:Prop} (h:(a1&&a2&&a3&&a4&&a5&&a6&&a7&&a8&&a9&&a10)=true) (k:a1=true->a2=true->a3=true->a4=true->a5=true->a6=true->a7=true->a8=true->a9=true->a10=true->G):G:=and2 h fun h c=>and9 h fun c1 c2 c3 c4 c5 c6 c7 c8 c9=>k c1 c2 c3 c4 c5 c6 c7 c8 c9 c
theorem zcr {a1 a2 a3 a4 a5 a6 a7 a8 a9 a10 a11:Bool} {G:Prop} (h:(a1&&a2&&a3&&a4&&a5&&a6&&a7&&a8&&a9&&a10&&a11)=true) (k:a1=true->a2=true->a3=true->a4=true->a5=true->a6=true->a7=true->a8=true->a9=true->a10=true->a11=true->G):G:=and2 h fun h c=>zcq h fun c1 c2 c3 c4 c5 c6 c7 c8 c9 c10=>k c1 c2 c3 c4 c5 c6 c7 c8 c9 c10 c
theorem zbc {a1 a2 a3 a4 a5 a6 a7 a8 a9 a10 a11 a12:Bool} {G:Prop} (h:(a1&&a2&&a3&&a4&&a5&&a6&&a7&&a8&&a9&&a10&&a11&&a12)=true) (k:a1=true->a2=true->a3=true->a4=true->a5=true->a6=true->a7=true->a8=true->a9=true->a10=true->a11=true->a12=true->G):G:=and2 h fun h c=>zcr h fun c1 c2 c3 c4 c5 c6 c7 c8 c9 c10 c11=>k c1 c2 c3 c4 c5 c6 c7 c8 c9 c10 c11 c
theorem zbd {a1 a2 a3 a4 a5 a6 a7 a8 a9 a10 a11 a12 a13:Bool} {G:Prop} (h:(a1&&a2&&a3&&a4&&a5&&a6&&a7&&a8&&a9&&a10&&a11&&a12&&a13)=true) (k:a1=true->a2=true->a3=true->a4=true->a5=true->a6=true->a7=true->a8=true->a9=true->a10=true->a11=true->a12=true->a13=true->G):G:=and2 h fun h c=>zbc h fun c1 c2 c3 c4 c5 c6 c7 c8 c9 c10 c11 c12=>k c1 c2 c3 c4 c5 c6 c7 c8 c9 c10 c11 c12 c
theorem zcs {a1 a2 a3 a4 a5 a6 a7 a8 a9 a10 a11 a12 a13 a14:Bool} {G:Prop} (h:(a1&&a2&&a3&&a4&&a5&&a6&&a7&&a8&&a9&&a10&&a11&&a12&&a13&&a14)=true) (k:a1=true->a2=true->a3=true->a4=true->a5=true->a6=true->a7=true->a8=true->a9=true->a10=true->a11=true->a12=true->a13=true->a14=true->G):G:=and2 h fun h c=>zbd h fun c1 c2 c3 c4 c5 c6 c7 c8 c9 c10 c11 c12 c13=>k c1 c2 c3 c4 c5 c6 c7 c8 c9 c10 c11 c12 c13 c
theorem zbe {a1 a2 a3 a4 a5 a6 a7 a8 a9 a10 a11 a12 a13 a14 a15:Bool} {G:Prop} (h:(a1&&a2&&a3&&a4&&a5&&a6&&a7&&a8&&a9&&a10&&a11&&a12&&a13&&a14&&a15)=true) (k:a1=true->a2=true->a3=true->a4=true->a5=true->a6=true->a7=true->a8=true->a9=true->a10=true->a11=true->a12=true->a13=true->a14=true->a15=true->G):G:=and2 h fun h c=>zcs h fun c1 c2 c3 c4 c5 c6 c7 c8 c9 c10 c11 c12 c13 c14=>k c1 c2 c3 c4 c5 c6 c7 c8 c9 c10 c11 c12 c13 c14 c
theorem zct {a1 a2 a3 a4 a5 a6 a7 a8 a9 a10 a11 a12 a13 a14 a15 a16:Bool} {G:Prop} (h:(a1&&a2&&a3&&a4&&a5&&a6&&a7&&a8&&a9&&a10&&a11&&a12&&a13&&a14&&a15&&a16)=true) (k:a1=true->a2=true->a3=true->a4=true->a5=true->a6=true->a7=true->a8=true->a9=true->a10=true->a11=true->a12=true->a13=true->a14=true->a15=true->a16=true->G):G:=and2 h fun h c=>zbe h fun c1 c2 c3 c4 c5 c6 c7 c8 c9 c10 c11 c12 c13 c14 c15=>k c1 c2 c3 c4 c5 c6 c7 c8 c9 c10 c11 c12 c13 c14 c15 c
theorem zbf {a1 a2 a3 a4 a5 a6 a7 a8 a9 a10 a11 a12 a13 a14 a15 a16 a17:Bool} {G:Prop} (h:(a1&&a2&&a3&&a4&&a5&&a6&&a7&&a8&&a9&&a10&&a11&&a12&&a13&&a14&&a15&&a16&&a17)=true) (k:a1=true->a2=true->a3=true->a4=true->a5=true->a6=true->a7=true->a8=true->a9=true->a10=true->a11=true->a12=true->a13=true->a14=true->a15=true->a16=true->a17=true->G):G:=and2 h fun h c=>zct h fun c1 c2 c3 c4 c5 c6 c7 c8 c9 c10 c11 c12 c13 c14 c15 c16=>k c1 c2 c3 c4 c5 c6 c7 c8 c9 c10 c11 c12 c13 c14 c15 c16 c
theorem e02 {A B:Prop} {g:Prop} (h:A/\B) (k:A->B->g):g:=k h.1 h.2
theorem e03 {A B C:Prop} {g:Prop} (h:A/\B/\C) (k:A->B->C->g):g:=k h.1 h.2.1 h.2.2
theorem e04 {A B C D:Prop} {g:Prop} (h:A/\B/\C/\D) (k:A->B->C->D->g):g:=k h.1 h.2.1 h.2.2.1 h.2.2.2
theorem e05 {A B C D E:Prop} {g:Prop} (h:A/\B/\C/\D/\E) (k:A->B->C->D->E->g):g:=k h.1 h.2.1 h.2.2.1 h.2.2.2.1 h.2.2.2.2
theorem e06 {A B C D E F:Prop} {g:Prop} (h:A/\B/\C/\D/\E/\F) (k:A->B->C->D->E->F->g):g:=k h.1 h.2.1 h.2.2.1 h.2.2.2.1 h.2.2.2.2.1 h.2.2.2.2.2
theorem e11 {α:Sort _} {A:α->Prop} {g:Prop} (h:∃ x,A x) (k:∀ x,A x->g):g:=h.elim fun x h=>k x h
theorem e12 {α:Sort _} {A B:α->Prop} {g:Prop} (h:∃ x,A x/\B x) (k:∀ x,A x->B x->g):g:=h.elim fun x h=>k x h.1 h.2
theorem e13 {α:Sort _} {A B C:α->Prop} {g:Prop} (h:∃ x,A x/\B x/\C x) (k:∀ x,A x->B x->C x->g):g:=h.elim fun x h=>k x h.1 h.2.1 h.2.2
theorem e14 {α:Sort _} {A B C D:α->Prop} {g:Prop} (h:∃ x,A x/\B x/\C x/\D x) (k:∀ x,A x->B x->C x->D x->g):g:=h.elim fun x h=>k x h.1 h.2.1 h.2.2.1 h.2.2.2
theorem e15 {α:Sort _} {A B C D E:α->Prop} {g:Prop} (h:∃ x,A x/\B x/\C x/\D x/\E x) (k:∀ x,A x->B x->C x->D x->E x->g):g:=h.elim fun x h=>k x h.1 h.2.1 h.2.2.1 h.2.2.2.1 h.2.2.2.2
theorem e21 {α:Sort _} {β:Sort _} {A:α->β->Prop} {g:Prop} (h:∃ x y,A x y) (k:∀ x y,A x y->g):g:=h.elim fun x h=>h.elim fun y h=>k x y h
theorem e22 {α:Sort _} {β:Sort _} {A B:α->β->Prop} {g:Prop} (h:∃ x y,A x y/\B x y) (k:∀ x y,A x y->B x y->g):g:=h.elim fun x h=>h.elim fun y h=>k x y h.1 h.2
theorem e23 {α:Sort _} {β:Sort _} {A B C:α->β->Prop} {g:Prop} (h:∃ x y,A x y/\B x y/\C x y) (k:∀ x y,A x y->B x y->C x y->g):g:=h.elim fun x h=>h.elim fun y h=>k x y h.1 h.2.1 h.2.2
theorem e24 {α:Sort _} {β:Sort _} {A B C D:α->β->Prop} {g:Prop} (h:∃ x y,A x y/\B x y/\C x y/\D x y) (k:∀ x y,A x y->B x y->C x y->D x y->g):g:=h.elim fun x h=>h.elim fun y h=>k x y h.1 h.2.1 h.2.2.1 h.2.2.2
theorem e31 {α:Sort _} {β:Sort _} {γ:Sort _} {A:α->β->γ->Prop} {g:Prop} (h:∃ x y z,A x y z) (k:∀ x y z,A x y z->g):g:=h.elim fun x h=>h.elim fun y h=>h.elim fun z h=>k x y z h
theorem e32 {α:Sort _} {β:Sort _} {γ:Sort _} {A B:α->β->γ->Prop} {g:Prop} (h:∃ x y z,A x y z/\B x y z) (k:∀ x y z,A x y z->B x y z->g):g:=h.elim fun x h=>h.elim fun y h=>h.elim fun z h=>k x y z h.1 h.2
theorem e33 {α:Sort _} {β:Sort _} {γ:Sort _} {A B C:α->β->γ->Prop} {g:Prop} (h:∃ x y z,A x y z/\B x y z/\C x y z) (k:∀ x y z,A x y z->B x y z->C x y z->g):g:=h.elim fun x h=>h.elim fun y h=>h.elim fun z h=>k x y z h.1 h.2.1 h.2.2
theorem e34 {α:Sort _} {β:Sort _} {γ:Sort _} {A B C D:α->β->γ->Prop} {g:Prop} (h:∃ x y z,A x y z/\B x y z/\C x y z/\D x y z) (k:∀ x y z,A x y z->B x y z->C x y z->D x y z->g):g:=h.elim fun x h=>h.elim fun y h=>h.elim fun z h=>k x y z h.1 h.2.1 h.2.2.1 h.2.2.2
theorem e42 {α:Sort _} {β:Sort _} {γ:Sort _} {δ:Sort _} {A B:α->β->γ->δ->Prop} {g:Prop} (h:∃ x y z u,A x y z u/\B x y z u) (k:∀ x y z u,A x y z u->B x y z u->g):g:=h.elim fun x h=>h.elim fun y h=>h.elim fun z h=>h.elim fun u h=>k x y z u h.1 h.2
theorem e45 {α:Sort _} {β:Sort _} {γ:Sort _} {δ:Sort _} {A B C D E:α->β->γ->δ->Prop} {g:Prop} (h:∃ x y z u,A x y z u/\B x y z u/\C x y z u/\D x y z u/\E x y z u) (k:∀ x y z u,A x y z u->B x y z u->C x y z u->D x y z u->E x y z u->g):g:=h.elim fun x h=>h.elim fun y h=>h.elim fun z h=>h.elim fun u h=>k x y z u h.1 h.2.1 h.2.2.1 h.2.2.2.1 h.2.2.2.2
theorem e46 {α:Sort _} {β:Sort _} {γ:Sort _} {δ:Sort _} {A B C D E F:α->β->γ->δ->Prop} {g:Prop} (h:∃ x y z u,A x y z u/\B x y z u/\C x y z u/\D x y z u/\E x y z u/\F x y z u) (k:∀ x y z u,A x y z u->B x y z u->C x y z u->D x y z u->E x y z u->F x y z u->g):g:=h.elim fun x h=>h.elim fun y h=>h.elim fun z h=>h.elim fun u h=>k x y z u h.1 h.2.1 h.2.2.1 h.2.2.2.1 h.2.2.2.2.1 h.2.2.2.2.2
theorem e51 {α:Sort _} {β:Sort _} {γ:Sort _} {δ:Sort _} {ε:Sort _} {A:α->β->γ->δ->ε->Prop} {g:Prop} (h:∃ x y z u v,A x y z u v) (k:∀ x y z u v,A x y z u v->g):g:=h.elim fun x h=>h.elim fun y h=>h.elim fun z h=>h.elim fun u h=>h.elim fun v h=>k x y z u v h
theorem e53 {α:Sort _} {β:Sort _} {γ:Sort _} {δ:Sort _} {ε:Sort _} {A B C:α->β->γ->δ->ε->Prop} {g:Prop} (h:∃ x y z u v,A x y z u v/\B x y z u v/\C x y z u v) (k:∀ x y z u v,A x y z u v->B x y z u v->C x y z u v->g):g:=h.elim fun x h=>h.elim fun y h=>h.elim fun z h=>h.elim fun u h=>h.elim fun v h=>k x y z u v h.1 h.2.1 h.2.2
@[elab_as_elim] theorem sr {α:Sort _} {P:α->Prop} {a b:α} (h:a=b) (k:P b):P a:=h ▸ k
@[elab_as_elim] theorem sq {α:Sort _} {P:α->Prop} {a b:α} (h:b=a) (k:P b):P a:=h ▸ k
theorem nn1 {α:Type _} {a:α} {g:Prop} (h:none=some a):g:=nomatch h
theorem nn2 {α:Type _} {a:α} {g:Prop} (h:some a=none):g:=nomatch h
theorem nn3 {g:Prop} (h:false=true):g:=nomatch h
theorem nn4 {g:Prop} (h:true=false):g:=nomatch h
theorem nn5 {α:Type _} {a:α} {l:List α} {g:Prop} (h:[]=a::l):g:=nomatch h
theorem nn6 {α:Type _} {a:α} {l:List α} {g:Prop} (h:a::l=[]):g:=nomatch h
theorem nn7 {n:Nat} {g:Prop} (h:0=n+1):g:=nomatch h
theorem nn8 {n:Nat} {g:Prop} (h:n+1=0):g:=nomatch h
theorem nn9 {α:Type _} {a:α} {g:Prop} (h:a∈([]:List α)):g:=nomatch h
theorem oe {a b g:Prop} (h:a\/b) (k:a->g) (j:b->g):g:=h.elim k j
theorem ma {α:Type _} {x:α} {l m:List α} {g:Prop} (h:x∈l++m) (k:x∈l->g) (j:x∈m->g):g:=(List.mem_append.mp h).elim k j
theorem mo {α:Type _} {x a:α} {l:List α} {g:Prop} (h:x∈a::l) (k:x=a->g) (j:x∈l->g):g:=(List.mem_cons.mp h).elim k j
@[elab_as_elim] theorem mc {α:Type _} {P:α->Prop} {x a:α} {l:List α} (h:x∈a::l) (k:P a) (j:x∈l->P x):P x:=(List.mem_cons.mp h).elim (fun e=>e ▸ k) j
theorem okB1 {p d v:Nat} (h2:p<=v+d) (h3:d<=p):p-d+(v+d-p)=v:=(Nat.add_comm _ _).trans ((Nat.sub_add_sub_cancel h2 h3).trans (Nat.add_sub_cancel _ _))
theorem okB2 {p d v:Nat} (h1:v<=p) (h2:p<=v+d):p=v+(d-(v+d-p)):=by omega
end Mine
end
section
open PySem PySem.W PySem.Calls PyProof.Rows PySem.Spec
set_option maxRecDepth 100000
namespace Mine
section
inductive VR:V->Value->Prop
 | none:VR .none .none
 | bool (b:Bool):VR (.bool b) (.bool b)
 | int (i:Int) (t:Tok):VR (.int i) (.int i t)
 | str (l:List Nat) (t:Tok):l.length<=16777216->VR (.str l) (.str ⟨l.toArray⟩ t)
 | ref (a:Addr):VR (.ref a) (.ref a)
 | bi (id:String):VR (.bi id) (.builtin id)
 | ty (t:String):VR (.ty t) (.type t)
@[elab_as_elim] theorem VR.ZQ {a:Addr} {P:Value->Prop} {u:Value} (z:VR (.ref a) u) (h:P (.ref a)):P u:=by cases z;exact h
@[elab_as_elim] theorem VR.QY {P:Value->Prop} {u:Value} (z:VR .none u) (h:P .none):P u:=by cases z;exact h
@[elab_as_elim] theorem VR.zbg {b:Bool} {P:Value->Prop} {u:Value} (z:VR (.bool b) u) (h:P (.bool b)):P u:=by cases z;exact h
@[elab_as_elim] theorem VR.UE {i:Int} {P:Value->Prop} {u:Value} (z:VR (.int i) u) (h:∀ t,P (.int i t)):P u:=by cases z;exact h _
@[elab_as_elim] theorem VR.bi_e {i:String} {P:Value->Prop} {u:Value} (z:VR (.bi i) u) (h:P (.builtin i)):P u:=by cases z;exact h
@[elab_as_elim] theorem VR.ty_e {i:String} {P:Value->Prop} {u:Value} (z:VR (.ty i) u) (h:P (.type i)):P u:=by cases z;exact h
inductive VRs:List V->List Value->Prop
 | nil:VRs [] []
 | cons {x:V} {v:Value} {xs:List V} {vs:List Value}:VR x v->VRs xs vs->VRs (x::xs) (v::vs)
theorem VRs.length {xs:List V} {vs:List Value} (h:VRs xs vs):xs.length=vs.length:=by
 induction h with
 | nil=>rfl
 | cons _ _ ih=>simp [ih]
theorem VRs.append {xs ys:List V} {vs us:List Value} (h:VRs xs vs) (k:VRs ys us):VRs (xs++ys) (vs++us):=by
 induction h with
 | nil=>exact k
 | cons a _ ih=>exact .cons a ih
inductive VAt (vs:List Value) (i:Nat) (x:V):Prop
 | mk (v:Value) (e:vs[i]?=some v) (z:VR x v)
theorem VRs.get {xs:List V} {vs:List Value} (h:VRs xs vs):∀ {i:Nat} {x:V},xs[i]?=some x->VAt vs i x:=by
 induction h with
 | nil=>intro i x e;simp at e
 | cons a _ ih=>
  intro i x e
  cases i with
  | zero=>cases e;exact ⟨_,rfl,a⟩
  | succ i=>exact let ⟨v,e,z⟩:=ih (i:=i) e;⟨v,e,z⟩
theorem VRs.take {xs:List V} {vs:List Value} (h:VRs xs vs) (n:Nat):VRs (xs.take n) (vs.take n):=by
 induction h generalizing n with
 | nil=>simp;exact .nil
 | cons a _ ih=>cases n with
  | zero=>exact .nil
  | succ n=>exact .cons a (ih n)
theorem VRs.drop {xs:List V} {vs:List Value} (h:VRs xs vs) (n:Nat):VRs (xs.drop n) (vs.drop n):=by
 induction h generalizing n with
 | nil=>simp;exact .nil
 | cons a r ih=>cases n with
  | zero=>exact .cons a r
  | succ n=>exact ih n
theorem VRs.set {xs:List V} {vs:List Value} (h:VRs xs vs) {x:V} {v:Value} (k:VR x v) (i:Nat):VRs (xs.set i x) (vs.set i v):=by
 induction h generalizing i with
 | nil=>exact .nil
 | cons a r ih=>cases i with
  | zero=>exact .cons k r
  | succ n=>exact .cons a (ih n)
theorem VRs.eraseIdx {xs:List V} {vs:List Value} (h:VRs xs vs) (i:Nat):VRs (xs.eraseIdx i) (vs.eraseIdx i):=by
 induction h generalizing i with
 | nil=>exact .nil
 | cons a r ih=>cases i with
  | zero=>exact r
  | succ n=>exact .cons a (ih n)
theorem VRs.reverse {xs:List V} {vs:List Value} (h:VRs xs vs):VRs xs.reverse vs.reverse:=by
 induction h with
 | nil=>exact .nil
 | cons a _ ih=>refine sr List.reverse_cons (sr List.reverse_cons ?_);exact ih.append (.cons a .nil)
end
section
inductive KR {α:Type}:List (α×V)->List (α×Value)->Prop
 | nil:KR [] []
 | cons {k:α} {x:V} {v:Value} {xs:List (α×V)} {vs:List (α×Value)}:VR x v->KR xs vs->KR ((k,x)::xs) ((k,v)::vs)
set_option genCtorIdx true in
inductive O where
 | list (xs:List V)
 | tup (xs:List V)
 | tsub (C:Addr) (xs:List V)
 | sdict (es:List (Str×V))
 | idict (es:List (Int×V))
 | eset
 | deq
 | obj
 | inst (C dx:Addr)
 | fld (es:List (Str×V))
 | liter (l:Addr) (i:Nat)
 | raw (o:Obj)
inductive FR (P:Params):List (Str×V)->List DictEntry->Prop
 | nil:FR P [] []
 | cons {k:Str} {t:Tok} {x:V} {v:Value} {xs:List (Str×V)} {es:List DictEntry}:VR x v->FR P xs es->FR P ((k,x)::xs) (⟨PyData.keyHash P k,.str k t,v⟩::es)
inductive OR (prog:Program) (w:World):O->Obj->Prop
 | list {xs:List V} {vs:List Value} (n:Nat):VRs xs vs->xs.length<=16777216->OR prog w (.list xs) { cls:=.type "list",dict:=none,data:=.seq vs.toArray n,slots:=#[] }
 | tup {xs:List V} {vs:List Value} (n:Nat):VRs xs vs->xs.length<=16777216->OR prog w (.tup xs) { cls:=.type "tuple",dict:=none,data:=.seq vs.toArray n,slots:=#[] }
 | tsub {C:Addr} {xs:List V} {vs:List Value} (n:Nat) (dx:Addr):VRs xs vs->xs.length<=16777216->OR prog w (.tsub C xs) { cls:=.ref C,dict:=some dx,data:=.seq vs.toArray n,slots:=#[] }
 | obj:OR prog w .obj { cls:=.type "object",dict:=none,data:=.plain,slots:=#[] }
 | sdict {es:List (Str×V)} {kvs:List (Str×Value)} {o:Obj}:KR es kvs->o.IsDictOf (strKind prog w) kvs->OR prog w (.sdict es) o
 | idict {es:List (Int×V)} {kvs:List (Int×Value)} {o:Obj}:KR es kvs->o.IsDictOf (intKind prog w) kvs->OR prog w (.idict es) o
 | inst (C dx:Addr):OR prog w (.inst C dx) (instObj C dx)
 | fld {xs:List (Str×V)} {es:List DictEntry} (n:Nat):FR w.params xs es->OR prog w (.fld xs) (dictOf es n)
 | eset (b:Bool):OR prog w .eset { cls:=.type "set",dict:=none,data:=.set #[] 0 (.fresh 0 0 b),slots:=#[] }
 | deq (k:Int):OR prog w .deq { cls:=.type "collections.deque",dict:=none,data:=.fields #[.none,rawInt k],slots:=#[] }
 | liter {l:Addr} {i:Nat} {o:Obj}:o.cls=.type "list_iterator"->o.data=.fields #[.ref l,.int i 0]->OR prog w (.liter l i) o
 | raw (o:Obj):OR prog w (.raw o) o
noncomputable abbrev Led:=List (Addr×O)
inductive LR (prog:Program) (w:World):Led->List (Addr×Obj)->Prop
 | nil:LR prog w [] []
 | cons {a:Addr} {x:O} {o:Obj} {σ:Led} {os:List (Addr×Obj)}:OR prog w x o->LR prog w σ os->LR prog w ((a,x)::σ) ((a,o)::os)
theorem LR.keys {prog:Program} {w:World} {σ:Led} {os:List (Addr×Obj)} (h:LR prog w σ os):σ.map (·.1)=os.map (·.1):=by
 induction h with
 | nil=>rfl
 | cons _ _ ih=>simp [ih]
inductive LAt (prog:Program) (w:World) (os:List (Addr×Obj)) (a:Addr) (x:O):Prop
 | mk (o:Obj) (m:(a,o)∈os) (z:OR prog w x o)
theorem LR.mem {prog:Program} {w:World} {σ:Led} {os:List (Addr×Obj)} (h:LR prog w σ os) {a:Addr} {x:O} (m:(a,x)∈σ):LAt prog w os a x:=by
 induction h with
 | nil=>exact nn9 m
 | cons r _ ih=>
  cases m with
  | head=>exact ⟨_,.head _,r⟩
  | tail _ m=>obtain ⟨o,q,z⟩:=ih m;exact ⟨o,.tail _ q,z⟩
end
section
structure Fm where
 h₀:Heap
 L:Addr
 names:List Str
 gens:Array GenState
 os:OsState
 frs:List (Addr×Obj)
noncomputable def LocR (names:List Str) (m:Str->Option Value) (ρ:List (Option V)):Prop:=
 ρ.length=names.length/\∀ (i:Nat) (x:Str),names[i]?=some x->match ρ[i]? with
  | some (some v)=>∃ u,m x=some u/\VR v u
  | _=>True
section
variable (prog:Program) (w:World)
inductive REx (F:Fm) (ρ:List (Option V)) (σ:Led) (Φ:List (Addr×Obj)) (h:Heap):Prop
 | mk (m:Str->Option Value) (os:List (Addr×Obj)) (f:Fr F.h₀ F.L h m) (lo:LocR F.names m ρ) (l:LR prog w σ os) (n:News F.h₀ F.L h (os++Φ)) (nd:((os++Φ).map (·.1)).Nodup)
inductive OAt (h:Heap) (a:Addr) (x:O):Prop
 | mk (o:Obj) (g:h.get? a=some o) (z:OR prog w x o)
structure R1 (F:Fm) (ρ:List (Option V)) (σ:Led) (Φ:List (Addr×Obj)) (s:Shared):Prop where
 ex:REx prog w F ρ σ Φ s.heap
 gens:s.gens=F.gens
 os:s.os=F.os
end
section
variable {prog:Program} {w:World} {F:Fm} {ρ:List (Option V)} {σ:Led} {Φ:List (Addr×Obj)} {s:Shared}
theorem R1.toks (r:R1 prog w F ρ σ Φ s) (t:Nat):R1 prog w F ρ σ Φ { s with toks:=t }:=⟨r.ex,r.gens,r.os⟩
theorem R1.get (r:R1 prog w F ρ σ Φ s) {a:Addr} {x:O} (m:(a,x)∈σ):OAt prog w s.heap a x:=by
 obtain ⟨m',os,_,_,h,N,_⟩:=r.ex
 obtain ⟨o,q,z⟩:=h.mem m
 exact ⟨o,(N _ (List.mem_append_left _ q)).1,z⟩
theorem R1.getΦ (r:R1 prog w F ρ σ Φ s) {a:Addr} {o:Obj} (m:(a,o)∈Φ):s.heap.get? a=some o:=by
 obtain ⟨m',os,_,_,h,N,_⟩:=r.ex
 exact (N _ (List.mem_append_right _ m)).1
theorem R1.old (r:R1 prog w F ρ σ Φ s) {b:Addr} {o:Obj} (e:F.h₀.get? b=some o):s.heap.get? b=some o:=by
 obtain ⟨m',os,FF,_⟩:=r.ex
 exact FF.keep b o e
theorem R1.keeps (r:R1 prog w F ρ σ Φ s) {h':Heap} {t:Nat} (k:∀ b o,s.heap.get? b=some o->h'.get? b=some o):R1 prog w F ρ σ Φ { s with heap:=h',toks:=t }:=by
 obtain ⟨m',os,FF,lo,h,N,nd⟩:=r.ex
 exact ⟨⟨m',os,⟨FF.ns.keeps k,fun b o e=>k b o (FF.keep b o e),FF.above⟩,lo,h,fun p hp=>⟨k _ _ (N p hp).1,(N p hp).2⟩,nd⟩,r.gens,r.os⟩
theorem R1.fresh (r:R1 prog w F ρ σ Φ s):s.heap.objs.size∉σ.map (·.1):=by
 obtain ⟨m',os,FF,lo,h,N,nd⟩:=r.ex
 refine sr h.keys ?_
 intro q
 refine e12 (List.mem_map.mp q) fun p hp e=>?_
 have:=Heap.lt_size (N p (List.mem_append_left _ hp)).1
 rw [e] at this
 exact Nat.lt_irrefl _ this
theorem R1.push (r:R1 prog w F ρ σ Φ s) {x:O} {o:Obj} (z:OR prog w x o) (hf:o.isFreed=false):R1 prog w F ρ ((s.heap.objs.size,x)::σ) Φ { s with heap:=s.heap.push o }:=by
 obtain ⟨m',os,FF,lo,h,N,nd⟩:=r.ex
 refine ⟨⟨m',(s.heap.objs.size,o)::os,FF.push o,lo,.cons z h,N.push FF o hf,?_⟩,r.gens,r.os⟩
 rw [List.cons_append,List.map_cons,List.nodup_cons]
 refine ⟨fun q=>?_,nd⟩
 refine e12 (List.mem_map.mp q) fun p hp e=>?_
 have:=Heap.lt_size (N p hp).1
 rw [e] at this
 exact Nat.lt_irrefl _ this
theorem R1.pushΦ (r:R1 prog w F ρ σ Φ s) {o:Obj} (hf:o.isFreed=false):R1 prog w F ρ σ ((s.heap.objs.size,o)::Φ) { s with heap:=s.heap.push o }:=by
 obtain ⟨m',os,FF,lo,h,N,nd⟩:=r.ex
 have N':=N.push FF o hf
 refine ⟨⟨m',os,FF.push o,lo,h,fun p hp=>?_,?_⟩,r.gens,r.os⟩
 ·refine ma hp (fun hp=>?_) fun hp=>?_
  ·exact N' p (.tail _ (List.mem_append_left _ hp))
  ·refine mc hp ?_ fun hp=>?_
   ·exact N' _ (.head _)
   ·exact N' p (.tail _ (List.mem_append_right _ hp))
 ·have perm:(os++(s.heap.objs.size,o)::Φ).Perm ((s.heap.objs.size,o)::(os++Φ)):=List.perm_middle
  refine ((perm.map (·.1)).nodup_iff).mpr ?_
  rw [List.map_cons,List.nodup_cons]
  refine ⟨fun q=>?_,nd⟩
  refine e12 (List.mem_map.mp q) fun p hp e=>?_
  have:=Heap.lt_size (N p hp).1
  rw [e] at this
  exact Nat.lt_irrefl _ this
theorem R1.popΦ {a:Addr} {o:Obj} (r:R1 prog w F ρ σ ((a,o)::Φ) s):R1 prog w F ρ σ Φ s:=by
 obtain ⟨m',os,FF,lo,h,N,nd⟩:=r.ex
 refine ⟨⟨m',os,FF,lo,h,fun p hp=>N p ?_,?_⟩,r.gens,r.os⟩
 ·refine ma hp (fun hp=>?_) fun hp=>?_
  ·exact List.mem_append_left _ hp
  ·exact List.mem_append_right _ (.tail _ hp)
 ·refine List.Nodup.sublist (List.Sublist.map _ ?_) nd
  exact List.Sublist.append_left (List.sublist_cons_self _ _) _
end
end
section
inductive Put (a:Addr) (y:O):Led->Led->Prop
 | here (x:O) (σ:Led):Put a y ((a,x)::σ) ((a,y)::σ)
 | there (p:Addr×O) {σ σ':Led}:Put a y σ σ'->Put a y (p::σ) (p::σ')
theorem Put.mem {a:Addr} {y:O} {σ σ':Led} (P:Put a y σ σ'):∃ x,(a,x)∈σ:=by
 induction P with
 | here x σ=>exact ⟨x,.head _⟩
 | there p _ ih=>refine e11 ih fun x m=>?_;exact ⟨x,.tail _ m⟩
inductive LPut (prog:Program) (w:World) (σ:Led) (os:List (Addr×Obj)) (a:Addr) (o:Obj):Prop
 | mk (os':List (Addr×Obj)) (l:LR prog w σ os') (k:os'.map (·.1)=os.map (·.1)) (m:∀ p∈os',p=(a,o)\/(p∈os/\p.1≠a))
theorem LR.put {prog:Program} {w:World} {a:Addr} {y:O} {o:Obj} {σ σ':Led} {os:List (Addr×Obj)} (P:Put a y σ σ') (h:LR prog w σ os) (z:OR prog w y o) (nd:(os.map (·.1)).Nodup) :
  LPut prog w σ' os a o:=by
 induction P generalizing os with
 | here x σ=>
  cases h with
  | @cons _ _ o₀ _ r h₀ h=>
   refine ⟨(a,o)::r,.cons z h,rfl,fun p hp=>?_⟩
   refine mc hp ?_ fun hp=>?_
   ·exact .inl rfl
   ·refine .inr ⟨.tail _ hp,fun e=>?_⟩
    rw [List.map_cons,List.nodup_cons] at nd
    exact nd.1 (List.mem_map.mpr ⟨p,hp,e⟩)
 | there q P ih=>
  cases h with
  | @cons b x o₀ _ r h₀ h=>
   rw [List.map_cons,List.nodup_cons] at nd
   obtain ⟨os',l,k,m⟩:=ih h nd.2
   refine ⟨(b,o₀)::os',.cons h₀ l,by simp [k],fun p hp=>?_⟩
   refine mc hp ?_ fun hp=>?_
   ·refine .inr ⟨.head _,fun e=>?_⟩
    obtain ⟨x',m'⟩:=P.mem
    refine nd.1 ?_
    refine sq h.keys ?_
    exact List.mem_map.mpr ⟨_,m',e.symm⟩
   ·rcases m p hp with e | ⟨e,n⟩
    ·exact .inl e
    ·exact .inr ⟨.tail _ e,n⟩
section
variable {prog:Program} {w:World} {F:Fm} {ρ:List (Option V)} {σ σ':Led} {Φ:List (Addr×Obj)} {s:Shared}
theorem R1.put (r:R1 prog w F ρ σ Φ s) {a:Addr} {y:O} {o:Obj} {h':Heap} {t:Nat} (P:Put a y σ σ') (z:OR prog w y o) (sb:Heap.SameBut a s.heap h') (g:h'.get? a=some o) :
  R1 prog w F ρ σ' Φ { s with heap:=h',toks:=t }:=by
 obtain ⟨m',os,FF,lo,h,N,nd⟩:=r.ex
 have nd1:(os.map (·.1)).Nodup:=by rw [List.map_append] at nd;exact (List.nodup_append.mp nd).1
 obtain ⟨os',l,k,mm⟩:=h.put P z nd1
 obtain ⟨x,hx⟩:=P.mem
 obtain ⟨o₀,q₀,_⟩:=h.mem hx
 have A:=N _ (List.mem_append_left _ q₀)
 have ne:∀ p∈Φ,p.1≠a:=fun p hp e=>by
  rw [List.map_append] at nd
  exact (List.nodup_append.mp nd).2.2 a (List.mem_map.mpr ⟨_,q₀,rfl⟩) p.1 (List.mem_map.mpr ⟨p,hp,rfl⟩) e.symm
 refine ⟨⟨m',os',⟨FF.ns.sameBut sb (Ne.symm A.2.1),fun b ob e=>(sb.2 b fun q=>?_).trans (FF.keep b ob e),FF.above⟩,lo,l,fun p hp=>?_,?_⟩,r.gens,r.os⟩
 ·rw [q] at e;have:=A.2.2;rw [e] at this;exact nn2 this
 ·refine ma hp (fun hp=>?_) fun hp=>?_
  ·rcases mm p hp with rfl | ⟨hp,n⟩
   ·exact ⟨g,A.2⟩
   ·have B:=N p (List.mem_append_left _ hp)
    exact ⟨(sb.2 _ n).trans B.1,B.2⟩
  ·have B:=N p (List.mem_append_right _ hp)
   exact ⟨(sb.2 _ (ne p hp)).trans B.1,B.2⟩
 ·refine sr List.map_append (sr k (sq List.map_append ?_));exact nd
inductive Sub:Led->Led->Prop
 | nil (σ:Led):Sub [] σ
 | cons {p:Addr×O} {σ σ' τ:Led}:(p::τ).Perm σ'->Sub σ τ->Sub (p::σ) σ'
theorem LR.perm {σ':Led} {os:List (Addr×Obj)} (p:σ.Perm σ') (h:LR prog w σ os):∃ os',LR prog w σ' os'/\os.Perm os':=by
 induction p generalizing os with
 | nil=>exact ⟨os,h,.refl _⟩
 | cons x _ ih=>
  cases h with
  | cons a h=>refine e12 (ih h) fun os' l q=>?_;exact ⟨_,.cons a l,q.cons _⟩
 | swap x y l=>
  cases h with
  | cons a h=>cases h with
   | cons b h=>exact ⟨_,.cons b (.cons a h),.swap _ _ _⟩
 | trans _ _ i1 i2=>
  refine e12 (i1 h) fun o1 l1 q1=>?_
  refine e12 (i2 l1) fun o2 l2 q2=>?_
  exact ⟨o2,l2,q1.trans q2⟩
theorem LR.sub (p:Sub σ' σ) {os:List (Addr×Obj)} (h:LR prog w σ os):∃ os' r,LR prog w σ' os'/\os.Perm (os'++r):=by
 induction p generalizing os with
 | nil σ=>exact ⟨[],os,.nil,.refl _⟩
 | cons q _ ih=>
  refine e12 (h.perm q.symm) fun o1 l1 q1=>?_
  cases l1 with
  | cons a l1=>
   refine e22 (ih l1) fun o2 r l2 q2=>?_
   exact ⟨_,r,.cons a l2,q1.trans (q2.cons _)⟩
theorem R1.sub (r:R1 prog w F ρ σ Φ s) (p:Sub σ' σ):R1 prog w F ρ σ' Φ s:=by
 obtain ⟨m',os,FF,lo,h,N,nd⟩:=r.ex
 refine e22 (h.sub p) fun os' r' l q=>?_
 have q1:(os++Φ).Perm ((os'++Φ)++r'):=(q.append_right Φ).trans (by
  rw [List.append_assoc,List.append_assoc];exact List.Perm.append_left _ List.perm_append_comm)
 refine ⟨⟨m',os',FF,lo,l,fun p hp=>N p (q1.mem_iff.mpr (List.mem_append_left _ hp)),?_⟩,r.gens,r.os⟩
 have:=((q1.map (·.1)).nodup_iff).mp nd
 rw [List.map_append] at this
 exact (List.nodup_append.mp this).1
end
end
section
section
variable {prog:Program} {w:World} {F:Fm} {ρ:List (Option V)} {σ σ':Led} {Φ:List (Addr×Obj)} {s:Shared}
theorem LocR.set {names:List Str} {m:Str->Option Value} (h:LocR names m ρ) (nd:names.Nodup) {i:Nat} {x:Str} {v:Value} {y:V} (hi:names[i]?=some x) (z:VR y v) :
  LocR names (fun n=>if n=x then some v else m n) (ρ.set i (some y)):=by
 refine ⟨by simp [h.1],fun j n hj=>?_⟩
 have hil:i<names.length:=(List.getElem?_eq_some_iff.mp hi).1
 by_cases e:j=i
 ·subst e
  rw [hi] at hj
  cases hj
  rw [List.getElem?_set_self (by refine sr h.1 ?_;exact hil)]
  exact ⟨v,if_pos rfl,z⟩
 ·have hn:n≠x:=by
   rintro rfl
   have hjl:j<names.length:=(List.getElem?_eq_some_iff.mp hj).1
   have a:=(List.getElem?_eq_some_iff.mp hi).2
   have b:=(List.getElem?_eq_some_iff.mp hj).2
   have pw:=List.pairwise_iff_getElem.mp nd
   refine oe (Nat.lt_or_gt_of_ne e) (fun q=>?_) fun q=>?_
   ·exact pw j i hjl hil q (b.trans a.symm)
   ·exact pw i j hil hjl q (a.trans b.symm)
  rw [List.getElem?_set_ne (Ne.symm e)]
  have:=h.2 j n hj
  revert this
  cases ρ[j]? with
  | none=>intro _;trivial
  | some o=>cases o with
   | none=>intro _;trivial
   | some q=>rintro ⟨u,a,b⟩;exact ⟨u,by simpa only [if_neg hn] using a,b⟩
theorem R1.store (r:R1 prog w F ρ σ Φ s) (nd:F.names.Nodup) {M:Model} {A:Around} {E:Value->Shared->Prop} {env:Env} {i:Nat} {x:Str} {v:Value} {y:V} {Q:Unit->Shared->Prop} (hi:F.names[i]?=some x) (z:VR y v)
  (hL:env.locals=F.L) (hk:env.scope.kind=.function) (hx:env.kindOf x=some .local)
  (h:∀ h' t,R1 prog w F (ρ.set i (some y)) σ Φ { s with heap:=h',toks:=t }->Q () { s with heap:=h',toks:=t }):wpAny M A (storeName env x v) Q E s:=by
 obtain ⟨m',os,FF,lo,l,N,nd'⟩:=r.ex
 refine wpAny_storeName_local hx (hL ▸ FF.ns) (fun h' hn hs=>h _ _ ⟨⟨_,os,?_,lo.set nd hi z,l,?_,nd'⟩,r.gens,r.os⟩) (by refine sr hk ?_;rfl)
 ·rw [hL] at hn hs;exact FF.set hn hs
 ·rw [hL] at hs;exact N.set hs
theorem R1.load (r:R1 prog w F ρ σ Φ s) {M:Model} {A:Around} {E:Value->Shared->Prop} {env:Env} {i:Nat} {x:Str} {y:V} {Q:Value->Shared->Prop} (hi:F.names[i]?=some x) (hy:ρ[i]?=some (some y))
  (hL:env.locals=F.L) (hk:env.scope.kind=.function) (hx:env.kindOf x=some .local) (h:∀ v,VR y v->Q v s):wpAny M A (loadName env x) Q E s:=by
 obtain ⟨m',os,FF,lo,l,N,nd'⟩:=r.ex
 have:=lo.2 i x hi
 rw [hy] at this
 refine e12 this fun u a b=>?_
 exact wpAny_loadName_local hk hx (hL ▸ FF.ns) a (h u b)
end
inductive Ups:List (Addr×Obj)->List (Addr×Obj)->Prop
 | nil:Ups [] []
 | cons (a:Addr) (o:Obj) (sl:Array (Option Value)) {l l':List (Addr×Obj)}:Ups l l'->Ups ((a,o)::l) ((a,{ o with slots:=sl })::l')
theorem Ups.refl:∀ l:List (Addr×Obj),Ups l l
 | []=>.nil
 | (a,o)::l=>.cons a o o.slots (Ups.refl l)
theorem Ups.trans {a b d:List (Addr×Obj)} (h:Ups a b) (k:Ups b d):Ups a d:=by
 induction h generalizing d with
 | nil=>exact k
 | cons x o sl _ ih=>
  cases k with
  | cons _ _ sl' k=>exact .cons x o sl' (ih k)
section
variable (prog:Program) (w:World)
inductive R0Ex (F:Fm) (ρ:List (Option V)) (σ:Led) (Φ:List (Addr×Obj)) (s:Shared):Prop
 | mk (fr:List (Addr×Obj)) (u:Ups F.frs fr) (r:R1 prog w F ρ σ (Φ++fr) s)
structure R0 (F:Fm) (ρ:List (Option V)) (σ:Led) (Φ:List (Addr×Obj)) (s:Shared):Prop where
 ex:R0Ex prog w F ρ σ Φ s
end
section
variable {prog:Program} {w:World} {F:Fm} {ρ:List (Option V)} {σ σ':Led} {Φ:List (Addr×Obj)} {s:Shared}
theorem R0.gens (r:R0 prog w F ρ σ Φ s):s.gens=F.gens:=let ⟨_,_,r⟩:=r.ex;r.gens
theorem R0.os (r:R0 prog w F ρ σ Φ s):s.os=F.os:=let ⟨_,_,r⟩:=r.ex;r.os
theorem R0.toks (r:R0 prog w F ρ σ Φ s) (t:Nat):R0 prog w F ρ σ Φ { s with toks:=t }:=let ⟨fr,u,r⟩:=r.ex;⟨fr,u,r.toks t⟩
theorem R0.get (r:R0 prog w F ρ σ Φ s) {a:Addr} {x:O} (m:(a,x)∈σ):OAt prog w s.heap a x:=let ⟨_,_,r⟩:=r.ex;r.get m
theorem R0.getΦ (r:R0 prog w F ρ σ Φ s) {a:Addr} {o:Obj} (m:(a,o)∈Φ):s.heap.get? a=some o:=let ⟨_,_,r⟩:=r.ex;r.getΦ (List.mem_append_left _ m)
theorem R0.old (r:R0 prog w F ρ σ Φ s) {b:Addr} {o:Obj} (e:F.h₀.get? b=some o):s.heap.get? b=some o:=let ⟨_,_,r⟩:=r.ex;r.old e
theorem R0.keeps (r:R0 prog w F ρ σ Φ s) {h':Heap} {t:Nat} (k:∀ b o,s.heap.get? b=some o->h'.get? b=some o):R0 prog w F ρ σ Φ { s with heap:=h',toks:=t }:=let ⟨fr,u,r⟩:=r.ex;⟨fr,u,r.keeps k⟩
theorem R0.fresh (r:R0 prog w F ρ σ Φ s):s.heap.objs.size∉σ.map (·.1):=let ⟨_,_,r⟩:=r.ex;r.fresh
theorem R0.push (r:R0 prog w F ρ σ Φ s) {x:O} {o:Obj} (z:OR prog w x o) (hf:o.isFreed=false):R0 prog w F ρ ((s.heap.objs.size,x)::σ) Φ { s with heap:=s.heap.push o }:=let ⟨fr,u,r⟩:=r.ex;⟨fr,u,r.push z hf⟩
theorem R0.pushΦ (r:R0 prog w F ρ σ Φ s) {o:Obj} (hf:o.isFreed=false):R0 prog w F ρ σ ((s.heap.objs.size,o)::Φ) { s with heap:=s.heap.push o }:=let ⟨fr,u,r⟩:=r.ex;⟨fr,u,r.pushΦ hf⟩
theorem R0.put (r:R0 prog w F ρ σ Φ s) {a:Addr} {y:O} {o:Obj} {h':Heap} {t:Nat} (P:Put a y σ σ') (z:OR prog w y o) (sb:Heap.SameBut a s.heap h') (g:h'.get? a=some o) :
  R0 prog w F ρ σ' Φ { s with heap:=h',toks:=t }:=let ⟨fr,u,r⟩:=r.ex;⟨fr,u,r.put P z sb g⟩
theorem R0.sub (r:R0 prog w F ρ σ Φ s) (p:Sub σ' σ):R0 prog w F ρ σ' Φ s:=let ⟨fr,u,r⟩:=r.ex;⟨fr,u,r.sub p⟩
theorem R0.store (r:R0 prog w F ρ σ Φ s) (nd:F.names.Nodup) {M:Model} {A:Around} {E:Value->Shared->Prop} {env:Env} {i:Nat} {x:Str} {v:Value} {y:V} {Q:Unit->Shared->Prop} (hi:F.names[i]?=some x) (z:VR y v)
  (hL:env.locals=F.L) (hk:env.scope.kind=.function) (hx:env.kindOf x=some .local)
  (h:∀ h' t,R0 prog w F (ρ.set i (some y)) σ Φ { s with heap:=h',toks:=t }->Q () { s with heap:=h',toks:=t }):wpAny M A (storeName env x v) Q E s:=
 let ⟨fr,u,r⟩:=r.ex;r.store nd hi z hL hk hx fun h' t r'=>h h' t ⟨fr,u,r'⟩
theorem R0.load (r:R0 prog w F ρ σ Φ s) {M:Model} {A:Around} {E:Value->Shared->Prop} {env:Env} {i:Nat} {x:Str} {y:V} {Q:Value->Shared->Prop} (hi:F.names[i]?=some x) (hy:ρ[i]?=some (some y))
  (hL:env.locals=F.L) (hk:env.scope.kind=.function) (hx:env.kindOf x=some .local) (h:∀ v,VR y v->Q v s):wpAny M A (loadName env x) Q E s:=let ⟨_,_,r⟩:=r.ex;r.load hi hy hL hk hx h
end
noncomputable def Outs:List Env->List (Addr×Obj)->Prop
 | [],[]=>True
 | env::es,p::fr=>env.scope.kind≠.module/\env.frame=some p.1/\(∀ vs,p.2.data≠.fields vs)/\Outs es fr
 | _,_=>False
theorem Outs.up {es:List Env} {l l':List (Addr×Obj)} (h:Outs es l) (u:Ups l l'):Outs es l':=by
 induction u generalizing es with
 | nil=>exact h
 | cons a o sl _ ih=>
  cases es with
  | nil=>exact h.elim
  | cons e es=>exact ⟨h.1,h.2.1,h.2.2.1,ih h.2.2.2⟩
structure Cx where
 F:Fm
 env:Env
 A:Around
 A₀:Around
 base:Heap
 outer:List Env
structure Wd where
 prog:Program
 w:World
 K:Frag
 p:Program
 loose:List Str
 mean:ExcName->Option Value
 mg:Str->Option Value
 mb:Str->Option Value
structure CxOk (W:Wd) (lv:Nat) (c:Cx):Prop where
 outs:Outs c.outer c.F.frs
 kin:W.K.In c.F.h₀
 top:TopRead W.p W.loose W.mg W.mb c.F.h₀
 frames:c.A.frames=some (c.env::c.outer)
 frame:c.env.frame=some c.F.L
 kind:c.env.scope.kind=.function
 glob:c.env.globals=mainGlobals
 blt:c.env.builtins=builtinsNs
 depth:c.A.depth<=1+claimMargin+5*lv
 units:c.A.units<=4+40*lv
 handled:c.A.handled=none
 names:c.F.names.Nodup
noncomputable abbrev Wd.M (W:Wd):Model:=model W.prog W.w
inductive Post (W:Wd) (c:Cx) (ρ:List (Option V)) (Φ:List (Addr×Obj)) (Q:V->Led->Prop) (r:Value) (s':Shared):Prop
 | mk (x:V) (σ':Led) (a:VR x r) (b:R0 W.prog W.w c.F ρ σ' Φ s') (q:Q x σ')
noncomputable abbrev NoE:Value->Shared->Prop:=fun _ _=>False
end
section
theorem zZ {ps:List Str} {us:List Value}:∀ {i:Nat} {n:Str},ps.Nodup->ps[i]?=some n->i<us.length->(ps.zip us).lookup n=us[i]?:=by
 induction ps generalizing us with
 | nil=>intro i n _ h;simp at h
 | cons a r ih=>
  intro i n nd h hi
  cases us with
  | nil=>simp at hi
  | cons u us=>
   rw [List.nodup_cons] at nd
   cases i with
   | zero=>
    simp at h;subst h
    simp [List.lookup]
   | succ i=>
    have h':r[i]?=some n:=by simpa using h
    have hne:n≠a:=fun e=>nd.1 (e ▸ List.mem_of_getElem? h')
    refine sr List.zip_cons_cons (sr List.lookup_cons ?_)
    have:(n==a)=false:=by simpa using hne
    refine sr this ?_
    simpa using ih nd.2 h' (by simpa using hi)
theorem Z3 {n:Str}:∀ {ps:List Str} {us:List Value},n∉ps->(ps.zip us).lookup n=none
 | [],_,_=>rfl
 | a::r,[],_=>rfl
 | a::r,u::us,h=>by
  refine sr List.zip_cons_cons (sr List.lookup_cons ?_)
  have:(n==a)=false:=beq_false_of_ne fun (e:n=a)=>h (e ▸ .head _)
  refine sr this ?_
  exact Z3 fun m=>h (.tail _ m)
theorem jt {ps:List Str} {us:List Value} (nd:ps.Nodup) (hl:ps.length=us.length) (f:Str->Option Value) (hf:∀ (i:Nat) (n:Str),ps[i]?=some n->f n=us[i]?) :
  ps.filterMap (fun n=>(f n).map (n,·))=ps.zip us:=by
 induction ps generalizing us with
 | nil=>rfl
 | cons a r ih=>
  cases us with
  | nil=>simp at hl
  | cons u us=>
   rw [List.nodup_cons] at nd
   have h0:=hf 0 a rfl
   simp only [List.filterMap_cons,h0,List.getElem?_cons_zero,Option.map_some,List.zip_cons_cons]
   exact sr (ih nd.2 (by simpa using hl) fun i n h=>by simpa using hf (i+1) n (by simpa using h)) rfl
noncomputable abbrev ZR (x:Str×Value) (slots:List (Str×Value)):Sem (ForInStep (List (Str×Value))):=
 if (List.lookup x.1 slots).isNone=true then pure (ForInStep.yield (slots++[(x.1,x.2)])) else pure (ForInStep.yield slots)
theorem zbh:∀ (names:List Str) (ds:List Value) (slots:List (Str×Value)),names.Nodup->(∀ n∈names,(slots.lookup n).isNone=true)->forIn (names.zip ds) slots ZR=(pure (slots++names.zip ds):Sem _)
 | [],_,slots,_,_=>by simp
 | n::r,[],slots,_,_=>by simp
 | n::r,d::ds,slots,nd,h=>by
  rw [List.zip_cons_cons,List.forIn_cons]
  unfold ZR
  rw [if_pos (h n (.head _)),pure_bind]
  rw [List.nodup_cons] at nd
  have e:=zbh r ds (slots++[(n,d)]) nd.2 fun m hm=>by
   rw [List.lookup_append]
   have:=h m (.tail _ hm)
   rw [Option.isNone_iff_eq_none] at this ⊢
   rw [this]
   have hne:(m==n)=false:=beq_false_of_ne fun (e:m=n)=>nd.1 (e ▸ hm)
   simp [List.lookup,hne]
  refine Eq.trans e ?_
  simp
theorem ju:∀ (ps:List Str) (vs:List Value),ps.zip vs=(ps.take vs.length).zip vs
 | [],_=>by simp
 | _::_,[]=>by rfl
 | a::r,v::vs=>by
  exact sr List.zip_cons_cons (sr List.length_cons (sr List.take_succ_cons (sr List.zip_cons_cons (sq (ju r vs) rfl))))
theorem H8:∀ (names:List Str) (ds:List Value) (slots:List (Str×Value)) (j:Nat),names.Nodup->(∀ n∈names.take j,(slots.lookup n).isNone=false)->(∀ n∈names.drop j,(slots.lookup n).isNone=true)->
  forIn (names.zip ds) slots ZR=(pure (slots++(names.drop j).zip (ds.drop j)):Sem _)
 | names,ds,slots,0,nd,_,hb=>zbh names ds slots nd hb
 | [],ds,slots,j+1,_,_,_=>by simp
 | n::r,[],slots,j+1,_,_,_=>by simp
 | n::r,d::ds,slots,j+1,nd,ha,hb=>by
  rw [List.zip_cons_cons,List.forIn_cons]
  unfold ZR
  rw [if_neg (by rw [ha n (.head _)];exact Bool.false_ne_true),pure_bind]
  rw [List.nodup_cons] at nd
  exact H8 r ds slots j nd.2 (fun m hm=>ha m (.tail _ hm)) hb
theorem k7 {fd:FuncData} (hk:fd.params.kwonlyargs=[]) (hv:fd.params.vararg=none) (hkw:fd.params.kwarg=none):∃ (ps:List Str) (X Y:List Value->Option (Array Value)->Sem (List (Str×Value))),fd.params.posonlyargs.map (·.arg)++fd.params.args.map (·.arg)=ps/\∀ vals:List Value,
  bindArgs fd ⟨vals,[]⟩=(seqItems? fd.defaults >>= fun r=>
   if (decide (vals.length > ps.length)&&(none:Option Arg).isNone)=true then X vals r
   else if (!(List.filter (fun n=>(List.lookup n (ps.zip vals)).isNone) (List.take (ps.length-((r.getD #[]).toList.drop ((r.getD #[]).toList.length-ps.length)).length) ps)).isEmpty)=true then Y vals r
   else forIn ((ps.drop (ps.length-((r.getD #[]).toList.drop ((r.getD #[]).toList.length-ps.length)).length)).zip ((r.getD #[]).toList.drop ((r.getD #[]).toList.length-ps.length))) (ps.zip vals) ZR >>= fun slots=>
    pure ((ps++[]).filterMap fun n=>(slots.lookup n).map (n,·))):=by
 obtain ⟨name,qual,⟨po,ar,va,ko,kd,ka,df⟩,fbody,scope,globals,closure,dV,kV,doc,pm,an,cdv,ct,blt⟩:=fd
 dsimp only at hk hv hkw
 subst hk hv hkw
 exact ⟨_,_,_,rfl,fun vals=>rfl⟩
theorem J0 {s:Shared} {fd:FuncData} {ps:List Str} {vals ds:List Value}
  (hp:fd.params.posonlyargs.map (·.arg)++fd.params.args.map (·.arg)=ps) (hk:fd.params.kwonlyargs=[]) (hv:fd.params.vararg=none) (hkw:fd.params.kwarg=none) (nd:ps.Nodup)
  (hd:∀ (M:Model) (A:Around) (E:Value->Shared->Prop) (Q:Option (Array Value)->Shared->Prop),(∀ r,(r.getD #[]).toList=ds->Q r s)->wpAny M A (seqItems? fd.defaults) Q E s)
  (h1:vals.length<=ps.length) (h2:ps.length<=vals.length+ds.length) (h3:ds.length<=ps.length) :
  BindsTo s fd ⟨vals,[]⟩ (ps.zip (vals++ds.drop (vals.length+ds.length-ps.length))):=by
 intro M A E Q hq
 refine e32 (k7 hk hv hkw) fun ps' X Y hp' hB=>?_
 obtain rfl:ps=ps':=hp.symm.trans hp'
 rw [hB]
 refine wpAny_bind (hd M A E _ fun r hr=>?_)
 refine sr hr ?_
 have e0:ds.drop (ds.length-ps.length)=ds:=by refine sr (show ds.length-ps.length=0 by omega) ?_;rfl
 have e1:(decide (vals.length > ps.length)&&(none:Option Arg).isNone)=false:=by simp;exact h1
 have e2:List.filter (fun n=>(List.lookup n (ps.zip vals)).isNone) (List.take (ps.length-ds.length) ps)=[]:=by
  rw [List.filter_eq_nil_iff]
  intro n hn
  obtain ⟨i,hi,e⟩:=List.mem_iff_getElem.mp hn
  rw [List.length_take] at hi
  have g:ps[i]?=some n:=by rw [List.getElem_take] at e;refine sq e ?_;exact List.getElem?_eq_getElem _
  refine sr (zZ nd g (by omega)) ?_
  rw [List.getElem?_eq_getElem (by omega)]
  simp
 refine sr e1 (sr e0 (sr e2 (sr (if_neg Bool.false_ne_true) (sr (if_neg (by decide)) ?_))))
 have e3:=H8 (ps.drop (ps.length-ds.length)) ds (ps.zip vals) (vals.length+ds.length-ps.length) (nd.sublist (List.drop_sublist _ _)) (fun n hn=>by
  obtain ⟨i,hi,e⟩:=List.mem_iff_getElem.mp hn
  rw [List.length_take,List.length_drop] at hi
  rw [List.getElem_take,List.getElem_drop] at e
  have g:ps[ps.length-ds.length+i]?=some n:=by refine sq e ?_;exact List.getElem?_eq_getElem _
  rw [zZ nd g (by omega),List.getElem?_eq_getElem (by omega)]
  rfl) (fun n hn=>by
  rw [Option.isNone_iff_eq_none]
  rw [List.drop_drop,okB1 h2 h3] at hn
  rw [ju]
  refine Z3 fun m=>?_
  have nd':=nd
  rw [← List.take_append_drop vals.length ps] at nd'
  exact (List.nodup_append.mp nd').2.2 n m n hn rfl)
 have e4:(ps.drop (ps.length-ds.length)).drop (vals.length+ds.length-ps.length)=ps.drop vals.length:=by exact sr List.drop_drop (sr (okB1 h2 h3) rfl)
 rw [e4] at e3
 have e5:∀ us:List Value,ps.zip vals++(ps.drop vals.length).zip us=ps.zip (vals++us):=fun us=>by
  conv=>rhs;rw [← List.take_append_drop vals.length ps]
  rw [List.zip_append (by rw [List.length_take];exact Nat.min_eq_left h1),← ju]
 rw [e5] at e3
 refine wpAny_bind (wpAny_of_eq e3 ?_)
 refine wpAny_pure ?_
 rw [List.append_nil,jt nd (us:=vals++ds.drop (vals.length+ds.length-ps.length)) (by rw [List.length_append,List.length_drop];exact okB2 h1 h2) _ fun i n hi=>?_]
 ·exact hq
 ·exact zZ nd hi (by have:=(List.getElem?_eq_some_iff.mp hi).1;rw [List.length_append,List.length_drop];omega)
end
section
theorem Jf {ps:List Str} {us:List Value} {i:Nat} {n:Str} (nd:ps.Nodup) (hl:ps.length=us.length) (h:ps[i]?=some n):(ps.zip us).reverse.lookup n=us[i]?:=by
 have hi:i<ps.length:=(List.getElem?_eq_some_iff.mp h).1
 have e:(ps.zip us).reverse=ps.reverse.zip us.reverse:=by exact sr List.zip_eq_zipWith (sr List.zip_eq_zipWith (sr (List.reverse_zipWith hl) rfl))
 rw [e,zZ (i:=ps.length-1-i) ((List.reverse_perm ps).nodup_iff.mpr nd) ?_ (by refine sr List.length_reverse ?_;omega)]
 ·rw [List.getElem?_reverse (by omega)]
  congr 1
  omega
 ·rw [List.getElem?_reverse (Nat.le_of_lt_succ (okF rfl hi)),show ps.length-1-(ps.length-1-i)=i by omega]
  exact h
noncomputable def H9 (fl:Flow) (v:Value):Prop:=(match fl with | .ret u=>u | _=>.none)=v
structure zm (W:Wd) (lv:Nat) (f:V) (args:List V) (σ:Led) (Q:V->Led->Prop):Prop where
 keep:∀ (c:Cx) (ρ:List (Option V)) (Φ:List (Addr×Obj)) (s:Shared) (fv:Value),CxOk W lv c->VR f fv->R0 W.prog W.w c.F ρ σ Φ s->
  ∃ k,(k=Keeper.frame\/k=Keeper.machine\/k=Keeper.boundFrame)/\Looks W.M s.heap (keeperOf fv) k
 run:∀ (c:Cx) (ρ:List (Option V)) (Φ:List (Addr×Obj)) (s:Shared) (fv:Value) (vs:List Value),CxOk W lv c->VR f fv->VRs args vs->R0 W.prog W.w c.F ρ σ Φ s->
  wpAny W.M c.A (call fv vs) (Post W c ρ Φ Q) NoE s
inductive UG (W:Wd) (c:Cx) (Φ:List (Addr×Obj)) (Q:V->Led->Prop) (fl:Flow) (s':Shared):Prop
 | mk (ρ':List (Option V)) (x:V) (v:Value) (σ':Led) (h:H9 fl v) (a:VR x v) (b:R0 W.prog W.w c.F ρ' σ' Φ s') (q:Q x σ')
noncomputable def RetP (W:Wd) (c:Cx) (ρ:List (Option V)) (Φ:List (Addr×Obj)) (Q:V->Led->Prop) (R:Result->Shared->Prop):Prop:=
 ∀ v s',Post W c ρ Φ Q v s'->R (.ok (.ret v)) s'
end
section
section
variable {W:Wd}
noncomputable def JF (K:Frag) (x:Str) (v:Value):Prop:=nsIn K mainGlobals x=some (some v)\/(nsIn K mainGlobals x=some none/\bootBuiltins x=some v/\x≠"__name__")
theorem Xq {lv:Nat} {c:Cx} {ρ:List (Option V)} {σ:Led} {Φ:List (Addr×Obj)} {s:Shared} (C:CxOk W lv c) (r:R0 W.prog W.w c.F ρ σ Φ s) {env:Env} (hg:env.globals=mainGlobals) (hb:env.builtins=builtinsNs)
  {x:Str} {v:Value} (h:JF W.K x v) {M:Model} {A:Around} {E:Value->Shared->Prop} {Q:Value->Shared->Prop} (q:Q v s):wpAny M A (loadGlobal env x) Q E s:=by
 have kk:∀ b o,c.F.h₀.get? b=some o->s.heap.get? b=some o:=fun b o e=>r.old e
 rcases h with h | ⟨h,hv,hn⟩
 ·exact loadGlobal_global (env:=env) (by refine sr hg ?_;exact C.top.g.keeps kk) (mg_of C.kin C.top.g h) q
 ·exact loadGlobal_builtin (env:=env) (by refine sr hg ?_;exact C.top.g.keeps kk) (mg_none_of C.kin C.top.g h) (by refine sr hb ?_;exact C.top.b.keeps kk) ((C.top.builtins x hn).trans hv) q
end
end
section
theorem jv {x:Str} {l:List Str}:∀ {i:Nat},idxOf x l=some i->l[i]?=some x:=by
 induction l with
 | nil=>exact fun h=>nomatch h
 | cons y r ih=>
  intro i h
  by_cases e:y=x
  ·cases (if_pos e).symm.trans h;exact congrArg some e
  ·exact (Option.map_eq_some_iff.mp ((if_neg e).symm.trans h)).elim fun j q=>q.2 ▸ ih q.1
theorem gc {v:Value} {x:V} (h:toV v=some x):VR x v:=by
 cases v <;> cases h <;> constructor
theorem je {K:Frag} {x:Str} {y:V} (h:ZO K x=some y):∃ v,VR y v/\JF K x v:=by
 unfold JF
 revert h
 unfold ZO
 cases nsIn K mainGlobals x with
 | none=>exact fun h=>nomatch h
 | some o=>cases o with
  | some v=>exact fun h=>⟨v,gc h,.inl rfl⟩
  | none=>
   intro h
   by_cases hn:x = "__name__"
   ·cases (if_pos hn).symm.trans h
   ·exact (Option.bind_eq_some_iff.mp ((if_neg hn).symm.trans h)).elim fun v q=>⟨v,gc q.2,.inr ⟨rfl,q.1,hn⟩⟩
end
section
section
variable {prog:Program} {w:World} {F:Fm} {ρ:List (Option V)} {σ σ':Led} {Φ Ψ Ψ':List (Addr×Obj)} {s:Shared}
theorem R1.turn (r:R1 prog w F ρ σ (Ψ++Φ) s) {h':Heap} {t:Nat} (keep:∀ b o,b∉Ψ.map (·.1)->s.heap.get? b=some o->h'.get? b=some o) (keys:Ψ'.map (·.1)=Ψ.map (·.1))
  (new:∀ p∈Ψ',h'.get? p.1=some p.2):R1 prog w F ρ σ (Ψ'++Φ) { s with heap:=h',toks:=t }:=by
 obtain ⟨m',os,FF,lo,h,N,nd⟩:=r.ex
 have inN:∀ b,b∈Ψ.map (·.1)->∃ o,(b,o)∈os++(Ψ++Φ):=fun b hb=>by
  refine e12 (List.mem_map.mp hb) fun p hp w0=>?_;subst w0
  exact ⟨p.2,List.mem_append_right _ (List.mem_append_left _ hp)⟩
 have hL:F.L∉Ψ.map (·.1):=fun hb=>by
  refine e11 (inN _ hb) fun o hp=>?_;exact (N _ hp).2.1 rfl
 have h0:∀ b o,F.h₀.get? b=some o->b∉Ψ.map (·.1):=fun b o e hb=>by
  refine e11 (inN _ hb) fun o' hp=>?_;have:=(N _ hp).2.2;rw [e] at this;exact nn2 this
 rw [List.map_append,List.map_append] at nd
 have nd2:=List.nodup_append.mp nd
 have nd3:=List.nodup_append.mp nd2.2.1
 refine ⟨⟨m',os,⟨?_,fun b o e=>keep b o (h0 b o e) (FF.keep b o e),FF.above⟩,lo,h,fun p hp=>?_,?_⟩,r.gens,r.os⟩
 ·refine e34 FF.ns fun oL es ep hL1 hd hk hf=>?_
  exact ⟨oL,es,ep,keep _ _ hL hL1,hd,hk,hf⟩
 ·refine ma hp (fun hp=>?_) fun hp=>?_
  ·have B:=N p (List.mem_append_left _ hp)
   exact ⟨keep _ _ (fun hb=>nd2.2.2 p.1 (List.mem_map_of_mem hp) p.1 (List.mem_append_left _ hb) rfl) B.1,B.2⟩
  refine ma hp (fun hp=>?_) fun hp=>?_
  ·refine ⟨new p hp,?_⟩
   have:p.1∈Ψ.map (·.1):=by refine sq keys ?_;exact List.mem_map_of_mem hp
   refine e11 (inN _ this) fun o ho=>?_
   exact (N _ ho).2
  ·have B:=N p (List.mem_append_right _ (List.mem_append_right _ hp))
   exact ⟨keep _ _ (fun hb=>nd3.2.2 p.1 hb p.1 (List.mem_map_of_mem hp) rfl) B.1,B.2⟩
 ·refine sr List.map_append (sr List.map_append (sr keys ?_));exact nd
theorem R1.moreΦ (r:R1 prog w F ρ σ Φ s) {h':Heap} {t:Nat} (keep:∀ b o,s.heap.get? b=some o->h'.get? b=some o) (new:∀ p∈Ψ,h'.get? p.1=some p.2/\s.heap.objs.size<=p.1) (nd:(Ψ.map (·.1)).Nodup) :
  R1 prog w F ρ σ (Ψ++Φ) { s with heap:=h',toks:=t }:=by
 obtain ⟨m',os,FF,lo,h,N,nd'⟩:=r.ex
 have lt:∀ b o,s.heap.get? b=some o->b<s.heap.objs.size:=fun b o e=>Heap.lt_size e
 have ltL:F.L<s.heap.objs.size:=FF.ns.lt
 refine ⟨⟨m',os,⟨FF.ns.keeps keep,fun b o e=>keep b o (FF.keep b o e),FF.above⟩,lo,h,fun p hp=>?_,?_⟩,r.gens,r.os⟩
 ·refine ma hp (fun hp=>?_) fun hp=>?_
  ·have B:=N p (List.mem_append_left _ hp);exact ⟨keep _ _ B.1,B.2⟩
  refine ma hp (fun hp=>?_) fun hp=>?_
  ·have B:=new p hp
   refine ⟨B.1,fun e=>by have:=B.2;rw [e] at this;exact absurd ltL (Nat.not_lt.mpr this),?_⟩
   cases e:F.h₀.get? p.1 with
   | none=>rfl
   | some o=>exact absurd (lt _ _ (FF.keep _ _ e)) (Nat.not_lt.mpr B.2)
  ·have B:=N p (List.mem_append_right _ hp);exact ⟨keep _ _ B.1,B.2⟩
 ·rw [List.map_append] at nd' ⊢
  refine sr List.map_append ?_
  have q:=List.nodup_append.mp nd'
  refine List.nodup_append.mpr ⟨q.1,List.nodup_append.mpr ⟨nd,q.2.1,?_⟩,?_⟩
  ·intro a ha b hb e
   refine e12 (List.mem_map.mp ha) fun p hp w0=>?_;subst w0
   refine e12 (List.mem_map.mp hb) fun p' hp' w0=>?_;subst w0
   exact absurd (lt _ _ (N p' (List.mem_append_right _ hp')).1) (Nat.not_lt.mpr (Nat.le_trans (new p hp).2 (Nat.le_of_eq e)))
  ·intro a ha b hb e
   refine e12 (List.mem_map.mp ha) fun p' hp' w0=>?_;subst w0
   refine ma hb (fun hb=>?_) fun hb=>?_
   ·refine e12 (List.mem_map.mp hb) fun p hp w0=>?_;subst w0
    have hh:=lt _ _ (N p' (List.mem_append_left _ hp')).1
    exact absurd hh (Nat.not_lt.mpr (Nat.le_trans (new p hp).2 (Nat.le_of_eq e.symm)))
   ·exact q.2.2 _ (List.mem_map_of_mem hp') b hb e
theorem R1.dropΦ (r:R1 prog w F ρ σ (Ψ++Φ) s):R1 prog w F ρ σ Φ s:=by
 induction Ψ with
 | nil=>exact r
 | cons p Ψ ih=>exact ih (R1.popΦ (a:=p.1) (o:=p.2) r)
theorem R1.permΦ {Φ':List (Addr×Obj)} (r:R1 prog w F ρ σ Φ s) (p:Φ.Perm Φ'):R1 prog w F ρ σ Φ' s:=by
 obtain ⟨m',os,FF,lo,h,N,nd⟩:=r.ex
 have pm:(os++Φ).Perm (os++Φ'):=List.Perm.append_left _ p
 exact ⟨⟨m',os,FF,lo,h,fun q hq=>N q (pm.mem_iff.mpr hq),((pm.map (·.1)).nodup_iff).mp nd⟩,r.gens,r.os⟩
theorem R1.shed (r:R1 prog w F ρ σ (Ψ++Φ) s) {h':Heap} {t:Nat} (keep:∀ b o,b∉Ψ.map (·.1)->s.heap.get? b=some o->h'.get? b=some o):R1 prog w F ρ σ Φ { s with heap:=h',toks:=t }:=by
 obtain ⟨m',os,FF,lo,h,N,nd⟩:=r.ex
 have inN:∀ b,b∈Ψ.map (·.1)->∃ o,(b,o)∈os++(Ψ++Φ):=fun b hb=>by
  refine e12 (List.mem_map.mp hb) fun p hp w0=>?_;subst w0
  exact ⟨p.2,List.mem_append_right _ (List.mem_append_left _ hp)⟩
 have hL:F.L∉Ψ.map (·.1):=fun hb=>by
  refine e11 (inN _ hb) fun o hp=>?_;exact (N _ hp).2.1 rfl
 have h0:∀ b o,F.h₀.get? b=some o->b∉Ψ.map (·.1):=fun b o e hb=>by
  refine e11 (inN _ hb) fun o' hp=>?_;have:=(N _ hp).2.2;rw [e] at this;exact nn2 this
 rw [List.map_append,List.map_append] at nd
 have nd2:=List.nodup_append.mp nd
 have nd3:=List.nodup_append.mp nd2.2.1
 refine ⟨⟨m',os,⟨?_,fun b o e=>keep b o (h0 b o e) (FF.keep b o e),FF.above⟩,lo,h,fun p hp=>?_,?_⟩,r.gens,r.os⟩
 ·refine e34 FF.ns fun oL es ep hL1 hd hk hf=>?_
  exact ⟨oL,es,ep,keep _ _ hL hL1,hd,hk,hf⟩
 ·refine ma hp (fun hp=>?_) fun hp=>?_
  ·have B:=N p (List.mem_append_left _ hp)
   exact ⟨keep _ _ (fun hb=>nd2.2.2 p.1 (List.mem_map_of_mem hp) p.1 (List.mem_append_left _ hb) rfl) B.1,B.2⟩
  ·have B:=N p (List.mem_append_right _ (List.mem_append_right _ hp))
   exact ⟨keep _ _ (fun hb=>nd3.2.2 p.1 hb p.1 (List.mem_map_of_mem hp) rfl) B.1,B.2⟩
 ·refine sr List.map_append ?_
  exact List.nodup_append.mpr ⟨nd2.1,nd3.2.1,fun a ha b hb=>nd2.2.2 a ha b (List.mem_append_right _ hb)⟩
theorem R1.show {a:Addr} {o:Obj} {x:O} (r:R1 prog w F ρ σ ((a,o)::Φ) s) (z:OR prog w x o):R1 prog w F ρ ((a,x)::σ) Φ s:=by
 obtain ⟨m',os,FF,lo,h,N,nd⟩:=r.ex
 have pm:(os++(a,o)::Φ).Perm (((a,o)::os)++Φ):=List.perm_middle
 exact ⟨⟨m',(a,o)::os,FF,lo,.cons z h,fun p hp=>N p (pm.mem_iff.mpr hp),((pm.map (·.1)).nodup_iff).mp nd⟩,r.gens,r.os⟩
theorem R0.turn (r:R0 prog w F ρ σ (Ψ++Φ) s) {h':Heap} {t:Nat} (keep:∀ b o,b∉Ψ.map (·.1)->s.heap.get? b=some o->h'.get? b=some o) (keys:Ψ'.map (·.1)=Ψ.map (·.1))
  (new:∀ p∈Ψ',h'.get? p.1=some p.2):R0 prog w F ρ σ (Ψ'++Φ) { s with heap:=h',toks:=t }:=by
 obtain ⟨fr,u,r⟩:=r.ex
 rw [List.append_assoc] at r
 exact ⟨fr,u,by rw [List.append_assoc];exact r.turn keep keys new⟩
theorem R0.moreΦ (r:R0 prog w F ρ σ Φ s) {h':Heap} {t:Nat} (keep:∀ b o,s.heap.get? b=some o->h'.get? b=some o) (new:∀ p∈Ψ,h'.get? p.1=some p.2/\s.heap.objs.size<=p.1) (nd:(Ψ.map (·.1)).Nodup) :
  R0 prog w F ρ σ (Ψ++Φ) { s with heap:=h',toks:=t }:=by
 obtain ⟨fr,u,r⟩:=r.ex
 exact ⟨fr,u,by rw [List.append_assoc];exact r.moreΦ keep new nd⟩
theorem R0.dropΦ (r:R0 prog w F ρ σ (Ψ++Φ) s):R0 prog w F ρ σ Φ s:=by
 obtain ⟨fr,u,r⟩:=r.ex
 rw [List.append_assoc] at r
 exact ⟨fr,u,r.dropΦ⟩
theorem R0.permΦ {Φ':List (Addr×Obj)} (r:R0 prog w F ρ σ Φ s) (p:Φ.Perm Φ'):R0 prog w F ρ σ Φ' s:=by
 obtain ⟨fr,u,r⟩:=r.ex
 exact ⟨fr,u,r.permΦ (p.append_right fr)⟩
theorem R0.shed (r:R0 prog w F ρ σ (Ψ++Φ) s) {h':Heap} {t:Nat} (keep:∀ b o,b∉Ψ.map (·.1)->s.heap.get? b=some o->h'.get? b=some o):R0 prog w F ρ σ Φ { s with heap:=h',toks:=t }:=by
 obtain ⟨fr,u,r⟩:=r.ex
 rw [List.append_assoc] at r
 exact ⟨fr,u,r.shed keep⟩
theorem R0.show {a:Addr} {o:Obj} {x:O} (r:R0 prog w F ρ σ ((a,o)::Φ) s) (z:OR prog w x o):R0 prog w F ρ ((a,x)::σ) Φ s:=by
 obtain ⟨fr,u,r⟩:=r.ex
 exact ⟨fr,u,R1.show (a:=a) (o:=o) r z⟩
end
end
section
inductive Tag where
 | bin (op:Operator)
 | inpl (op:Operator)
 | cmp (op:CmpOp)
 | attr (nm:Str)
 | item
 | get
 | list
 | tup
 | dict
 | neg
noncomputable abbrev pos0:Pos:=⟨0,0,0,0⟩
noncomputable abbrev noE:PySem.Expr:=.Constant .none 0 pos0
noncomputable def slE:Bool->PySem.Expr
 | false=>.Slice none none none pos0
 | true=>.Slice none none (some noE) pos0
noncomputable def zbi:Tag->List Value->Sem Value
 | .bin op,[a,b]=>binaryOp op a b
 | .inpl op,[a,b]=>inplaceOp op a b
 | .cmp op,[a,b]=>compareOp op a b
 | .attr nm,[o]=>getAttr o nm true
 | .item,[o,i]=>getitemInPython o >>= fun g=>subscripted noE g o i
 | .get,[o,i]=>getItem o i
 | .list,vs=>newList vs
 | .tup,vs=>newTuple vs
 | .dict,[]=>dictDisplay []
 | .neg,[v]=>unaryOp .USub v
 | _,_=>pure .none
@[reducible] def Sh (x:V) (P:Value->Prop):Prop:=match x with
 | .none=>P .none
 | .bool b=>P (.bool b)
 | .int i=>∀ t,P (.int i t)
 | .str l=>∀ t,l.length<=16777216->P (.str ⟨l.toArray⟩ t)
 | .ref a=>P (.ref a)
 | .bi id=>P (.builtin id)
 | .ty t=>P (.type t)
@[reducible] def Shs:List V->(List Value->Prop)->Prop
 | [],P=>P []
 | x::r,P=>Sh x fun u=>Shs r fun us=>P (u::us)
theorem Sh.run {x:V} {P:Value->Prop} (h:Sh x P) {u:Value} (z:VR x u):P u:=by
 cases z <;> first | exact h | exact h _ | exact h _ ‹_›
theorem Sh.of {x:V} {P:Value->Prop} (h:∀ u,VR x u->P u):Sh x P:=by
 cases x <;> first | exact h _ (by constructor) | exact fun t=>h _ (.int _ t) | exact fun t l=>h _ (.str _ t l)
theorem Shs.run {xs:List V} {P:List Value->Prop} (h:Shs xs P) {us:List Value} (z:VRs xs us):P us:=by
 induction z generalizing P with
 | nil=>exact h
 | cons a _ ih=>exact ih (P:=fun us=>P (_::us)) (Sh.run h a)
section
variable (W:Wd) (lv:Nat)
structure Op (t:Tag) (vs:List V) (σ:Led) (Q:V->Led->Prop):Prop where
 run:∀ (c:Cx) (ρ:List (Option V)) (Φ:List (Addr×Obj)) (s:Shared) (us:List Value),CxOk W lv c->VRs vs us->R0 W.prog W.w c.F ρ σ Φ s->wpAny W.M c.A (zbi t us) (Post W c ρ Φ Q) NoE s
inductive UTag where
 | setattr (nm:Str)
 | setitem
noncomputable def gm:UTag->List Value->Sem Unit
 | .setattr nm,[o,v]=>setAttr o nm v
 | .setitem,[o,i,v]=>setItem o i v
 | _,_=>pure ()
inductive vM (c:Cx) (ρ:List (Option V)) (Φ:List (Addr×Obj)) (Q:Led->Prop) (r:Unit) (s':Shared):Prop
 | mk (σ':Led) (b:R0 W.prog W.w c.F ρ σ' Φ s') (q:Q σ')
inductive zbj (c:Cx) (ρ:List (Option V)) (Φ:List (Addr×Obj)) (Q:V->List V->Led->Prop) (r:Value×List Value) (s':Shared):Prop
 | mk (f:V) (xs:List V) (σ':Led) (a:VR f r.1) (a2:VRs xs r.2) (b:R0 W.prog W.w c.F ρ σ' Φ s') (q:Q f xs σ')
inductive zbk (c:Cx) (ρ:List (Option V)) (Φ:List (Addr×Obj)) (n:Nat) (Q:List V->Led->Prop) (r:List Value) (s':Shared):Prop
 | mk (xs:List V) (σ':Led) (a:VRs xs r) (l:xs.length=n) (b:R0 W.prog W.w c.F ρ σ' Φ s') (q:Q xs σ')
structure UOp (t:UTag) (vs:List V) (σ:Led) (Q:Led->Prop):Prop where
 run:∀ (c:Cx) (ρ:List (Option V)) (Φ:List (Addr×Obj)) (s:Shared) (us:List Value),CxOk W lv c->VRs vs us->R0 W.prog W.w c.F ρ σ Φ s->wpAny W.M c.A (gm t us) (vM W c ρ Φ Q) NoE s
structure Z4 (b:Bool) (o l u st:V) (σ:Led) (Q:V->Led->Prop):Prop where
 run:∀ (c:Cx) (ρ:List (Option V)) (Φ:List (Addr×Obj)) (s:Shared) (ov lov uv sv:Value),CxOk W lv c->VR o ov->VR l lov->VR u uv->VR st sv->R0 W.prog W.w c.F ρ σ Φ s->
  wpAny W.M c.A (getitemInPython ov >>= fun g=>subscripted (slE b) g ov (.ref s.heap.objs.size)) (Post W c ρ Φ Q) NoE { s with heap:=s.heap.push { cls:=.type "slice",data:=.fields #[lov,uv,sv] } }
structure qP (o:V) (nm:Str) (σ:Led) (Q:V->List V->Led->Prop):Prop where
 run:∀ (c:Cx) (ρ:List (Option V)) (Φ:List (Addr×Obj)) (s:Shared) (ov:Value) (im:Sem Bool),CxOk W lv c->VR o ov->R0 W.prog W.w c.F ρ σ Φ s->
  wpAny W.M c.A (getMethod ov nm im) (zbj W c ρ Φ Q) NoE s
structure AKw (f:V) (args:List V) (names:List Str) (kws:List V) (σ:Led) (Q:V->Led->Prop):Prop where
 keep:∀ (c:Cx) (ρ:List (Option V)) (Φ:List (Addr×Obj)) (s:Shared) (fv:Value),CxOk W lv c->VR f fv->R0 W.prog W.w c.F ρ σ Φ s->
  ∃ k,(k=Keeper.frame\/k=Keeper.machine\/k=Keeper.boundFrame)/\Looks W.M s.heap (keeperOf fv) k
 run:∀ (c:Cx) (ρ:List (Option V)) (Φ:List (Addr×Obj)) (s:Shared) (fv:Value) (vs ks:List Value),CxOk W lv c->VR f fv->VRs args vs->VRs kws ks->R0 W.prog W.w c.F ρ σ Φ s->
  wpAny W.M c.A (call fv vs (names.zip ks)) (Post W c ρ Φ Q) NoE s
structure qQ (v:V) (n:Nat) (σ:Led) (Q:List V->Led->Prop):Prop where
 run:∀ (c:Cx) (ρ:List (Option V)) (Φ:List (Addr×Obj)) (s:Shared) (u:Value),CxOk W lv c->VR v u->R0 W.prog W.w c.F ρ σ Φ s->
  wpAny W.M c.A (unpackItems u n none) (zbk W c ρ Φ n Q) NoE s
inductive It where
 | list (a:Addr)
 | str (l:List Nat)
 | range (lo:Int) (n:Nat)
 | enum (a:Addr)
noncomputable def ItOk (it:It) (i:Nat) (I:Addr) (Ψ:List (Addr×Obj)):Prop:=match it with
 | .list a=>∃ o,o.cls=.type "list_iterator"/\o.data=.fields #[.ref a,.int i 0]/\Ψ=[(I,o)]
 | .str l=>∃ o t,o.cls=.type (strIterType ⟨l.toArray⟩)/\o.data=.fields #[.str ⟨l.toArray⟩ t,.int i 0]/\Ψ=[(I,o)]
 | .range lo n=>Ψ=[(I,{ cls:=.type "range_iterator",dict:=none,data:=.fields #[rawInt (lo+i),rawInt (n-i),rawInt 1],slots:=#[] })]
 | .enum a=>∃ J o old,I≠J/\o.cls=.type "list_iterator"/\o.data=.fields #[.ref a,.int i 0]/\
   Ψ=[(I,{ cls:=.type "enumerate",dict:=none,data:=.fields #[.none,.bool false,.ref J,rawInt i,.none,old],slots:=#[] }),(J,o)]
inductive Sk where
 | val
 | ty (t:String)
noncomputable def zbl (k:Sk) (us:List Value) (A:Around) (Q:Value->Shared->Prop) (s:Shared):Prop:=match k with
 | .val=>wpAny W.M A (pyIter (us.headD .none)) Q NoE s
 | .ty t=>wpAny W.M A (call (.type t) us) (fun x s₁=>wpAny W.M A (pyIter x) Q NoE s₁) NoE s
inductive UH (c:Cx) (ρ:List (Option V)) (Φ:List (Addr×Obj)) (Q:It->Led->Prop) (r:Value) (s':Shared):Prop
 | mk (I:Addr) (it:It) (Ψ:List (Addr×Obj)) (σ':Led) (e:r=.ref I) (h:ItOk it 0 I Ψ) (b:R0 W.prog W.w c.F ρ σ' (Ψ++Φ) s') (q:Q it σ')
structure Z0 (k:Sk) (vs:List V) (σ:Led) (Q:It->Led->Prop):Prop where
 run:∀ (c:Cx) (ρ:List (Option V)) (Φ:List (Addr×Obj)) (s:Shared) (us:List Value),CxOk W lv c->VRs vs us->R0 W.prog W.w c.F ρ σ Φ s->
  zbl W k us c.A (UH W c ρ Φ Q) s
inductive vN (c:Cx) (ρ:List (Option V)) (Φ:List (Addr×Obj)) (it:It) (i:Nat) (I:Addr) (v:Value) (Q:V->Led->Prop) (s':Shared):Prop
 | mk (x:V) (σ':Led) (Ψ':List (Addr×Obj)) (a:VR x v) (h:ItOk it (i+1) I Ψ') (b:R0 W.prog W.w c.F ρ σ' (Ψ'++Φ) s') (q:Q x σ')
structure J1 (b:Bool) (it:It) (i:Nat) (σ:Led) (Q:Option V->Led->Prop):Prop where
 run:∀ (c:Cx) (ρ:List (Option V)) (Φ Ψ:List (Addr×Obj)) (s:Shared) (I:Addr),CxOk W lv c->ItOk it i I Ψ->
  R0 W.prog W.w c.F ρ σ (Ψ++Φ) s->wpAny W.M c.A (pyNext (.ref I)) (fun r s'=>match r with
   | none=>vM W c ρ Φ (Q none) () s'
   | some v=>match b with
    | false=>vN W c ρ Φ it i I v (fun x σ=>Q (some x) σ) s'
    | true=>∀ es k p,wpAny W.M c.A (letOwnedTupleGo (.Tuple es k p) (.ref I) v) (fun _ s'=>vN W c ρ Φ it i I v (fun x σ=>Q (some x) σ) s') NoE s') NoE s
end
noncomputable def O.truth:O->Option Bool
 | .list xs=>some (!xs.isEmpty)
 | .deq=>some false
 | _=>none
noncomputable def ATr (v:V) (σ:Led) (Q:Bool->Prop):Prop:=match v with
 | .none=>Q false
 | .bool b=>Q b
 | .int i=>Q (decide (i≠0))
 | .str l=>Q (!l.isEmpty)
 | .ref a=>∃ x b,(a,x)∈σ/\x.truth=some b/\Q b
 | _=>False
section
variable {W:Wd} {lv:Nat}
theorem zb {α:Type} {M:Model} {A:Around} {m:Sem α} {Q Q':α->Shared->Prop} {E:Value->Shared->Prop} {s:Shared} (h:wpAny M A m Q NoE s) (k:∀ a s',Q a s'->Q' a s'):wpAny M A m Q' E s:=
 wpAny_mono h k fun _ _ x=>x.elim
theorem Op.sh {t:Tag} {vs:List V} {σ:Led} {Q:V->Led->Prop} (h:∀ (c:Cx) (ρ:List (Option V)) (Φ:List (Addr×Obj)) (s:Shared),CxOk W lv c->R0 W.prog W.w c.F ρ σ Φ s->Shs vs fun us=>wpAny W.M c.A (zbi t us) (Post W c ρ Φ Q) NoE s):Op W lv t vs σ Q:=
 ⟨fun c ρ Φ s _ C v r=>(h c ρ Φ s C r).run v⟩
theorem UOp.sh {t:UTag} {vs:List V} {σ:Led} {Q:Led->Prop} (h:∀ (c:Cx) (ρ:List (Option V)) (Φ:List (Addr×Obj)) (s:Shared),CxOk W lv c->R0 W.prog W.w c.F ρ σ Φ s->Shs vs fun us=>wpAny W.M c.A (gm t us) (vM W c ρ Φ Q) NoE s):UOp W lv t vs σ Q:=
 ⟨fun c ρ Φ s _ C v r=>(h c ρ Φ s C r).run v⟩
theorem zm.sh {f:V} {g:Value} {vs:List V} {σ:Led} {Q:V->Led->Prop} (e:∀ u,VR f u->u=g) (k:∃ k,(k=Keeper.frame\/k=Keeper.machine\/k=Keeper.boundFrame)/\∀ h:Heap,Looks W.M h (keeperOf g) k)
  (h:∀ (c:Cx) (ρ:List (Option V)) (Φ:List (Addr×Obj)) (s:Shared),CxOk W lv c->R0 W.prog W.w c.F ρ σ Φ s->Shs vs fun us=>wpAny W.M c.A (call g us) (Post W c ρ Φ Q) NoE s):zm W lv f vs σ Q:=
 ⟨fun c ρ Φ s fv C hf r=>e fv hf ▸ k.elim fun k q=>⟨k,q.1,q.2 _⟩,fun c ρ Φ s fv us C hf v r=>e fv hf ▸ (h c ρ Φ s C r).run v⟩
theorem qP.sh {o:V} {nm:Str} {σ:Led} {Q:V->List V->Led->Prop} (h:∀ (c:Cx) (ρ:List (Option V)) (Φ:List (Addr×Obj)) (s:Shared) (im:Sem Bool),CxOk W lv c->R0 W.prog W.w c.F ρ σ Φ s->Sh o fun ov=>wpAny W.M c.A (getMethod ov nm im) (zbj W c ρ Φ Q) NoE s):qP W lv o nm σ Q:=
 ⟨fun c ρ Φ s _ im C z r=>(h c ρ Φ s im C r).run z⟩
theorem qQ.sh {v:V} {n:Nat} {σ:Led} {Q:List V->Led->Prop} (h:∀ (c:Cx) (ρ:List (Option V)) (Φ:List (Addr×Obj)) (s:Shared),CxOk W lv c->R0 W.prog W.w c.F ρ σ Φ s->Sh v fun u=>wpAny W.M c.A (unpackItems u n none) (zbk W c ρ Φ n Q) NoE s):qQ W lv v n σ Q:=
 ⟨fun c ρ Φ s _ C z r=>(h c ρ Φ s C r).run z⟩
theorem Z4.sh {b:Bool} {o l u st:V} {σ:Led} {Q:V->Led->Prop} (h:∀ (c:Cx) (ρ:List (Option V)) (Φ:List (Addr×Obj)) (s:Shared) (lov uv:Value),CxOk W lv c->R0 W.prog W.w c.F ρ σ Φ s->VR l lov->VR u uv->Sh o fun ov=>Sh st fun sv=>
  wpAny W.M c.A (getitemInPython ov >>= fun g=>subscripted (slE b) g ov (.ref s.heap.objs.size)) (Post W c ρ Φ Q) NoE { s with heap:=s.heap.push { cls:=.type "slice",data:=.fields #[lov,uv,sv] } }):Z4 W lv b o l u st σ Q:=
 ⟨fun c ρ Φ s _ lov uv _ C z zl zu zs r=>((h c ρ Φ s lov uv C r zl zu).run z).run zs⟩
theorem Z0.sh {k:Sk} {vs:List V} {σ:Led} {Q:It->Led->Prop} (h:∀ (c:Cx) (ρ:List (Option V)) (Φ:List (Addr×Obj)) (s:Shared),CxOk W lv c->R0 W.prog W.w c.F ρ σ Φ s->Shs vs fun us=>zbl W k us c.A (UH W c ρ Φ Q) s):Z0 W lv k vs σ Q:=
 ⟨fun c ρ Φ s _ C v r=>(h c ρ Φ s C r).run v⟩
end
end
section
section
variable (W:Wd) (lv:Nat)
noncomputable def ZG (test:V->Led->(Bool->Led->Prop)->Prop) (body:V->Led->(V->Led->Prop)->Prop):Nat->It->Nat->List V->Led->(List V->Led->Prop)->Prop
 | 0,_,_,_,_,_=>False
 | n+1,it,i,ys,σ,K=>J1 W lv false it i σ fun r σ=>match r with
  | none=>K ys σ
  | some x=>test x σ fun ok σ=>match ok with
   | true=>body x σ fun y σ=>ys.length<16777216/\ZG test body n it (i+1) (ys++[y]) σ K
   | false=>ZG test body n it (i+1) ys σ K
noncomputable def QC:Nat->It->Nat->List V->Led->(List V->Led->Prop)->Prop
 | 0,_,_,_,_,_=>False
 | n+1,it,i,ys,σ,K=>J1 W lv false it i σ fun r σ=>match r with
  | none=>K ys σ
  | some y=>ys.length<16777216/\QC n it (i+1) (ys++[y]) σ K
noncomputable def JG:Nat->It->Nat->List V->Led->(List V->Led->Prop)->Prop
 | 0,_,_,_,_,_=>False
 | n+1,it,i,ys,σ,K=>J1 W lv false it i σ fun r σ=>match r with
  | none=>K ys σ
  | some x=>Z0 W lv .val [x] σ fun it' σ=>∃ m,QC W lv m it' 0 ys σ fun ys σ=>JG n it (i+1) ys σ K
mutual
noncomputable def aev (cl:List V) (ρ:List (Option V)):PE->Led->(V->Led->Prop)->Prop
 | .bad,_,_=>False
 | .const v,σ,Q=>Q v σ
 | .loc i,σ,Q=>match ρ[i]? with
  | some (some v)=>Q v σ
  | _=>False
 | .cellv k,σ,Q=>match cl[k]? with
  | some v=>Q v σ
  | _=>False
 | .attr e nm,σ,Q=>aev cl ρ e σ fun o σ=>Op W lv (.attr nm) [o] σ Q
 | .item e i,σ,Q=>aev cl ρ e σ fun o σ=>aev cl ρ i σ fun j σ=>Op W lv .item [o,j] σ Q
 | .slice e lo hi st,σ,Q=>aev cl ρ e σ fun o σ=>aevo cl ρ lo σ fun a σ=>aevo cl ρ hi σ fun b σ=>aevo cl ρ st σ fun c σ=>Z4 W lv st.isSome o a b c σ Q
 | .neg e,σ,Q=>aev cl ρ e σ fun o σ=>Op W lv .neg [o] σ Q
 | .bin op l r,σ,Q=>aev cl ρ l σ fun a σ=>aev cl ρ r σ fun b σ=>Op W lv (.bin op) [a,b] σ Q
 | .cmp op l r,σ,Q=>aev cl ρ l σ fun a σ=>aev cl ρ r σ fun b σ=>Op W lv (.cmp op) [a,b] σ Q
 | .call f args,σ,Q=>aev cl ρ f σ fun f σ=>aevs cl ρ args σ fun vs σ=>zm W lv f vs σ Q
 | .kw f args ns kws,σ,Q=>aev cl ρ f σ fun f σ=>aevs cl ρ args σ fun vs σ=>aevs cl ρ kws σ fun ks σ=>AKw W lv f vs ns ks σ Q
 | .meth o nm args,σ,Q=>aev cl ρ o σ fun o σ=>qP W lv o nm σ fun f fs σ=>aevs cl ρ args σ fun vs σ=>zm W lv f (fs++vs) σ Q
 | .not _,_,_=>False
 | .ite t a b,σ,Q=>ait cl ρ t σ fun c σ=>match c with
  | true=>aev cl ρ a σ Q
  | false=>aev cl ρ b σ Q
 | .bop op es,σ,Q=>abop cl ρ op es σ Q
 | .list es,σ,Q=>aevs cl ρ es σ fun vs σ=>Op W lv .list vs σ Q
 | .tup es,σ,Q=>aevs cl ρ es σ fun vs σ=>Op W lv .tup vs σ Q
 | .dict0,σ,Q=>Op W lv .dict [] σ Q
 | .comp elt src ifs,σ,Q=>asrc cl ρ src σ fun it σ=>∃ n,ZG W lv (fun x σ R=>aifs cl [some x] ifs σ R) (fun x σ R=>aev cl [some x] elt σ R) n it 0 [] σ fun ys σ=>∀ a,Q (.ref a) ((a,.list ys)::σ)
 | .comp2 src,σ,Q=>asrc cl ρ src σ fun it σ=>∃ n,JG W lv n it 0 [] σ fun ys σ=>∀ a,Q (.ref a) ((a,.list ys)::σ)
noncomputable def ait (cl:List V) (ρ:List (Option V)):PE->Led->(Bool->Led->Prop)->Prop
 | .not e,σ,Q=>ait cl ρ e σ fun b σ=>Q (!b) σ
 | .bop op es,σ,Q=>aall cl ρ op es σ Q
 | .ite t a b,σ,Q=>ait cl ρ t σ fun c σ=>match c with
  | true=>ait cl ρ a σ Q
  | false=>ait cl ρ b σ Q
 | .bad,_,_=>False
 | .const v,σ,Q=>ATr v σ fun b=>Q b σ
 | .loc i,σ,Q=>match ρ[i]? with
  | some (some v)=>ATr v σ fun b=>Q b σ
  | _=>False
 | .cellv k,σ,Q=>match cl[k]? with
  | some v=>ATr v σ fun b=>Q b σ
  | _=>False
 | .attr e nm,σ,Q=>aev cl ρ e σ fun o σ=>Op W lv (.attr nm) [o] σ fun v σ=>ATr v σ fun b=>Q b σ
 | .cmp op l r,σ,Q=>aev cl ρ l σ fun a σ=>aev cl ρ r σ fun b σ=>Op W lv (.cmp op) [a,b] σ fun v σ=>ATr v σ fun b=>Q b σ
 | .call f args,σ,Q=>aev cl ρ f σ fun f σ=>aevs cl ρ args σ fun vs σ=>zm W lv f vs σ fun v σ=>ATr v σ fun b=>Q b σ
 | _,_,_=>False
noncomputable def aall (cl:List V) (ρ:List (Option V)) (op:BoolOp):List PE->Led->(Bool->Led->Prop)->Prop
 | [],σ,Q=>Q (op==.And) σ
 | e::r,σ,Q=>ait cl ρ e σ fun b σ=>match op,b with
  | .And,false=>Q false σ
  | .Or,true=>Q true σ
  | _,_=>aall cl ρ op r σ Q
noncomputable def aevo (cl:List V) (ρ:List (Option V)):Option PE->Led->(V->Led->Prop)->Prop
 | none,σ,Q=>Q .none σ
 | some e,σ,Q=>aev cl ρ e σ Q
noncomputable def aevs (cl:List V) (ρ:List (Option V)):List PE->Led->(List V->Led->Prop)->Prop
 | [],σ,Q=>Q [] σ
 | e::r,σ,Q=>aev cl ρ e σ fun v σ=>aevs cl ρ r σ fun vs σ=>Q (v::vs) σ
noncomputable def abop (cl:List V) (ρ:List (Option V)) (op:BoolOp):List PE->Led->(V->Led->Prop)->Prop
 | [],_,_=>False
 | e::r,σ,Q=>aev cl ρ e σ fun v σ=>match r with
  | []=>Q v σ
  | _::_=>ATr v σ fun c=>match op,c with
   | .And,true=>abop cl ρ op r σ Q
   | .And,false=>Q v σ
   | .Or,true=>Q v σ
   | .Or,false=>abop cl ρ op r σ Q
noncomputable def aifs (cl:List V) (ρ:List (Option V)):List PE->Led->(Bool->Led->Prop)->Prop
 | [],σ,Q=>Q true σ
 | e::r,σ,Q=>ait cl ρ e σ fun c σ=>match c with
  | true=>aifs cl ρ r σ Q
  | false=>Q false σ
noncomputable def asrc (cl:List V) (ρ:List (Option V)):PE->Led->(It->Led->Prop)->Prop
 | .call (.const (.ty t)) args,σ,Q=>aevs cl ρ args σ fun vs σ=>Z0 W lv (.ty t) vs σ Q
 | .loc i,σ,Q=>match ρ[i]? with
  | some (some v)=>Z0 W lv .val [v] σ Q
  | _=>False
 | .slice e lo hi st,σ,Q=>aev cl ρ e σ fun o σ=>aevo cl ρ lo σ fun a σ=>aevo cl ρ hi σ fun b σ=>aevo cl ρ st σ fun c σ=>Z4 W lv st.isSome o a b c σ fun v σ=>Z0 W lv .val [v] σ Q
 | .call f args,σ,Q=>aev cl ρ f σ fun f σ=>aevs cl ρ args σ fun vs σ=>zm W lv f vs σ fun v σ=>Z0 W lv .val [v] σ Q
 | .meth o nm args,σ,Q=>aev cl ρ o σ fun o σ=>qP W lv o nm σ fun f fs σ=>aevs cl ρ args σ fun vs σ=>zm W lv f (fs++vs) σ fun v σ=>Z0 W lv .val [v] σ Q
 | _,_,_=>False
end
set_option genCtorIdx true in
inductive AFl where
 | next | brk | cont
 | ret (v:V)
noncomputable def JH:List Nat->List V->List (Option V)->List (Option V)
 | i::is,x::xs,ρ=>JH is xs (ρ.set i (some x))
 | _,_,ρ=>ρ
noncomputable def gn:List Nat->Bool
 | []=>true
 | i::r=>!(r.contains i)&&gn r
noncomputable def jw (cl:List V) (ρ:List (Option V)) (v:V):PT->Led->(List (Option V)->Led->Prop)->Prop
 | .bad,_,_=>False
 | .loc i,σ,K=>K (ρ.set i (some v)) σ
 | .attr e nm,σ,K=>aev W lv cl ρ e σ fun o σ=>UOp W lv (.setattr nm) [o,v] σ fun σ=>K ρ σ
 | .item e i,σ,K=>aev W lv cl ρ e σ fun o σ=>aev W lv cl ρ i σ fun j σ=>UOp W lv .setitem [o,j,v] σ fun σ=>K ρ σ
 | .tup is,σ,K=>qQ W lv v is.length σ fun xs σ=>K (JH is xs ρ) σ
noncomputable def J3 (cl:List V) (v:V):List PT->List (Option V)->Led->(List (Option V)->Led->Prop)->Prop
 | [],ρ,σ,K=>K ρ σ
 | t::ts,ρ,σ,K=>jw W lv cl ρ v t σ fun ρ σ=>J3 cl v ts ρ σ K
noncomputable def QZ (test:List (Option V)->Led->(Bool->Led->Prop)->Prop) (body:List (Option V)->Led->(AFl->List (Option V)->Led->Prop)->Prop):Nat->List (Option V)->Led->(AFl->List (Option V)->Led->Prop)->Prop
 | 0,_,_,_=>False
 | n+1,ρ,σ,K=>test ρ σ fun b σ=>match b with
  | false=>K .next ρ σ
  | true=>body ρ σ fun fl ρ σ=>match fl with
   | .next=>∃ σ',Sub σ' σ/\QZ test body n ρ σ' K
   | .cont=>∃ σ',Sub σ' σ/\QZ test body n ρ σ' K
   | .brk=>K .next ρ σ
   | .ret v=>K (.ret v) ρ σ
noncomputable def afor (b:Bool) (store:V->List (Option V)->Led->(List (Option V)->Led->Prop)->Prop) (body:List (Option V)->Led->(AFl->List (Option V)->Led->Prop)->Prop) (it:It):Nat->Nat->List (Option V)->Led->(AFl->List (Option V)->Led->Prop)->Prop
 | 0,_,_,_,_=>False
 | n+1,i,ρ,σ,K=>J1 W lv b it i σ fun r σ=>match r with
  | none=>K .next ρ σ
  | some x=>store x ρ σ fun ρ σ=>body ρ σ fun fl ρ σ=>match fl with
   | .next=>∃ σ',Sub σ' σ/\afor b store body it n (i+1) ρ σ' K
   | .cont=>∃ σ',Sub σ' σ/\afor b store body it n (i+1) ρ σ' K
   | .brk=>K .next ρ σ
   | .ret v=>K (.ret v) ρ σ
noncomputable def PT.isTup:PT->Bool
 | .tup _=>true
 | _=>false
inductive TryC (o1 o2 o3:Option Nat) (ρ:List (Option V)) (σ:Led) (K:AFl->List (Option V)->Led->Prop):Prop
 | mk (i j k:Nat) (e1:o1=some i) (e2:o2=some j) (e3:o3=some k) (a:Addr) (x:List Nat) (m:Addr) (xs:List (List Nat)) (ys:List V) (h1:ρ[i]?=some (some (.ref a))) (h2:ρ[j]?=some (some (.str x))) (h3:ρ[k]?=some (some (.ref m))) (h4:(a,.list (xs.map V.str))∈σ) (h5:(m,.list ys)∈σ)
   (ht:x∈xs->∃ σ',Put a (.list ((xs.erase x).map V.str)) σ σ'/\K .next ρ σ') (hf:x∉xs->ys.length<16777216/\∃ σ',Put m (.list (ys++[.str x])) σ σ'/\K .next ρ σ'):TryC o1 o2 o3 ρ σ K
mutual
noncomputable def aex (cl:List V):PS->List (Option V)->Led->(AFl->List (Option V)->Led->Prop)->Prop
 | .bad,_,_,_=>False
 | .expr e,ρ,σ,K=>aev W lv cl ρ e σ fun _ σ=>K .next ρ σ
 | .assign ts e,ρ,σ,K=>aev W lv cl ρ e σ fun v σ=>J3 W lv cl v ts ρ σ fun ρ σ=>K .next ρ σ
 | .swap is e,ρ,σ,K=>gn is=true/\aev W lv cl ρ e σ fun v σ=>qQ W lv v is.length σ fun xs σ=>K .next (JH is.reverse xs.reverse ρ) σ
 | .assignC i e,ρ,σ,K=>aev W lv cl ρ e σ fun v σ=>K .next (ρ.set i (some v)) σ
 | .augL i op e,ρ,σ,K=>match ρ[i]? with
  | some (some a)=>aev W lv cl ρ e σ fun b σ=>Op W lv (.inpl op) [a,b] σ fun v σ=>K .next (ρ.set i (some v)) σ
  | _=>False
 | .augA o nm op e,ρ,σ,K=>aev W lv cl ρ o σ fun o σ=>Op W lv (.attr nm) [o] σ fun a σ=>aev W lv cl ρ e σ fun b σ=>Op W lv (.inpl op) [a,b] σ fun v σ=>UOp W lv (.setattr nm) [o,v] σ fun σ=>K .next ρ σ
 | .augS o i op e,ρ,σ,K=>aev W lv cl ρ o σ fun o σ=>aev W lv cl ρ i σ fun j σ=>Op W lv .get [o,j] σ fun a σ=>aev W lv cl ρ e σ fun b σ=>Op W lv (.inpl op) [a,b] σ fun v σ=>UOp W lv .setitem [o,j,v] σ fun σ=>K .next ρ σ
 | .ite t a b,ρ,σ,K=>ait W lv cl ρ t σ fun c σ=>match c with
  | true=>aexs cl a ρ σ K
  | false=>aexs cl b ρ σ K
 | .whil t body,ρ,σ,K=>∃ n,QZ (fun ρ σ R=>ait W lv cl ρ t σ R) (fun ρ σ K=>aexs cl body ρ σ K) n ρ σ K
 | .forr t src body,ρ,σ,K=>asrc W lv cl ρ src σ fun it σ=>∃ n,afor W lv t.isTup (fun v ρ σ K=>jw W lv cl ρ v t σ K) (fun ρ σ K=>aexs cl body ρ σ K) it n 0 ρ σ K
 | .ret e,ρ,σ,K=>aev W lv cl ρ e σ fun v σ=>K (.ret v) ρ σ
 | .pass,ρ,σ,K=>K .next ρ σ
 | .brk,ρ,σ,K=>K .brk ρ σ
 | .cont,ρ,σ,K=>K .cont ρ σ
 | .tri l x m,ρ,σ,K=>TryC l x m ρ σ K
 | .raiseStop,_,_,_=>False
noncomputable def aexs (cl:List V):List PS->List (Option V)->Led->(AFl->List (Option V)->Led->Prop)->Prop
 | [],ρ,σ,K=>K .next ρ σ
 | p::r,ρ,σ,K=>∃ σ',Sub σ' σ/\aex cl p ρ σ' fun fl ρ σ=>match fl with
  | .next=>aexs cl r ρ σ K
  | fl=>K fl ρ σ
end
end
end
section
theorem Zf {e:PySem.Expr} {x:Str} (h:Zs e=some x):∃ p,e=.Name x p:=by
 by_cases k:e.ctorIdx=23
 ·exact PySem.Expr.Name.elim (motive_1:=fun e=>Zs e=some x->∃ p,e=.Name x p) e k (fun y p h=>⟨p,by cases h;rfl⟩) h
 ·cases (dif_neg k).symm.trans h
section
variable {n:Nm}
theorem jx {c:Const} {k:Nat} {p:Pos}:cE n (.Constant c k p)=qN ((YF c).map .const):=rfl
theorem vP {x:Str} {p:Pos}:cE n (.Name x p)=yE n x:=rfl
theorem Xr {op:BoolOp} {es:List PySem.Expr} {p:Pos}:cE n (.BoolOp op es p)=.bop op (cEs n es):=rfl
theorem UI {l r:PySem.Expr} {op:Operator} {p:Pos}:cE n (.BinOp l op r p)=.bin op (cE n l) (cE n r):=rfl
theorem gp {e:PySem.Expr} {p:Pos}:cE n (.UnaryOp .Not e p)=.not (cE n e):=rfl
theorem zbm {e:PySem.Expr} {p:Pos}:cE n (.UnaryOp .USub e p)=.neg (cE n e):=rfl
theorem YK {t a b:PySem.Expr} {p:Pos}:cE n (.IfExp t a b p)=.ite (cE n t) (cE n a) (cE n b):=rfl
theorem QD {l r:PySem.Expr} {op:CmpOp} {p:Pos}:cE n (.Compare l [op] [r] p)=if behindInMarks op r then .bad else .cmp op (cE n l) (cE n r):=rfl
theorem yH {o:PySem.Expr} {nm:Str} {ap:Pos} {args:List PySem.Expr} {kws:List Keyword} {p:Pos}:cE n (.Call (.Attribute o nm ap) args kws p)=if kws.isEmpty && !q6 o&&q5 o&&(ap.endLine==p.line)&&decide (args.length<20)&&noStar args then .meth (cE n o) nm (cEs n args) else .bad:=rfl
theorem Z5 {o:PySem.Expr} {nm:Str} {p:Pos}:cE n (.Attribute o nm p)=if !q6 o&&q5 o then .attr (cE n o) nm else .bad:=rfl
theorem YL {o:PySem.Expr} {lo hi st:Option PySem.Expr} {q p:Pos}:cE n (.Subscript o (.Slice lo hi st q) p)=.slice (cE n o) (cEo n lo) (cEo n hi) (cEo n st):=rfl
theorem vQ {es:List PySem.Expr} {p:Pos}:cE n (.List es p)=if noStar es then .list (cEs n es) else .bad:=rfl
theorem YM {es:List PySem.Expr} {k:Nat} {p:Pos}:cE n (.Tuple es k p)=if noStar es then .tup (cEs n es) else .bad:=rfl
theorem UJ {p:Pos}:cE n (.Dict [] [] p)=.dict0:=rfl
theorem yI {elt src:PySem.Expr} {x:Str} {px p:Pos} {ifs:List PySem.Expr} {sc:Scope}:cE n (.ListComp elt [⟨.Name x px,src,ifs,0⟩] sc p)=if zr n.scope.names sc [x] n.cells then .comp (cE ⟨sc,[x],n.cells,n.glob⟩ elt) (cE n src) (cEs ⟨sc,[x],n.cells,n.glob⟩ ifs) else .bad:=rfl
theorem J4 {src:PySem.Expr} {x y x' y':Str} {p1 p2 p3 p4 p:Pos} {sc:Scope}:cE n (.ListComp (.Name y p1) [⟨.Name x p2,src,[],0⟩,⟨.Name y' p3,.Name x' p4,[],0⟩] sc p)=if zr n.scope.names sc [x,y] n.cells&&(x==x')&&(y==y')&&(x != ("__debug__" : Str))&&(y != ("__debug__" : Str)) then .comp2 (cE n src) else .bad:=rfl
theorem notAttr {f:PySem.Expr} (hn:∀ o nm ap,f≠.Attribute o nm ap):f.ctorIdx≠20:=fun k=>
 PySem.Expr.Attribute.elim (motive_1:=fun f=>(∀ o nm ap,f≠.Attribute o nm ap)->False) f k (fun o nm ap h=>h o nm ap rfl) hn
theorem YN {f:PySem.Expr} (hn:∀ a b c p,f≠.Slice a b c p):f.ctorIdx≠26:=fun k=>
 PySem.Expr.Slice.elim (motive_1:=fun f=>(∀ a b c p,f≠.Slice a b c p)->False) f k (fun a b c p h=>h a b c p rfl) hn
theorem yJ {f:PySem.Expr} {es:List PySem.Expr} {p:Pos} (hn:f.ctorIdx≠20):cE n (.Call f es [] p)=if noStar es then .call (cE n f) (cEs n es) else .bad:=by
 cases f <;> first | rfl | exact absurd rfl hn
theorem J5 {f:PySem.Expr} {es:List PySem.Expr} {k:Keyword} {ks:List Keyword} {p:Pos} (hn:f.ctorIdx≠20):cE n (.Call f es (k::ks) p)=if noStar es then (match ZE (k::ks),es with
    | some ns,_::_=>.kw (cE n f) (cEs n es) ns (cKs n (k::ks))
    | _,_=>.bad) else .bad:=by
 cases f <;> first | rfl | exact absurd rfl hn
theorem Gx {o i:PySem.Expr} {p:Pos} (hn:i.ctorIdx≠26):cE n (.Subscript o i p)=.item (cE n o) (cE n i):=by
 cases i <;> first | rfl | exact absurd rfl hn
theorem jy (n:Nm) (x:Str):(∃ i,yE n x=.loc i)\/(∃ v,yE n x=.const v)\/(∃ k,yE n x=.cellv k)\/yE n x=.bad:=by
 have ob {α:Type} {f:α->PE} (o:Option α):(∃ a,qN (o.map f)=f a)\/qN (o.map f)=.bad:=by
  cases o with
  | none=>exact .inr rfl
  | some a=>exact .inl ⟨a,rfl⟩
 unfold yE
 cases (x==("__debug__" : Str)) with
 | true=>exact .inr (.inr (.inr rfl))
 | false=>
  cases n.scope.names.lookup x with
  | none=>exact .inr (.inr (.inr rfl))
  | some k=>
   cases k with
   | «local»=>exact (ob (f:=PE.loc) (idxOf x n.locs)).elim .inl fun h=>.inr (.inr (.inr h))
   | globalImplicit=>exact (ob (f:=PE.const) (n.glob x)).elim (fun h=>.inr (.inl h)) fun h=>.inr (.inr (.inr h))
   | cell=>exact .inr (.inr (ob (f:=PE.cellv) (idxOf x n.cells)))
   | free=>
    by_cases q:(x==("__classdict__" : Str))=true
    ·exact .inr (.inr (.inr (if_pos q)))
    ·have e:vp n x false (some .free)=qN ((idxOf x n.cells).map .cellv):=if_neg q
     refine sr e ?_
     exact .inr (.inr (ob (f:=PE.cellv) (idxOf x n.cells)))
   | _=>exact .inr (.inr (.inr rfl))
inductive YO (n:Nm):PySem.Expr->List Comprehension->Scope->Pos->Prop
 | one (elt:PySem.Expr) (sc:Scope) (p:Pos) (x:Str) (px:Pos) (src:PySem.Expr) (ifs:List PySem.Expr):YO n elt [⟨.Name x px,src,ifs,0⟩] sc p
 | two (sc:Scope) (p:Pos) (y:Str) (p1:Pos) (x:Str) (p2:Pos) (src:PySem.Expr) (y':Str) (p3:Pos) (x':Str) (p4:Pos):YO n (.Name y p1) [⟨.Name x p2,src,[],0⟩,⟨.Name y' p3,.Name x' p4,[],0⟩] sc p
 | bad (elt:PySem.Expr) (gens:List Comprehension) (sc:Scope) (p:Pos) (h:cE n (.ListComp elt gens sc p)=.bad):YO n elt gens sc p
theorem vR {t:Option Str} {f:Str->PE}:opt1 t false f=.bad:=by cases t <;> rfl
theorem JI {elt:PySem.Expr} {gens:List Comprehension} {sc:Scope} {p:Pos} (n:Nm):YO n elt gens sc p:=by
 match gens with
 | []=>exact .bad _ _ _ _ rfl
 | [⟨t,src,ifs,k⟩]=>
  cases ht:Zs t with
  | none=>exact .bad _ _ _ _ (congrArg (fun z=>opt1 z (k==0) _) ht)
  | some x=>
   cases hk:(k==0) with
   | false=>exact .bad _ _ _ _ ((congrArg (fun z=>opt1 (Zs t) z _) hk).trans vR)
   | true=>
    cases beq_iff_eq.mp hk
    obtain ⟨px,rfl⟩:=Zf ht
    exact .one ..
 | [⟨t,src,ifs,k⟩,⟨t2,s2,ifs2,k2⟩]=>
  have z {A B:Option Str} {c:Bool} {f:Str->Str->PE} (h:B=none):(opt1 A true fun x=>opt1 B c (f x))=.bad:=by refine sr h ?_;cases A <;> rfl
  have z' {A:Option Str} {f:Str->PE} (h:∀ x,f x=.bad):opt1 A true f=.bad:=by cases A;rfl;exact h _
  cases h1:Zs elt with
  | none=>exact .bad _ _ _ _ (congrArg (fun z=>opt1 z true _) h1)
  | some y=>
   cases h2:Zs t with
   | none=>exact .bad _ _ _ _ (z' fun _=>congrArg (fun z=>opt1 z true _) h2)
   | some x=>
    cases h3:Zs t2 with
    | none=>exact .bad _ _ _ _ (z' fun _=>z' fun _=>congrArg (fun z=>opt1 z true _) h3)
    | some y'=>
     cases h4:Zs s2 with
     | none=>exact .bad _ _ _ _ (z' fun _=>z' fun _=>z' fun _=>congrArg (fun z=>opt1 z (ifs.isEmpty&&ifs2.isEmpty&&k==0&&k2==0) _) h4)
     | some x'=>
      cases hk:(ifs.isEmpty&&ifs2.isEmpty&&k==0&&k2==0) with
      | false=>exact .bad _ _ _ _ (z' fun _=>z' fun _=>z' fun _=>(congrArg (fun z=>opt1 (Zs s2) z _) hk).trans vR)
      | true=>
       simp only [Bool.and_eq_true,List.isEmpty_iff,beq_iff_eq] at hk
       obtain ⟨⟨⟨rfl,rfl⟩,rfl⟩,rfl⟩:=hk
       obtain ⟨_,rfl⟩:=Zf h1
       obtain ⟨_,rfl⟩:=Zf h2
       obtain ⟨_,rfl⟩:=Zf h3
       obtain ⟨_,rfl⟩:=Zf h4
       exact .two ..
 | ⟨_,_,_,_⟩::⟨_,_,_,_⟩::_::_=>exact .bad _ _ _ _ rfl
end
end
section
theorem JJ:typeLookup (.type "collections.deque") "__bool__" = pure none:=by rw [typeLookup_type,builtinLookup_eq_fast];kernel_rfl
theorem Zv:Slot "collections.deque" "__len__" "collections.deque.__len__":=
 .of (owner:="collections.deque") (n:="__len__") (by rw [typeLookup_type,builtinLookup_eq_fast];kernel_rfl) (by decide +kernel) (by decide +kernel) (by decide +kernel)
  (by first | exact .inl (by decide +kernel) | exact .inr (by decide +kernel)) (by rw [isSubtype_type];kernel_rfl)
theorem J6:entryFor table "collections.deque.__len__" = some Builtin.«collections.deque.__len__»:=entryFor_of_tree (by kernel_rfl)
theorem Xs (a:Value):argsOk "collections.deque.__len__" ⟨[a],[]⟩:=by
 kernel_rfl
section
variable {prog:Program} {w:World} {A:Around} {E:Value->Shared->Prop} {s:Shared}
theorem k8 {l:Addr} {k:Int} {Q:Bool->Shared->Prop} (hl:s.heap.get? l=some { cls:=.type "collections.deque",dict:=none,data:=.fields #[.none,rawInt k],slots:=#[] })
  (h:∀ t,Q false { s with toks:=t }):wpAny (model prog w) A (truthy (.ref l)) Q E s:=by
 have hT:s.TypeIs (.ref l) "collections.deque":=⟨_,hl,rfl⟩
 have key:wpAny (model prog w) A (runValue (.builtin "len" ⟨[.ref l],[]⟩)) (fun r s'=>r=.int 0 (s.toks+1)/\Q false s') E s:=by
  refine wpAny_runValue (codeAny_builtin entry_len ?_)
  refine sr (Around.under_plainId plain_len _) ?_
  refine wpAny_mono (Q:=fun fin s'=>∃ r,fin=.done (.ret r)/\(fun r s'=>r=.int 0 (s.toks+1)/\Q false s') r s') ?_ (fun fin s' h'=>by refine e12 h' fun r w0 hq=>?_;refine sr w0 ?_;exact hq) fun _ _ e=>e
  refine wpAny_bind (m:=oneArg "len" _) (wpAny_pure ?_)
  refine wpAny_bind (m:=callSpecial? (.ref l) (Str.ofString "__len__")) (wpAny_callSpecial?_slot (name:=Str.ofString "__len__") hT Zv
   (wpAny_call_entry Zv hT J6 ?_ (Xs _)))
  refine wpAny_bind (m:=PySem.slotArgs "__len__" 0 _) (wpAny_pure ?_)
  refine wpAny_bind (wpAny_bind (wpAny_fieldsOf hl rfl (wpAny_pure ?_)))
  refine wpAny_bind (wpAny_mkInt (wpAny_pure ⟨_,rfl,?_⟩))
  refine wpAny_bind (wpAny_holding (wpAny_pure ?_))
  refine wpAny_bind (wpAny_letGo ?_)
  exact wpAny_bind (wpAny_mkInt (wpAny_pure ⟨_,rfl,⟨rfl,h _⟩⟩))
 first
  | refine wpAny_bind (wpAny_callSpecial?_none (name:=Str.ofString "__bool__") hT JJ ?_)
  | refine wpAny_bind (wpAny_pure (wpAny_bind (wpAny_callSpecial?_none (name:=Str.ofString "__bool__") hT JJ ?_)))
 first
  | refine wpAny_bind (wpAny_specialOf (name:=Str.ofString "__len__") hT Zv.lookup ?_)
  | refine wpAny_bind (wpAny_pure (wpAny_bind (wpAny_specialOf (name:=Str.ofString "__len__") hT Zv.lookup ?_)))
 first
  | exact wpAny_bind (wpAny_mono key (fun r s' h'=>by refine e02 h' fun w0 hq=>?_;refine sr w0 ?_;exact wpAny_pure hq) fun _ _ e=>e)
  | exact wpAny_bind (wpAny_pure (wpAny_bind (wpAny_mono key (fun r s' h'=>by obtain ⟨rfl,hq⟩:=h';exact wpAny_pure hq) fun _ _ e=>e)))
end
theorem OR.jf {prog:Program} {w:World} {xs:List V} {o:Obj} (h:OR prog w (.list xs) o):∃ vs n,VRs xs vs/\xs.length<=16777216/\o={ cls:=.type "list",dict:=none,data:=.seq vs.toArray n,slots:=#[] }:=by
 cases h with
 | list n h k=>exact ⟨_,n,h,k,rfl⟩
inductive IsLs (h:Heap) (a:Addr) (xs:List V):Prop
 | mk (vs:List Value) (v:VRs xs vs) (k:xs.length<=16777216) (i:h.IsList a vs.toArray)
theorem R0.isList {prog:Program} {w:World} {F:Fm} {ρ:List (Option V)} {σ:Led} {Φ:List (Addr×Obj)} {s:Shared} (r:R0 prog w F ρ σ Φ s) {a:Addr} {xs:List V} (m:(a,O.list xs)∈σ):IsLs s.heap a xs:=by
 obtain ⟨o,g,z⟩:=r.get m
 refine e23 z.jf fun vs n h k w0=>?_;subst w0
 exact ⟨vs,h,k,_,g,rfl,n,rfl⟩
section
variable {W:Wd} {lv:Nat}
theorem ATr.run {v:V} {σ:Led} {P:Bool->Prop} (h:ATr v σ P) {F:Fm} {ρ:List (Option V)} {Φ:List (Addr×Obj)} {s:Shared} {A:Around} {u:Value} (z:VR v u) (r:R0 W.prog W.w F ρ σ Φ s) :
  wpAny W.M A (truthy u) (fun b s'=>P b/\R0 W.prog W.w F ρ σ Φ s') NoE s:=by
 cases z with
 | none=>exact truthy_none ⟨h,r⟩
 | bool b=>exact wpAny_truthy_bool ⟨h,r⟩
 | int i t=>
  refine PySem.P.truthy_int ⟨?_,r⟩
  have e:(i != 0)=decide (i≠0):=by by_cases q:i=0 <;> simp [q]
  refine sr e ?_;exact h
 | str l t hl=>
  have e:(⟨l.toArray⟩:Str).length=l.length:=by simp [Str.length]
  refine PySem.P.truthy_str (by refine sr e ?_;lia) ⟨?_,r.toks _⟩
  have e':((((⟨l.toArray⟩:Str).length:Nat):Int) != 0) = !l.isEmpty:=by
   refine sr e ?_;cases l with
   | nil=>rfl
   | cons a r=>simp;omega
  refine sr e' ?_;exact h
 | ref a=>
  refine e23 h fun x b m ht hp=>?_
  cases x with
  | list xs=>
   cases ht
   obtain ⟨vs,hv,hk,hL⟩:=r.isList m
   have hs:=hv.length
   refine wpAny_truthy_list hL (by simp;omega) ⟨?_,r.toks _⟩
   have e:vs.toArray.isEmpty=xs.isEmpty:=by
    cases hv <;> simp
   refine sr e ?_;exact hp
  | deq=>
   cases ht
   obtain ⟨o,g,z⟩:=r.get m
   cases z
   exact k8 g fun t=>⟨hp,r.toks _⟩
  | _=>exact nn1 ht
 | bi _=>exact h.elim
 | ty _=>exact h.elim
end
end
section
structure Vw (W:Wd) (n:Nm) (F:Fm) (ρ:List (Option V)) (Φ:List (Addr×Obj)) (env:Env) (ρe:List (Option V)) (cl:List V):Prop where
 nloc:∀ x,n.scope.names.lookup x=some .local->env.kindOf x=some .local
 nglo:∀ x,n.scope.names.lookup x=some .globalImplicit->env.kindOf x=some .globalImplicit
 ncel:∀ x,n.scope.names.lookup x=some .cell->env.kindOf x=some .cell
 nfre:∀ x,n.scope.names.lookup x=some .free->env.kindOf x=some .free\/env.kindOf x=some .cell
 full:n.cells.length=cl.length
 kind:env.scope.kind=.function
 glob:env.globals=mainGlobals
 blt:env.builtins=builtinsNs
 globs:∀ x v,n.glob x=some v->∃ u,VR v u/\JF W.K x u
 loads:∀ (σ:Led) (s:Shared) (i:Nat) (x:Str) (y:V),R0 W.prog W.w F ρ σ Φ s->n.locs[i]?=some x->ρe[i]?=some (some y)->env.kindOf x=some .local->
  ∀ (M:Model) (A:Around) (E:Value->Shared->Prop) (Q:Value->Shared->Prop),(∀ v,VR y v->Q v s)->wpAny M A (loadName env x) Q E s
 cells:∀ (k:Nat) (x:Str) (y:V),n.scope.names.lookup x=some .cell\/n.scope.names.lookup x=some .free->n.cells[k]?=some x->cl[k]?=some y->∃ a v,env.cells.lookup x=some a/\(∃ o:Obj,(a,o)∈Φ/\o.data=.cell (some v))/\VR y v
theorem Vw.frame {W:Wd} {n:Nm} {F:Fm} {ρ:List (Option V)} {Φ:List (Addr×Obj)} {env:Env} {cl:List V} (hn:env.scope.names=n.scope.names) (hk:env.scope.kind=.function) (hg:env.globals=mainGlobals) (hb:env.builtins=builtinsNs)
  (hL:env.locals=F.L) (hl:n.locs=F.names) (gl:∀ x v,n.glob x=some v->∃ u,VR v u/\JF W.K x u)
  (hfull:n.cells.length=cl.length) (hc:∀ (k:Nat) (x:Str) (y:V),n.scope.names.lookup x=some .cell\/n.scope.names.lookup x=some .free->n.cells[k]?=some x->cl[k]?=some y->∃ a v,env.cells.lookup x=some a/\(∃ o:Obj,(a,o)∈Φ/\o.data=.cell (some v))/\VR y v):Vw W n F ρ Φ env ρ cl where
 nloc:=fun x h=>by refine (?_:env.scope.names.lookup x=_);refine sr hn ?_;exact h
 nglo:=fun x h=>by refine (?_:env.scope.names.lookup x=_);refine sr hn ?_;exact h
 ncel:=fun x h=>by refine (?_:env.scope.names.lookup x=_);refine sr hn ?_;exact h
 nfre:=fun x h=>.inl (by refine (?_:env.scope.names.lookup x=_);refine sr hn ?_;exact h)
 full:=hfull
 kind:=hk
 glob:=hg
 blt:=hb
 globs:=gl
 loads:=fun σ s i x y r hi hy hx M A E Q h=>r.load (hl ▸ hi) hy hL hk hx h
 cells:=hc
section
variable {W:Wd} {lv:Nat} {c:Cx} {n:Nm} {ρ ρe:List (Option V)} {σ:Led} {Φ:List (Addr×Obj)} {env:Env} {cl:List V} {s:Shared}
theorem jz {α:Type} {o:Option α} {f:α->PE} {Q:V->Led->Prop} (h:aev W lv cl ρe (qN (o.map f)) σ Q):∃ a,o=some a/\aev W lv cl ρe (f a) σ Q:=by
 cases o with
 | none=>exact h.elim
 | some a=>exact ⟨a,rfl,h⟩
theorem UK {x:Str} {Q:V->Led->Prop} (v:Vw W n c.F ρ Φ env ρe cl) (hl:n.scope.names.lookup x=some .local) (h:aev W lv cl ρe (qN ((idxOf x n.locs).map .loc)) σ Q) (r:R0 W.prog W.w c.F ρ σ Φ s):wpAny W.M c.A (loadName env x) (Post W c ρ Φ Q) NoE s:=by
 refine e12 (jz h) fun i e h=>?_
 change (match ρe[i]? with | some (some y)=>Q y σ | _=>False) at h
 cases e2:ρe[i]? with
 | none=>rw [e2] at h;exact h.elim
 | some o=>cases o with
  | none=>rw [e2] at h;exact h.elim
  | some y=>
   rw [e2] at h
   exact v.loads σ s i x y r (jv e) e2 (v.nloc x hl) _ _ _ _ fun u hu=>⟨y,σ,hu,r,h⟩
theorem vT {x:Str} {Q:V->Led->Prop} (C:CxOk W lv c) (v:Vw W n c.F ρ Φ env ρe cl) (hl:n.scope.names.lookup x=some .globalImplicit) (h:aev W lv cl ρe (qN ((n.glob x).map .const)) σ Q) (r:R0 W.prog W.w c.F ρ σ Φ s):wpAny W.M c.A (loadName env x) (Post W c ρ Φ Q) NoE s:=by
 refine e12 (jz h) fun y e h=>?_
 refine e12 (v.globs x y e) fun u hu hg=>?_
 have hx:env.kindOf x=some .globalImplicit:=v.nglo x hl
 exact (loadName_read v.kind hx).symm ▸ Xq C r v.glob v.blt hg ⟨y,σ,hu,r,h⟩
theorem JK {x:Str} {Q:V->Led->Prop} (v:Vw W n c.F ρ Φ env ρe cl) (hl:n.scope.names.lookup x=some .cell\/n.scope.names.lookup x=some .free) (h:aev W lv cl ρe (qN ((idxOf x n.cells).map .cellv)) σ Q) (r:R0 W.prog W.w c.F ρ σ Φ s)
  (hk:env.kindOf x=some .cell\/(env.kindOf x=some .free/\(x==("__classdict__" : Str))=false)):wpAny W.M c.A (loadName env x) (Post W c ρ Φ Q) NoE s:=by
 refine e12 (jz h) fun i e h=>?_
 change (match cl[i]? with | some y=>Q y σ | _=>False) at h
 cases e2:cl[i]? with
 | none=>rw [e2] at h;exact h.elim
 | some y=>
  rw [e2] at h
  obtain ⟨a,u,ha,⟨oc,hm,hmd⟩,hu⟩:=v.cells i x y hl (jv e) e2
  rcases hk with hk | ⟨hk,hcd⟩
  ·exact wpAny_loadName_cell v.kind hk ha ⟨_,r.getΦ hm,hmd⟩ ⟨y,σ,hu,r,h⟩
  ·exact wpAny_loadName_free v.kind hk ha ⟨_,r.getΦ hm,hmd⟩ ⟨y,σ,hu,r,h⟩ hcd
theorem vU {x:Str} {p:Pos} {Q:V->Led->Prop} (C:CxOk W lv c) (v:Vw W n c.F ρ Φ env ρe cl) (h:aev W lv cl ρe (cE n (.Name x p)) σ Q) (r:R0 W.prog W.w c.F ρ σ Φ s) :
  wpAny W.M c.A (eval (.Name x p) env) (Post W c ρ Φ Q) NoE s:=by
 change aev W lv cl ρe (vp n x (x==("__debug__" : Str)) (n.scope.names.lookup x)) σ Q at h
 cases hd:(x==("__debug__" : Str)) with
 | true=>rw [hd] at h;exact h.elim
 | false=>
  rw [hd] at h
  refine wpAny_Name ?_ hd
  cases hl:n.scope.names.lookup x with
  | none=>rw [hl] at h;exact h.elim
  | some k=>
   rw [hl] at h
   cases k with
   | «local»=>exact UK v hl h r
   | globalImplicit=>exact vT C v hl h r
   | cell=>exact JK v (.inl hl) h r (.inl (v.ncel x hl))
   | free=>
    change aev W lv cl ρe (if x==("__classdict__" : Str) then .bad else qN ((idxOf x n.cells).map .cellv)) σ Q at h
    by_cases hcd:(x==("__classdict__" : Str))=true
    ·rw [if_pos hcd] at h;exact h.elim
    ·rw [if_neg hcd] at h
     exact JK v (.inr hl) h r ((v.nfre x hl).elim (fun q=>.inr ⟨q,by simpa using hcd⟩) .inl)
   | _=>exact h.elim
end
end
section
noncomputable def Good (e:PySem.Expr):Prop:=∀ (W:Wd) (lv:Nat) (c:Cx) (n:Nm) (ρ ρe:List (Option V)) (σ:Led) (Φ:List (Addr×Obj)) (env:Env) (cl:List V) (s:Shared) (Q:V->Led->Prop),
 CxOk W lv c->Vw W n c.F ρ Φ env ρe cl->aev W lv cl ρe (cE n e) σ Q->R0 W.prog W.w c.F ρ σ Φ s->wpAny W.M c.A (eval e env) (Post W c ρ Φ Q) NoE s
inductive zbn (W:Wd) (c:Cx) (ρ:List (Option V)) (Φ:List (Addr×Obj)) (Q:Bool->Led->Prop) (r:Bool) (s':Shared):Prop
 | mk (σ':Led) (b:R0 W.prog W.w c.F ρ σ' Φ s') (q:Q r σ')
noncomputable def Zt (e:PySem.Expr):Prop:=∀ (W:Wd) (lv:Nat) (c:Cx) (n:Nm) (ρ ρe:List (Option V)) (σ:Led) (Φ:List (Addr×Obj)) (env:Env) (cl:List V) (s:Shared) (Q:Bool->Led->Prop),
 CxOk W lv c->Vw W n c.F ρ Φ env ρe cl->ait W lv cl ρe (cE n e) σ Q->R0 W.prog W.w c.F ρ σ Φ s->wpAny W.M c.A (isTrue e env (eval e env)) (zbn W c ρ Φ Q) NoE s
inductive zbo (W:Wd) (c:Cx) (ρ:List (Option V)) (Φ:List (Addr×Obj)) (Q:List V->Led->Prop) (us:List Value) (s':Shared):Prop
 | mk (xs:List V) (σ':Led) (a:VRs xs us) (b:R0 W.prog W.w c.F ρ σ' Φ s') (q:Q xs σ')
theorem Qa {e:PySem.Expr} (g:Good e) (hv:∀ (W:Wd) (lv:Nat) (n:Nm) (cl:List V) (ρe:List (Option V)) (σ:Led) (Q:Bool->Led->Prop),ait W lv cl ρe (cE n e) σ Q->aev W lv cl ρe (cE n e) σ fun v σ=>ATr v σ fun b=>Q b σ)
  (he:∀ env whole,isTrue e env whole=(do let v ← whole;standAt e.pos;holding [v] (truthy v))):Zt e:=by
 intro W lv c n ρ ρe σ Φ env cl s Q C v h r
 refine wpAny_isTrue_value (zb (g W lv c n ρ ρe σ Φ env cl s _ C v (hv _ _ _ _ _ _ _ h) r) ?_) (he _ _)
 rintro u s' ⟨x,σ',z,r',t⟩
 exact zb (t.run z r') fun b s' ⟨q,r''⟩=>⟨σ',r'',q⟩
theorem Qc (k:Const) (j:Nat) (p:Pos):Good (.Constant k j p):=by
 intro W lv c n ρ ρe σ Φ env cl s Q C v h r
 rw [jx] at h
 cases k with
 | none=>exact wpAny_Constant_none ⟨_,σ,.none,r,h⟩
 | bool b=>exact wpAny_Constant_bool ⟨_,σ,.bool b,r,h⟩
 | int i=>exact wpAny_Constant_int ⟨_,σ,.int i _,r.toks _,h⟩
 | str x=>
  unfold YF at h
  dsimp only at h
  split at h
  ·rename_i hl
   refine wpAny_Constant_str ⟨.str x.cps.toList,σ,?_,r.toks _,h⟩
   have:=VR.str x.cps.toList s.toks (okc hl (by decide))
   simpa using this
  ·exact h.elim
 | _=>exact h.elim
theorem k9 {l r':PySem.Expr} {op:Operator} {p:Pos} (gl:Good l) (gr:Good r'):Good (.BinOp l op r' p):=by
 intro W lv c n ρ ρe σ Φ env cl s Q C v h r
 rw [UI] at h
 refine wpAny_BinOp (zb (gl W lv c n ρ ρe σ Φ env cl s _ C v h r) ?_)
 rintro u s' ⟨x,σ',z,r',t⟩
 refine zb (gr W lv c n ρ ρe σ' Φ env cl s' _ C v t r') ?_
 rintro u2 s2 ⟨x2,σ2,z2,r2,t2⟩
 exact t2.run c ρ Φ s2 [u,u2] C (.cons z (.cons z2 .nil)) r2
theorem Xu {l r':PySem.Expr} {op:CmpOp} {p:Pos} (gl:Good l) (gr:Good r'):Good (.Compare l [op] [r'] p):=by
 intro W lv c n ρ ρe σ Φ env cl s Q C v h r
 rw [QD] at h
 split at h
 ·exact h.elim
 rename_i hm
 refine wpAny_Compare1 (zb (gl W lv c n ρ ρe σ Φ env cl s _ C v h r) ?_) (by simpa using hm)
 rintro u s' ⟨x,σ',z,r',t⟩
 refine zb (gr W lv c n ρ ρe σ' Φ env cl s' _ C v t r') ?_
 rintro u2 s2 ⟨x2,σ2,z2,r2,t2⟩
 exact t2.run c ρ Φ s2 [u,u2] C (.cons z (.cons z2 .nil)) r2
theorem J7 {l r':PySem.Expr} {op:CmpOp} {p:Pos} (gl:Good l) (gr:Good r'):Zt (.Compare l [op] [r'] p):=by
 intro W lv c n ρ ρe σ Φ env cl s Q C v h r
 rw [QD] at h
 split at h
 ·exact h.elim
 rename_i hm
 refine wpAny_isTrue_Compare1 (zb (gl W lv c n ρ ρe σ Φ env cl s _ C v h r) ?_) (by simpa using hm)
 rintro u s' ⟨x,σ',z,r',t⟩
 refine zb (gr W lv c n ρ ρe σ' Φ env cl s' _ C v t r') ?_
 rintro u2 s2 ⟨x2,σ2,z2,r2,t2⟩
 refine zb (t2.run c ρ Φ s2 [u,u2] C (.cons z (.cons z2 .nil)) r2) ?_
 rintro u3 s3 ⟨x3,σ3,z3,r3,t3⟩
 exact zb (t3.run z3 r3) fun b s' ⟨q,r''⟩=>⟨σ3,r'',q⟩
theorem vV {e:PySem.Expr} {p:Pos} (g:Zt e):Zt (.UnaryOp .Not e p):=by
 intro W lv c n ρ ρe σ Φ env cl s Q C v h r
 rw [gp] at h
 exact wpAny_isTrue_Not (zb (g W lv c n ρ ρe σ Φ env cl s _ C v h r) fun b s' ⟨σ',r',q⟩=>⟨σ',r',q⟩)
theorem UL {e:PySem.Expr} {p:Pos} (g:Good e):Good (.UnaryOp .USub e p):=by
 intro W lv c n ρ ρe σ Φ env cl s Q C v h r
 rw [zbm] at h
 refine wpAny_UnaryOp (zb (g W lv c n ρ ρe σ Φ env cl s _ C v h r) ?_)
 rintro u s' ⟨x,σ',z,r',t⟩
 exact t.run c ρ Φ s' [u] C (.cons z .nil) r'
theorem Ka {t a b:PySem.Expr} {p:Pos} (gt:Zt t) (ga:Good a) (gb:Good b):Good (.IfExp t a b p):=by
 intro W lv c n ρ ρe σ Φ env cl s Q C v h r
 rw [YK] at h
 refine wpAny_IfExp (zb (gt W lv c n ρ ρe σ Φ env cl s _ C v h r) ?_)
 rintro b s' ⟨σ',r',t⟩
 cases b with
 | true=>exact ga W lv c n ρ ρe σ' Φ env cl s' _ C v t r'
 | false=>exact gb W lv c n ρ ρe σ' Φ env cl s' _ C v t r'
theorem yK {t a b:PySem.Expr} {p:Pos} (gt:Zt t) (ga:Zt a) (gb:Zt b):Zt (.IfExp t a b p):=by
 intro W lv c n ρ ρe σ Φ env cl s Q C v h r
 rw [YK] at h
 rw [arm_isTrue_IfExp]
 refine wpAny_bind (zb (gt W lv c n ρ ρe σ Φ env cl s _ C v h r) ?_)
 rintro b s' ⟨σ',r',t⟩
 cases b with
 | true=>exact ga W lv c n ρ ρe σ' Φ env cl s' _ C v t r'
 | false=>exact gb W lv c n ρ ρe σ' Φ env cl s' _ C v t r'
theorem Kb {es:List PySem.Expr} {op:BoolOp} {p:Pos} (g:∀ e∈es,Zt e):Zt (.BoolOp op es p):=by
 intro W lv c n ρ ρe σ Φ env cl s Q C v h r
 rw [Xr] at h
 refine wpAny_isTrue_BoolOp ?_
 induction es generalizing σ s with
 | nil=>
  cases op with
  | And=>exact wpAny_allTrue_And_nil ⟨σ,r,h⟩
  | Or=>exact wpAny_allTrue_Or_nil ⟨σ,r,h⟩
 | cons e es ih=>
  have hd:=g e (.head _) W lv c n ρ ρe σ Φ env cl s _ C v h r
  cases op with
  | And=>
   refine wpAny_allTrue_And_cons (zb hd ?_)
   rintro b s' ⟨σ',r',t⟩
   cases b with
   | true=>exact ih (fun e m=>g e (.tail _ m)) σ' s' t r'
   | false=>exact ⟨σ',r',t⟩
  | Or=>
   refine wpAny_allTrue_Or_cons (zb hd ?_)
   rintro b s' ⟨σ',r',t⟩
   cases b with
   | false=>exact ih (fun e m=>g e (.tail _ m)) σ' s' t r'
   | true=>exact ⟨σ',r',t⟩
theorem vW {es:List PySem.Expr} {op:BoolOp} {p:Pos} (g:∀ e∈es,Good e):Good (.BoolOp op es p):=by
 intro W lv c n ρ ρe σ Φ env cl s Q C v h r
 rw [Xr] at h
 rw [arm_eval_BoolOp]
 induction es generalizing σ s with
 | nil=>exact h.elim
 | cons e es ih=>
  have hd:=g e (.head _) W lv c n ρ ρe σ Φ env cl s _ C v h r
  cases es with
  | nil=>exact hd
  | cons e2 es=>
   refine (?_:wpAny _ _ (boolOp p op (eval e env::eval e2 env::evalEach es env)) _ _ _)
   refine wpAny_bind (zb hd ?_)
   rintro u s' ⟨x,σ',z,r',t⟩
   refine wpAny_bind (wpAny_standAt (wpAny_bind (wpAny_holding (zb (t.run z r') ?_))))
   rintro b s2 ⟨q,r2⟩
   cases op <;> cases b
   ·exact wpAny_pure ⟨x,σ',z,r2,q⟩
   ·exact ih (fun e m=>g e (.tail _ m)) σ' s2 q r2
   ·exact ih (fun e m=>g e (.tail _ m)) σ' s2 q r2
   ·exact wpAny_pure ⟨x,σ',z,r2,q⟩
theorem UM {e:PySem.Expr} {p:Pos}:Good (.UnaryOp .Not e p):=by
 intro W lv c n ρ ρe σ Φ env cl s Q C v h r
 rw [gp] at h
 exact h.elim
theorem QF {f:PySem.Expr} {es:List PySem.Expr} {ks:List Keyword} {p:Pos} {env:Env} (hn:f.ctorIdx≠20):eval (.Call f es ks p) env=(do callWith p (← eval f env) [] (backTo p (starEach es env)) (backToKw p (keywordEach ks env))):=by
 cases f <;> first | rfl | exact absurd rfl hn
theorem QG {i:PySem.Expr} (hn:i.ctorIdx≠26) (g:Bool) (a b:Value):subscripted i g a b=subscripted noE g a b:=by
 cases i <;> first | (cases g <;> rfl) | exact absurd rfl hn
theorem z6 {e:PySem.Expr} {r:List PySem.Expr} {env:Env} (h:noStar (e::r)=true):starEach (e::r) env=(false,eval e env)::starEach r env/\noStar r=true:=by
 cases e <;> first | exact ⟨rfl,h⟩ | exact nn3 h
theorem Z6 {r:List PySem.Expr} {env:Env} {pos:Pos} (h:noStar r=true):(backTo pos (starEach r env)).any (·.1)=false:=by
 induction r with
 | nil=>rfl
 | cons e r ih=>
  refine e02 (z6 (env:=env) h) fun a b=>?_
  refine sr a ?_;exact ih b
theorem Z7 {es:List PySem.Expr} (g:∀ e∈es,Good e) (hs:noStar es=true) (W:Wd) (lv:Nat) (c:Cx) (n:Nm) (ρ ρe:List (Option V)) (σ:Led) (Φ:List (Addr×Obj)) (env:Env) (cl:List V) (s:Shared) (Q:List V->Led->Prop) (pos:Pos)
  (C:CxOk W lv c) (v:Vw W n c.F ρ Φ env ρe cl) (h:aevs W lv cl ρe (cEs n es) σ Q) (r:R0 W.prog W.w c.F ρ σ Φ s):wpAny W.M c.A (spliced (backTo pos (starEach es env))) (zbo W c ρ Φ Q) NoE s:=by
 induction es generalizing σ s Q with
 | nil=>exact wpAny_items_nil ⟨[],σ,.nil,r,h⟩
 | cons e es ih=>
  refine e02 (z6 (env:=env) hs) fun a b=>?_
  refine wpAny_items_cons (zb (g e (.head _) W lv c n ρ ρe σ Φ env cl s _ C v h r) ?_) a
  rintro u s' ⟨x,σ',z,r',t⟩
  refine zb (ih (fun e m=>g e (.tail _ m)) b σ' s' _ t r') ?_
  rintro us s2 ⟨xs,σ2,z2,r2,q⟩
  exact ⟨x::xs,σ2,.cons z z2,r2,q⟩
theorem vX {es:List PySem.Expr} {p:Pos} (g:∀ e∈es,Good e):Good (.List es p):=by
 intro W lv c n ρ ρe σ Φ env cl s Q C v h r
 rw [vQ] at h
 split at h
 ·rename_i hs
  rw [arm_eval_List]
  refine wpAny_bind (wpAny_standAt (wpAny_bind (zb (Z7 g hs W lv c n ρ ρe σ Φ env cl s _ p C v h r) ?_)))
  rintro us s2 ⟨xs,σ2,z2,r2,q⟩
  exact q.run c ρ Φ s2 us C z2 r2
 ·exact h.elim
theorem Kc {es:List PySem.Expr} {k:Nat} {p:Pos} (g:∀ e∈es,Good e):Good (.Tuple es k p):=by
 intro W lv c n ρ ρe σ Φ env cl s Q C v h r
 rw [YM] at h
 split at h
 ·rename_i hs
  rw [arm_eval_Tuple]
  refine wpAny_bind (wpAny_standAt (wpAny_bind (zb (Z7 g hs W lv c n ρ ρe σ Φ env cl s _ p C v h r) ?_)))
  rintro us s2 ⟨xs,σ2,z2,r2,q⟩
  exact q.run c ρ Φ s2 us C z2 r2
 ·exact h.elim
theorem Kd {p:Pos}:Good (.Dict [] [] p):=by
 intro W lv c n ρ ρe σ Φ env cl s Q C v h r
 rw [UJ] at h
 rw [arm_eval_Dict]
 exact wpAny_bind (wpAny_standAt (h.run c ρ Φ s [] C .nil r))
theorem zU {o:PySem.Expr} {nm:Str} {env:Env} {whole:Sem Value} (h:q6 o=false):attributeBase o nm env whole=whole:=by
 cases o with
 | Call f a k p=>
  cases a with
  | nil=>cases k with
   | nil=>exact nn4 h
   | cons _ _=>cases f <;> rfl
  | cons _ _=>cases f <;> rfl
 | _=>rfl
theorem Jg {o:PySem.Expr} {nm:Str} {p:Pos} (g:Good o):Good (.Attribute o nm p):=by
 intro W lv c n ρ ρe σ Φ env cl s Q C v h r
 rw [Z5] at h
 split at h
 ·rename_i hb
  simp only [Bool.and_eq_true,Bool.not_eq_true'] at hb
  rw [arm_eval_Attribute,zU hb.1]
  refine wpAny_bind (zb (g W lv c n ρ ρe σ Φ env cl s _ C v h r) ?_)
  rintro u s' ⟨x,σ',z,r',t⟩
  refine wpAny_bind (wpAny_standAt (wpAny_bind (wpAny_holding (zb (t.run c ρ Φ s' [u] C (.cons z .nil) r') ?_))))
  intro u2 s2 q
  exact wpAny_bind (wpAny_letTemporaryGo (wpAny_pure q))
 ·exact h.elim
end
section
theorem Z8 {M:Model} {A:Around} {E:Value->Shared->Prop} {s:Shared} {f:Value} {pos:Pos} {es:List PySem.Expr} {env:Env} {Q:Args->Shared->Prop} (hs:noStar es=true)
  (h:wpAny M A (spliced (backTo pos (starEach es env))) (fun vs s'=>Q ⟨vs,[]⟩ s') E s):wpAny M A (evalArgs f true (backTo pos (starEach es env)) []) Q E s:=by
 cases es with
 | nil=>
  refine (?_:wpAny M A (spliced [] >>= _) Q E s)
  refine wpAny_bind (wpAny_mono h (fun vs s' h'=>wpAny_bind (wpAny_pure ?_)) fun _ _ x=>x)
  refine wpAny_holding ?_
  exact wpAny_bind (wpAny_pure (wpAny_bind (wpAny_pure (wpAny_pure h'))))
 | cons e es=>
  refine e02 (z6 (env:=env) hs) fun a b=>?_
  rw [a] at h ⊢
  exact evalArgs_plain h
theorem JL {es:List PySem.Expr} (g:∀ e∈es,Good e) (hs:noStar es=true) (W:Wd) (lv:Nat) (c:Cx) (n:Nm) (ρ ρe:List (Option V)) (σ:Led) (Φ:List (Addr×Obj)) (env:Env) (cl:List V) (s:Shared) (Q:V->Led->Prop) (pos:Pos)
  (C:CxOk W lv c) (v:Vw W n c.F ρ Φ env ρe cl) {f:V} {fv:Value} {fs:List V} {fvs:List Value} (hf:VR f fv) (hfs:VRs fs fvs) (h:aevs W lv cl ρe (cEs n es) σ fun vs σ=>zm W lv f (fs++vs) σ Q) (r:R0 W.prog W.w c.F ρ σ Φ s) :
  wpAny W.M c.A (callWith pos fv fvs (backTo pos (starEach es env)) []) (Post W c ρ Φ Q) NoE s:=by
 refine callWith_of (P:=fun hh=>∃ k,(k=Keeper.frame\/k=Keeper.machine\/k=Keeper.boundFrame)/\Looks W.M hh (keeperOf fv) k) (by refine sr (Z6 hs) ?_;rfl) (fun hh x=>x)
  (Z8 hs (zb (Z7 g hs W lv c n ρ ρe σ Φ env cl s _ pos C v h r) ?_))
 rintro us s2 ⟨xs,σ2,z2,r2,q⟩
 exact ⟨q.keep c ρ Φ s2 fv C hf r2,q.run c ρ Φ s2 fv (fvs++us) C hf (hfs.append z2) r2⟩
theorem Xv {f:PySem.Expr} {es:List PySem.Expr} {p:Pos} (hn:∀ o nm ap,f≠.Attribute o nm ap) (gf:Good f) (g:∀ e∈es,Good e):Good (.Call f es [] p):=by
 intro W lv c n ρ ρe σ Φ env cl s Q C v h r
 rw [yJ (notAttr hn)] at h
 split at h
 ·rename_i hs
  refine sr (QF (notAttr hn)) ?_
  refine wpAny_bind (zb (gf W lv c n ρ ρe σ Φ env cl s _ C v h r) ?_)
  rintro u s' ⟨x,σ',z,r',t⟩
  exact JL g hs W lv c n ρ ρe σ' Φ env cl s' Q p C v z .nil t r'
 ·exact h.elim
theorem Ke {ks:List Keyword} (g:∀ k∈ks,Good k.value) {ns:List Str} (hk:ZE ks=some ns) (W:Wd) (lv:Nat) (c:Cx) (n:Nm) (ρ ρe:List (Option V)) (σ:Led) (Φ:List (Addr×Obj)) (env:Env) (cl:List V) (s:Shared) (Q:List V->Led->Prop) (pos:Pos)
  (C:CxOk W lv c) (v:Vw W n c.F ρ Φ env ρe cl) (h:aevs W lv cl ρe (cKs n ks) σ Q) (r:R0 W.prog W.w c.F ρ σ Φ s) :
  wpAny W.M c.A (evalAll ((backToKw pos (keywordEach ks env)).map (·.2))) (zbo W c ρ Φ Q) NoE s:=by
 induction ks generalizing σ s Q ns with
 | nil=>exact kwAll_nil ⟨[],σ,.nil,r,h⟩
 | cons k ks ih=>
  obtain ⟨nm,e,p⟩:=k
  cases nm with
  | none=>exact nn1 hk
  | some nm=>
   refine (Option.map_eq_some_iff.mp (show (ZE ks).map (nm :: ·)=some ns from hk)).elim fun ns' hk'=>kwAll_cons (zb (g _ (.head _) W lv c n ρ ρe σ Φ env cl s _ C v h r) ?_)
   rintro u s' ⟨x,σ',z,r',t⟩
   refine zb (ih (fun k m=>g k (.tail _ m)) hk'.1 σ' s' _ t r') ?_
   rintro us s2 ⟨xs,σ2,z2,r2,q⟩
   exact ⟨x::xs,σ2,.cons z z2,r2,q⟩
theorem YQ {pos:Pos} {env:Env}:∀ {kl:List Keyword} {ns:List Str},ZE kl=some ns->(backToKw pos (keywordEach kl env)).filterMap (·.1)=ns/\(backToKw pos (keywordEach kl env)).all (·.1.isSome)=true/\(backToKw pos (keywordEach kl env)).any (·.1.isNone)=false
 | [],ns,hk=>by cases hk;exact ⟨rfl,rfl,rfl⟩
 | ⟨none,e,p⟩::ks,ns,hk=>by exact nn1 hk
 | ⟨some nm,e,p⟩::ks,ns,hk=>by
  refine e12 (Option.map_eq_some_iff.mp (show (ZE ks).map (nm :: ·)=some ns from hk)) fun ns'' hk'' w0=>?_;subst w0
  have:=YQ (pos:=pos) (env:=env) hk''
  exact ⟨congrArg (nm :: ·) this.1,this.2.1,this.2.2⟩
theorem Gy {f:PySem.Expr} {e₁:PySem.Expr} {es:List PySem.Expr} {k:Keyword} {ks:List Keyword} {p:Pos} (hn:∀ o nm ap,f≠.Attribute o nm ap) (gf:Good f) (g:∀ e∈e₁::es,Good e) (gk:∀ q∈k::ks,Good q.value):Good (.Call f (e₁::es) (k::ks) p):=by
 intro W lv c n ρ ρe σ Φ env cl s Q C v h r
 rw [J5 (notAttr hn)] at h
 split at h
 ·rename_i hs
  cases hk:ZE (k::ks) with
  | none=>rw [hk] at h;exact h.elim
  | some ns=>
   rw [hk] at h
   refine sr (QF (notAttr hn)) ?_
   refine wpAny_bind (zb (gf W lv c n ρ ρe σ Φ env cl s _ C v h r) ?_)
   rintro u s' ⟨x,σ',z,r',t⟩
   have a:=(z6 (env:=env) hs).1
   have shape:=YQ (pos:=p) (env:=env) hk
   refine callWith_of (P:=fun hh=>∃ k,(k=Keeper.frame\/k=Keeper.machine\/k=Keeper.boundFrame)/\Looks W.M hh (keeperOf u) k) (by refine sr (Z6 hs) (sr shape.2.2 ?_);rfl) (fun hh x=>x)
    (evalArgs_kw2 shape.2.1 (zb (Z7 g hs W lv c n ρ ρe σ' Φ env cl s' _ p C v t r') ?_) a)
   rintro us s2 ⟨xs,σ2,z2,r2,q⟩
   refine zb (Ke (pos:=p) gk hk W lv c n ρ ρe σ2 Φ env cl s2 _ C v q r2) ?_
   rintro us3 s3 ⟨xs3,σ3,z3,r3,q3⟩
   refine ⟨q3.keep c ρ Φ s3 u C z r3,?_⟩
   refine sr shape.1 ?_
   exact q3.run c ρ Φ s3 u us us3 C z z2 z3 r3
 ·exact h.elim
theorem Xw {r:List PySem.Expr} {env:Env} {pos:Pos} (h:noStar r=true):(backTo pos (starEach r env)).all (fun x=>!x.1)=true:=by
 induction r with
 | nil=>rfl
 | cons e r ih=>
  refine e02 (z6 (env:=env) h) fun a b=>?_
  refine sr a ?_;exact ih b
theorem vY {o:PySem.Expr} {nm:Str} {ap:Pos} {es:List PySem.Expr} {ks:List Keyword} {p:Pos} (go:Good o) (g:∀ e∈es,Good e):Good (.Call (.Attribute o nm ap) es ks p):=by
 intro W lv c n ρ ρe σ Φ env cl s Q C v h r
 rw [yH] at h
 split at h
 ·rename_i hb
  simp only [Bool.and_eq_true,Bool.not_eq_true',decide_eq_true_eq,List.isEmpty_iff] at hb
  obtain ⟨⟨⟨⟨⟨rfl,hbare⟩,_⟩,hline⟩,hlen⟩,hs⟩:=hb
  rw [arm_eval_Call,zU hbare]
  refine wpAny_bind (zb (go W lv c n ρ ρe σ Φ env cl s _ C v h r) ?_)
  rintro u s' ⟨x,σ',z,r',t⟩
  refine wpAny_bind (wpAny_standAt ?_)
  have hform:methodCallForm (es.length+([]:List Keyword).length) (backTo p (starEach es env)) (backToKw p (keywordEach [] env))=true:=by
   unfold methodCallForm
   refine sr (Xw hs) ?_
   simp only [Bool.true_and]
   show (true&&decide (es.length+0+0<30))=true
   simp;exact oka hlen (by decide)
  have hpos:methodCallPos true o env ap p=pure p:=by unfold methodCallPos;simp [hline]
  unfold methodCall
  refine sr hform ?_
  refine wpAny_bind (wpAny_holding (zb (t.run c ρ Φ s' u _ C z r') ?_))
  rintro ⟨f,fs⟩ s2 ⟨f',fs',σ2,hf,hfs,r2,q⟩
  exact wpAny_bind (wpAny_of_eq hpos (JL g hs W lv c n ρ ρe σ2 Φ env cl s2 Q p C v hf hfs q r2))
 ·exact h.elim
theorem J8 {x:Option PySem.Expr} (g:∀ e,x=some e->Good e) (W:Wd) (lv:Nat) (c:Cx) (n:Nm) (ρ ρe:List (Option V)) (σ:Led) (Φ:List (Addr×Obj)) (env:Env) (cl:List V) (s:Shared) (Q:V->Led->Prop)
  (C:CxOk W lv c) (v:Vw W n c.F ρ Φ env ρe cl) (h:aevo W lv cl ρe (cEo n x) σ Q) (r:R0 W.prog W.w c.F ρ σ Φ s):wpAny W.M c.A (evalPart x env) (Post W c ρ Φ Q) NoE s:=by
 cases x with
 | none=>exact wpAny_pure ⟨.none,σ,.none,r,h⟩
 | some e=>exact g e rfl W lv c n ρ ρe σ Φ env cl s Q C v h r
theorem Jh {o i:PySem.Expr} {p:Pos} (hn:∀ lo hi st q,i≠.Slice lo hi st q) (go:Good o) (gi:Good i):Good (.Subscript o i p):=by
 intro W lv c n ρ ρe σ Φ env cl s Q C v h r
 have e3:=QG (YN hn)
 rw [Gx (YN hn)] at h
 rw [eval_Subscript]
 refine wpAny_bind (zb (go W lv c n ρ ρe σ Φ env cl s _ C v h r) ?_)
 rintro u s' ⟨x,σ',z,r',t⟩
 refine wpAny_bind (wpAny_holding (zb (gi W lv c n ρ ρe σ' Φ env cl s' _ C v t r') ?_))
 rintro u2 s2 ⟨x2,σ2,z2,r2,t2⟩
 refine wpAny_bind (wpAny_standAt ?_)
 have k:=t2.run c ρ Φ s2 [u,u2] C (.cons z (.cons z2 .nil)) r2
 simp only [e3]
 rw [← bind_assoc]
 refine wpAny_bind (zb k ?_)
 intro u3 s3 q
 exact wpAny_bind (wpAny_letTemporaryGo (wpAny_pure q))
theorem Kf {o:PySem.Expr} {lo hi st:Option PySem.Expr} {q p:Pos} (go:Good o) (gl:∀ e,lo=some e->Good e) (gh:∀ e,hi=some e->Good e) (gs:∀ e,st=some e->Good e):Good (.Subscript o (.Slice lo hi st q) p):=by
 intro W lv c n ρ ρe σ Φ env cl s Q C v h r
 have e3:∀ g a b,subscripted (.Slice lo hi st q) g a b=subscripted (slE st.isSome) g a b:=fun g a b=>by
  cases st <;> cases g <;> rfl
 rw [YL] at h
 have est:(cEo n st).isSome=st.isSome:=by cases st <;> rfl
 change aev W lv cl ρe (cE n o) σ fun o σ=>aevo W lv cl ρe (cEo n lo) σ fun a σ=>aevo W lv cl ρe (cEo n hi) σ fun b σ=>aevo W lv cl ρe (cEo n st) σ fun c σ=>Z4 W lv (cEo n st).isSome o a b c σ Q at h
 rw [est] at h
 rw [eval_Subscript]
 refine wpAny_bind (zb (go W lv c n ρ ρe σ Φ env cl s _ C v h r) ?_)
 rintro u s' ⟨x,σ',z,r',t⟩
 refine wpAny_bind (wpAny_holding (wpAny_Slice (zb (J8 gl W lv c n ρ ρe σ' Φ env cl s' _ C v t r') ?_)))
 rintro u2 s2 ⟨x2,σ2,z2,r2,t2⟩
 refine zb (J8 gh W lv c n ρ ρe σ2 Φ env cl s2 _ C v t2 r2) ?_
 rintro u3 s3 ⟨x3,σ3,z3,r3,t3⟩
 refine zb (J8 gs W lv c n ρ ρe σ3 Φ env cl s3 _ C v t3 r3) ?_
 rintro u4 s4 ⟨x4,σ4,z4,r4,t4⟩
 refine wpAny_bind (wpAny_standAt ?_)
 have k:=t4.run c ρ Φ s4 u u2 u3 u4 C z z2 z3 z4 r4
 simp only [e3]
 rw [← bind_assoc]
 refine wpAny_bind (zb k ?_)
 intro u3 s3 q
 exact wpAny_bind (wpAny_letTemporaryGo (wpAny_pure q))
end
section
section
variable {W:Wd} {lv:Nat}
theorem VRs.one {x:V} {us:List Value} (h:VRs [x] us):∃ u,us=[u]/\VR x u:=by
 cases h with
 | cons a b=>cases b;exact ⟨_,rfl,a⟩
theorem VRs.two {x y:V} {us:List Value} (h:VRs [x,y] us):∃ u v,us=[u,v]/\VR x u/\VR y v:=by
 cases h with
 | cons a b=>refine e12 b.one fun v w0 z=>?_;refine sr w0 ?_;exact ⟨_,_,rfl,a,z⟩
theorem VRs.three {x y z:V} {us:List Value} (h:VRs [x,y,z] us):∃ u v q,us=[u,v,q]/\VR x u/\VR y v/\VR z q:=by
 cases h with
 | cons a b=>refine e23 b.two fun v q w0 z k=>?_;refine sr w0 ?_;exact ⟨_,_,_,rfl,a,z,k⟩
theorem R0.vZ {prog:Program} {w:World} {F:Fm} {ρ:List (Option V)} {σ:Led} {Φ:List (Addr×Obj)} {s:Shared} {I:Addr} {o o':Obj} {h':Heap} {t:Nat} (r:R0 prog w F ρ σ ([(I,o)]++Φ) s)
  (sb:∀ b o,b≠I->s.heap.get? b=some o->h'.get? b=some o) (g:h'.get? I=some o'):R0 prog w F ρ σ ([(I,o')]++Φ) { s with heap:=h',toks:=t }:=
 r.turn (fun b o hb e=>sb b o (fun q=>hb (by simp [q])) e) rfl (fun p hp=>by simp at hp;subst hp;exact g)
theorem R0.yL {prog:Program} {w:World} {F:Fm} {ρ:List (Option V)} {σ:Led} {Φ:List (Addr×Obj)} {s:Shared} {I:Addr} {o:Obj} {h':Heap} {t:Nat} (r:R0 prog w F ρ σ ([(I,o)]++Φ) s)
  (sb:∀ b o,b≠I->s.heap.get? b=some o->h'.get? b=some o):R0 prog w F ρ σ Φ { s with heap:=h',toks:=t }:=
 r.shed (fun b o hb e=>sb b o (fun q=>hb (by simp [q])) e)
theorem R0.headΦ {prog:Program} {w:World} {F:Fm} {ρ:List (Option V)} {σ:Led} {Φ:List (Addr×Obj)} {s:Shared} {I:Addr} {o:Obj} (r:R0 prog w F ρ σ ([(I,o)]++Φ) s):s.heap.get? I=some o:=r.getΦ (.head _)
theorem R0.new1 {prog:Program} {w:World} {F:Fm} {ρ:List (Option V)} {σ:Led} {Φ:List (Addr×Obj)} {s:Shared} (r:R0 prog w F ρ σ Φ s) {o:Obj} (hf:o.isFreed=false) {t:Nat}:R0 prog w F ρ σ ([(s.heap.objs.size,o)]++Φ) { s with heap:=s.heap.push o,toks:=t }:=
 R0.toks (R0.pushΦ r hf) t
theorem zB {a:Addr} {xs:List V} {σ:Led} {Q:It->Led->Prop} (m:(a,O.list xs)∈σ) (h:Q (.list a) σ):Z0 W lv .val [.ref a] σ Q:=by
 refine .sh fun c ρ Φ s C r=>?_
 obtain ⟨vs,hv,hk,hL⟩:=r.isList m
 refine (?_:wpAny _ _ (pyIter _) _ _ _)
 exact wpAny_pyIter_list hL ⟨_,.list a,_,σ,rfl,⟨_,rfl,rfl,rfl⟩,r.new1 rfl,h⟩
theorem YR {l:List Nat} {σ:Led} {Q:It->Led->Prop} (h:Q (.str l) σ):Z0 W lv .val [.str l] σ Q:=by
 refine .sh fun c ρ Φ s C r t hl=>?_
 refine (?_:wpAny _ _ (pyIter _) _ _ _)
 exact wpAny_pyIter_strU ⟨_,.str l,_,σ,rfl,⟨_,_,rfl,rfl,rfl⟩,r.new1 rfl,h⟩
theorem Z9 {c:Cx} {ρ:List (Option V)} {σ:Led} {Φ:List (Addr×Obj)} {s:Shared} {a b:Int} {t u v:Tok} {tk:Nat} {Q:It->Led->Prop} (ha:-(2 ^ 62)<=a) (ha':a<2 ^ 62) (hb:-(2 ^ 62)<=b) (hb':b<2 ^ 62)
  (r:R0 W.prog W.w c.F ρ σ Φ s) (h:Q (.range a (b-a).toNat) σ):wpAny W.M c.A (pyIter (.ref s.heap.objs.size)) (UH W c ρ Φ Q) NoE
   { s with heap:=s.heap.push { cls:=.type "range",data:=.fields #[.int a t,.int b u,.int 1 v] },toks:=tk }:=by
 refine wpAny_pyIter_range (IsRange.new _ a b 1 t u v) (small_one ha ha' hb hb') ?_
 have r1:R0 W.prog W.w c.F ρ σ Φ { s with heap:=s.heap.push { cls:=.type "range",data:=.fields #[.int a t,.int b u,.int 1 v] },toks:=tk }:=(R0.new1 (t:=tk) r (o:={ cls:=.type "range",data:=.fields #[.int a t,.int b u,.int 1 v] }) rfl).dropΦ
 refine ⟨_,.range a (b-a).toNat,_,σ,rfl,?_,r1.new1 rfl,h⟩
 have e:Builtin.Range.rangeSize a b 1=((b-a).toNat:Int)-((0:Nat):Int):=by rw [rangeSize_one];split <;> omega
 have e2:a=a+((0:Nat):Int):=by lia
 refine (?_:([(_,({ cls:=_,data:=.fields #[rawInt a,rawInt (Builtin.Range.rangeSize a b 1),rawInt 1] }:Obj))]:List (Addr×Obj))=[(_,{ cls:=_,data:=.fields #[rawInt (a+((0:Nat):Int)),rawInt (((b-a).toNat:Int)-((0:Nat):Int)),rawInt 1] })])
 exact sq e (sq e2 rfl)
theorem yM {n:Int} {σ:Led} {Q:It->Led->Prop} (h1:-(2 ^ 62)<=n) (h2:n<2 ^ 62) (h:Q (.range 0 n.toNat) σ):Z0 W lv (.ty "range") [.int n] σ Q:=by
 refine .sh fun c ρ Φ s C r t=>?_
 refine (?_:wpAny _ _ (call _ _) _ _ _)
 refine call_range_1 (Z9 (by decide) (by decide) h1 h2 r ?_)
 rw [Int.sub_zero];exact h
theorem qR {a b:Int} {σ:Led} {Q:It->Led->Prop} (ha:-(2 ^ 62)<=a) (ha':a<2 ^ 62) (hb:-(2 ^ 62)<=b) (hb':b<2 ^ 62) (h:Q (.range a (b-a).toNat) σ):Z0 W lv (.ty "range") [.int a,.int b] σ Q:=by
 refine .sh fun c ρ Φ s C r t u=>?_
 refine (?_:wpAny _ _ (call _ _) _ _ _)
 exact call_range_2 (Z9 ha ha' hb hb' r h)
theorem qb {a:Addr} {xs:List V} {σ:Led} {Q:It->Led->Prop} (m:(a,O.list xs)∈σ) (h:Q (.enum a) σ):Z0 W lv (.ty "enumerate") [.ref a] σ Q:=by
 refine .sh fun c ρ Φ s C r=>?_
 obtain ⟨vs,hv,hk,hL⟩:=r.isList m
 refine (?_:wpAny _ _ (call _ _) _ _ _)
 refine call_enumerate_list hL fun h' he hit hsz keep=>?_
 have hT:Shared.TypeIs { s with heap:=h' } (.ref (s.heap.objs.size+1)) "enumerate":=⟨_,he,rfl⟩
 refine wpAny_pyIter_slot hT F.slot_enumerate_iter (wpAny_call_entry F.slot_enumerate_iter hT F.entry_enumerate_iter ?_ (F.args_enumerate_iter_1 _))
 refine (?_:wpAny _ _ (ret (.ref (s.heap.objs.size+1))) _ _ _)
 refine wpAny_pure ⟨_,rfl,"enumerate",_,hT,F.slot_enumerate_next.lookup,?_⟩
 refine e13 hit fun o ho hc hd=>?_
 refine ⟨_,.enum a,_,σ,rfl,⟨s.heap.objs.size,o,.none,Nat.succ_ne_self _,hc,hd,rfl⟩,R0.moreΦ (t:=s.toks) r keep ?_ ?_,h⟩
 ·intro p hp
  simp only [List.mem_cons,List.mem_nil_iff,or_false] at hp
  rcases hp with rfl | rfl
  ·exact ⟨he,Nat.le_succ _⟩
  ·exact ⟨ho,Nat.le_refl _⟩
 ·simp
theorem zH {a:Addr} {i:Nat} {xs:List V} {σ:Led} {Q:Option V->Led->Prop} (m:(a,O.list xs)∈σ) (h:Q xs[i]? σ) {b:Bool} (hb:b=false\/xs[i]?=none\/∃ t,xs[i]?=some (.ref t)):J1 W lv b (.list a) i σ Q:=by
 refine ⟨fun c ρ Φ Ψ s I C ok r=>?_⟩
 refine e13 ok fun o hc hd w0=>?_;subst w0
 obtain ⟨vs,hv,hk,hL⟩:=r.isList m
 have hit:s.heap.IsListIter I a i:=⟨o,r.headΦ,hc,hd⟩
 cases e:xs[i]? with
 | none=>
  have e':vs.toArray[i]?=none:=by
   have:=hv.length
   rw [List.getElem?_eq_none_iff] at e
   simp;exact okY e this.symm
  rw [e] at h
  exact wpAny_pyNext_list_end C.handled hit hL e' fun h' he=>⟨σ,R0.yL (t:=s.toks) r fun b o hb e=>he b o hb e,h⟩
 | some x=>
  obtain ⟨u,hu,z⟩:=hv.get e
  rw [e] at h
  refine wpAny_pyNext_list_item hit hL (x:=u) (by simpa using hu) fun h' hit' sb=>?_
  refine e13 hit' fun o' ho' hc' hd'=>?_
  have fin:vN W c ρ Φ (.list a) i I u (fun x σ=>Q (some x) σ) { s with heap:=h' }:=
   ⟨x,σ,_,z,⟨o',hc',hd',rfl⟩,R0.vZ (t:=s.toks) r (fun b o hb e=>sb.extBut b o hb e) ho',h⟩
  cases b with
  | false=>exact fin
  | true=>
   intro es k p
   rcases hb with hb | hb | ⟨t,hb⟩
   ·exact nn4 hb
   ·rw [e] at hb;exact nn2 hb
   ·rw [e] at hb;cases hb
    cases z
    refine wpAny_bind (wpAny_load ho' ?_)
    refine sr hc' (sr hd' ?_)
    refine (?_:wpAny _ _ (if (["enumerate","zip","dict_itemiterator","dict_reverseitemiterator","odict_iterator","itertools.zip_longest","itertools.pairwise"].contains "list_iterator" && _)=true then _ else _) _ _ _)
    refine sr (if_neg (by simp)) ?_
    exact wpAny_pure fin
theorem qw {lo:Int} {n i:Nat} {σ:Led} {Q:Option V->Led->Prop} (h:Q (if i<n then some (.int (lo+i)) else none) σ) (hi:i<=n):J1 W lv false (.range lo n) i σ Q:=by
 refine ⟨fun c ρ Φ Ψ s I C ok r=>?_⟩
 cases ok
 have hit:IsRangeIter s.heap I (lo+i) (n-i) 1:=r.headΦ
 by_cases q:i<n
 ·rw [if_pos q] at h
  refine wpAny_pyNext_range_item hit (by omega) fun h' hit' sb=>?_
  refine ⟨.int (lo+i),σ,_,.int _ _,rfl,R0.vZ r (fun b o hb e=>sb.extBut b o hb e) ?_,h⟩
  have e1:lo+((i+1:Nat):Int)=lo+i+1:=by lia
  have e2:(n:Int)-((i+1:Nat):Int)=n-i-1:=by lia
  refine sr e1 (sr e2 ?_);exact hit'
 ·rw [if_neg q] at h
  exact wpAny_pyNext_range_end C.handled hit (by omega) fun h' he=>⟨σ,R0.yL (t:=s.toks) r fun b o hb e=>he b o hb e,h⟩
theorem YS {l:List Nat} {i:Nat} {σ:Led} {Q:Option V->Led->Prop} (h:Q (l[i]?.map fun c=>.str [c]) σ):J1 W lv false (.str l) i σ Q:=by
 refine ⟨fun c ρ Φ Ψ s I C ok r=>?_⟩
 refine e23 ok fun o t hc hd w0=>?_;subst w0
 have key:∀ ty,strIterType ⟨l.toArray⟩=ty->(∀ s':Shared,s'.heap.IsStrIter I ty ⟨l.toArray⟩ t i->∀ Q:Option Value->Shared->Prop,(l[i]?=none->∀ h',Heap.ExtBut I s'.heap h'->Q none { s' with heap:=h' })->
   (∀ k,l[i]?=some k->∀ h',h'.IsStrIter I ty ⟨l.toArray⟩ t (i+1)->Heap.SameBut I s'.heap h'->Q (some (.str ⟨#[k]⟩ s'.toks)) { s' with heap:=h',toks:=s'.toks+1 })->wpAny W.M c.A (pyNext (.ref I)) Q NoE s')->
   wpAny W.M c.A (pyNext (.ref I)) (fun r s'=>match r with
   | none=>vM W c ρ Φ (Q none) () s'
   | some v=>vN W c ρ Φ (.str l) i I v (fun x σ=>Q (some x) σ) s') NoE s:=fun ty e k=>by
  refine k s ⟨o,r.headΦ,by exact sr hc (sr e rfl),hd⟩ _ (fun e' h' he=>?_) (fun k e' h' hit' sb=>?_)
  ·rw [e'] at h;exact ⟨σ,R0.yL (t:=s.toks) r fun b o hb e=>he b o hb e,h⟩
  ·rw [e'] at h
   refine e13 hit' fun o' ho' hc' hd'=>?_
   exact ⟨.str [k],σ,_,.str [k] _ (by simp),⟨o',t,by exact sr hc' (sr e rfl),hd',rfl⟩,R0.vZ r (fun b o hb e=>sb.extBut b o hb e) ho',h⟩
 refine key _ rfl ?_
 unfold strIterType
 split
 ·intro s' hit Q h0 h1
  cases e:l[i]? with
  | none=>exact wpAny_pyNext_ascii_end C.handled hit (by simpa using e) (h0 e)
  | some k=>exact wpAny_pyNext_ascii_item hit (c:=k) (by simpa using e) (h1 k e)
 ·intro s' hit Q h0 h1
  cases e:l[i]? with
  | none=>exact wpAny_pyNext_wide_end C.handled hit (by simpa using e) (h0 e)
  | some k=>exact wpAny_pyNext_wide_item hit (c:=k) (by simpa using e) (h1 k e)
theorem Xx {a:Addr} {i:Nat} {xs:List V} {σ:Led} {Q:Option V->Led->Prop} (m:(a,O.list xs)∈σ) (h0:xs[i]?=none->Q none σ)
  (h1:∀ x,xs[i]?=some x->∀ t,Q (some (.ref t)) ((t,.tup [.int i,x])::σ)):J1 W lv true (.enum a) i σ Q:=by
 refine ⟨fun c ρ Φ Ψ s I C ok r=>?_⟩
 refine e34 ok fun J o old hIJ hc hd w0=>?_;subst w0
 obtain ⟨vs,hv,hk,hL⟩:=r.isList m
 have he:IsEnum s.heap I J i old:=r.getΦ (.head _)
 have hit:s.heap.IsListIter J a i:=⟨o,r.getΦ (.tail _ (.head _)),hc,hd⟩
 cases e:xs[i]? with
 | none=>
  have e':vs.toArray[i]?=none:=by
   have:=hv.length
   rw [List.getElem?_eq_none_iff] at e
   simp;exact okY e this.symm
  exact wpAny_pyNext_enum_end C.handled he hit hL e' fun h' ex=>⟨σ,R0.shed (Ψ:=[(I,_),(J,o)]) (t:=s.toks) r fun b o hb e=>ex b o (fun q=>hb (by simp [q])) e,h0 e⟩
 | some x=>
  obtain ⟨u,hu,z⟩:=hv.get e
  refine wpAny_pyNext_enum_item he hit hL (x:=u) (by simpa using hu) hIJ fun h' he' hit' ht hsz keep=>?_
  intro es k p
  refine wpAny_letOwnedTupleGo_enum he' fun h2 he2 sb=>?_
  replace sb:Heap.SameBut I h' h2:=sb
  refine e13 hit' fun o' ho' hc' hd'=>?_
  have hIs:I<s.heap.objs.size:=Heap.lt_size he
  have hTs:h2.get? s.heap.objs.size=some { cls:=.type "tuple",data:=.seq #[.int i s.toks,u] }:=(sb.2 _ (Nat.ne_of_gt hIs)).trans ht
  have q0:R0 W.prog W.w c.F ρ σ ([(s.heap.objs.size,{ cls:=.type "tuple",data:=.seq #[.int i s.toks,u] })]++([(I,_),(J,o)]++Φ)) { s with heap:=s.heap.push { cls:=.type "tuple",data:=.seq #[.int i s.toks,u] },toks:=s.toks+1 }:=
   R0.new1 r rfl
  have pm:([(s.heap.objs.size,({ cls:=.type "tuple",data:=.seq #[.int i s.toks,u] }:Obj))]++([(I,({ cls:=.type "enumerate",dict:=none,data:=.fields #[.none,.bool false,.ref J,rawInt i,.none,old],slots:=#[] }:Obj)),(J,o)]++Φ)).Perm
   ([(I,({ cls:=.type "enumerate",dict:=none,data:=.fields #[.none,.bool false,.ref J,rawInt i,.none,old],slots:=#[] }:Obj)),(J,o)]++([(s.heap.objs.size,({ cls:=.type "tuple",data:=.seq #[.int i s.toks,u] }:Obj))]++Φ)):=by
   rw [← List.append_assoc,← List.append_assoc]
   exact List.Perm.append_right _ List.perm_append_comm
  have q1:=q0.permΦ pm
  have r1:=R0.turn (t:=s.toks+1) (h':=h2) (Ψ:=[(I,_),(J,o)]) (Ψ':=[(I,{ cls:=.type "enumerate",dict:=none,data:=.fields #[.none,.bool false,.ref J,rawInt ((i:Int)+1),.none,u],slots:=#[] }),(J,o')]) q1
   (fun b ob hb eb=>by
    have hbI:b≠I:=fun q=>hb (by simp [q])
    have hbJ:b≠J:=fun q=>hb (by simp [q])
    by_cases hbs:b=s.heap.objs.size
    ·subst hbs
     have e1:(s.heap.push { cls:=.type "tuple",data:=.seq #[.int i s.toks,u] }).get? s.heap.objs.size=some { cls:=.type "tuple",data:=.seq #[.int i s.toks,u] }:=Heap.get?_push_size _ rfl
     have e2:=e1.symm.trans eb
     cases e2;exact hTs
    ·exact sb.extBut b ob hbI (keep b ob hbI hbJ (by refine sq eb ?_;exact (Heap.get?_push_ne _ _ _ hbs).symm))) rfl (fun p hp=>by
    simp only [List.mem_cons,List.mem_nil_iff,or_false] at hp
    rcases hp with rfl | rfl
    ·exact he2
    ·exact (sb.2 _ (Ne.symm hIJ)).trans ho')
  have r2:=R0.show (x:=.tup [.int i,x]) (r1.permΦ (by
   refine (?_:List.Perm _ ((s.heap.objs.size,({ cls:=.type "tuple",data:=.seq #[.int i s.toks,u] }:Obj))::([(I,({ cls:=.type "enumerate",dict:=none,data:=.fields #[.none,.bool false,.ref J,rawInt ((i:Int)+1),.none,u],slots:=#[] }:Obj)),(J,o')]++Φ)))
   exact List.perm_middle (l₁:=[(I,({ cls:=.type "enumerate",dict:=none,data:=.fields #[.none,.bool false,.ref J,rawInt ((i:Int)+1),.none,u],slots:=#[] }:Obj)),(J,o')]))) (.tup (vs:=[.int i s.toks,u]) 0 (.cons (.int _ _) (.cons z .nil)) (by simp))
  exact ⟨.ref s.heap.objs.size,_,_,.ref _,⟨J,o',u,hIJ,hc',hd',by exact sr (show ((i+1:Nat):Int)=(i:Int)+1 by exact okl rfl) rfl⟩,r2,h1 x e _⟩
end
end
section
theorem QH (env:Env):∀ (names:List (Str×NameKind)) (cs0:List (Str×Addr)),(∀ p∈names,p.2=.free->∃ a,env.cells.lookup p.1=some a)->(∀ p∈cs0,env.cells.lookup p.1=some p.2)->
  ∃ cs,(forIn names cs0 (fun x r=>if (x.2==NameKind.free)=true then do let a ← cellOf env x.1;pure (ForInStep.yield ((x.1,a)::r)) else pure (ForInStep.yield r)):Sem (List (Str×Addr)))=pure cs/\(∀ p∈cs,env.cells.lookup p.1=some p.2)/\(∀ p∈cs0,p∈cs)/\(∀ p∈names,p.2=.free->∃ a,(p.1,a)∈cs)
 | [],cs0,_,h0=>⟨cs0,rfl,h0,fun _ m=>m,fun _ m=>by exact nn9 m⟩
 | (y,k)::names,cs0,hn,h0=>by
  rw [List.forIn_cons]
  by_cases hk:k=.free
  ·subst hk
   refine e11 (hn _ (.head _) rfl) fun a ha=>?_
   obtain ⟨cs,e,p1,p2,p3⟩:=QH env names ((y,a)::cs0) (fun p m=>hn p (.tail _ m)) (fun p m=>by
    refine mc m ?_ fun m=>?_
    ·exact ha
    ·exact h0 p m)
   refine ⟨cs,?_,p1,fun p m=>p2 p (.tail _ m),fun p m hp=>?_⟩
   ·have:cellOf env y=pure a:=by unfold cellOf;dsimp only at ha;exact sr ha rfl
    simp only [this]
    exact e
   ·refine mc m ?_ fun m=>?_
    ·exact ⟨a,p2 _ (.head _)⟩
    ·exact p3 p m hp
  ·refine e14 (QH env names cs0 (fun p m=>hn p (.tail _ m)) h0) fun cs e p1 p2 p3=>?_
   refine ⟨cs,?_,p1,p2,fun p m hp=>?_⟩
   ·have:(k==NameKind.free)=false:=by simpa using hk
    simp only [this]
    exact e
   ·rcases List.mem_cons.mp m with rfl | m
    ·exact absurd hp hk
    ·exact p3 p m hp
theorem lookup_mem {α:Type} [BEq α] [LawfulBEq α] {β:Type} {x:α} {y:β}:∀ {l:List (α×β)},l.lookup x=some y->(x,y)∈l
 | [],h=>by exact nn1 h
 | (a,b)::r,h=>by
  rw [List.lookup_cons] at h
  cases e:x==a with
  | true=>rw [e] at h;cases h;rw [beq_iff_eq] at e;subst e;exact .head _
  | false=>rw [e] at h;exact .tail _ (lookup_mem h)
theorem lookup_isSome {α:Type} [BEq α] [LawfulBEq α] {β:Type} {x:α} {y:β}:∀ {l:List (α×β)},(x,y)∈l->∃ z,l.lookup x=some z
 | (a,b)::r,m=>by
  refine sr List.lookup_cons ?_
  cases e:x==a with
  | true=>exact ⟨_,rfl⟩
  | false=>
   refine mo m (fun q=>?_) fun m=>?_
   ·cases q;simp at e
   ·exact lookup_isSome m
theorem Xy {env:Env} {sc:Scope} (h:∀ p∈sc.names,p.2=.free->∃ a,env.cells.lookup p.1=some a):∃ cs,closureFor sc env=pure cs/\∀ y,sc.names.lookup y=some .free->cs.lookup y=env.cells.lookup y:=by
 refine e14 (QH env sc.names [] h (fun _ m=>by exact nn9 m)) fun cs e p1 p2 p3=>?_
 refine ⟨cs,?_,fun y hy=>?_⟩
 ·unfold closureFor
  exact (bind_pure _).trans e
 ·refine e11 (p3 _ (lookup_mem hy) rfl) fun a ha=>?_
  refine e11 (lookup_isSome ha) fun b hb=>?_
  exact sr hb (sr (p1 _ (lookup_mem hb)) rfl)
theorem qc {g:Str->NameKind->NameKind} {x:Str}:∀ {l:List (Str×NameKind)},(l.map fun (n,k)=>(n,g n k)).lookup x=(l.lookup x).map (g x)
 | []=>rfl
 | (n,k)::r=>by
  refine sr List.map_cons (sr List.lookup_cons (sr List.lookup_cons ?_))
  cases e:x==n with
  | true=>rw [beq_iff_eq] at e;subst e;rfl
  | false=>exact qc
theorem zO {sc:Scope} {env:Env} {x:Str} {k:NameKind} (h:sc.names.lookup x=some k):(relabel sc env).names.lookup x=some (if (k==.free&&env.scope.kind==.function&&env.kindOf x==some .cell)=true then .cell else k):=by
 have:=@qc (fun n k=>if (k==.free&&env.scope.kind==.function&&env.kindOf n==some .cell)=true then .cell else k) x sc.names
 rw [h] at this
 refine Eq.trans ?_ this
 congr 1
 refine List.map_congr_left fun p _=>?_
 obtain ⟨n,k⟩:=p
 dsimp only
 split <;> rfl
section
variable {prog:Program} {w:World} {F:Fm} {ρ:List (Option V)} {σ:Led} {Φ Ψ:List (Addr×Obj)} {s:Shared}
theorem R0.jA {a:Addr} {o o':Obj} {h':Heap} {t:Nat} (r:R0 prog w F ρ σ (Ψ++([(a,o)]++Φ)) s) (sb:∀ b o,b≠a->s.heap.get? b=some o->h'.get? b=some o) (g:h'.get? a=some o') :
  R0 prog w F ρ σ (Ψ++([(a,o')]++Φ)) { s with heap:=h',toks:=t }:=by
 have p1:(Ψ++([(a,o)]++Φ)).Perm ([(a,o)]++(Ψ++Φ)):=List.perm_middle
 have p2:([(a,o')]++(Ψ++Φ)).Perm (Ψ++([(a,o')]++Φ)):=
  show List.Perm ((a,o')::(Ψ++Φ)) (Ψ++(a,o')::Φ) from List.perm_middle.symm
 exact ((r.permΦ p1).vZ sb g).permΦ p2
theorem R0.Xz {a:Addr} {o:Obj} (r:R0 prog w F ρ σ (Ψ++([(a,o)]++Φ)) s):s.heap.get? a=some o:=r.getΦ (List.mem_append_right _ (.head _))
end
noncomputable def NsO (o:Obj) (m:Str->Option Value):Prop:=∃ es ep,o.data=.dict es ep/\StrKeys es/\∀ name,nsFind es name=m name
theorem NsO.at {o:Obj} {m:Str->Option Value} (h:NsO o m) {hp:Heap} {a:Addr} (g:hp.get? a=some o):hp.Ns a m:=let ⟨es,ep,p⟩:=h;⟨o,es,ep,g,p⟩
theorem NsO.of {m:Str->Option Value} {hp:Heap} {a:Addr} (h:hp.Ns a m):∃ o,hp.get? a=some o/\NsO o m:=let ⟨o,es,ep,g,p⟩:=h;⟨o,g,es,ep,p⟩
noncomputable abbrev zG (vs:List Value) (k:Nat):Obj:={ cls:=.type "list",dict:=none,data:=.seq vs.toArray k,slots:=#[] }
section
variable {W:Wd} {lv:Nat}
theorem Qd {it:It} {i:Nat} {I:Addr} {Φ Ψ:List (Addr×Obj)} {F:Fm} {ρ:List (Option V)} {σ:Led} {s:Shared} {A:Around} {Q:Value->Shared->Prop} {E:Value->Shared->Prop}
  (ok:ItOk it i I Ψ) (r:R0 W.prog W.w F ρ σ (Ψ++Φ) s) (h:Q (.ref I) s):wpAny W.M A (pyIter (.ref I)) Q E s:=by
 cases it with
 | list a=>
  refine e13 ok fun o hc hd w0=>?_;subst w0
  exact wpAny_pyIter_listiter (l:=a) (i:=i) ⟨o,r.headΦ,hc,hd⟩ h
 | str l=>
  refine e23 ok fun o t hc hd w0=>?_;subst w0
  by_cases q:(⟨l.toArray⟩:Str).cps.all (· < 128)=true
  ·exact wpAny_pyIter_striter_ascii (t:=t) (i:=i) (x:=⟨l.toArray⟩) ⟨o,r.headΦ,by refine sr hc ?_;unfold strIterType;exact sr (if_pos q) rfl,hd⟩ h
  ·exact wpAny_pyIter_striter_wide (t:=t) (i:=i) (x:=⟨l.toArray⟩) ⟨o,r.headΦ,by refine sr hc ?_;unfold strIterType;exact sr (if_neg q) rfl,hd⟩ h
 | range lo n=>
  cases ok
  exact wpAny_pyIter_rangeiter (x:=lo+i) (left:=n-i) (step:=1) r.headΦ h
 | enum a=>
  refine e34 ok fun J o old hIJ hc hd w0=>?_;subst w0
  have he:IsEnum s.heap I J i old:=r.getΦ (.head _)
  have hT:s.TypeIs (.ref I) "enumerate":=⟨_,he,rfl⟩
  refine wpAny_pyIter_slot hT PySem.F.slot_enumerate_iter (wpAny_call_entry PySem.F.slot_enumerate_iter hT PySem.F.entry_enumerate_iter ?_ (PySem.F.args_enumerate_iter_1 _))
  refine (?_:wpAny _ _ (ret (.ref I)) _ _ _)
  exact wpAny_pure ⟨_,rfl,"enumerate",_,hT,PySem.F.slot_enumerate_next.lookup,h⟩
theorem jB {M:Model} {A:Around} {E:Value->Shared->Prop} {s:Shared} {env:Env} {Q:Bool->Shared->Prop}:∀ (ifs:List PySem.Expr),Q false s->
  wpAny M A (forIn ifs false fun c r=>if r=true then do let ok ← isTrue c env (eval c env);pure (ForInStep.yield ok) else pure (ForInStep.yield r)) Q E s
 | [],h=>wpAny_pure h
 | e::es,h=>by
  rw [List.forIn_cons]
  simp only [Bool.false_eq_true,if_false]
  exact wpAny_bind (wpAny_pure (jB es h))
theorem v9 {ifs:List PySem.Expr} (g:∀ e∈ifs,Zt e) {c:Cx} {n:Nm} {ρ ρe:List (Option V)} {σ:Led} {Φ:List (Addr×Obj)} {env:Env} {cl:List V} {s:Shared} {Q:Bool->Led->Prop} (C:CxOk W lv c) (v:Vw W n c.F ρ Φ env ρe cl)
  (h:aifs W lv cl ρe (cEs n ifs) σ Q) (r:R0 W.prog W.w c.F ρ σ Φ s) :
  wpAny W.M c.A (forIn ifs true fun c r=>if r=true then do let ok ← isTrue c env (eval c env);pure (ForInStep.yield ok) else pure (ForInStep.yield r)) (zbn W c ρ Φ Q) NoE s:=by
 induction ifs generalizing σ s with
 | nil=>exact wpAny_pure ⟨σ,r,h⟩
 | cons e es ih=>
  rw [List.forIn_cons]
  simp only [if_true]
  refine wpAny_bind (wpAny_bind (zb (g e (.head _) W lv c n ρ ρe σ Φ env cl s _ C v h r) ?_))
  rintro b s' ⟨σ',r',t⟩
  refine wpAny_pure ?_
  cases b with
  | true=>exact ih (fun e m=>g e (.tail _ m)) t r'
  | false=>exact jB es ⟨σ',r',t⟩
theorem zz {outer:List (Str×NameKind)} {sc:Scope} {xs cells:List Str} (h:zr outer sc xs cells=true):sc.kind=.function:=by
 unfold zr at h;simp only [Bool.and_eq_true,beq_iff_eq] at h;exact h.1.1.1
theorem jC {outer:List (Str×NameKind)} {sc:Scope} {xs cells:List Str} (h:zr outer sc xs cells=true) {x:Str} (m:x∈xs):sc.names.lookup x=some .local:=by
 unfold zr at h;simp only [Bool.and_eq_true,List.all_eq_true,beq_iff_eq] at h;exact h.1.1.2 x m
theorem mem_lookup {β:Type} {x:Str} {y:β}:∀ {l:List (Str×β)},(l.map (·.1)).Nodup->(x,y)∈l->l.lookup x=some y
 | (a,b)::r,nd,m=>by
  rw [List.map_cons,List.nodup_cons] at nd
  refine sr List.lookup_cons ?_
  refine mo m (fun q=>?_) fun m=>?_
  ·cases q;simp
  ·have:(x==a)=false:=beq_false_of_ne fun e=>nd.1 (by refine sq e ?_;exact List.mem_map.mpr ⟨_,m,rfl⟩)
   refine sr this ?_
   exact mem_lookup nd.2 m
theorem qx {outer:List (Str×NameKind)} {sc:Scope} {xs cells:List Str} (h:zr outer sc xs cells=true) {p:Str×NameKind} (m:p∈sc.names):sc.names.lookup p.1=some p.2:=by
 unfold zr at h;simp only [Bool.and_eq_true,decide_eq_true_eq] at h
 exact mem_lookup h.2 m
theorem Zj {outer:List (Str×NameKind)} {sc:Scope} {xs cells:List Str} (h:zr outer sc xs cells=true) {p:Str×NameKind} (m:p∈sc.names) :
  p.2=.local\/p.2=.globalImplicit\/(p.2=.free/\p.1∈cells/\(outer.lookup p.1=some .cell\/outer.lookup p.1=some .free)):=by
 unfold zr at h;simp only [Bool.and_eq_true,List.all_eq_true] at h
 have:=h.1.2 p m
 simp only [Bool.or_eq_true,Bool.and_eq_true,beq_iff_eq,List.contains_iff_mem] at this
 rcases this with (q | q) | q
 ·exact .inl q
 ·exact .inr (.inl q)
 ·exact .inr (.inr ⟨q.1.1,q.1.2,q.2⟩)
theorem Vw.comp {c:Cx} {n:Nm} {ρ ρe ρi:List (Option V)} {Φ Φ':List (Addr×Obj)} {env cenv:Env} {cl:List V} (v:Vw W n c.F ρ Φ env ρe cl) {sc:Scope} {xs:List Str} (hsc:zr n.scope.names sc xs n.cells=true)
  {cs:List (Str×Addr)} (hcs:∀ y,sc.names.lookup y=some .free->cs.lookup y=env.cells.lookup y) (hs:cenv.scope=relabel sc env) (hg:cenv.globals=env.globals) (hb:cenv.builtins=env.builtins) (hc:cenv.cells=cs)
  (hsub:∀ p∈Φ,p∈Φ') {oC:Obj} {m:Str->Option Value} (hC:(cenv.locals,oC)∈Φ') (ns:NsO oC m) (hm:∀ (i:Nat) (x:Str) (y:V),xs[i]?=some x->ρi[i]?=some (some y)->∃ u,m x=some u/\VR y u) :
  Vw W ⟨sc,xs,n.cells,n.glob⟩ c.F ρ Φ' cenv ρi cl where
 nloc:=fun x h=>by
  refine (?_:cenv.scope.names.lookup x=_)
  refine sr hs (sr (zO h) ?_);rfl
 nglo:=fun x h=>by
  refine (?_:cenv.scope.names.lookup x=_)
  refine sr hs (sr (zO h) ?_);rfl
 ncel:=fun x h=>by
  rcases Zj hsc (lookup_mem h) with q | q | q
  ·cases q
  ·cases q
  ·cases q.1
 nfre:=fun x h=>by
  refine (?_:cenv.scope.names.lookup x=_\/cenv.scope.names.lookup x=_)
  refine sr hs (sr (zO h) ?_)
  split
  ·exact .inr rfl
  ·exact .inl rfl
 kind:=by refine sr hs ?_;refine (?_:sc.kind=_);exact zz hsc
 glob:=hg.trans v.glob
 blt:=hb.trans v.blt
 globs:=v.globs
 full:=v.full
 loads:=fun σ s i x y r hi hy hx M A E Q h=>by
  refine e12 (hm i x y hi hy) fun u a b=>?_
  exact wpAny_loadName_local (by refine sr hs ?_;refine (?_:sc.kind=_);exact zz hsc) hx (ns.at (r.getΦ hC)) a (h u b)
 cells:=fun k x y hk hi hy=>by
  have hf:sc.names.lookup x=some .free/\(n.scope.names.lookup x=some .cell\/n.scope.names.lookup x=some .free):=by
   refine oe hk (fun hk=>?_) fun hk=>?_
   ·rcases Zj hsc (lookup_mem hk) with q | q | q
    ·cases q
    ·cases q
    ·cases q.1
   ·refine ⟨hk,?_⟩
    rcases Zj hsc (lookup_mem hk) with q | q | q
    ·cases q
    ·cases q
    ·exact q.2.2
  obtain ⟨a,u,ha,⟨oc,hm',hmd⟩,hu⟩:=v.cells k x y hf.2 hi hy
  exact ⟨a,u,by refine sr hc (sr (hcs x hf.1) ?_);exact ha,⟨oc,hsub _ hm',hmd⟩,hu⟩
theorem Vw.closure {c:Cx} {n:Nm} {ρ ρe:List (Option V)} {Φ:List (Addr×Obj)} {env:Env} {cl:List V} (v:Vw W n c.F ρ Φ env ρe cl) {sc:Scope} {xs:List Str} (hsc:zr n.scope.names sc xs n.cells=true) :
  ∃ cs,closureFor sc env=pure cs/\∀ y,sc.names.lookup y=some .free->cs.lookup y=env.cells.lookup y:=by
 refine Xy fun p m hp=>?_
 rcases Zj hsc m with q | q | q
 ·rw [hp] at q;cases q
 ·rw [hp] at q;cases q
 ·refine e11 (List.getElem?_of_mem q.2.1) fun k hk=>?_
  have hlt:k<cl.length:=by refine sq v.full ?_;exact (List.getElem?_eq_some_iff.mp hk).1
  refine e22 (v.cells k p.1 cl[k] q.2.2 hk (List.getElem?_eq_getElem hlt)) fun a u ha _=>?_
  exact ⟨a,ha⟩
end
end
section
section
variable {W:Wd} {lv:Nat}
inductive Gz (W:Wd) (c:Cx) (ρ:List (Option V)) (Φ:List (Addr×Obj)) (it:It) (I D L:Addr) (A:Nat->List V->Led->Prop) (s':Shared):Prop
 | mk (i:Nat) (ys:List V) (vs:List Value) (σ':Led) (Ψ':List (Addr×Obj)) (m:Str->Option Value) (oC:Obj) (kk:Nat) (r:R0 W.prog W.w c.F ρ σ' (Ψ'++([(L,oC)]++([(D,zG vs kk)]++Φ))) s')
  (hi:ItOk it i I Ψ') (hn:NsO oC m) (hv:VRs ys vs) (hl:ys.length<=16777216) (h:A i ys σ')
theorem Va {x:Str} {px:Pos} {elt iter:PySem.Expr} {ifs:List PySem.Expr} {sc:Scope} {pos:Pos} (ge:Good elt) (gi:∀ e∈ifs,Zt e)
  {c:Cx} {n:Nm} {ρ ρe:List (Option V)} {σ₀:Led} {Φ:List (Addr×Obj)} {env cenv:Env} {cl:List V} {s₀:Shared} {E':Value->Shared->Prop} (C:CxOk W lv c) (v:Vw W n c.F ρ Φ env ρe cl) (hsc:zr n.scope.names sc [x] n.cells=true)
  {cs:List (Str×Addr)} (hcs:∀ y,sc.names.lookup y=some .free->cs.lookup y=env.cells.lookup y) (hs:cenv.scope=relabel sc env) (hg:cenv.globals=env.globals) (hb:cenv.builtins=env.builtins) (hc:cenv.cells=cs)
  {it:It} {N:Nat} {K:List V->Led->Prop} {Ψ:List (Addr×Obj)} {I D:Addr} {oC:Obj} {m₀:Str->Option Value} (hit:ItOk it 0 I Ψ) (r:R0 W.prog W.w c.F ρ σ₀ (Ψ++([(cenv.locals,oC)]++([(D,zG [] 0)]++Φ))) s₀) (hn:NsO oC m₀)
  (h:ZG W lv (fun x' σ R=>aifs W lv cl [some x'] (cEs ⟨sc,[x],n.cells,n.glob⟩ ifs) σ R) (fun x' σ R=>aev W lv cl [some x'] (cE ⟨sc,[x],n.cells,n.glob⟩ elt) σ R) N it 0 [] σ₀ K)
  {R:Result->Shared->Prop}
  (hR:∀ oC ys vs k s' σ' m,R0 W.prog W.w c.F ρ σ' ([(cenv.locals,oC)]++([(D,zG vs k)]++Φ)) s'->NsO oC m->VRs ys vs->ys.length<=16777216->K ys σ'->R (.ok .next) s') :
  codeAny W.M c.A (.compLoop (.ListComp elt [⟨.Name x px,iter,ifs,0⟩] sc pos) 0 (.ref I) (.ref D) cenv) R s₀:=by
 have hx:sc.names.lookup x=some .local:=jC hsc (.head _)
 have hxk:cenv.kindOf x=some .local:=by refine (?_:cenv.scope.names.lookup x=_);refine sr hs (sr (zO hx) ?_);rfl
 have hkf:cenv.scope.kind=.function:=by refine sr hs ?_;refine (?_:sc.kind=_);exact zz hsc
 refine codeAny_compLoop_tests
  (fun k=>Gz W c ρ Φ it I D cenv.locals fun i ys σ'=>
   ZG W lv (fun x' σ R=>aifs W lv cl [some x'] (cEs ⟨sc,[x],n.cells,n.glob⟩ ifs) σ R) (fun x' σ R=>aev W lv cl [some x'] (cE ⟨sc,[x],n.cells,n.glob⟩ elt) σ R) k it i ys σ' K) ?_ N
  ⟨0,[],[],σ₀,Ψ,m₀,oC,0,r,hit,hn,.nil,by simp,h⟩
 rintro k s' ⟨i,ys,vs,σ,Ψ',m,oC,kk,r,hit,hn,hv,hlen,h⟩
 cases k with
 | zero=>exact h.elim
 | succ k=>
  refine zb (h.run c ρ _ Ψ' s' I C hit r) ?_
  intro o s₁ hq
  cases o with
  | none=>
   obtain ⟨σ',r',hK⟩:=hq
   exact hR oC ys vs kk s₁ σ' m r' hn hv hlen hK
  | some u=>
   obtain ⟨y,σ',Ψ'',z,hit',r',hK⟩:=hq
   dsimp only at hK
   refine wpAny_assign_Name (wpAny_storeName_local hxk (hn.at r'.Xz) (fun h₂ hn₂ sb=>?_) (by refine sr hkf ?_;rfl))
   refine e12 (NsO.of hn₂) fun oC' gC hnC'=>?_
   have r2:=R0.jA (t:=s₁.toks+1) r' (fun b o hb e=>sb.extBut b o hb e) gC
   have hsub:∀ p∈Φ,p∈Ψ''++([(cenv.locals,oC')]++([(D,zG vs kk)]++Φ)):=fun p hp=>List.mem_append_right _ (.tail _ (.tail _ hp))
   have v':Vw W ⟨sc,[x],n.cells,n.glob⟩ c.F ρ (Ψ''++([(cenv.locals,oC')]++([(D,zG vs kk)]++Φ))) cenv [some y] cl:=
    v.comp hsc hcs hs hg hb hc hsub (List.mem_append_right _ (.head _)) hnC' (fun i x' y' hi hy=>by
     cases i with
     | succ i=>simp at hi
     | zero=>simp at hi hy;subst hi;subst hy;exact ⟨u,by simp,z⟩)
   refine zb (v9 gi C v' hK r2) ?_
   rintro b s₃ ⟨σ3,r3,hK3⟩
   cases b with
   | false=>
    simp only [Bool.false_eq_true,if_false]
    exact ⟨k,Nat.lt_succ_self _,i+1,ys,vs,σ3,Ψ'',_,oC',kk,r3,hit',hnC',hv,hlen,hK3⟩
   | true=>
    simp only [if_true]
    refine zb (ge W lv c _ ρ [some y] σ3 _ cenv cl s₃ _ C v' hK3 r3) ?_
    rintro u4 s₄ ⟨x4,σ4,z4,r4,hl4,hK4⟩
    have assoc:∀ (oC:Obj) (vs:List Value) (kk:Nat),Ψ''++([(cenv.locals,oC)]++([(D,zG vs kk)]++Φ))=(Ψ''++[(cenv.locals,oC)])++([(D,zG vs kk)]++Φ):=fun _ _ _=>(List.append_assoc _ _ _).symm
    rw [assoc] at r4
    have gD:=r4.Xz
    have hvl:=hv.length
    refine wpAny_list_append_plain (items:=vs.toArray) ⟨kk,gD⟩ (fun h₅ hp₅ sb₅=>?_) (by refine (?_:vs.toArray.size<=2 ^ 24);simp;exact okY hlen hvl.symm)
    refine e11 hp₅ fun kk' gD'=>?_
    have e:vs.toArray.push u4=(vs++[u4]).toArray:=by simp
    rw [e] at gD'
    have r5:=R0.jA (t:=s₄.toks) r4 (fun b o hb e=>sb₅.extBut b o hb e) gD'
    rw [← assoc] at r5
    exact ⟨k,Nat.lt_succ_self _,i+1,ys++[x4],vs++[u4],σ4,Ψ'',_,oC',kk',r5,hit',hnC',hv.append (.cons z4 .nil),by simp;exact Nat.le_of_lt_succ hl4,hK4⟩
theorem YT {x:Str} {px:Pos} {elt iter:PySem.Expr} {ifs:List PySem.Expr} {sc:Scope} {pos:Pos} (ge:Good elt) (gi:∀ e∈ifs,Zt e)
  {c:Cx} {n:Nm} {ρ ρe:List (Option V)} {σ:Led} {Φ:List (Addr×Obj)} {env:Env} {cl:List V} {s₂:Shared} (C:CxOk W lv c) (v:Vw W n c.F ρ Φ env ρe cl) (hsc:zr n.scope.names sc [x] n.cells=true)
  {cs:List (Str×Addr)} (hcs:∀ y,sc.names.lookup y=some .free->cs.lookup y=env.cells.lookup y)
  {it:It} {N:Nat} {K:List V->Led->Prop} {Ψ:List (Addr×Obj)} {I:Addr} (hit:ItOk it 0 I Ψ) (r:R0 W.prog W.w c.F ρ σ (Ψ++Φ) s₂)
  (h:ZG W lv (fun x' σ R=>aifs W lv cl [some x'] (cEs ⟨sc,[x],n.cells,n.glob⟩ ifs) σ R) (fun x' σ R=>aev W lv cl [some x'] (cE ⟨sc,[x],n.cells,n.glob⟩ elt) σ R) N it 0 [] σ K)
  {E:Value->Shared->Prop} {RR:Value->Addr->Result->Shared->Prop}
  (hR:∀ D Ca oC ys vs k s' σ' m,R0 W.prog W.w c.F ρ σ' ([(Ca,oC)]++([(D,zG vs k)]++Φ)) s'->NsO oC m->VRs ys vs->ys.length<=16777216->K ys σ'->RR (.ref D) Ca (.ok .next) s') :
  wpAny W.M c.A (newList []) (fun acc s₃=>wpAny W.M c.A (newFunctionEnv sc env.globals cs [] env.qual none .none (some env)) (fun cenv s₄=>
   codeAny W.M c.A (.compStart (.ListComp elt [⟨.Name x px,iter,ifs,0⟩] sc pos) 0 (.ref I) acc { cenv with scope:=relabel sc env }) (RR acc cenv.locals) s₄) E s₃) E s₂:=by
 have hcell:∀ y∈sc.names,y.2≠.cell:=fun y m e=>by
  rcases Zj hsc m with q | q | q
  ·rw [e] at q;cases q
  ·rw [e] at q;cases q
  ·rw [e] at q;cases q.1
 refine wpAny_newObj_type (wpAny_newFunctionEnv hcell (by intro y hy;simp at hy) (fun h₁ hns₁ hsb₁=>?_) (zz hsc))
 dsimp only at hns₁ hsb₁ ⊢
 have r1:R0 W.prog W.w c.F ρ σ ([(s₂.heap.objs.size,zG [] 0)]++(Ψ++Φ)) { s₂ with heap:=s₂.heap.push (zG [] 0),toks:=s₂.toks }:=R0.new1 r rfl
 generalize hH2:s₂.heap.push { cls:=.type "list",dict:=none,data:=.seq ([]:List Value).toArray }=H2 at hns₁ hsb₁ ⊢
 have hH2':s₂.heap.push (zG [] 0)=H2:=hH2
 rw [hH2'] at r1
 refine e12 (NsO.of hns₁) fun oC gC hnC=>?_
 have keep:∀ b o,H2.get? b=some o->h₁.get? b=some o:=fun b o e=>hsb₁.extBut b o (Nat.ne_of_lt (Heap.lt_size e)) (Heap.get?_push_of_some _ e)
 have r2:=R0.moreΦ (t:=s₂.toks) (Ψ:=[(H2.objs.size,oC)]) r1 keep (fun p hp=>by
  simp only [List.mem_cons,List.mem_nil_iff,or_false] at hp
  refine sr hp ?_
  exact ⟨gC,Nat.le_refl _⟩) (by simp)
 have pm:([(H2.objs.size,oC)]++([(s₂.heap.objs.size,zG [] 0)]++(Ψ++Φ))).Perm (Ψ++([(H2.objs.size,oC)]++([(s₂.heap.objs.size,zG [] 0)]++Φ))):=by
  have e:([(H2.objs.size,oC)]++([(s₂.heap.objs.size,zG [] 0)]++(Ψ++Φ)))=([(H2.objs.size,oC)]++[(s₂.heap.objs.size,zG [] 0)])++Ψ++Φ:=by rfl
  have e':(Ψ++([(H2.objs.size,oC)]++([(s₂.heap.objs.size,zG [] 0)]++Φ)))=Ψ++([(H2.objs.size,oC)]++[(s₂.heap.objs.size,zG [] 0)])++Φ:=by simp
  refine sr e (sr e' ?_)
  exact List.Perm.append_right _ List.perm_append_comm
 have r3:=r2.permΦ pm
 have loop:∀ s₃:Shared,s₃={ s₂ with heap:=h₁,toks:=s₂.toks+([]:List (Str×Value)).length }->
   codeAny W.M c.A (.compLoop (.ListComp elt [⟨.Name x px,iter,ifs,0⟩] sc pos) 0 (.ref I) (.ref s₂.heap.objs.size) (compEnvC sc cs H2.objs.size env)) (RR (.ref s₂.heap.objs.size) H2.objs.size) s₃:=by
  rintro s₃ rfl
  exact Va (cenv:=compEnvC sc cs H2.objs.size env) (E':=E) ge gi C v hsc hcs rfl rfl rfl rfl hit r3 hnC h fun oC ys vs k s' σ' m r' hn hv hl hK=>hR _ _ oC ys vs k s' σ' m r' hn hv hl hK
 exact codeAny_compStart_list (loop _ rfl) (Qd hit r3 (loop _ rfl))
end
end
section
noncomputable def Ji (e:PySem.Expr):Prop:=∀ (W:Wd) (lv:Nat) (c:Cx) (n:Nm) (ρ ρe:List (Option V)) (σ:Led) (Φ:List (Addr×Obj)) (env:Env) (cl:List V) (s:Shared) (Q:It->Led->Prop),
 CxOk W lv c->Vw W n c.F ρ Φ env ρe cl->asrc W lv cl ρe (cE n e) σ Q->R0 W.prog W.w c.F ρ σ Φ s->
 (∀ x,foldedSetIterable e env x=pure x)/\wpAny W.M c.A (eval e env) (fun x s₁=>wpAny W.M c.A (pyIter x) (UH W c ρ Φ Q) NoE s₁) NoE s
theorem jD {e:PySem.Expr} (g:Good e) (hf:∀ env x,foldedSetIterable e env x=pure x)
  (hv:∀ (W:Wd) (lv:Nat) (n:Nm) (cl:List V) (ρe:List (Option V)) (σ:Led) (Q:It->Led->Prop),asrc W lv cl ρe (cE n e) σ Q->aev W lv cl ρe (cE n e) σ fun v σ=>Z0 W lv .val [v] σ Q):Ji e:=by
 intro W lv c n ρ ρe σ Φ env cl s Q C v h r
 refine ⟨hf env,zb (g W lv c n ρ ρe σ Φ env cl s _ C v (hv _ _ _ _ _ _ _ h) r) ?_⟩
 rintro u s' ⟨x,σ',z,r',t⟩
 exact t.run c ρ Φ s' [u] C (.cons z .nil) r'
theorem Kg {x:Str} {p:Pos} (g:Good (.Name x p)):Ji (.Name x p):=by
 refine jD g (fun _ _=>rfl) fun W lv n cl ρe σ Q h=>?_
 rw [vP] at h ⊢
 rcases jy n x with ⟨i,q⟩ | ⟨i,q⟩ | ⟨i,q⟩ | q <;> rw [q] at h ⊢
 ·exact h
 ·exact h.elim
 ·exact h.elim
 ·exact h.elim
theorem yN {o:PySem.Expr} {lo hi st:Option PySem.Expr} {q p:Pos} (g:Good (.Subscript o (.Slice lo hi st q) p)):Ji (.Subscript o (.Slice lo hi st q) p):=by
 refine jD g (fun _ _=>rfl) fun W lv n cl ρe σ Q h=>?_
 rw [YL] at h ⊢
 exact h
theorem Kh {o:PySem.Expr} {nm:Str} {ap:Pos} {es:List PySem.Expr} {ks:List Keyword} {p:Pos} (g:Good (.Call (.Attribute o nm ap) es ks p)):Ji (.Call (.Attribute o nm ap) es ks p):=by
 refine jD g (fun _ _=>rfl) fun W lv n cl ρe σ Q h=>?_
 rw [yH] at h ⊢
 split at h
 ·rename_i hh
  refine sr (if_pos hh) ?_
  exact h
 ·exact h.elim
theorem Vb {W:Wd} {lv:Nat} {cl:List V} {ρe:List (Option V)} {σ:Led} {Q:It->Led->Prop} {f:PE} {args:List PE} (h:asrc W lv cl ρe (.call f args) σ Q) :
  (∃ t,f=.const (.ty t)/\aevs W lv cl ρe args σ fun vs σ=>Z0 W lv (.ty t) vs σ Q)\/aev W lv cl ρe (.call f args) σ fun v σ=>Z0 W lv .val [v] σ Q:=by
 cases f with
 | const v=>cases v with
  | ty t=>exact .inl ⟨_,rfl,h⟩
  | _=>exact .inr h
 | _=>exact .inr h
theorem Ki {f:PySem.Expr} {es:List PySem.Expr} {p:Pos} (hn:∀ o nm ap,f≠.Attribute o nm ap) (gf:Good f) (g:∀ e∈es,Good e):Ji (.Call f es [] p):=by
 intro W lv c n ρ ρe σ Φ env cl s Q C v h r
 have e2:=fun n=>yJ (n:=n) (es:=es) (p:=p) (notAttr hn)
 refine ⟨fun _=>rfl,?_⟩
 rw [e2] at h
 split at h
 ·rename_i hs
  rcases Vb h with ⟨t,ht,h⟩ | h
  ·refine sr (QF (notAttr hn)) ?_
   refine wpAny_bind (zb (gf W lv c n ρ ρe σ Φ env cl s (fun x σ'=>x=.ty t/\aevs W lv cl ρe (cEs n es) σ' fun vs σ=>Z0 W lv (.ty t) vs σ Q) C v (by refine sr ht ?_;exact ⟨rfl,h⟩) r) ?_)
   rintro u s' ⟨x,σ',z,r',rfl,t'⟩
   refine VR.ty_e z ?_
   refine callWith_of (P:=fun hh=>∃ k,(k=Keeper.frame\/k=Keeper.machine\/k=Keeper.boundFrame)/\Looks W.M hh (keeperOf (.type t)) k) (by refine sr (Z6 hs) ?_;rfl) (fun hh x=>x)
    (Z8 hs (zb (Z7 g hs W lv c n ρ ρe σ' Φ env cl s' _ p C v t' r') ?_))
   rintro us s2 ⟨xs,σ2,z2,r2,q⟩
   exact ⟨⟨.machine,.inr (.inl rfl),Looks.now⟩,q.run c ρ Φ s2 us C z2 r2⟩
  ·refine zb (Xv hn gf g W lv c n ρ ρe σ Φ env cl s _ C v (by rw [e2,if_pos hs];exact h) r) ?_
   rintro u s' ⟨x,σ',z,r',t⟩
   exact t.run c ρ Φ s' [u] C (.cons z .nil) r'
 ·exact h.elim
theorem Vc {elt src:PySem.Expr} {x:Str} {px:Pos} {ifs:List PySem.Expr} {sc:Scope} {pos:Pos} (ge:Good elt) (gi:∀ e∈ifs,Zt e) (gs:Ji src):Good (.ListComp elt [⟨.Name x px,src,ifs,0⟩] sc pos):=by
 intro W lv c n ρ ρe σ Φ env cl s Q C v h r
 rw [yI] at h
 split at h
 ·rename_i hsc
  refine e02 (gs W lv c n ρ ρe σ Φ env cl s _ C v h r) fun hf hsrc=>?_
  refine e12 (v.closure hsc) fun cs hclos hcs=>?_
  rw [eval_ListComp]
  refine wpAny_comprehension_free (use:=none) (g:=⟨.Name x px,src,ifs,0⟩) (gs:=[]) rfl hf hclos (zz hsc) (fun y m hl=>by exact sr (qx hsc m) (sr hl rfl)) (zb hsrc fun xv s₁ h₁=>zb h₁ ?_)
  rintro itv s₂ ⟨I,it,Ψ,σ',rfl,hit,r',N,hN⟩
  refine YT (RR:=fun acc Ca=>compPost W.M c.A NoE none (Post W c ρ Φ Q) acc Ca) ge gi C v hsc hcs hit r' hN ?_
  intro D Ca oC ys vs k s' σ2 m r2 hn hv hl hK
  refine ⟨m,hn.at r2.headΦ,fun h' sb=>?_⟩
  have r3:=R0.yL (t:=s'.toks) r2 (fun b o hb e=>sb.extBut b o hb e)
  exact ⟨.ref D,_,.ref _,R0.show r3 (.list k hv hl),hK D⟩
 ·exact h.elim
end
section
noncomputable abbrev ZH (x y:Str) (p1 p2 p3 p4 p5:Pos) (src:PySem.Expr) (sc:Scope) (pos:Pos) (x' y':Str):PySem.Expr:=
 .ListComp (.Name y p1) [⟨.Name x p2,src,[],0⟩,⟨.Name y' p3,.Name x' p4,[],0⟩] sc pos
section
variable {prog:Program} {w:World} {A:Around} {E:Value->Shared->Prop} {R:Result->Shared->Prop} {s:Shared}
theorem yO {x y x' y':Str} {p1 p2 p3 p4 p5:Pos} {src:PySem.Expr} {sc:Scope} {pos:Pos} {it acc:Value} {env:Env}
  (h0:codeAny (model prog w) A (.compLoop (ZH x y p1 p2 p3 p4 p5 src sc pos x' y') 1 it acc env) R s)
  (h:wpAny (model prog w) A (pyIter it) (fun it' s'=>codeAny (model prog w) A (.compLoop (ZH x y p1 p2 p3 p4 p5 src sc pos x' y') 1 it' acc env) R s') (notedBy (model prog w) A env fun x s'=>R (.error x) s') s) :
  codeAny (model prog w) A (.compStart (ZH x y p1 p2 p3 p4 p5 src sc pos x' y') 1 it acc env) R s:=by
 refine codeAny_of_tree ?_
 refine (?_:wpAny _ _ ((compStart (ZH x y p1 p2 p3 p4 p5 src sc pos x' y') 1 it acc env).onRaise (fun x=>do noteFrame x env;standAt theWindowsPlace)) _ _ s)
 refine wpAny_notedAt ?_
 refine (?_:wpAny _ _ (ask >>= _) _ _ s)
 refine wpAny_bind (wpAny_askSetting (wpAny_ite ?_))
 split
 ·first
   | exact wpAny_bind (wpAny_pure (wpAny_pure (And.intro rfl h0)))
   | exact wpAny_pure (And.intro rfl h0)
 ·first
   | exact wpAny_bind (wpAny_rule (wpAny_bind (wpAny_standAt (wpAny_bind (wpAny_mono h (fun it' s' h'=>wpAny_pure (And.intro rfl h')) fun _ _ x=>x)))))
   | (refine wpAny_bind (wpAny_rule ?_);exact wpAny_bind (wpAny_standAt (wpAny_bind (wpAny_mono h (fun it' s' h'=>wpAny_pure (And.intro rfl h')) fun _ _ x=>x))))
theorem Kj (x y:Str) (p1 p2 p3 p4 p5:Pos) (src:PySem.Expr) (sc:Scope) (pos:Pos) (x' y':Str) (it acc:Value) (env:Env) :
  compTurn (ZH x y p1 p2 p3 p4 p5 src sc pos x' y') 1 it acc env=(standAt p4 >>= fun _=>pyNext it >>= fun r=>match r with
   | none=>pure (.done .next)
   | some v=>letOwnedTupleGo (.Name y' p3) it v >>= fun _=>assign (.Name y' p3) env v >>= fun _=>
    (eval (.Name y p1) env >>= fun x=>call (.builtin "list.append") [acc,x] >>= fun _=>pure ()) >>= fun _=>
     again (.compLoop (ZH x y p1 p2 p3 p4 p5 src sc pos x' y') 1 it acc env)):=by rfl
theorem Kk (x y:Str) (p1 p2 p3 p4 p5:Pos) (src:PySem.Expr) (sc:Scope) (pos:Pos) (x' y':Str) (it acc:Value) (env:Env) :
  compTurn (ZH x y p1 p2 p3 p4 p5 src sc pos x' y') 0 it acc env=(standAt src.pos >>= fun _=>pyNext it >>= fun r=>match r with
   | none=>pure (.done .next)
   | some v=>letOwnedTupleGo (.Name x p2) it v >>= fun _=>assign (.Name x p2) env v >>= fun _=>
    (eval (.Name x' p4) env >>= fun u=>standAt p4 >>= fun _=>foldedSetIterable (.Name x' p4) env u >>= fun u=>holding [u] (pyIter u) >>= fun it'=>runOwn (.compStart (ZH x y p1 p2 p3 p4 p5 src sc pos x' y') 1 it' acc env) env >>= fun _=>
     again (.compLoop (ZH x y p1 p2 p3 p4 p5 src sc pos x' y') 0 it acc env))):=by rfl
end
section
variable {W:Wd} {lv:Nat}
theorem yP {x y x' y':Str} {p1 p2 p3 p4 p5:Pos} {src:PySem.Expr} {sc:Scope} {pos:Pos} {acc:Value} {env:Env} {R:Result->Shared->Prop} {A:Around} {it:It} {i:Nat} {I:Addr} {Φ Ψ:List (Addr×Obj)} {F:Fm} {ρ:List (Option V)} {σ:Led} {s:Shared}
  (ok:ItOk it i I Ψ) (r:R0 W.prog W.w F ρ σ (Ψ++Φ) s) (h0:codeAny W.M A (.compLoop (ZH x y p1 p2 p3 p4 p5 src sc pos x' y') 1 (.ref I) acc env) R s) :
  codeAny W.M A (.compStart (ZH x y p1 p2 p3 p4 p5 src sc pos x' y') 1 (.ref I) acc env) R s:=yO h0 (Qd ok r h0)
theorem YU {α:Type} {Ψ2 Ψ Φ:List α} (m:List α):(Ψ2++(Ψ++(m++Φ))).Perm (Ψ2++(m++(Ψ++Φ))):=by
 refine List.Perm.append_left _ ?_
 rw [← List.append_assoc,← List.append_assoc]
 exact List.Perm.append_right _ List.perm_append_comm
theorem Kl {x y x' y':Str} {p1 p2 p3 p4 p5:Pos} {src:PySem.Expr} {sc:Scope} {pos:Pos} {c:Cx} {ρ:List (Option V)} {σ₀:Led} {Φ:List (Addr×Obj)} {cenv:Env} {s₀:Shared} (C:CxOk W lv c)
  (hyk:cenv.kindOf y=some .local) (hkf:cenv.scope.kind=.function) (hyd:(y==("__debug__" : Str))=false) (hyy:y'=y)
  {it:It} {N i₀:Nat} {K:List V->Led->Prop} {Ψ:List (Addr×Obj)} {I D:Addr} {oC:Obj} {m₀:Str->Option Value} {ys₀:List V} {vs₀:List Value} {k₀:Nat} (hit:ItOk it i₀ I Ψ)
  (r:R0 W.prog W.w c.F ρ σ₀ (Ψ++([(cenv.locals,oC)]++([(D,zG vs₀ k₀)]++Φ))) s₀) (hn:NsO oC m₀) (hv₀:VRs ys₀ vs₀) (hl₀:ys₀.length<=16777216)
  (h:QC W lv N it i₀ ys₀ σ₀ K) {R:Result->Shared->Prop}
  (hR:∀ oC ys vs k s' σ' m,R0 W.prog W.w c.F ρ σ' ([(cenv.locals,oC)]++([(D,zG vs k)]++Φ)) s'->NsO oC m->VRs ys vs->ys.length<=16777216->K ys σ'->R (.ok .next) s') :
  codeAny W.M c.A (.compLoop (ZH x y p1 p2 p3 p4 p5 src sc pos x' y') 1 (.ref I) (.ref D) cenv) R s₀:=by
 subst hyy
 refine codeAny_loop rfl
  (fun k=>Gz W c ρ Φ it I D cenv.locals fun i ys σ'=>QC W lv k it i ys σ' K) ?_ N
  ⟨i₀,ys₀,vs₀,σ₀,Ψ,m₀,oC,k₀,r,hit,hn,hv₀,hl₀,h⟩
 rintro k s' ⟨i,ys,vs,σ,Ψ',m,oC,kk,r,hit,hn,hv,hlen,h⟩
 cases k with
 | zero=>exact h.elim
 | succ k=>
  refine (?_:wpAny _ c.A ((compTurn (ZH x y' p1 p2 p3 p4 p5 src sc pos x' y') 1 (.ref I) (.ref D) cenv).onRaise (fun x=>do noteFrame x cenv;theTreesLotGoes x)) _ _ s')
  refine wpAny_noted ?_
  rw [Kj]
  refine wpAny_bind (wpAny_standAt (wpAny_bind (zb (h.run c ρ _ Ψ' s' I C hit r) ?_)))
  intro o s₁ hq
  cases o with
  | none=>
   obtain ⟨σ',r',hK⟩:=hq
   exact wpAny_pure (hR oC ys vs kk s₁ σ' m r' hn hv hlen hK)
  | some u=>
   obtain ⟨z,σ',Ψ'',hz,hit',r',hl4,hK⟩:=hq
   refine wpAny_bind (wpAny_pure (wpAny_bind (wpAny_assign_Name (wpAny_storeName_local hyk (hn.at r'.Xz) (fun h₂ hn₂ sb=>?_) (by refine sr hkf ?_;rfl)))))
   refine e12 (NsO.of hn₂) fun oC' gC hnC'=>?_
   have r2:=R0.jA (t:=s₁.toks+1) r' (fun b o hb e=>sb.extBut b o hb e) gC
   refine wpAny_bind (wpAny_bind (wpAny_Name (wpAny_loadName_local hkf hyk (hnC'.at gC) (by simp;rfl) ?_) hyd))
   have assoc:∀ (oC:Obj) (vs:List Value) (kk:Nat),Ψ''++([(cenv.locals,oC)]++([(D,zG vs kk)]++Φ))=(Ψ''++[(cenv.locals,oC)])++([(D,zG vs kk)]++Φ):=fun _ _ _=>(List.append_assoc _ _ _).symm
   rw [assoc] at r2
   have gD:=r2.Xz
   have hvl:=hv.length
   refine wpAny_bind (wpAny_list_append_plain (items:=vs.toArray) ⟨kk,gD⟩ (fun h₅ hp₅ sb₅=>wpAny_pure ?_) (by refine (?_:vs.toArray.size<=2 ^ 24);simp;omega))
   refine e11 hp₅ fun kk' gD'=>?_
   have e:vs.toArray.push u=(vs++[u]).toArray:=by simp
   rw [e] at gD'
   have r5:=R0.jA (t:=s₁.toks+1) r2 (fun b o hb e=>sb₅.extBut b o hb e) gD'
   rw [← assoc] at r5
   exact wpAny_pure ⟨rfl,k,Nat.lt_succ_self _,i+1,ys++[z],vs++[u],σ',Ψ'',_,oC',kk',r5,hit',hnC',hv.append (.cons hz .nil),by simp;omega,hK⟩
theorem JM {x y x' y':Str} {p1 p2 p3 p4 p5:Pos} {src:PySem.Expr} {sc:Scope} {pos:Pos} {c:Cx} {ρ:List (Option V)} {σ₀:Led} {Φ:List (Addr×Obj)} {cenv:Env} {s₀:Shared} (C:CxOk W lv c)
  (hxk:cenv.kindOf x=some .local) (hxd:(x==("__debug__" : Str))=false) (hxx:x'=x) (hyk:cenv.kindOf y=some .local) (hkf:cenv.scope.kind=.function) (hyd:(y==("__debug__" : Str))=false) (hyy:y'=y)
  {it:It} {N:Nat} {K:List V->Led->Prop} {Ψ:List (Addr×Obj)} {I D:Addr} {oC:Obj} {m₀:Str->Option Value} (hit:ItOk it 0 I Ψ)
  (r:R0 W.prog W.w c.F ρ σ₀ (Ψ++([(cenv.locals,oC)]++([(D,zG [] 0)]++Φ))) s₀) (hn:NsO oC m₀) (h:JG W lv N it 0 [] σ₀ K) {R:Result->Shared->Prop}
  (hR:∀ oC ys vs k s' σ' m,R0 W.prog W.w c.F ρ σ' ([(cenv.locals,oC)]++([(D,zG vs k)]++Φ)) s'->NsO oC m->VRs ys vs->ys.length<=16777216->K ys σ'->R (.ok .next) s') :
  codeAny W.M c.A (.compLoop (ZH x y p1 p2 p3 p4 p5 src sc pos x' y') 0 (.ref I) (.ref D) cenv) R s₀:=by
 subst hxx
 refine codeAny_loop rfl
  (fun k=>Gz W c ρ Φ it I D cenv.locals fun i ys σ'=>JG W lv k it i ys σ' K) ?_ N
  ⟨0,[],[],σ₀,Ψ,m₀,oC,0,r,hit,hn,.nil,by simp,h⟩
 rintro k s' ⟨i,ys,vs,σ,Ψ',m,oC,kk,r,hit,hn,hv,hlen,h⟩
 cases k with
 | zero=>exact h.elim
 | succ k=>
  refine (?_:wpAny _ c.A ((compTurn (ZH x' y p1 p2 p3 p4 p5 src sc pos x' y') 0 (.ref I) (.ref D) cenv).onRaise (fun x=>do noteFrame x cenv;theTreesLotGoes x)) _ _ s')
  refine wpAny_noted ?_
  rw [Kk]
  refine wpAny_bind (wpAny_standAt (wpAny_bind (zb (h.run c ρ _ Ψ' s' I C hit r) ?_)))
  intro o s₁ hq
  cases o with
  | none=>
   obtain ⟨σ',r',hK⟩:=hq
   exact wpAny_pure (hR oC ys vs kk s₁ σ' m r' hn hv hlen hK)
  | some u=>
   obtain ⟨z,σ',Ψ'',hz,hit',r',hK⟩:=hq
   refine wpAny_bind (wpAny_pure (wpAny_bind (wpAny_assign_Name (wpAny_storeName_local hxk (hn.at r'.Xz) (fun h₂ hn₂ sb=>?_) (by refine sr hkf ?_;rfl)))))
   refine e12 (NsO.of hn₂) fun oC' gC hnC'=>?_
   have r2:=R0.jA (t:=s₁.toks+1) r' (fun b o hb e=>sb.extBut b o hb e) gC
   refine wpAny_bind (wpAny_Name (wpAny_loadName_local hkf hxk (hnC'.at gC) (by simp;rfl) (wpAny_bind (wpAny_standAt (wpAny_bind (wpAny_pure (wpAny_bind (wpAny_holding ?_))))))) hxd)
   refine zb (hK.run c ρ _ _ [u] C (.cons hz .nil) r2) ?_
   rintro itv s₃ ⟨J,it2,Ψ2,σ3,rfl,hit2,r3,N2,hK2⟩
   have r4:=r3.permΦ (YU (List.cons _ [_]))
   refine wpAny_bind (wpAny_runOwn ?_ )
   rw [Around.mark_none]
   refine yP hit2 r4 (Kl C hyk hkf hyd hyy hit2 r4 hnC' hv hlen hK2 ?_)
   intro oC5 ys5 vs5 k5 s5 σ5 m5 r5 hn5 hv5 hl5 hK5
   exact wpAny_pure ⟨rfl,k,Nat.lt_succ_self _,i+1,ys5,vs5,σ5,Ψ'',m5,oC5,k5,r5.permΦ (YU (Ψ2:=[]) [(cenv.locals,oC5),(D,zG vs5 k5)]).symm,hit',hn5,hv5,hl5,hK5⟩
end
end
section
theorem Vd {x y x' y':Str} {p1 p2 p3 p4:Pos} {src:PySem.Expr} {sc:Scope} {pos:Pos} (gs:Ji src):Good (.ListComp (.Name y p1) [⟨.Name x p2,src,[],0⟩,⟨.Name y' p3,.Name x' p4,[],0⟩] sc pos):=by
 intro W lv c n ρ ρe σ Φ env cl s Q C v h r
 rw [J4] at h
 split at h
 ·rename_i hh
  simp only [Bool.and_eq_true,beq_iff_eq,bne_iff_ne] at hh
  obtain ⟨⟨⟨⟨hsc,hx⟩,hy⟩,hxd⟩,hyd⟩:=hh
  refine e02 (gs W lv c n ρ ρe σ Φ env cl s _ C v h r) fun hf hsrc=>?_
  refine e12 (v.closure hsc) fun cs hclos hcs=>?_
  rw [arm_eval_ListComp]
  refine wpAny_comprehension_free (use:=none) (g:=⟨.Name x p2,src,[],0⟩) (gs:=[⟨.Name y' p3,.Name x' p4,[],0⟩]) rfl hf hclos (zz hsc) (fun y m hl=>by exact sr (qx hsc m) (sr hl rfl)) (zb hsrc fun xv s₁ h₁=>zb h₁ ?_)
  rintro itv s₂ ⟨I,it,Ψ,σ',rfl,hit,r',N,hN⟩
  have hcell:∀ y∈sc.names,y.2≠.cell:=fun y m e=>by
   rcases Zj hsc m with q | q | q
   ·rw [e] at q;exact nomatch q
   ·rw [e] at q;exact nomatch q
   ·rw [e] at q;exact nomatch q.1
  refine wpAny_newObj_type (wpAny_newFunctionEnv hcell (by intro y hy;simp at hy) (fun h₁ hns₁ hsb₁=>?_) (zz hsc))
  dsimp only at hns₁ hsb₁ ⊢
  have r1:R0 W.prog W.w c.F ρ σ' ([(s₂.heap.objs.size,zG [] 0)]++(Ψ++Φ)) { s₂ with heap:=s₂.heap.push (zG [] 0),toks:=s₂.toks }:=R0.new1 r' rfl
  generalize hH2:s₂.heap.push { cls:=.type "list",dict:=none,data:=.seq ([]:List Value).toArray }=H2 at hns₁ hsb₁ ⊢
  have hH2':s₂.heap.push (zG [] 0)=H2:=hH2
  rw [hH2'] at r1
  refine e12 (NsO.of hns₁) fun oC gC hnC=>?_
  have keep:∀ b o,H2.get? b=some o->h₁.get? b=some o:=fun b o e=>hsb₁.extBut b o (Nat.ne_of_lt (Heap.lt_size e)) (Heap.get?_push_of_some _ e)
  have r2:=R0.moreΦ (t:=s₂.toks) (Ψ:=[(H2.objs.size,oC)]) r1 keep (fun p hp=>by
   simp only [List.mem_cons,List.mem_nil_iff,or_false] at hp
   refine sr hp ?_
   exact ⟨gC,Nat.le_refl _⟩) (by simp)
  have pm:([(H2.objs.size,oC)]++([(s₂.heap.objs.size,zG [] 0)]++(Ψ++Φ))).Perm (Ψ++([(H2.objs.size,oC)]++([(s₂.heap.objs.size,zG [] 0)]++Φ))):=by
   have e:([(H2.objs.size,oC)]++([(s₂.heap.objs.size,zG [] 0)]++(Ψ++Φ)))=([(H2.objs.size,oC)]++[(s₂.heap.objs.size,zG [] 0)])++Ψ++Φ:=by simp
   have e':(Ψ++([(H2.objs.size,oC)]++([(s₂.heap.objs.size,zG [] 0)]++Φ)))=Ψ++([(H2.objs.size,oC)]++[(s₂.heap.objs.size,zG [] 0)])++Φ:=by simp
   refine sr e (sr e' ?_)
   exact List.Perm.append_right _ List.perm_append_comm
  have r3:=r2.permΦ pm
  have kk:∀ z∈[x,y],(relabel sc env).names.lookup z=some .local:=fun z m=>by refine sr (zO (jC hsc m)) ?_;rfl
  have loop:∀ s₃:Shared,s₃={ s₂ with heap:=h₁,toks:=s₂.toks+([]:List (Str×Value)).length }->
    codeAny W.M c.A (.compLoop (ZH x y p1 p2 p3 p4 p4 src sc pos x' y') 0 (.ref I) (.ref s₂.heap.objs.size) (compEnvC sc cs H2.objs.size env)) (compPost W.M c.A NoE none (Post W c ρ Φ Q) (.ref s₂.heap.objs.size) H2.objs.size) s₃:=by
   rintro s₃ rfl
   refine JM (cenv:=compEnvC sc cs H2.objs.size env) C (kk x (.head _)) (by simpa using hxd) hx.symm (kk y (.tail _ (.head _))) (by refine (?_:sc.kind=_);exact zz hsc) (by simpa using hyd) hy.symm hit r3 hnC hN ?_
   intro oC ys vs k s' σ2 m r2 hn hv hl hK
   refine ⟨m,hn.at r2.headΦ,fun h' sb=>?_⟩
   have r3:=R0.yL (t:=s'.toks) r2 (fun b o hb e=>sb.extBut b o hb e)
   exact ⟨.ref _,_,.ref _,R0.show r3 (.list k hv hl),hK _⟩
  exact codeAny_compStart_list (loop _ rfl) (Qd hit r3 (loop _ rfl))
 ·exact h.elim
theorem Km {x:Str} {p:Pos} (g:Good (.Name x p)):Zt (.Name x p):=by
 refine Qa g (fun W lv n cl ρe σ Q h=>?_) fun _ _=>rfl
 rw [vP] at h ⊢
 rcases jy n x with ⟨i,q⟩ | ⟨i,q⟩ | ⟨i,q⟩ | q <;> rw [q] at h ⊢
 ·exact h
 ·exact h
 ·exact h
 ·exact h.elim
theorem Jj (k:Const) (j:Nat) (p:Pos):Zt (.Constant k j p):=by
 refine Qa (Qc k j p) (fun W lv n cl ρe σ Q h=>?_) fun _ _=>rfl
 rw [jx] at h ⊢
 cases hk:YF k with
 | none=>rw [hk] at h;exact h.elim
 | some v=>rw [hk] at h;exact h
theorem jE {o:PySem.Expr} {nm:Str} {p:Pos} (g:Good (.Attribute o nm p)):Zt (.Attribute o nm p):=by
 refine Qa g (fun W lv n cl ρe σ Q h=>?_) fun _ _=>rfl
 rw [Z5] at h ⊢
 split at h
 ·rename_i hh
  refine sr (if_pos hh) ?_
  exact h
 ·exact h.elim
theorem Kn {f:PySem.Expr} {es:List PySem.Expr} {p:Pos} (hn:∀ o nm ap,f≠.Attribute o nm ap) (g:Good (.Call f es [] p)):Zt (.Call f es [] p):=by
 refine Qa g (fun W lv n cl ρe σ Q h=>?_) fun _ _=>rfl
 rw [yJ (notAttr hn)] at h ⊢
 split at h
 ·rename_i hh
  refine sr (if_pos hh) ?_
  exact h
 ·exact h.elim
theorem good_none {e:PySem.Expr} (h:∀ n,cE n e=.bad):Good e:=by
 intro W lv c n ρ ρe σ Φ env cl s Q C v hh r
 rw [h] at hh;exact hh.elim
theorem qy {e:PySem.Expr} (h:∀ W lv cl ρ n σ Q,¬ ait W lv cl ρ (cE n e) σ Q):Zt e:=by
 intro W lv c n ρ ρe σ Φ env cl s Q C v hh r
 exact (h _ _ _ _ _ _ _ hh).elim
theorem zW {e:PySem.Expr} (h:∀ W lv cl ρ n σ Q,¬ asrc W lv cl ρ (cE n e) σ Q):Ji e:=by
 intro W lv c n ρ ρe σ Φ env cl s Q C v hh r
 exact (h _ _ _ _ _ _ _ hh).elim
end
section
noncomputable abbrev G3 (e:PySem.Expr):Prop:=Good e/\Zt e/\Ji e
theorem G3.none {e:PySem.Expr} (h:∀ n,cE n e=.bad):G3 e:=
 ⟨good_none h,qy fun W lv cl ρ n σ Q x=>by rw [h] at x;exact x.elim,zW fun W lv cl ρ n σ Q x=>by rw [h] at x;exact x.elim⟩
theorem G3.val {e:PySem.Expr} (g:Good e) (ht:∀ W lv cl ρ n σ Q,¬ ait W lv cl ρ (cE n e) σ Q) (hs:∀ W lv cl ρ n σ Q,¬ asrc W lv cl ρ (cE n e) σ Q):G3 e:=⟨g,qy ht,zW hs⟩
theorem Vf {o:Option PE} {W:Wd} {lv:Nat} {cl:List V} {ρ:List (Option V)} {σ:Led} {Q:It->Led->Prop} (h:∀ x,o=some x->¬ asrc W lv cl ρ x σ Q):¬ asrc W lv cl ρ (qN o) σ Q:=fun x=>by
 cases o with
 | none=>exact x
 | some y=>exact h y rfl x
theorem yQ {c:Const} {j:Nat} {p:Pos}:G3 (.Constant c j p):=
 ⟨Qc c j p,Jj c j p,zW fun W lv cl ρ n σ Q=>Vf fun x h=>by
  refine e12 (Option.map_eq_some_iff.mp h) fun v _ w0=>?_;subst w0
  exact id⟩
theorem G3.ite {e:PySem.Expr} (g:Good e) (b:Nm->Bool) (x:Nm->PE) (hc:∀ n,cE n e=if b n then x n else .bad) (ht:∀ W lv cl ρ n σ Q,¬ ait W lv cl ρ (x n) σ Q) (hs:∀ W lv cl ρ n σ Q,¬ asrc W lv cl ρ (x n) σ Q):G3 e:=
 G3.val g (fun W lv cl ρ n σ Q h=>by
  rw [hc] at h
  split at h
  ·exact ht _ _ _ _ _ _ _ h
  ·exact h) (fun W lv cl ρ n σ Q h=>by
  rw [hc] at h
  split at h
  ·exact hs _ _ _ _ _ _ _ h
  ·exact h)
theorem Ko {l:PySem.Expr} {ops:List CmpOp} {rs:List PySem.Expr} {p:Pos} (hl:G3 l) (hr:∀ r∈rs,G3 r):G3 (.Compare l ops rs p):=by
 match ops,rs with
 | [op],[r]=>
  refine ⟨Xu hl.1 (hr r (.head _)).1,J7 hl.1 (hr r (.head _)).1,zW fun W lv cl ρ n σ Q x=>?_⟩
  rw [QD] at x
  split at x <;> exact False.elim x
 | [],_=>exact G3.none fun n=>rfl
 | _::_::_,_=>exact G3.none fun n=>rfl
 | [_],[]=>exact G3.none fun n=>rfl
 | [_],_::_::_=>exact G3.none fun n=>rfl
theorem XA {o:PySem.Expr} {nm:Str} {p:Pos} (ho:Good o):G3 (.Attribute o nm p):=by
 have g:=Jg (nm:=nm) (p:=p) ho
 refine ⟨g,jE g,zW fun W lv cl ρ n σ Q x=>?_⟩
 rw [Z5] at x
 split at x <;> exact False.elim x
theorem GA {o i:PySem.Expr} {p:Pos} (hn:∀ lo hi st q,i≠.Slice lo hi st q) (ho:Good o) (hi:Good i):G3 (.Subscript o i p):=by
 have e2:∀ n,cE n (.Subscript o i p)=.item (cE n o) (cE n i):=fun n=>by
  cases i <;> first | rfl | exact absurd rfl (hn _ _ _ _)
 exact G3.val (Jh hn ho hi) (fun W lv cl ρ n σ Q x=>by rw [e2] at x;exact x.elim) (fun W lv cl ρ n σ Q x=>by rw [e2] at x;exact x.elim)
theorem UN {o:PySem.Expr} {lo hi st:Option PySem.Expr} {q p:Pos} (ho:Good o) (hl:∀ e,lo=some e->Good e) (hh:∀ e,hi=some e->Good e) (hs:∀ e,st=some e->Good e):G3 (.Subscript o (.Slice lo hi st q) p):=
 have g:=Kf (q:=q) (p:=p) ho hl hh hs
 ⟨g,qy fun W lv cl ρ n σ Q x=>False.elim x,yN g⟩
theorem GB {o:PySem.Expr} {nm:Str} {ap:Pos} {es:List PySem.Expr} {ks:List Keyword} {p:Pos} (ho:Good o) (ges:∀ e∈es,Good e):G3 (.Call (.Attribute o nm ap) es ks p):=by
 have g:=vY (nm:=nm) (ap:=ap) (p:=p) (ks:=ks) ho ges
 refine ⟨g,qy fun W lv cl ρ n σ Q x=>?_,Kh g⟩
 rw [yH] at x
 split at x <;> exact False.elim x
theorem GC {f:PySem.Expr} {es:List PySem.Expr} {ks:List Keyword} {p:Pos} (hn:∀ o nm ap,f≠.Attribute o nm ap) (gf:Good f) (ges:∀ e∈es,Good e) (gks:∀ q∈ks,Good q.value):G3 (.Call f es ks p):=by
 match ks,es with
 | [],es=>
  have g:=Xv (p:=p) hn gf ges
  exact ⟨g,Kn hn g,Ki hn gf ges⟩
 | k::ks,e₁::es=>
  refine G3.val (Gy hn gf ges gks) (fun W lv cl ρ n σ Q x=>?_) (fun W lv cl ρ n σ Q x=>?_) <;>
  ·rw [J5 (notAttr hn)] at x
   cases hs:noStar (e₁::es) with
   | false=>rw [hs] at x;exact False.elim x
   | true=>
    rw [hs] at x
    cases hk:ZE (k::ks) with
    | none=>rw [hk] at x;exact False.elim x
    | some ns=>rw [hk] at x;exact False.elim x
 | k::ks,[]=>
  have e2:∀ n,cE n (.Call f [] (k::ks) p)=.bad:=fun n=>by
   refine sr (J5 (notAttr hn)) ?_
   cases ZE (k::ks) <;> rfl
  exact G3.none e2
theorem GD {elt:PySem.Expr} {gens:List Comprehension} {sc:Scope} {p:Pos} (he:G3 elt) (hg:∀ g∈gens,G3 g.iter/\∀ e∈g.ifs,G3 e):G3 (.ListComp elt gens sc p):=by
 refine oe (Classical.em (∀ n,cE n (.ListComp elt gens sc p)=.bad)) (fun q=>?_) fun q=>?_
 ·exact G3.none q
 refine e11 (Classical.not_forall.mp q) fun n hn=>?_
 rcases JI (elt:=elt) (gens:=gens) (sc:=sc) (p:=p) n with ⟨_,_,_,x,px,src,ifs⟩ | ⟨_,_,y,p1,x,p2,src,y',p3,x',p4⟩ | ⟨_,_,_,_,a⟩
 ·have h:=hg _ (.head _)
  exact G3.ite (Vc he.1 (fun e m=>(h.2 e m).2.1) h.1.2.2) _ _ (fun n=>yI) (fun _ _ _ _ _ _ _ x=>x) (fun _ _ _ _ _ _ _ x=>x)
 ·exact G3.ite (Vd (hg _ (.head _)).1.2.2) _ _ (fun n=>J4) (fun _ _ _ _ _ _ _ x=>x) (fun _ _ _ _ _ _ _ x=>x)
 ·exact absurd a hn
mutual
theorem zP:(e:PySem.Expr)->G3 e
 | .Constant c j p=>yQ
 | .Name x p=>have g:Good (.Name x p):=fun W lv c n ρ ρe σ Φ env cl s Q C v h r=>vU C v h r
  ⟨g,Km g,Kg g⟩
 | .BoolOp op es p=>⟨vW fun e m=>(qe es e m).1,Kb fun e m=>(qe es e m).2.1,zW fun W lv cl ρ n σ Q x=>False.elim x⟩
 | .BinOp l op r p=>G3.val (k9 (zP l).1 (zP r).1) (fun W lv cl ρ n σ Q x=>False.elim x) (fun W lv cl ρ n σ Q x=>False.elim x)
 | .UnaryOp .Not e p=>⟨UM,vV (zP e).2.1,zW fun W lv cl ρ n σ Q x=>False.elim x⟩
 | .UnaryOp .USub e p=>G3.val (UL (zP e).1) (fun W lv cl ρ n σ Q x=>False.elim x) (fun W lv cl ρ n σ Q x=>False.elim x)
 | .UnaryOp .UAdd e p=>G3.none fun n=>rfl
 | .UnaryOp .Invert e p=>G3.none fun n=>rfl
 | .IfExp t a b p=>⟨Ka (zP t).2.1 (zP a).1 (zP b).1,yK (zP t).2.1 (zP a).2.1 (zP b).2.1,zW fun W lv cl ρ n σ Q x=>False.elim x⟩
 | .Compare l ops rs p=>Ko (zP l) (qe rs)
 | .List es p=>G3.ite (vX fun e m=>(qe es e m).1) _ _ (fun n=>vQ) (fun _ _ _ _ _ _ _ x=>x) (fun _ _ _ _ _ _ _ x=>x)
 | .Tuple es j p=>G3.ite (Kc fun e m=>(qe es e m).1) _ _ (fun n=>YM) (fun _ _ _ _ _ _ _ x=>x) (fun _ _ _ _ _ _ _ x=>x)
 | .Dict [] [] p=>G3.val Kd (fun W lv cl ρ n σ Q x=>False.elim x) (fun W lv cl ρ n σ Q x=>False.elim x)
 | .Dict (_::_) _ p=>G3.none fun n=>rfl
 | .Dict [] (_::_) p=>G3.none fun n=>rfl
 | .Attribute o nm p=>XA (zP o).1
 | .Subscript o i p=>by
  have ho:=(zP o).1
  have hi:=(zP i).1
  cases i with
  | Slice lo up st q=>exact UN ho (fun e he=>(yR lo e he).1) (fun e he=>(yR up e he).1) (fun e he=>(yR st e he).1)
  | _=>exact GA (fun _ _ _ _ e=>nomatch e) ho hi
 | .Call f es ks p=>by
  have gf:=(zP f).1
  have ges:∀ e∈es,Good e:=fun e m=>(qe es e m).1
  have gks:∀ q∈ks,Good q.value:=fun q m=>(Vg ks q m).1
  cases f with
  | Attribute o nm ap=>exact GB (zP o).1 ges
  | _=>exact GC (fun _ _ _ e=>nomatch e) gf ges gks
 | .ListComp elt gens sc p=>GD (zP elt) (Vh gens)
 | .NamedExpr .. | .Lambda .. | .Set .. | .SetComp .. | .DictComp .. | .GeneratorExp .. | .Await .. | .Yield .. | .YieldFrom .. | .FormattedValue .. | .JoinedStr .. | .Starred .. | .Slice ..=>G3.none fun n=>rfl
termination_by structural e=>e
theorem qe:(es:List PySem.Expr)->∀ e∈es,G3 e
 | [],_,m=>nomatch m
 | e::r,e',m=>(List.mem_cons.mp m).elim (fun h=>h ▸ zP e) (qe r e')
termination_by structural es=>es
theorem yR:(o:Option PySem.Expr)->∀ e,o=some e->G3 e
 | none,_,h=>nomatch h
 | some e,e',h=>Option.some.inj h ▸ zP e
termination_by structural o=>o
theorem Vg:(ks:List Keyword)->∀ k∈ks,G3 k.value
 | [],_,m=>nomatch m
 | ⟨_,v,_⟩::r,k',m=>(List.mem_cons.mp m).elim (fun h=>h ▸ zP v) (Vg r k')
termination_by structural ks=>ks
theorem Vh:(gs:List Comprehension)->∀ g∈gs,G3 g.iter/\∀ e∈g.ifs,G3 e
 | [],_,m=>nomatch m
 | ⟨_,it,ifs,_⟩::r,g',m=>(List.mem_cons.mp m).elim (fun h=>h ▸ ⟨zP it,qe ifs⟩) (Vh r g')
termination_by structural gs=>gs
end
theorem Zk (e:PySem.Expr):Good e:=(zP e).1
theorem YV (e:PySem.Expr):Zt e:=(zP e).2.1
theorem Vi (e:PySem.Expr):Ji e:=(zP e).2.2
end
section
theorem Vj {e:PySem.Expr} {ts:List PySem.Expr} (h:tupE e=some ts):∃ k p,e=.Tuple ts k p:=by
 by_cases k:e.ctorIdx=25
 ·exact PySem.Expr.Tuple.elim (motive_1:=fun e=>tupE e=some ts->∃ k p,e=.Tuple ts k p) e k (fun ts k p h=>⟨k,p,by cases h;rfl⟩) h
 ·cases (dif_neg k).symm.trans h
theorem YW {e:PySem.Expr} (h:tupE e=none):e.ctorIdx≠25:=fun k=>
 PySem.Expr.Tuple.elim (motive_1:=fun e=>tupE e=none->False) e k (fun _ _ _ h=>by exact nn2 h) h
noncomputable def zbp (env:Env) (ts vs:List PySem.Expr):Sem (Option (List Str)):=do
 if !(ts.length==2 || ts.length==3) || vs.length != ts.length || env.blockKind != .function then return none
 if vs.any isStarred then return none
 let line:=(ts.head?.map (·.pos.line)).getD 0
 let names:=ts.filterMap (Xl env.scope.names line)
 if names.length != ts.length || names.eraseDups.length != names.length then return none
 if vs.all (foldedForSure 8) then return none
 if vs.all (constantsAlone 8) then unsupported "assign.tuple-of-constant-expressions:order-of-the-stores"
 return some names
theorem XB {c:Prop} [Decidable c] {a b:Option (Option (List Str))} {x y:Sem (Option (List Str))} {r:Option (List Str)} (h1:a=some r->x=pure r) (h2:b=some r->y=pure r) (h:(if c then a else b)=some r):(if c then x else y)=pure r:=by
 by_cases q:c
 ·rw [if_pos q] at h ⊢;exact h1 h
 ·rw [if_neg q] at h ⊢;exact h2 h
theorem UP {r:Option (List Str)} (h:(some none:Option (Option (List Str)))=some r):(pure none:Sem (Option (List Str)))=pure r:=by cases h;rfl
theorem UQ {env:Env} (hk:env.scope.kind=.function) {ts vs:List PySem.Expr} {r:Option (List Str)} (h:YG env.scope.names ts vs=some r):zbp env ts vs=pure r:=by
 have hb:(env.blockKind != .function)=false:=by
  unfold Env.blockKind;refine sr hk ?_;rfl
 unfold zbp
 rw [hb,Bool.or_false]
 exact XB UP (XB UP (XB UP (XB UP (XB (fun h=>by exact nn1 h) fun h=>by cases h;rfl)))) h
theorem XC {t v:PySem.Expr} {env:Env}:swappedStores [t] v env=pure none\/(v.ctorIdx=25/\(t.ctorIdx=25\/t.ctorIdx=24)):=by
 cases t <;> first | exact .inl rfl | (cases v <;> first | exact .inl rfl | exact .inr ⟨rfl,.inl rfl⟩ | exact .inr ⟨rfl,.inr rfl⟩)
theorem J9 {env:Env} (hk:env.scope.kind=.function) {targets:List PySem.Expr} {value:PySem.Expr} {r:Option (List Str)} (h:JX env.scope.names targets value=some r):swappedStores targets value env=pure r:=by
 match targets with
 | []=>cases h;rfl
 | [t]=>
  cases hv:tupE value with
  | none=>
   cases (congrArg (fun z=>(match z with
    | none=>some none
    | some vs=>(match tupE t with
     | some ts=>YG env.scope.names ts vs
     | none=>if t.ctorIdx=24 then none else some none):Option (Option (List Str)))) hv).symm.trans h
   exact XC.elim id fun q=>absurd q.1 (YW hv)
  | some vs=>
   refine e21 (Vj hv) fun k p w0=>?_;subst w0
   cases ht:tupE t with
   | some ts=>
    refine e21 (Vj ht) fun k2 p2 w0=>?_;subst w0
    exact UQ hk h
   | none=>
    change (match tupE t with
     | some ts=>YG env.scope.names ts vs
     | none=>if t.ctorIdx=24 then none else some none)=some r at h
    rw [ht] at h
    dsimp only at h
    by_cases q:t.ctorIdx=24
    ·rw [if_pos q] at h;exact nn1 h
    ·rw [if_neg q] at h
     cases h
     exact XC.elim id fun z=>z.2.elim (fun z=>absurd z (YW ht)) fun z=>absurd z q
 | t::t2::r=>cases h;cases t <;> first | rfl | (cases value <;> rfl)
theorem Qe {env:Env} (hk:env.scope.kind=.function) {targets:List PySem.Expr} {value:PySem.Expr} {line:Nat}:swapsWithSole targets value line env=pure (Ze env.scope.names targets value):=by
 have hb:(env.blockKind==.function)=true:=by
  unfold Env.blockKind;refine sr hk ?_;rfl
 match targets with
 | []=>
  have e:Ze env.scope.names [] value=false:=by unfold Ze;cases JY value <;> rfl
  refine sr e ?_;rfl
 | t::t2::r=>
  have e:Ze env.scope.names (t::t2::r) value=false:=by unfold Ze;cases JY value <;> rfl
  refine sr e ?_;rfl
 | [t]=>
  have key:∀ (s:Scope) (l:Nat) (x:Str) (pos:Pos),(pure (env.blockKind==ScopeKind.function&&env.kindOf x==some NameKind.local&&pos.line==l && !(s.names.any fun (n,k)=>n==x&&(k==NameKind.local || k==NameKind.cell))):Sem Bool)=pure (vt env.scope.names l s (.Name x pos)):=fun s l x pos=>by
   rw [hb,Bool.true_and];rfl
  have hL:∀ (a:PySem.Expr) (g:List Comprehension) (s:Scope) (p:Pos),swapsWithSole [t] (.ListComp a g s p) line env=pure (vt env.scope.names p.line s t):=fun a g s p=>by
   cases t with
   | Name x pos=>exact key s _ x pos
   | _=>rfl
  cases value with
  | ListComp a g s p=>exact hL a g s p
  | SetComp a g s p=>exact hL a g s p
  | DictComp a a2 g s p=>exact hL a g s p
  | _=>rfl
theorem Vk {e:PySem.Expr} (h:vx e=true):∃ x k q,e=.Constant (.str x) k q:=by
 by_cases k:e.ctorIdx=19
 ·refine PySem.Expr.Constant.elim (motive_1:=fun e=>vx e=true->∃ x k q,e=.Constant (.str x) k q) e k (fun c k q h=>?_) h
  cases c with
  | str x=>exact ⟨x,k,q,rfl⟩
  | _=>exact nn3 h
 ·cases (dif_neg k).symm.trans h
theorem UR {P:PySem.Expr->Prop} {e:PySem.Expr} {k:PySem.Expr->Str->Pos->Bool} (h:Gp e k=true) (q:∀ o m a,k o m a=true->P (.Attribute o m a)):P e:=by
 by_cases c:e.ctorIdx=20
 ·exact PySem.Expr.Attribute.elim (motive_1:=fun e=>Gp e k=true->P e) e c q h
 ·cases (dif_neg c).symm.trans h
theorem US {P:PySem.Expr->Prop} {e:PySem.Expr} {k:PySem.Expr->List PySem.Expr->List Keyword->Pos->Bool} (h:Gq e k=true) (q:∀ f as ks c,k f as ks c=true->P (.Call f as ks c)):P e:=by
 by_cases c:e.ctorIdx=16
 ·exact PySem.Expr.Call.elim (motive_1:=fun e=>Gq e k=true->P e) e c q h
 ·cases (dif_neg c).symm.trans h
theorem UT {P:Stmt->Prop} {s:Stmt} {k:PySem.Expr->Bool} (h:Gr s k=true) (q:∀ e p,k e=true->P (.Expr e p)):P s:=by
 by_cases c:s.ctorIdx=24
 ·exact Stmt.Expr.elim (motive_2:=fun s=>Gr s k=true->P s) s c q h
 ·cases (dif_neg c).symm.trans h
theorem yS {α:Type} {P:List α->Prop} {l:List α} {k:α->Bool} (h:oneB l k=true) (q:∀ a,k a=true->P [a]):P l:=by
 cases l with
 | nil=>exact nn3 h
 | cons a r=>cases r with
  | nil=>exact q a h
  | cons _ _=>exact nn3 h
theorem xa {P:PySem.Expr->Prop} {e:PySem.Expr} {x:Str} (h:decide (Zs e=some x)=true) (q:∀ p,P (.Name x p)):P e:=(Zf (of_decide_eq_true h)).elim fun p z=>z ▸ q p
inductive jF (l m x:Str):List Stmt->Prop
 | mk (p1 p2 p3 p4 p5:Pos) (h:(p2.endLine==p4.line)=true):jF l m x [.Expr (.Call (.Attribute (.Name l p1) m p2) [.Name x p3] [] p4) p5]
theorem YX {b:List Stmt} {l m x:Str} (h:vz b l m x=true):jF l m x b:=
 yS h fun _ h=>UT (P:=fun s=>jF l m x [s]) h fun _ p5 h=>US (P:=fun e=>jF l m x [.Expr e p5]) h fun f _ ks c h=>yS (P:=fun as=>jF l m x [.Expr (.Call f as ks c) p5]) h fun y h=>
  UR (P:=fun f=>jF l m x [.Expr (.Call f [y] ks c) p5]) h fun o m' a h=>and5 h fun h1 h2 h3 h4 h5=>xa (P:=fun o=>jF l m x [.Expr (.Call (.Attribute o m' a) [y] ks c) p5]) h1 fun p1=>
   xa (P:=fun y=>jF l m x [.Expr (.Call (.Attribute (.Name l p1) m' a) [y] ks c) p5]) h3 fun p3=>eq_of_beq h2 ▸ List.isEmpty_iff.mp h4 ▸ .mk p1 a p3 c p5 h5
theorem UU {P:List ExceptHandler->Prop} {hs:List ExceptHandler} {v:Str} {q:List Stmt->Bool} (h:Gs hs v q=true) (k:∀ p6 b p12,q b=true->P [.ExceptHandler (some (.Name v p6)) none b p12]):P hs:=
 yS h fun a h=>by
  obtain ⟨ty,nm,b,p⟩:=a
  cases ty with
  | none=>exact nn3 h
  | some t=>cases nm with
   | some _=>exact nn3 h
   | none=>exact and2 h fun h1 h2=>xa (P:=fun t=>P [.ExceptHandler (some t) none b p]) h1 fun p6=>k p6 b p h2
section
variable {n:Nm}
theorem GF {e:PySem.Expr} {p:Pos}:cS n (.Expr e p)=vy n e:=rfl
theorem Vl {e:PySem.Expr} {p:Pos}:cS n (.Return (some e) p)=.ret (cE n e):=rfl
theorem Vm {ts:List PySem.Expr} {e:PySem.Expr} {p:Pos}:cS n (.Assign ts e p)=JZ n ts e:=rfl
theorem Kp {x:Str} {q p:Pos} {op:Operator} {e:PySem.Expr}:cS n (.AugAssign (.Name x q) op e p)=(match idx n x with
  | some i=>.augL i op (cE n e)
  | none=>.bad):=rfl
theorem Kq {o:PySem.Expr} {nm:Str} {q p:Pos} {op:Operator} {e:PySem.Expr}:cS n (.AugAssign (.Attribute o nm q) op e p)=.augA (cE n o) nm op (cE n e):=rfl
theorem Vn {o i:PySem.Expr} {q p:Pos} {op:Operator} {e:PySem.Expr}:cS n (.AugAssign (.Subscript o i q) op e p)=if isSlice i then .bad else .augS (cE n o) (cE n i) op (cE n e):=rfl
theorem zcu {t:PySem.Expr} {a b:List Stmt} {p:Pos}:cS n (.If t a b p)=.ite (cE n t) (cSs n a) (cSs n b):=rfl
theorem UW {t:PySem.Expr} {b:List Stmt} {p:Pos}:cS n (.While t b [] p)=.whil (cE n t) (cSs n b):=rfl
theorem zbq {t it:PySem.Expr} {b:List Stmt} {p:Pos}:cS n (.For t it b [] p)=if Xm t then .forr (cT n t) (cE n it) (cSs n b) else .bad:=rfl
theorem zbr {b:List Stmt} {hs:List ExceptHandler} {p:Pos}:cS n (.Try b hs [] [] p)=Gu n b hs:=rfl
theorem YY {e:Option PySem.Expr} {cs:Option PySem.Expr} {p:Pos}:cS n (.Raise e cs p)=.bad\/(cS n (.Raise e cs p)=.raiseStop/\∃ x q,e=some (.Name x q)/\cs=none/\(x==("StopIteration" : Str))=true):=by
 cases e with
 | none=>exact .inl rfl
 | some e=>
  cases cs with
  | some _=>exact .inl rfl
  | none=>
   cases hn:Zs e with
   | none=>exact .inl (congrArg (fun z=>(match z with
     | some x=>if x==("StopIteration" : Str) then .raiseStop else .bad
     | none=>.bad:PS)) hn)
   | some x=>
    refine e11 (Zf hn) fun q w0=>?_;subst w0
    by_cases hx:(x==("StopIteration" : Str))=true
    ·exact .inr ⟨if_pos hx,x,q,rfl,rfl,hx⟩
    ·exact .inl (if_neg hx)
theorem yT {st:Stmt} (h:st.ctorIdx=16) (hs:cS n st=.raiseStop):∃ x p p',st=.Raise (some (.Name x p)) none p'/\(x==("StopIteration" : Str))=true:=by
 refine Stmt.Raise.elim (motive_2:=fun st=>cS n st=.raiseStop->∃ x p p',st=.Raise (some (.Name x p)) none p'/\(x==("StopIteration" : Str))=true) st h (fun e cs p hs=>?_) hs
 rcases YY (n:=n) (e:=e) (cs:=cs) (p:=p) with q | ⟨_,x,q,rfl,rfl,hx⟩
 ·rw [q] at hs;cases hs
 ·exact ⟨x,q,p,rfl,hx⟩
end
end
section
structure Ve (W:Wd) (n:Nm) (c:Cx) (Φ:List (Addr×Obj)) (env:Env) (cl:List V):Prop where
 names:env.scope.names=n.scope.names
 kind:env.scope.kind=.function
 glob:env.globals=mainGlobals
 blt:env.builtins=builtinsNs
 loc:env.locals=c.F.L
 same:env=c.env
 locs:n.locs=c.F.names
 globs:∀ x v,n.glob x=some v->∃ u,VR v u/\JF W.K x u
 full:n.cells.length=cl.length
 cells:∀ (k:Nat) (x:Str) (y:V),n.scope.names.lookup x=some .cell\/n.scope.names.lookup x=some .free->n.cells[k]?=some x->cl[k]?=some y->∃ a v,env.cells.lookup x=some a/\(∃ o:Obj,(a,o)∈Φ/\o.data=.cell (some v))/\VR y v
inductive FlR:AFl->Flow->Prop
 | next:FlR .next .next
 | brk:FlR .brk .brk
 | cont:FlR .cont .cont
 | ret {v:V} {u:Value}:VR v u->FlR (.ret v) (.ret u)
inductive QJ (W:Wd) (c:Cx) (Φ:List (Addr×Obj)) (K:AFl->List (Option V)->Led->Prop) (fl:Flow) (s':Shared):Prop
 | mk (a:AFl) (ρ':List (Option V)) (σ':Led) (h:FlR a fl) (b:R0 W.prog W.w c.F ρ' σ' Φ s') (q:K a ρ' σ')
inductive Kr (W:Wd) (c:Cx) (Φ:List (Addr×Obj)) (K:List (Option V)->Led->Prop) (r:Unit) (s':Shared):Prop
 | mk (ρ':List (Option V)) (σ':Led) (b:R0 W.prog W.w c.F ρ' σ' Φ s') (q:K ρ' σ')
section
variable {W:Wd} {lv:Nat} {n:Nm} {c:Cx} {Φ:List (Addr×Obj)} {env:Env} {cl:List V} {ρ:List (Option V)} {σ:Led} {s:Shared}
theorem Ve.vw (v:Ve W n c Φ env cl) (ρ:List (Option V)):Vw W n c.F ρ Φ env ρ cl:=
 Vw.frame v.names v.kind v.glob v.blt v.loc v.locs v.globs v.full v.cells
theorem Ve.more {Φ':List (Addr×Obj)} (v:Ve W n c Φ env cl) (h:∀ p∈Φ,p∈Φ'):Ve W n c Φ' env cl:=
 ⟨v.names,v.kind,v.glob,v.blt,v.loc,v.same,v.locs,v.globs,v.full,fun k x y a b d=>let ⟨p,q,e,⟨o,f,f'⟩,g⟩:=v.cells k x y a b d;⟨p,q,e,⟨o,h _ f,f'⟩,g⟩⟩
theorem Vo {x:Str} {i:Nat} (h:idx n x=some i):n.scope.names.lookup x=some .local/\n.locs[i]?=some x:=by
 unfold idx at h
 split at h
 ·rename_i q;exact ⟨beq_iff_eq.mp q,jv h⟩
 ·exact nn1 h
theorem Ve.store (v:Ve W n c Φ env cl) (C:CxOk W lv c) {x:Str} {i:Nat} (h:idx n x=some i) {y:V} {u:Value} (z:VR y u) (r:R0 W.prog W.w c.F ρ σ Φ s) {A:Around} :
  wpAny W.M A (storeName env x u) (fun _ s'=>R0 W.prog W.w c.F (ρ.set i (some y)) σ Φ s') NoE s:=by
 refine e02 (Vo h) fun a b=>?_
 exact r.store C.names (by refine sq v.locs ?_;exact b) z v.loc v.kind (by refine (?_:env.scope.names.lookup x=_);refine sr v.names ?_;exact a) fun h' t r'=>r'
theorem qf {t:PySem.Expr} {r:List PySem.Expr} {env:Env} (h:∀ a b,t≠.Starred a b):assignEach (t::r) env=(false,assign t env)::assignEach r env:=by
 cases t <;> first | rfl | exact absurd rfl (h _ _)
theorem Qf {e:PySem.Expr} {es:List PySem.Expr} {xs:List Str} (h:nameList (e::es)=some xs):∃ x p ys,e=.Name x p/\nameList es=some ys/\xs=x::ys:=by
 refine e12 (Option.bind_eq_some_iff.mp h) fun x hx h=>?_
 refine e12 (Option.map_eq_some_iff.mp h) fun ys h2 w0=>?_;subst w0
 refine e11 (Zf hx) fun p w0=>?_;subst w0
 exact ⟨x,p,ys,rfl,h2,rfl⟩
theorem jG {env:Env}:∀ {es:List PySem.Expr} {xs:List Str},nameList es=some xs->(assignEach es env).findIdx? (·.1)=none/\(assignEach es env).length=xs.length/\es.length=xs.length
 | [],_,h=>by cases h;exact ⟨rfl,rfl,rfl⟩
 | e::es,xs,h=>by
  refine e33 (Qf h) fun x p ys w0 h' w1=>?_;refine sr w0 ?_;refine sr w1 ?_
  refine e03 (jG (env:=env) h') fun a b d=>?_
  refine ⟨?_,congrArg (· + 1) b,congrArg (· + 1) d⟩
  show ((false,assign (.Name x p) env)::assignEach es env).findIdx? (·.1)=none
  rw [List.findIdx?_cons,a];rfl
theorem qg {x:Str} {xs:List Str} {is:List Nat} (h:idxs n (x::xs)=some is):∃ i is',idx n x=some i/\idxs n xs=some is'/\is=i::is':=by
 change (match idx n x,idxs n xs with
  | some i,some is=>some (i::is)
  | _,_=>none)=some is at h
 cases h1:idx n x with
 | none=>rw [h1] at h;exact nn1 h
 | some i=>
  cases h2:idxs n xs with
  | none=>rw [h1,h2] at h;exact nn1 h
  | some is'=>rw [h1,h2] at h;cases h;exact ⟨i,is',rfl,rfl,rfl⟩
theorem xb:∀ {xs:List Str} {is:List Nat},idxs n xs=some is->is.length=xs.length
 | [],is,h=>by cases h;rfl
 | x::xs,is,h=>by
  refine e23 (qg h) fun i is' _ h2 w0=>?_;refine sr w0 ?_
  exact congrArg (· + 1) (xb h2)
theorem Q0 (v:Ve W n c Φ env cl) (C:CxOk W lv c):∀ {es:List PySem.Expr} {xs:List Str} {is:List Nat} {ys:List V} {us:List Value} {ρ:List (Option V)} {s:Shared},nameList es=some xs->idxs n xs=some is->VRs ys us->R0 W.prog W.w c.F ρ σ Φ s->
  wpAny W.M c.A (assignInOrder ((assignEach es env).map (·.2)) us) (fun _ s'=>R0 W.prog W.w c.F (JH is ys ρ) σ Φ s') NoE s
 | [],xs,is,ys,us,ρ,s,h,hi,hv,r=>by
  cases h;cases hi
  refine (?_:wpAny _ _ (assignInOrder [] us) _ _ _)
  cases hv <;> exact wpAny_pure (by cases ‹List V› <;> exact r)
 | e::es,xs,is,ys,us,ρ,s,h,hi,hv,r=>by
  refine e33 (Qf h) fun x p xs' w0 h' w1=>?_;subst w0;subst w1
  refine e23 (qg hi) fun i is' h1 h2 w0=>?_;subst w0
  cases hv with
  | nil=>exact wpAny_pure r
  | cons z hv=>
   refine (?_:wpAny _ _ (assignInOrder (assign (.Name x p) env::(assignEach es env).map (·.2)) (_::_)) _ _ _)
   refine wpAny_bind (wpAny_holding (wpAny_assign_Name (zb (v.store C h1 z r) fun _ s' r'=>?_)))
   exact Q0 (is:=is') (ρ:=ρ.set i (some _)) v C h' h2 hv r'
theorem jH {t:PySem.Expr} (v:Ve W n c Φ env cl) (C:CxOk W lv c) {y:V} {u:Value} {K:List (Option V)->Led->Prop} (h:jw W lv cl ρ y (cT n t) σ K) (z:VR y u) (r:R0 W.prog W.w c.F ρ σ Φ s) :
  wpAny W.M c.A (assign t env u) (Kr W c Φ K) NoE s:=by
 cases t with
 | Name x p=>
  change jw W lv cl ρ y (match idx n x with
   | some i=>.loc i
   | none=>.bad) σ K at h
  cases hi:idx n x with
  | none=>rw [hi] at h;exact h.elim
  | some i=>
   rw [hi] at h
   exact wpAny_assign_Name (zb (v.store C hi z r) fun _ s' r'=>⟨_,_,r',h⟩)
 | Attribute o nm p=>
  rw [arm_assign_Attribute]
  refine wpAny_bind (wpAny_holding (zb (Zk o W lv c n ρ ρ σ Φ env cl s _ C (v.vw ρ) h r) ?_))
  rintro ov s1 ⟨x1,σ1,z1,r1,t1⟩
  refine wpAny_bind (wpAny_standAt ?_)
  have k':wpAny W.M c.A (setAttr ov nm u) (Kr W c Φ K) NoE s1:=
   zb (t1.run c ρ Φ s1 [ov,u] C (.cons z1 (.cons z .nil)) r1) fun _ s' ⟨σ',r',q⟩=>⟨ρ,σ',r',q⟩
  exact wpAny_bind (wpAny_holding (zb k' fun _ s' q=>wpAny_release q))
 | Subscript o i p=>
  change jw W lv cl ρ y (if isSlice i then .bad else .item (cE n o) (cE n i)) σ K at h
  by_cases hs:isSlice i=true
  ·rw [if_pos hs] at h;exact h.elim
  rw [if_neg hs] at h
  rw [arm_assign_Subscript]
  refine wpAny_bind (wpAny_holding (zb (Zk o W lv c n ρ ρ σ Φ env cl s _ C (v.vw ρ) h r) ?_))
  rintro ov s1 ⟨x1,σ1,z1,r1,t1⟩
  refine wpAny_bind (wpAny_holding (zb (Zk i W lv c n ρ ρ σ1 Φ env cl s1 _ C (v.vw ρ) t1 r1) ?_))
  rintro iv s2 ⟨x2,σ2,z2,r2,t2⟩
  refine wpAny_bind (wpAny_standAt ?_)
  have k':wpAny W.M c.A (setItem ov iv u) (Kr W c Φ K) NoE s2:=
   zb (t2.run c ρ Φ s2 [ov,iv,u] C (.cons z1 (.cons z2 (.cons z .nil))) r2) fun _ s' ⟨σ',r',q⟩=>⟨ρ,σ',r',q⟩
  exact wpAny_bind (wpAny_holding (zb k' fun _ s' q=>wpAny_release q))
 | Tuple es k p=>
  change jw W lv cl ρ y (match (nameList es).bind (idxs n) with
   | some is=>.tup is
   | none=>.bad) σ K at h
  cases hi:(nameList es).bind (idxs n) with
  | none=>rw [hi] at h;exact h.elim
  | some is=>
   rw [hi] at h
   refine e12 (Option.bind_eq_some_iff.mp hi) fun xs h1 h2=>?_
   rw [arm_assign_Tuple]
   refine wpAny_bind (wpAny_standAt ?_)
   refine e03 (jG (env:=env) h1) fun a b d=>?_
   unfold unpack
   refine sr a (sr b (sq (xb h2) ?_))
   refine wpAny_bind (wpAny_holding (zb (h.run c ρ Φ s u C z r) ?_))
   rintro us s1 ⟨ys,σ1,hv,hl,r1,q⟩
   exact zb (Q0 v C h1 h2 hv r1) fun _ s' r'=>⟨_,_,r',q⟩
 | _=>exact h.elim
theorem qI (v:Ve W n c Φ env cl) (C:CxOk W lv c) {y:V} {u:Value} (z:VR y u):∀ {ts:List PySem.Expr} {K:List (Option V)->Led->Prop} {ρ:List (Option V)} {σ:Led} {s:Shared},J3 W lv cl y (ts.map (cT n)) ρ σ K->R0 W.prog W.w c.F ρ σ Φ s->
  wpAny W.M c.A (assignAll u ((assignEach ts env).map (·.2))) (Kr W c Φ K) NoE s
 | [],K,ρ,σ,s,h,r=>wpAny_pure ⟨ρ,σ,r,h⟩
 | t::ts,K,ρ,σ,s,h,r=>by
  have hn:∀ a b,t≠.Starred a b:=fun a b e=>by subst e;exact h.elim
  refine sr (qf hn) ?_
  refine sr List.map_cons ?_
  have hd:=jH v C h z r
  cases ts with
  | nil=>exact hd
  | cons t2 ts=>
   have hn2:∃ b f,assignEach (t2::ts) env=(b,f)::assignEach ts env:=(Classical.em (∃ a b,t2=.Starred a b)).elim (fun q=>q.elim fun a q=>q.elim fun b e=>sr e ⟨_,_,rfl⟩) fun q=>⟨_,_,qf fun a b e=>q ⟨a,b,e⟩⟩
   refine e21 hn2 fun b f e=>?_
   refine sr e (sr List.map_cons ?_)
   refine (?_:wpAny _ _ (holding [u] (assign t env u) >>= fun _=>assignAll u (f::(assignEach ts env).map (·.2))) _ _ _)
   refine wpAny_bind (wpAny_holding (zb hd ?_))
   rintro _ s1 ⟨ρ1,σ1,r1,q⟩
   have:=qI v C z (ts:=t2::ts) q r1
   rw [e,List.map_cons] at this
   exact this
end
end
section
theorem UX {x:Str} {px:Pos} {elt src:PySem.Expr} {ifs:List PySem.Expr} {sc:Scope} {pos:Pos} {W:Wd} {lv:Nat} {c:Cx} {n:Nm} {ρ ρe:List (Option V)} {σ:Led} {Φ:List (Addr×Obj)} {env:Env} {cl:List V} {s:Shared}
  {Q:V->Led->Prop} (C:CxOk W lv c) (v:Vw W n c.F ρ Φ env ρe cl) (h:aev W lv cl ρe (cE n (.ListComp elt [⟨.Name x px,src,ifs,0⟩] sc pos)) σ Q) (r:R0 W.prog W.w c.F ρ σ Φ s) {u:Value->Sem Unit} {P:Shared->Prop}
  (hu:∀ D Ca oC ys vs k s' σ' m,R0 W.prog W.w c.F ρ σ' ([(Ca,oC)]++([(D,zG vs k)]++Φ)) s'->NsO oC m->VRs ys vs->ys.length<=16777216->Q (.ref D) ((D,.list ys)::σ')->
   wpAny W.M c.A (u (.ref D)) (fun _ s''=>∃ m,s''.heap.Ns Ca m/\∀ h',Heap.SameBut Ca s''.heap h'->P { s'' with heap:=h' }) NoE s') :
  wpAny W.M c.A (comprehension (.ListComp elt [⟨.Name x px,src,ifs,0⟩] sc pos) sc env (firstIterPos [⟨.Name x px,src,ifs,0⟩] pos) (newList []) (firstAsync [⟨.Name x px,src,ifs,0⟩]) (firstIter [⟨.Name x px,src,ifs,0⟩] env) (some u)) (fun _ s'=>P s') NoE s:=by
 rw [yI] at h
 split at h
 ·rename_i hsc
  refine e02 (Vi src W lv c n ρ ρe σ Φ env cl s _ C v h r) fun hf hsrc=>?_
  refine e12 (v.closure hsc) fun cs hclos hcs=>?_
  refine wpAny_comprehension_free (use:=some u) (g:=⟨.Name x px,src,ifs,0⟩) (gs:=[]) (Q:=fun _ s'=>P s') rfl hf hclos (zz hsc) (fun y m hl=>by rw [qx hsc m,hl]) (zb hsrc fun xv s₁ h₁=>zb h₁ ?_)
  rintro itv s₂ ⟨I,it,Ψ,σ',rfl,hit,r',N,hN⟩
  refine YT (RR:=fun acc Ca=>compPost W.M c.A NoE (some u) (fun _ s'=>P s') acc Ca) (Zk elt) (fun e _=>YV e) C v hsc hcs hit r' hN ?_
  intro D Ca oC ys vs k s' σ2 m r2 hn hv hl hK
  exact hu D Ca oC ys vs k s' σ2 m r2 hn hv hl (hK D)
 ·exact h.elim
theorem UY {x y x' y':Str} {p1 p2 p3 p4:Pos} {src:PySem.Expr} {sc:Scope} {pos:Pos} {W:Wd} {lv:Nat} {c:Cx} {n:Nm} {ρ ρe:List (Option V)} {σ:Led} {Φ:List (Addr×Obj)} {env:Env} {cl:List V} {s:Shared}
  {Q:V->Led->Prop} (C:CxOk W lv c) (v:Vw W n c.F ρ Φ env ρe cl) (h:aev W lv cl ρe (cE n (ZH x y p1 p2 p3 p4 p4 src sc pos x' y')) σ Q) (r:R0 W.prog W.w c.F ρ σ Φ s) {u:Value->Sem Unit} {P:Shared->Prop}
  (hu:∀ D Ca oC ys vs k s' σ' m,R0 W.prog W.w c.F ρ σ' ([(Ca,oC)]++([(D,zG vs k)]++Φ)) s'->NsO oC m->VRs ys vs->ys.length<=16777216->Q (.ref D) ((D,.list ys)::σ')->
   wpAny W.M c.A (u (.ref D)) (fun _ s''=>∃ m,s''.heap.Ns Ca m/\∀ h',Heap.SameBut Ca s''.heap h'->P { s'' with heap:=h' }) NoE s') :
  wpAny W.M c.A (comprehension (ZH x y p1 p2 p3 p4 p4 src sc pos x' y') sc env (firstIterPos [⟨.Name x p2,src,[],0⟩,⟨.Name y' p3,.Name x' p4,[],0⟩] pos) (newList []) (firstAsync [⟨.Name x p2,src,[],0⟩,⟨.Name y' p3,.Name x' p4,[],0⟩]) (firstIter [⟨.Name x p2,src,[],0⟩,⟨.Name y' p3,.Name x' p4,[],0⟩] env) (some u)) (fun _ s'=>P s') NoE s:=by
 unfold ZH at h
 rw [J4] at h
 split at h
 ·rename_i hh
  simp only [Bool.and_eq_true,beq_iff_eq,bne_iff_ne] at hh
  obtain ⟨⟨⟨⟨hsc,hx⟩,hy⟩,hxd⟩,hyd⟩:=hh
  refine e02 (Vi src W lv c n ρ ρe σ Φ env cl s _ C v h r) fun hf hsrc=>?_
  refine e12 (v.closure hsc) fun cs hclos hcs=>?_
  refine wpAny_comprehension_free (use:=some u) (g:=⟨.Name x p2,src,[],0⟩) (gs:=[⟨.Name y' p3,.Name x' p4,[],0⟩]) (Q:=fun _ s'=>P s') rfl hf hclos (zz hsc) (fun y m hl=>by exact sr (qx hsc m) (sr hl rfl)) (zb hsrc fun xv s₁ h₁=>zb h₁ ?_)
  rintro itv s₂ ⟨I,it,Ψ,σ',rfl,hit,r',N,hN⟩
  have hcell:∀ y∈sc.names,y.2≠.cell:=fun y m e=>by
   rcases Zj hsc m with q | q | q
   ·rw [e] at q;exact nomatch q
   ·rw [e] at q;exact nomatch q
   ·rw [e] at q;exact nomatch q.1
  refine wpAny_newObj_type (wpAny_newFunctionEnv hcell (by intro y hy;simp at hy) (fun h₁ hns₁ hsb₁=>?_) (zz hsc))
  dsimp only at hns₁ hsb₁ ⊢
  have r1:R0 W.prog W.w c.F ρ σ' ([(s₂.heap.objs.size,zG [] 0)]++(Ψ++Φ)) { s₂ with heap:=s₂.heap.push (zG [] 0),toks:=s₂.toks }:=R0.new1 r' rfl
  generalize hH2:s₂.heap.push { cls:=.type "list",dict:=none,data:=.seq ([]:List Value).toArray }=H2 at hns₁ hsb₁ ⊢
  have hH2':s₂.heap.push (zG [] 0)=H2:=hH2
  rw [hH2'] at r1
  refine e12 (NsO.of hns₁) fun oC gC hnC=>?_
  have keep:∀ b o,H2.get? b=some o->h₁.get? b=some o:=fun b o e=>hsb₁.extBut b o (Nat.ne_of_lt (Heap.lt_size e)) (Heap.get?_push_of_some _ e)
  have r2:=R0.moreΦ (t:=s₂.toks) (Ψ:=[(H2.objs.size,oC)]) r1 keep (fun p hp=>by
   simp only [List.mem_cons,List.mem_nil_iff,or_false] at hp
   refine sr hp ?_
   exact ⟨gC,Nat.le_refl _⟩) (by simp)
  have pm:([(H2.objs.size,oC)]++([(s₂.heap.objs.size,zG [] 0)]++(Ψ++Φ))).Perm (Ψ++([(H2.objs.size,oC)]++([(s₂.heap.objs.size,zG [] 0)]++Φ))):=by
   have e:([(H2.objs.size,oC)]++([(s₂.heap.objs.size,zG [] 0)]++(Ψ++Φ)))=([(H2.objs.size,oC)]++[(s₂.heap.objs.size,zG [] 0)])++Ψ++Φ:=by simp
   have e':(Ψ++([(H2.objs.size,oC)]++([(s₂.heap.objs.size,zG [] 0)]++Φ)))=Ψ++([(H2.objs.size,oC)]++[(s₂.heap.objs.size,zG [] 0)])++Φ:=by simp
   refine sr e (sr e' ?_)
   exact List.Perm.append_right _ List.perm_append_comm
  have r3:=r2.permΦ pm
  have kk:∀ z∈[x,y],(relabel sc env).names.lookup z=some .local:=fun z m=>by refine sr (zO (jC hsc m)) ?_;rfl
  have loop:∀ s₃:Shared,s₃={ s₂ with heap:=h₁,toks:=s₂.toks+([]:List (Str×Value)).length }->
    codeAny W.M c.A (.compLoop (ZH x y p1 p2 p3 p4 p4 src sc pos x' y') 0 (.ref I) (.ref s₂.heap.objs.size) (compEnvC sc cs H2.objs.size env)) (compPost W.M c.A NoE (some u) (fun _ s'=>P s') (.ref s₂.heap.objs.size) H2.objs.size) s₃:=by
   rintro s₃ rfl
   refine JM (cenv:=compEnvC sc cs H2.objs.size env) C (kk x (.head _)) (by simpa using hxd) hx.symm (kk y (.tail _ (.head _))) (by refine (?_:sc.kind=_);exact zz hsc) (by simpa using hyd) hy.symm hit r3 hnC hN ?_
   intro oC ys vs k s' σ2 m r2 hn hv hl hK
   exact hu _ _ oC ys vs k s' σ2 m r2 hn hv hl (hK _)
  exact codeAny_compStart_list (loop _ rfl) (Qd hit r3 (loop _ rfl))
 ·exact h.elim
end
section
noncomputable def qF (st:Stmt):Prop:=∀ (W:Wd) (lv:Nat) (c:Cx) (n:Nm) (ρ:List (Option V)) (σ:Led) (Φ:List (Addr×Obj)) (env:Env) (cl:List V) (s:Shared) (K:AFl->List (Option V)->Led->Prop),
 CxOk W lv c->Ve W n c Φ env cl->aex W lv cl (cS n st) ρ σ K->R0 W.prog W.w c.F ρ σ Φ s->wpAny W.M c.A (exec st env) (QJ W c Φ K) NoE s
noncomputable def Q1 (sts:List Stmt):Prop:=∀ (W:Wd) (lv:Nat) (c:Cx) (n:Nm) (ρ:List (Option V)) (σ:Led) (Φ:List (Addr×Obj)) (env:Env) (cl:List V) (s:Shared) (K:AFl->List (Option V)->Led->Prop),
 CxOk W lv c->Ve W n c Φ env cl->aexs W lv cl (cSs n sts) ρ σ K->R0 W.prog W.w c.F ρ σ Φ s->wpAny W.M c.A (execs sts env) (QJ W c Φ K) NoE s
theorem Ks:Q1 []:=fun W lv c n ρ σ Φ env cl s K C v h r=>wpAny_execs_nil ⟨.next,ρ,σ,.next,r,h⟩
theorem yU {st:Stmt} {sts:List Stmt} (g:qF st) (gs:Q1 sts):Q1 (st::sts):=by
 intro W lv c n ρ σ Φ env cl s K C v h r
 refine e12 h fun σ' hs h=>?_
 refine wpAny_execs_cons (zb (g W lv c n ρ σ' Φ env cl s _ C v h (r.sub hs)) ?_)
 rintro fl s1 ⟨a,ρ1,σ1,hf,r1,q⟩
 cases hf with
 | next=>exact gs W lv c n ρ1 σ1 Φ env cl s1 K C v q r1
 | brk=>exact ⟨_,ρ1,σ1,.brk,r1,q⟩
 | cont=>exact ⟨_,ρ1,σ1,.cont,r1,q⟩
 | ret z=>exact ⟨_,ρ1,σ1,.ret z,r1,q⟩
theorem Kt {e:PySem.Expr} {l:Nat} {env:Env} (hc:vu e=false):swapsWith e none l env=pure false:=by
 cases e <;> first | rfl | cases hc
set_option tactic.hygienic true in
theorem Ku {e:PySem.Expr} {p:Pos}:qF (.Expr e p):=by
 intro W lv c n ρ σ Φ env cl s K C v h r
 have hi:interactive env=false:=by unfold interactive;refine sr v.kind ?_;rfl
 have key:∀ (hc:vu e=false),aev W lv cl ρ (cE n e) σ (fun _ σ=>K .next ρ σ)->wpAny W.M c.A (exec (.Expr e p) env) (QJ W c Φ K) NoE s:=fun hc h=>by
  refine sr (exec_Expr env e p hi (Kt hc)) ?_
  refine wpAny_bind (wpAny_standAt (wpAny_bind (zb (Zk e W lv c n ρ ρ σ Φ env cl s _ C (v.vw ρ) h r) ?_)))
  rintro u s' ⟨x,σ',z,r',q⟩
  exact wpAny_dropValue ⟨.next,ρ,σ',.next,r',q⟩
 rw [GF] at h
 unfold vy at h
 split at h
 ·rename_i hc
  refine e31 (Vk hc) fun x k q w0=>?_;refine sr w0 ?_
  refine sr (exec_Expr env _ p hi rfl) ?_
  exact wpAny_bind (wpAny_standAt (wpAny_bind (wpAny_Constant_str (wpAny_dropValue ⟨.next,ρ,σ,.next,r.toks _,h⟩))))
 ·split at h
  ·exact h.elim
  ·rename_i hc
   exact key (by simpa using hc) h
theorem XD {e:Option PySem.Expr} {p:Pos}:qF (.Return e p):=by
 intro W lv c n ρ σ Φ env cl s K C v h r
 cases e with
 | none=>
  exact wpAny_Return_none ⟨.ret .none,ρ,σ,.ret .none,r,h⟩
 | some e=>
  rw [Vl] at h
  refine wpAny_Return_some (zb (Zk e W lv c n ρ ρ σ Φ env cl s _ C (v.vw ρ) h r) ?_)
  rintro u s' ⟨x,σ',z,r',q⟩
  exact ⟨.ret x,ρ,σ',.ret z,r',q⟩
theorem yV {e:PySem.Expr}:JY e=none\/e.ctorIdx=8\/e.ctorIdx=9\/e.ctorIdx=10:=by
 cases e <;> first | exact .inl rfl | exact .inr (.inl rfl) | exact .inr (.inr (.inl rfl)) | exact .inr (.inr (.inr rfl))
theorem XE {nm:List (Str×NameKind)} {ts:List PySem.Expr} {e:PySem.Expr} (h:Ze nm ts e=true):(∃ elt gens sc p,e=.ListComp elt gens sc p)\/∀ n,cE n e=.bad:=by
 rcases yV (e:=e) with q | q | q | q
 ·unfold Ze at h;rw [q] at h;exact nn3 h
 ·exact PySem.Expr.ListComp.elim (motive_1:=fun e=>(∃ elt gens sc p,e=.ListComp elt gens sc p)\/∀ n,cE n e=.bad) e q fun _ _ _ _=>.inl ⟨_,_,_,_,rfl⟩
 ·exact .inr fun n=>PySem.Expr.SetComp.elim (motive_1:=fun e=>cE n e=.bad) e q fun _ _ _ _=>rfl
 ·exact .inr fun n=>PySem.Expr.DictComp.elim (motive_1:=fun e=>cE n e=.bad) e q fun _ _ _ _ _=>rfl
theorem xc {x:Str} {px p:Pos} {e:PySem.Expr} {W:Wd} {lv:Nat} {c:Cx} {n:Nm} {ρ:List (Option V)} {σ:Led} {Φ:List (Addr×Obj)} {env:Env} {cl:List V} {s:Shared} {K:AFl->List (Option V)->Led->Prop} {i:Nat}
  (C:CxOk W lv c) (v:Ve W n c Φ env cl) (hs:Ze n.scope.names [.Name x px] e=true) (hi:idx n x=some i) (h:aev W lv cl ρ (cE n e) σ fun v σ=>K .next (ρ.set i (some v)) σ) (r:R0 W.prog W.w c.F ρ σ Φ s) :
  wpAny W.M c.A (exec (.Assign [.Name x px] e p) env) (QJ W c Φ K) NoE s:=by
 have hq:=Qe (env:=env) v.kind (targets:=[.Name x px]) (value:=e) (line:=p.line)
 rw [v.names,hs] at hq
 rw [arm_exec_Assign]
 refine wpAny_bind (wpAny_standAt ?_)
 refine sr hq ?_
 refine wpAny_bind (wpAny_pure ?_)
 refine sr (if_pos rfl) ?_
 have fin:∀ (D Ca:Addr) (oC:Obj) (ys:List V) (vs:List Value) (k:Nat) (s':Shared) (σ':Led) (m:Str->Option Value),R0 W.prog W.w c.F ρ σ' ([(Ca,oC)]++([(D,zG vs k)]++Φ)) s'->NsO oC m->VRs ys vs->ys.length<=16777216->
   K .next (ρ.set i (some (.ref D))) ((D,.list ys)::σ')->wpAny W.M c.A (assignAll (.ref D) ((assignEach [.Name x px] env).map (·.2))) (fun _ s''=>∃ m,s''.heap.Ns Ca m/\∀ h',Heap.SameBut Ca s''.heap h'->QJ W c Φ K .next { s'' with heap:=h' }) NoE s':=fun D Ca oC ys vs k s' σ' m r' hn hv hl q=>by
  show wpAny _ _ (assign (.Name x px) env (.ref D)) _ _ _
  refine wpAny_assign_Name (zb ((v.more (Φ':=[(Ca,oC)]++([(D,zG vs k)]++Φ)) fun p hp=>.tail _ (.tail _ hp)).store C hi (.ref D) r') fun _ s2 r2=>⟨m,hn.at r2.headΦ,fun h' sb=>?_⟩)
  have r3:=R0.yL (t:=s2.toks) r2 (fun b o hb e=>sb.extBut b o hb e)
  exact ⟨.next,_,_,.next,R0.show r3 (.list k hv hl),q⟩
 rcases XE hs with ⟨elt,gens,sc,pos,rfl⟩ | hbad
 ·refine wpAny_bind ?_
  rw [arm_evalThenUse_ListComp]
  refine wpAny_bind ?_
  rcases JI (elt:=elt) (gens:=gens) (sc:=sc) (p:=pos) n with ⟨_,_,_,x2,px2,src,ifs⟩ | ⟨_,_,y,p1,x2,p2,src,y',p3,x',p4⟩ | ⟨_,_,_,_,q⟩
  ·exact zb (UX (P:=QJ W c Φ K .next) C (v.vw ρ) h r fin) fun _ s' q=>wpAny_pure (wpAny_pure q)
  ·exact zb (UY (P:=QJ W c Φ K .next) C (v.vw ρ) h r fin) fun _ s' q=>wpAny_pure (wpAny_pure q)
  ·rw [q] at h;exact h.elim
 ·rw [hbad] at h;exact h.elim
theorem xd {ts:List PySem.Expr} {p:Pos} {e:PySem.Expr} {W:Wd} {lv:Nat} {c:Cx} {n:Nm} {ρ:List (Option V)} {σ:Led} {Φ:List (Addr×Obj)} {env:Env} {cl:List V} {s:Shared} {K:AFl->List (Option V)->Led->Prop}
  (C:CxOk W lv c) (v:Ve W n c Φ env cl) (hs:Ze n.scope.names ts e=false) (hw:JX n.scope.names ts e=some none) (h:aev W lv cl ρ (cE n e) σ fun v σ=>J3 W lv cl v (ts.map (cT n)) ρ σ fun ρ σ=>K .next ρ σ) (r:R0 W.prog W.w c.F ρ σ Φ s) :
  wpAny W.M c.A (exec (.Assign ts e p) env) (QJ W c Φ K) NoE s:=by
 have hq:=Qe (env:=env) v.kind (targets:=ts) (value:=e) (line:=p.line)
 rw [v.names,hs] at hq
 have hw':=J9 (env:=env) v.kind (by refine sr v.names ?_;exact hw)
 refine wpAny_Assign_stores (zb (Zk e W lv c n ρ ρ σ Φ env cl s _ C (v.vw ρ) h r) ?_) hq hw'
 rintro u s' ⟨x,σ',z,r',q⟩
 exact zb (qI v C z q r') fun _ s2 ⟨ρ2,σ2,r2,q2⟩=>⟨.next,ρ2,σ2,.next,r2,q2⟩
theorem yW {W:Wd} {lv:Nat} {c:Cx} {n:Nm} {σ:Led} {Φ:List (Addr×Obj)} {env:Env} {cl:List V} (C:CxOk W lv c) (v:Ve W n c Φ env cl):∀ (xs:List Str) (is:List Nat) (ys:List V) (us:List Value) (ρ:List (Option V)) (s:Shared),idxs n xs=some is->VRs ys us->R0 W.prog W.w c.F ρ σ Φ s->
  wpAny W.M c.A (assignInOrder (xs.map fun n=>bindName env n) us) (fun _ s'=>R0 W.prog W.w c.F (JH is ys ρ) σ Φ s') NoE s:=by
 intro xs
 induction xs with
 | nil=>intro is ys us ρ s hi hv r;cases hi;exact wpAny_pure (by cases ys <;> exact r)
 | cons a xs ih=>
  intro is ys us ρ s hi hv r
  refine e23 (qg hi) fun i is' h1 h2 w0=>?_;refine sr w0 ?_
  cases hv with
  | nil=>exact wpAny_pure r
  | cons z hv=>
   refine (?_:wpAny _ _ (assignInOrder (bindName env a::xs.map fun n=>bindName env n) (_::_)) _ _ _)
   refine wpAny_bind (wpAny_holding (wpAny_bindName (zb (v.store C h1 z r) fun _ s' r'=>?_)))
   exact ih is' _ _ (ρ.set i (some _)) _ h2 hv r'
theorem YZ {n:Nm}:∀ (xs ys:List Str) (is js:List Nat),idxs n xs=some is->idxs n ys=some js->idxs n (xs++ys)=some (is++js)
 | [],_,_,_,h1,h2=>by cases h1;exact h2
 | a::xs,ys,is,js,h1,h2=>by
  refine e23 (qg h1) fun i is' h3 h4 w0=>?_;refine sr w0 ?_
  show (match idx n a,idxs n (xs++ys) with
   | some i,some is=>some (i::is)
   | _,_=>none)=some (i::(is'++js))
  exact sr h3 (sr (YZ xs ys is' js h4 h2) rfl)
theorem Y0 {n:Nm}:∀ (xs:List Str) (is:List Nat),idxs n xs=some is->idxs n xs.reverse=some is.reverse
 | [],_,h=>by cases h;rfl
 | a::xs,is,h1=>by
  refine e23 (qg h1) fun i is' h3 h4 w0=>?_;refine sr w0 ?_
  refine sr List.reverse_cons (sr List.reverse_cons ?_)
  refine YZ _ _ _ _ (Y0 xs is' h4) ?_
  show (match idx n a,(some []:Option (List Nat)) with
   | some i,some is=>some (i::is)
   | _,_=>none)=some [i]
  exact sr h3 rfl
theorem xe {ts:List PySem.Expr} {p:Pos} {e:PySem.Expr} {W:Wd} {lv:Nat} {c:Cx} {n:Nm} {ρ:List (Option V)} {σ:Led} {Φ:List (Addr×Obj)} {env:Env} {cl:List V} {s:Shared} {K:AFl->List (Option V)->Led->Prop} {names:List Str} {is:List Nat}
  (C:CxOk W lv c) (v:Ve W n c Φ env cl) (hs:Ze n.scope.names ts e=false) (hw:JX n.scope.names ts e=some (some names)) (hi:idxs n names=some is)
  (h:aev W lv cl ρ (cE n e) σ fun v σ=>qQ W lv v is.length σ fun xs σ=>K .next (JH is.reverse xs.reverse ρ) σ) (r:R0 W.prog W.w c.F ρ σ Φ s) :
  wpAny W.M c.A (exec (.Assign ts e p) env) (QJ W c Φ K) NoE s:=by
 have hq:=Qe (env:=env) v.kind (targets:=ts) (value:=e) (line:=p.line)
 rw [v.names,hs] at hq
 have hw':=J9 (env:=env) v.kind (by refine sr v.names ?_;exact hw)
 rw [arm_exec_Assign]
 refine wpAny_bind (wpAny_standAt ?_)
 refine sr hq ?_
 refine wpAny_bind (wpAny_pure ?_)
 refine sr (if_neg (by simp)) ?_
 refine wpAny_bind (zb (Zk e W lv c n ρ ρ σ Φ env cl s _ C (v.vw ρ) h r) ?_)
 rintro u s' ⟨x,σ',z,r',q⟩
 refine sr hw' ?_
 refine wpAny_bind (wpAny_pure ?_)
 refine (?_:wpAny _ _ (rule "assign.swapped-stores" >>= fun _=>unpackItems u names.length none >>= fun items=>assignInOrder (names.reverse.map fun n=>bindName env n) items.reverse >>= fun _=>pure Flow.next) _ _ _)
 refine wpAny_bind (wpAny_rule (wpAny_bind ?_))
 refine sq (xb hi) ?_
 refine zb (q.run c ρ Φ s' u C z r') ?_
 rintro us s2 ⟨ys,σ2,hv,hl,r2,q2⟩
 exact wpAny_bind (zb (yW C v _ _ _ _ _ _ (Y0 _ _ hi) hv.reverse r2) fun _ s3 r3=>wpAny_pure ⟨.next,_,_,.next,r3,q2⟩)
set_option tactic.hygienic true in
theorem XF {ts:List PySem.Expr} {e:PySem.Expr} {p:Pos}:qF (.Assign ts e p):=by
 intro W lv c n ρ σ Φ env cl s K C v h r
 rw [Vm] at h
 unfold JZ at h
 split at h
 ·rename_i hs
  split at h
  ·split at h
   ·rename_i t x hx
    refine e11 (Zf hx) fun px w0=>?_;subst w0
    split at h
    ·rename_i i hi
     exact xc C v hs hi h r
    ·exact h.elim
   ·exact h.elim
  ·exact h.elim
 ·rename_i hs
  split at h
  ·exact h.elim
  ·rename_i hw
   exact xd C v hs hw h r
  ·rename_i names hw
   split at h
   ·rename_i is hi
    exact xe C v hs hw hi h.2 r
   ·exact h.elim
end
section
theorem GG {W:Wd} {lv:Nat} {cl:List V} {i:Nat} {op:Operator} {e:PE} {ρ:List (Option V)} {σ:Led} {K:AFl->List (Option V)->Led->Prop} (h:aex W lv cl (.augL i op e) ρ σ K) :
  ∃ a,ρ[i]?=some (some a)/\aev W lv cl ρ e σ fun b σ=>Op W lv (.inpl op) [a,b] σ fun v σ=>K .next (ρ.set i (some v)) σ:=by
 change (match ρ[i]? with
  | some (some a)=>aev W lv cl ρ e σ fun b σ=>Op W lv (.inpl op) [a,b] σ fun v σ=>K .next (ρ.set i (some v)) σ
  | _=>False) at h
 cases q:ρ[i]? with
 | none=>rw [q] at h;exact h.elim
 | some o=>cases o with
  | none=>rw [q] at h;exact h.elim
  | some a=>rw [q] at h;exact ⟨a,rfl,h⟩
theorem xg {x:Str} {px p:Pos} {op:Operator} {e:PySem.Expr}:qF (.AugAssign (.Name x px) op e p):=by
 intro W lv c n ρ σ Φ env cl s K C v h r
 rw [Kp] at h
 cases hi:idx n x with
 | none=>rw [hi] at h;exact h.elim
 | some i=>
  rw [hi] at h
  refine e12 (GG h) fun a ha h=>?_
  ·refine e02 (Vo hi) fun hl hg=>?_
   refine wpAny_AugAssign_Name ?_
   refine r.load (by refine sq v.locs ?_;exact hg) ha v.loc v.kind (by refine (?_:env.scope.names.lookup x=_);refine sr v.names ?_;exact hl) fun u hu=>?_
   refine zb (Zk e W lv c n ρ ρ σ Φ env cl s _ C (v.vw ρ) h r) ?_
   rintro u1 s1 ⟨x1,σ1,z1,r1,q1⟩
   refine zb (q1.run c ρ Φ s1 [u,u1] C (.cons hu (.cons z1 .nil)) r1) ?_
   rintro u2 s2 ⟨x2,σ2,z2,r2,q2⟩
   exact zb (v.store C hi z2 r2) fun _ s3 r3=>⟨.next,_,σ2,.next,r3,q2⟩
theorem xh {o:PySem.Expr} {nm:Str} {px p:Pos} {op:Operator} {e:PySem.Expr}:qF (.AugAssign (.Attribute o nm px) op e p):=by
 intro W lv c n ρ σ Φ env cl s K C v h r
 rw [Kq] at h
 refine wpAny_AugAssign_AttributeAny (zb (Zk o W lv c n ρ ρ σ Φ env cl s _ C (v.vw ρ) h r) ?_)
 rintro u0 s0 ⟨x0,σ0,z0,r0,q0⟩
 refine zb (q0.run c ρ Φ s0 [u0] C (.cons z0 .nil) r0) ?_
 rintro u1 s1 ⟨x1,σ1,z1,r1,q1⟩
 refine zb (Zk e W lv c n ρ ρ σ1 Φ env cl s1 _ C (v.vw ρ) q1 r1) ?_
 rintro u2 s2 ⟨x2,σ2,z2,r2,q2⟩
 refine zb (q2.run c ρ Φ s2 [u1,u2] C (.cons z1 (.cons z2 .nil)) r2) ?_
 rintro u3 s3 ⟨x3,σ3,z3,r3,q3⟩
 exact zb (q3.run c ρ Φ s3 [u0,u3] C (.cons z0 (.cons z3 .nil)) r3) fun _ s4 ⟨σ4,r4,q4⟩=>⟨.next,ρ,σ4,.next,r4,q4⟩
theorem Jk {i:PySem.Expr} (hs:¬ isSlice i=true) (ov iv new:Value):augStore i ov iv new=(do holding [new,ov,iv] (setItem ov iv new);release [new,ov,iv] [];pure .next):=by
 cases i <;> first | rfl | exact absurd rfl hs
theorem XG {o i:PySem.Expr} {px p:Pos} {op:Operator} {e:PySem.Expr}:qF (.AugAssign (.Subscript o i px) op e p):=by
 intro W lv c n ρ σ Φ env cl s K C v h r
 rw [Vn] at h
 split at h
 ·exact h.elim
 rename_i hs
 refine wpAny_AugAssign_SubscriptAny (zb (Zk o W lv c n ρ ρ σ Φ env cl s _ C (v.vw ρ) h r) ?_) (Jk hs)
 rintro u0 s0 ⟨x0,σ0,z0,r0,q0⟩
 refine zb (Zk i W lv c n ρ ρ σ0 Φ env cl s0 _ C (v.vw ρ) q0 r0) ?_
 rintro uj sj ⟨xj,σj,zj,rj,qj⟩
 refine zb (qj.run c ρ Φ sj [u0,uj] C (.cons z0 (.cons zj .nil)) rj) ?_
 rintro u1 s1 ⟨x1,σ1,z1,r1,q1⟩
 refine zb (Zk e W lv c n ρ ρ σ1 Φ env cl s1 _ C (v.vw ρ) q1 r1) ?_
 rintro u2 s2 ⟨x2,σ2,z2,r2,q2⟩
 refine zb (q2.run c ρ Φ s2 [u1,u2] C (.cons z1 (.cons z2 .nil)) r2) ?_
 rintro u3 s3 ⟨x3,σ3,z3,r3,q3⟩
 exact zb (q3.run c ρ Φ s3 [u0,uj,u3] C (.cons z0 (.cons zj (.cons z3 .nil))) r3) fun _ s4 ⟨σ4,r4,q4⟩=>⟨.next,ρ,σ4,.next,r4,q4⟩
theorem UZ {t:PySem.Expr} {a b:List Stmt} {p:Pos} (ga:Q1 a) (gb:Q1 b):qF (.If t a b p):=by
 intro W lv c n ρ σ Φ env cl s K C v h r
 rw [zcu] at h
 refine wpAny_If (zb (YV t W lv c n ρ ρ σ Φ env cl s _ C (v.vw ρ) h r) ?_)
 rintro b s' ⟨σ',r',q⟩
 cases b with
 | true=>exact ga W lv c n ρ σ' Φ env cl s' K C v q r'
 | false=>exact gb W lv c n ρ σ' Φ env cl s' K C v q r'
theorem yX {t:PySem.Expr} {b:List Stmt} {p:Pos} (gb:Q1 b):qF (.While t b [] p):=by
 intro W lv c n ρ σ Φ env cl s K C v h r
 rw [UW] at h
 refine e11 h fun N h=>?_
 refine wpAny_While ?_
 refine codeAny_whileLoop (fun k=>Kr W c Φ (fun ρ σ=>QZ (fun ρ σ R=>ait W lv cl ρ (cE n t) σ R) (fun ρ σ K=>aexs W lv cl (cSs n b) ρ σ K) k ρ σ K) ()) ?_ N ⟨ρ,σ,r,h⟩
 rintro k s1 ⟨ρ1,σ1,r1,h1⟩
 cases k with
 | zero=>exact h1.elim
 | succ k=>
  refine zb (YV t W lv c n ρ1 ρ1 σ1 Φ env cl s1 _ C (v.vw ρ1) h1 r1) ?_
  rintro b s2 ⟨σ2,r2,q⟩
  cases b with
  | false=>
   simp only [Bool.false_eq_true,if_false]
   exact wpAny_execs_nil ⟨.next,ρ1,σ2,.next,r2,q⟩
  | true=>
   simp only [if_true]
   refine zb (gb W lv c n ρ1 σ2 Φ env cl s2 _ C v q r2) ?_
   rintro fl s3 ⟨a,ρ3,σ3,hf,r3,q3⟩
   cases hf with
   | next=>refine e12 q3 fun σ' hs q3=>?_;exact ⟨k,Nat.lt_succ_self _,ρ3,σ',r3.sub hs,q3⟩
   | cont=>refine e12 q3 fun σ' hs q3=>?_;exact ⟨k,Nat.lt_succ_self _,ρ3,σ',r3.sub hs,q3⟩
   | brk=>exact ⟨.next,ρ3,σ3,.next,r3,q3⟩
   | ret z=>exact ⟨_,ρ3,σ3,.ret z,r3,q3⟩
theorem GH {n:Nm} {x:Str} {p:Pos}:(cT n (.Name x p)).isTup=false:=by
 show (match idx n x with
  | some i=>PT.loc i
  | none=>.bad).isTup=false
 cases idx n x <;> rfl
theorem zbs {n:Nm} {es:List PySem.Expr} {k:Nat} {p:Pos}:(cT n (.Tuple es k p)).isTup=false->cT n (.Tuple es k p)=.bad:=by
 show (match (nameList es).bind (idxs n) with
  | some is=>PT.tup is
  | none=>.bad).isTup=false->(match (nameList es).bind (idxs n) with
  | some is=>PT.tup is
  | none=>.bad)=.bad
 cases (nameList es).bind (idxs n) with
 | none=>intro _;rfl
 | some is=>intro h;exact nn4 h
theorem Kv {t:PySem.Expr} (h:Xm t=true):(∃ x p,t=.Name x p)\/∃ es k p,t=.Tuple es k p:=by
 refine oe (Bool.or_eq_true_iff.mp h) (fun h=>?_) fun h=>?_
 ·exact .inl (PySem.Expr.Name.elim (motive_1:=fun t=>∃ x p,t=.Name x p) t (beq_iff_eq.mp h) fun x p=>⟨x,p,rfl⟩)
 ·exact .inr (PySem.Expr.Tuple.elim (motive_1:=fun t=>∃ es k p,t=.Tuple es k p) t (beq_iff_eq.mp h) fun x k p=>⟨x,k,p,rfl⟩)
theorem GJ {W:Wd} {c:Cx} {n:Nm} {t:PySem.Expr} {I:Addr} {u:Value} {s:Shared} {Q:Unit->Shared->Prop} {P:Prop} (hft:Xm t=true) (hb:P->cT n t≠.bad) (h0:(cT n t).isTup=false->P/\Q () s)
  (h1:(cT n t).isTup=true->∀ es kk pp,wpAny W.M c.A (letOwnedTupleGo (.Tuple es kk pp) (.ref I) u) Q NoE s):wpAny W.M c.A (letOwnedTupleGo t (.ref I) u) Q NoE s:=by
 rcases Kv hft with ⟨x,p,rfl⟩ | ⟨es,k,p,rfl⟩
 ·exact wpAny_pure (h0 GH).2
 ·cases e:(cT n (.Tuple es k p)).isTup with
  | true=>exact h1 e es k p
  | false=>exact absurd (zbs e) (hb (h0 e).1)
inductive ForI (W:Wd) (c:Cx) (Φ:List (Addr×Obj)) (it:It) (I:Addr) (A:Nat->List (Option V)->Led->Prop) (s':Shared):Prop
 | mk (i:Nat) (ρ:List (Option V)) (σ:Led) (Ψ':List (Addr×Obj)) (r:R0 W.prog W.w c.F ρ σ (Ψ'++Φ) s') (h:ItOk it i I Ψ') (a:A i ρ σ)
theorem U0 {W:Wd} {lv:Nat} {c:Cx} {Φ:List (Addr×Obj)} {env:Env} {t:PySem.Expr} {b:List Stmt} {tu:Bool} {st:V->List (Option V)->Led->(List (Option V)->Led->Prop)->Prop} {bd:List (Option V)->Led->(AFl->List (Option V)->Led->Prop)->Prop}
  {K:AFl->List (Option V)->Led->Prop} {R:Result->Shared->Prop} {I:Addr} {it:It} (C:CxOk W lv c) (hR:∀ f s',QJ W c Φ K f s'->R (.ok f) s')
  (hgo:∀ u s Q,(tu=false->(∃ x ρ σ K,st x ρ σ K)/\Q () s)->(tu=true->∀ es kk pp,wpAny W.M c.A (letOwnedTupleGo (.Tuple es kk pp) (.ref I) u) Q NoE s)->wpAny W.M c.A (letOwnedTupleGo t (.ref I) u) Q NoE s)
  (hst:∀ Ψ u x ρ σ s Q,st x ρ σ Q->VR x u->R0 W.prog W.w c.F ρ σ (Ψ++Φ) s->wpAny W.M c.A (assign t env u) (Kr W c (Ψ++Φ) Q) NoE s)
  (hbd:∀ Ψ ρ σ s Q,bd ρ σ Q->R0 W.prog W.w c.F ρ σ (Ψ++Φ) s->wpAny W.M c.A (execs b env) (QJ W c (Ψ++Φ) Q) NoE s) {N:Nat} {ρ:List (Option V)} {σ:Led} {Ψ:List (Addr×Obj)} {s:Shared} (r:R0 W.prog W.w c.F ρ σ (Ψ++Φ) s) (hit:ItOk it 0 I Ψ) (hN:afor W lv tu st bd it N 0 ρ σ K) :
  codeAny W.M c.A (.forLoop t (.ref I) b [] env) R s:=by
 refine codeAny_forLoop_any (fun k=>ForI W c Φ it I fun i ρ σ=>afor W lv tu st bd it k i ρ σ K) ?_ N ⟨0,ρ,σ,Ψ,r,hit,hN⟩
 rintro k s1 ⟨i,ρ1,σ1,Ψ1,r1,hit1,h1⟩
 cases k with
 | zero=>exact False.elim h1
 | succ k=>
  refine zb ((show J1 W lv tu it i σ1 _ from h1).run c ρ1 Φ Ψ1 s1 I C hit1 r1) ?_
  intro o s2 hq
  cases o with
  | none=>
   obtain ⟨σ2,r2,q⟩:=hq
   exact wpAny_execs_nil (hR _ _ ⟨.next,ρ1,σ2,.next,r2,q⟩)
  | some u=>
   have body:∀ s2,vN W c ρ1 Φ it i I u (fun x σ=>st x ρ1 σ fun ρ σ=>bd ρ σ fun fl ρ σ=>match fl with
     | .next=>∃ σ',Sub σ' σ/\afor W lv tu st bd it k (i+1) ρ σ' K
     | .cont=>∃ σ',Sub σ' σ/\afor W lv tu st bd it k (i+1) ρ σ' K
     | .brk=>K .next ρ σ
     | .ret v=>K (.ret v) ρ σ) s2->wpAny W.M c.A (assign t env u) (fun _ s₂=>wpAny W.M c.A (execs b env) (fun f s₃=>match f with
      | .next | .cont=>∃ m,m<k+1/\ForI W c Φ it I (fun i ρ σ=>afor W lv tu st bd it m i ρ σ K) s₃
      | .brk=>R (.ok .next) s₃
      | .ret v=>R (.ok (.ret v)) s₃) NoE s₂) NoE s2:=by
    rintro s2 ⟨x,σ2,Ψ2,z,hit2,r2,q⟩
    refine zb (hst Ψ2 _ _ _ _ _ _ q z r2) ?_
    rintro _ s3 ⟨ρ3,σ3,r3,q3⟩
    refine zb (hbd Ψ2 _ _ _ _ q3 r3) ?_
    rintro fl s4 ⟨a,ρ4,σ4,hf,r4,q4⟩
    cases hf with
    | next=>refine e12 q4 fun σ' hs q4=>?_;exact ⟨k,Nat.lt_succ_self _,i+1,ρ4,σ',Ψ2,r4.sub hs,hit2,q4⟩
    | cont=>refine e12 q4 fun σ' hs q4=>?_;exact ⟨k,Nat.lt_succ_self _,i+1,ρ4,σ',Ψ2,r4.sub hs,hit2,q4⟩
    | brk=>exact hR _ _ ⟨.next,ρ4,σ4,.next,r4.dropΦ,q4⟩
    | ret z=>exact hR _ _ ⟨_,ρ4,σ4,.ret z,r4.dropΦ,q4⟩
   refine zb (hgo u s2 _ (fun e=>?_) fun e es kk pp=>?_) fun _ s3 q3=>zb (body s3 q3) fun _ _ q=>zb q fun _ _ x=>x
   ·subst e
    have hq':=hq
    obtain ⟨x,σ2,Ψ2,_,_,_,q⟩:=hq'
    exact ⟨⟨x,_,_,_,q⟩,hq⟩
   ·subst e;exact hq es kk pp
theorem Vp {t it:PySem.Expr} {b:List Stmt} {p:Pos} (gb:Q1 b):qF (.For t it b [] p):=by
 intro W lv c n ρ σ Φ env cl s K C v h r
 rw [zbq] at h
 by_cases hft:Xm t=true
 case neg=>rw [if_neg hft] at h;exact h.elim
 rw [if_pos hft] at h
 refine e02 (Vi it W lv c n ρ ρ σ Φ env cl s _ C (v.vw ρ) h r) fun hf hsrc=>?_
 refine wpAny_For (zb hsrc fun xv s₁ h₁=>zb h₁ ?_) hf
 rintro itv s₂ ⟨I,it',Ψ,σ',rfl,hit,r',N,hN⟩
 have up:∀ Ψ,Ve W n c (Ψ++Φ) env cl:=fun Ψ=>v.more fun p hp=>List.mem_append_right _ hp
 refine U0 C (fun f s' q=>q) ?_ (fun Ψ u x ρ σ s Q q z r=>jH (up Ψ) C q z r) (fun Ψ ρ σ s Q q r=>gb W lv c n ρ σ (Ψ++Φ) env cl s _ C (up Ψ) q r) r' hit hN
 exact fun u s Q h0 h1=>GJ (P:=∃ x ρ σ K,jw W lv cl ρ x (cT n t) σ K) hft (fun ⟨_,_,_,_,q⟩ e=>by rw [e] at q;exact q) h0 h1
end
section
theorem gq {h h':Heap} (u:h.UpToSlots h'):∀ fr:List (Addr×Obj),(∀ p∈fr,h.get? p.1=some p.2/\∀ vs,p.2.data≠.fields vs)->∃ fr',Ups fr fr'/\(∀ p∈fr',h'.get? p.1=some p.2)/\fr'.map (·.1)=fr.map (·.1)
 | [],_=>⟨[],.nil,fun p hp=>(by exact nn9 hp),rfl⟩
 | (a,o)::fr,k=>by
  refine e11 (u a o (k _ (.head _)).1 (k (a,o) (.head _)).2) fun sl e=>?_
  refine e13 (gq u fr fun p hp=>k p (.tail _ hp)) fun fr' u' m ks=>?_
  refine ⟨(a,{ o with slots:=sl })::fr',.cons a o sl u',fun p hp=>?_,by exact sr List.map_cons (sr List.map_cons (sr ks rfl))⟩
  refine mc hp ?_ fun hp=>?_
  ·exact e
  ·exact m p hp
theorem Outs.data:∀ {es:List Env} {fr:List (Addr×Obj)},Outs es fr->∀ p∈fr,∀ vs,p.2.data≠.fields vs
 | [],[],_,p,hp=>by exact nn9 hp
 | _::_,q::fr,h,p,hp=>by
  refine mc hp ?_ fun hp=>?_
  ·exact h.2.2.1
  ·exact Outs.data h.2.2.2 p hp
 | [],_::_,h,_,_=>h.elim
 | _::_,[],h,_,_=>h.elim
theorem Outs.frames {h base:Heap}:∀ {es:List Env} {fr:List (Addr×Obj)},Outs es fr->(∀ p∈fr,h.get? p.1=some p.2/\base.get? p.1=none)->h.FunFrames base es
 | [],[],_,_=>trivial
 | e::es,q::fr,x,k=>⟨x.1,⟨q.1,q.2,x.2.1,(k q (.head _)).2,(k q (.head _)).1,x.2.2.1⟩,Outs.frames x.2.2.2 fun p hp=>k p (.tail _ hp)⟩
 | [],_::_,x,_=>x.elim
 | _::_,[],x,_=>x.elim
theorem R0.same {prog:Program} {w:World} {F:Fm} {ρ:List (Option V)} {σ:Led} {Φ:List (Addr×Obj)} {s s':Shared} (r:R0 prog w F ρ σ Φ s) (h1:s'.heap=s.heap) (h2:s'.gens=s.gens) (h3:s'.os=s.os):R0 prog w F ρ σ Φ s':=by
 obtain ⟨fr,up,r⟩:=r.ex
 exact ⟨fr,up,⟨by refine sr h1 ?_;exact r.ex,h2.trans r.gens,h3.trans r.os⟩⟩
theorem R0.zcv {W:Wd} {lv:Nat} {c:Cx} {ρ:List (Option V)} {σ:Led} {Φ:List (Addr×Obj)} {s:Shared} (C:CxOk W lv c) (r:R0 W.prog W.w c.F ρ σ Φ s) :
  ∃ base:Heap,base.StaysIn s.heap/\s.heap.FunFrames base (c.env::c.outer)/\∀ h' t,base.StaysIn h'->s.heap.UpToSlots h'->R0 W.prog W.w c.F ρ σ Φ { s with heap:=h',toks:=t }:=by
 obtain ⟨fr,up,r⟩:=r.ex
 obtain ⟨m,os,FF,lo,l,N,nd⟩:=r.ex
 refine e34 FF.ns fun oL es ep hL hLd hLk hLf=>?_
 have O:=C.outs.up up
 have Nf:∀ p∈fr,s.heap.get? p.1=some p.2:=fun p hp=>(N p (List.mem_append_right _ (List.mem_append_right _ hp))).1
 refine ⟨hideAll s.heap (c.F.L::fr.map (·.1)),fun b o e=>of_hideAll _ e,⟨by refine sr C.kind ?_;decide,⟨c.F.L,oL,C.frame,hideAll_none _ (.head _),hL,fun vs q=>by rw [hLd] at q;cases q⟩,O.frames fun p hp=>⟨Nf p hp,hideAll_none _ (.tail _ (List.mem_map_of_mem hp))⟩⟩,fun h' t st u=>?_⟩
 refine e13 (gq u fr fun p hp=>⟨Nf p hp,O.data p hp⟩) fun fr' u' m' ks=>?_
 have h0L:∀ o,c.F.h₀.get? c.F.L≠some o:=fun o q=>absurd (Nat.lt_of_lt_of_le (Heap.lt_size q) FF.above) (Nat.lt_irrefl _)
 have stay:∀ b o,s.heap.get? b=some o->b∉c.F.L::fr.map (·.1)->h'.get? b=some o:=fun b o e n=>st b o (hideAll_get _ e n)
 rw [List.map_append,List.map_append] at nd
 have nd2:=List.nodup_append.mp nd
 have nd3:=List.nodup_append.mp nd2.2.1
 refine ⟨fr',up.trans u',⟨⟨m,os,⟨u.ns FF.ns,fun b o e=>stay b o (FF.keep b o e) fun q=>?_,FF.above⟩,lo,l,fun p hp=>?_,?_⟩,r.gens,r.os⟩⟩
 ·rcases List.mem_cons.mp q with rfl | q
  ·exact h0L o e
  ·refine e12 (List.mem_map.mp q) fun p hp w0=>?_;subst w0
   have:=(N p (List.mem_append_right _ (List.mem_append_right _ hp))).2.2
   rw [e] at this;exact nn2 this
 ·refine ma hp (fun hp=>?_) fun hp=>?_
  ·have B:=N p (List.mem_append_left _ hp)
   refine ⟨stay _ _ B.1 fun q=>?_,B.2⟩
   refine mo q (fun q=>?_) fun q=>?_
   ·exact B.2.1 q
   ·exact nd2.2.2 _ (List.mem_map_of_mem hp) _ (List.mem_append_right _ q) rfl
  refine ma hp (fun hp=>?_) fun hp=>?_
  ·have B:=N p (List.mem_append_right _ (List.mem_append_left _ hp))
   refine ⟨stay _ _ B.1 fun q=>?_,B.2⟩
   refine mo q (fun q=>?_) fun q=>?_
   ·exact B.2.1 q
   ·exact nd3.2.2 _ (List.mem_map_of_mem hp) _ q rfl
  ·refine ⟨m' p hp,?_⟩
   have:p.1∈fr.map (·.1):=ks ▸ List.mem_map_of_mem hp
   refine e12 (List.mem_map.mp this) fun p' hp' e=>?_
   have B:=N p' (List.mem_append_right _ (List.mem_append_right _ hp'))
   refine sq e ?_;exact B.2
 ·refine sr List.map_append (sr List.map_append (sr ks ?_));exact nd
theorem JN {W:Wd} {lv:Nat} {c:Cx} {ρ:List (Option V)} {σ:Led} {Φ:List (Addr×Obj)} {s s':Shared} {e:Addr} {X:String} {E:Value->Shared->Prop} {Q:Unit->Shared->Prop} (C:CxOk W lv c) (r:R0 W.prog W.w c.F ρ σ Φ s) (hs:s'.gens=s.gens/\s'.os=s.os) (hx:Heap.NewExc s.heap s'.heap e X)
  (k:∀ s'':Shared,R0 W.prog W.w c.F ρ σ Φ s''->s''.TypeIs (.ref e) X->(∀ (A:Around) (E:Value->Shared->Prop) (Q:Unit->Shared->Prop),(∀ s₃:Shared,R0 W.prog W.w c.F ρ σ Φ s₃->Q () s₃)->wpAny W.M A (setFlight (.ref e) none) Q E s'')->Q () s'') :
  wpAny W.M c.A (noteFrame (.ref e) c.env) (fun _ s₂=>wpAny W.M c.A (setFlight (.ref e) none) Q E s₂) E s':=by
 refine e13 (r.zcv C) fun base st fu back=>?_
 obtain ⟨h',g',d',t',os'⟩:=s'
 refine e02 hs fun w0 w1=>?_;subst w0;subst w1
 refine e23 hx.there fun ob tt he hcls hd=>?_
 have kp:=hx.keeps
 dsimp only at he kp
 have u1:s.heap.UpToSlots h':=fun b o q _=>⟨o.slots,kp b o q⟩
 have hen:base.get? e=none:=by
  cases q:base.get? e with
  | none=>rfl
  | some o=>have:=st e o q;rw [hx.new] at this;exact nn1 this
 unfold noteFrame
 simp only [C.frame]
 refine wpAny_bind (wpAny_field he hd (x:=.none) rfl ?_)
 refine sr (if_neg (by decide)) ?_
 refine wpAny_entryW (base:=base) (outer:=c.outer) C.frames (fu.of_keeps fun b o hb _=>⟨o,kp b o hb,rfl⟩) C.frame he (fun b o q=>kp b o (st b o q)) hen hd (by refine (?_:1<6);decide) rfl fun h2 hN=>?_
 refine e04 hN fun n1 n2 n3 n4=>?_
 refine wpAny_setFlight_noneW n1 n2 n3 fun h3 k1 k2 k3 k4=>?_
 have u3:s.heap.UpToSlots h3:=(u1.trans n4).trans fun b o hb hn=>⟨o.slots,k4 b o hb hn⟩
 have r3:=back h3 t' k1 u3
 have r3':R0 W.prog W.w c.F ρ σ Φ ⟨h3,s.gens,d',t',s.os⟩:=r3.same rfl rfl rfl
 refine k _ r3' ?_ fun A E Q kk=>?_
 ·refine e53 k3 fun oe vs T oT ts a1 a2 _=>?_
  exact ⟨oe,a1,by refine sr a2.1 ?_;exact hcls⟩
 ·refine wpAny_setFlight_noneW k1 k2 k3.at fun h4 l1 l2 l3 l4=>kk _ ?_
  have u4:s.heap.UpToSlots h4:=u3.trans fun b o hb hn=>⟨o.slots,l4 b o hb hn⟩
  exact (back h4 t' l1 u4).same rfl rfl rfl
theorem Vq {o:Option V} {k:Option NameKind} (h:isVE o k=true):o=some (.ty "ValueError")/\k=some .globalImplicit:=by
 cases o with
 | none=>exact nn3 h
 | some v=>cases v with
  | ty t=>cases k with
   | none=>exact nn3 h
   | some k=>cases k with
    | globalImplicit=>exact ⟨by exact sr (eq_of_beq h) rfl,rfl⟩
    | _=>exact nn3 h
  | _=>exact nn3 h
inductive Lv2 (h:Heap) (a:Addr) (xs:List V):Prop
 | mk (vs:List Value) (n:Nat) (v:VRs xs vs) (k:xs.length<=16777216) (g:h.get? a=some { cls:=.type "list",dict:=none,data:=.seq vs.toArray n,slots:=#[] })
theorem R0.isLv {prog:Program} {w:World} {F:Fm} {ρ:List (Option V)} {σ:Led} {Φ:List (Addr×Obj)} {s:Shared} (r:R0 prog w F ρ σ Φ s) {a:Addr} {xs:List V} (m:(a,O.list xs)∈σ):Lv2 s.heap a xs:=by
 obtain ⟨o,g,z⟩:=r.get m
 refine e23 z.jf fun vs n hv hl w0=>?_;subst w0
 exact ⟨vs,n,hv,hl,g⟩
section
variable {W:Wd} {lv:Nat} {n:Nm} {c:Cx} {Φ:List (Addr×Obj)} {env:Env} {cl:List V} {ρ:List (Option V)} {σ:Led} {s:Shared}
theorem Ve.local (v:Ve W n c Φ env cl) {x:Str} {i:Nat} {p:Pos} (h:idx n x=some i) (hd:x≠("__debug__" : Str)) {y:V} (hy:ρ[i]?=some (some y)) (r:R0 W.prog W.w c.F ρ σ Φ s) {A:Around} {E:Value->Shared->Prop} {Q:Value->Shared->Prop} (q:Sh y fun u=>Q u s) :
  wpAny W.M A (eval (.Name x p) env) Q E s:=by
 refine e02 (Vo h) fun hl hg=>?_
 exact wpAny_Name (r.load (by refine sq v.locs ?_;exact hg) hy v.loc v.kind (by refine (?_:env.scope.names.lookup x=_);refine sr v.names ?_;exact hl) fun _=>q.run) (by simpa using hd)
theorem JO (v:Ve W n c Φ env cl) {l x m:Str} {id:String} {i j:Nat} {b:List Stmt} (hb:jF l m x b) {a:Addr} {xs:List V} {y:V} {A:Around} {E:Value->Shared->Prop} {Q:Flow->Shared->Prop} {B:Builtin}
  (slot:Slot "list" m id) (ty:typeOf (.builtin id)=pure (.type "method_descriptor")) (entry:entryFor table id=some B)
  (hi:idx n l=some i) (hj:idx n x=some j) (dl:l≠("__debug__" : Str)) (dx:x≠("__debug__" : Str)) (h1:ρ[i]?=some (some (.ref a))) (h2:ρ[j]?=some (some y)) (ml:(a,O.list xs)∈σ) (r:R0 W.prog W.w c.F ρ σ Φ s)
  (k:∀ u,VR y u->argsOk id ⟨[.ref a,u],[]⟩/\∃ S,Meets (B ⟨[.ref a,u],[]⟩) S/\∀ R:Result->Shared->Prop,(∀ s',Q .next s'->R (.ok (.ret .none)) s')->(∀ e s',E e s'->R (.error e) s')->S A R s) :
  wpAny W.M A (execs b env) Q E s:=by
 obtain ⟨p1,p2,p3,p4,p5,hline⟩:=hb
 have hint:interactive env=false:=by unfold interactive;refine sr v.kind ?_;rfl
 obtain ⟨vs,nn,hv,hk,ia⟩:=r.isLv ml
 refine wpAny_execs_cons ?_
 refine sr (exec_Expr env _ p5 hint rfl) ?_
 refine wpAny_bind (wpAny_standAt (wpAny_bind ?_))
 rw [arm_eval_Call,zU rfl]
 refine wpAny_bind (v.local hi dl h1 r ?_)
 refine wpAny_bind (wpAny_standAt ?_)
 have hpos:methodCallPos true (.Name l p1) env p2 p4=pure p4:=by unfold methodCallPos;simp [hline]
 have hf:methodCallForm (([.Name x p3]:List PySem.Expr).length+([]:List Keyword).length) (backTo p4 (starEach [.Name x p3] env)) (backToKw p4 (keywordEach [] env))=true:=rfl
 unfold methodCall
 refine sr hf ?_
 refine wpAny_bind (wpAny_holding ?_)
 refine getMethod_builtin (T:="list") ⟨_,ia,rfl⟩ F.plainAttrs_list slot ty (fun b e=>by cases e;exact ⟨_,ia,rfl⟩) ?_
 refine wpAny_bind (wpAny_of_eq hpos ?_)
 refine PySem.seqMethod1_meets slot entry ?_
 refine v.local hj dx h2 r (.of fun u hu=>?_)
 obtain ⟨a1,S,M,st⟩:=k u hu
 exact ⟨⟨_,ia,rfl⟩,a1,S,M,st _ (fun s' q=>wpAny_dropValue (wpAny_execs_nil q)) fun e s' q=>q⟩
end
theorem VRs.strs {xs:List (List Nat)} {vs:List Value} (h:VRs (xs.map V.str) vs) {i:Nat} (hi:i<vs.length):∃ l t,xs[i]?=some l/\vs[i]=.str ⟨l.toArray⟩ t:=by
 have hl:=h.length
 rw [List.length_map] at hl
 have hx:i<xs.length:=okV hi hl.symm
 obtain ⟨v,hv,z⟩:=h.get (i:=i) (x:=.str xs[i]) (by rw [List.getElem?_map,List.getElem?_eq_getElem hx];rfl)
 rw [List.getElem?_eq_getElem hi] at hv
 cases z with
 | str _ t _=>exact ⟨_,t,List.getElem?_eq_getElem hx,Option.some.inj hv⟩
noncomputable def isS (xx:List Nat):Value->Bool
 | .str q _=>q==(⟨xx.toArray⟩:Str)
 | _=>false
theorem GK (xx l:List Nat) (t:Tok):isS xx (.str ⟨l.toArray⟩ t)=decide (l=xx):=by
 show ((⟨l.toArray⟩:Str)==⟨xx.toArray⟩)=_
 rw [Bool.eq_iff_iff,beq_iff_eq,decide_eq_true_eq]
 constructor
 ·intro e;injection e with e;exact congrArg Array.toList e
 ·rintro rfl;rfl
theorem Q2 {α β:Type} (f:α->β):∀ (l:List α) (i:Nat),(l.eraseIdx i).map f=(l.map f).eraseIdx i
 | [],_=>rfl
 | _::_,0=>rfl
 | a::l,i+1=>congrArg (f a :: ·) (Q2 f l i)
section
variable {xs:List (List Nat)} {vs:List Value} {x:List Nat} {u:Value}
theorem gu (hv:VRs (xs.map V.str) vs) (hu:VR (.str x) u):∀ y,y∈vs.toArray->MeetsSeq.EqGives y u (isS x y):=fun y hy=>by
 obtain ⟨i,hi,e⟩:=List.mem_iff_getElem.mp (List.mem_toArray.mp hy)
 refine e22 (hv.strs hi) fun l t hl e'=>?_
 refine sq e (sr e' ?_)
 cases hu
 exact eqGives_str _ _ _ _
theorem GL (hv:VRs (xs.map V.str) vs) {i:Nat} (hi:i<vs.length):∃ l,xs[i]?=some l/\isS x (vs[i])=decide (l=x):=by
 refine e22 (hv.strs hi) fun l t hl e'=>?_
 exact ⟨l,hl,by rw [e',GK]⟩
theorem zbt (hv:VRs (xs.map V.str) vs) (hin:x∉xs) (m:Nat) (hm:m<vs.toArray.size):isS x (vs.toArray[m])=false:=by
 rw [List.getElem_toArray]
 refine e12 (GL (x:=x) hv (i:=m) (List.size_toArray ▸ hm)) fun l hl e=>?_
 refine sr e ?_
 exact decide_eq_false fun q=>hin (q ▸ List.mem_of_getElem? hl)
theorem Vr (hv:VRs (xs.map V.str) vs) (hin:x∈xs):xs.idxOf x<vs.length:=by
 have:=hv.length
 rw [List.length_map] at this
 exact this ▸ List.idxOf_lt_length_iff.mpr hin
theorem GN (hv:VRs (xs.map V.str) vs) (hin:x∈xs) (h:xs.idxOf x<vs.toArray.size):isS x (vs.toArray[xs.idxOf x])=true:=by
 rw [List.getElem_toArray]
 refine e12 (GL (x:=x) hv (Vr hv hin)) fun l hl e=>?_
 refine sr e ?_
 have hj:=List.idxOf_lt_length_iff.mpr hin
 rw [List.getElem?_eq_getElem hj,List.getElem_idxOf hj] at hl
 exact decide_eq_true (Option.some.inj hl).symm
theorem Vt (hv:VRs (xs.map V.str) vs) (m:Nat) (hm:m<vs.toArray.size) (hmj:m<xs.idxOf x):isS x (vs.toArray[m])=false:=by
 rw [List.getElem_toArray]
 refine e12 (GL (x:=x) hv (i:=m) (List.size_toArray ▸ hm)) fun l hl e=>?_
 refine sr e ?_
 have hmx:m<xs.length:=oka hmj List.idxOf_le_length
 rw [List.getElem?_eq_getElem hmx] at hl
 refine decide_eq_false fun q=>?_
 have:=List.not_of_lt_findIdx hmj
 rw [Option.some.inj hl,q,beq_self_eq_true] at this
 exact nn4 this
theorem zcw {prog:Program} {w:World} {nn:Nat} (hv:VRs (xs.map V.str) vs) (hin:x∈xs) (hl:(xs.map V.str).length<=16777216) :
  OR prog w (.list ((xs.erase x).map V.str)) { cls:=.type "list",dict:=none,data:=.seq (vs.toArray.eraseIdxIfInBounds (xs.idxOf x)) nn,slots:=#[] }:=by
 have e:vs.toArray.eraseIdxIfInBounds (xs.idxOf x)=(vs.eraseIdx (xs.idxOf x)).toArray:=by
  rw [Array.eraseIdxIfInBounds,dif_pos (by rw [List.size_toArray];exact Vr hv hin)]
  simp
 have hV:VRs ((xs.erase x).map V.str) (vs.eraseIdx (xs.idxOf x)):=by
  rw [List.erase_eq_eraseIdx_of_idxOf rfl,Q2]
  exact hv.eraseIdx _
 rw [e]
 rw [List.length_map] at hl
 exact .list _ hV (by rw [List.length_map];exact Nat.le_trans (List.length_erase_le ..) hl)
end
section
variable {W:Wd} {A:Around} {F:Fm} {xs:List (List Nat)} {ys:List V} {x:List Nat} {u:Value} {a:Addr} {E:Value->Shared->Prop} {σ':Led} {y:V}
theorem k_in {Q:Shared->Prop} (r:R0 W.prog W.w F ρ σ Φ s) (h4:(a,O.list (xs.map V.str))∈σ) (hin:x∈xs) (hu:VR (.str x) u) (P:Put a (.list ((xs.erase x).map V.str)) σ σ') (hQ:∀ s',R0 W.prog W.w F ρ σ' Φ s'->Q s') :
  ∃ S,Meets (Builtin.«list.remove» ⟨[.ref a,u],[]⟩) S/\∀ R:Result->Shared->Prop,(∀ s',Q s'->R (.ok (.ret .none)) s')->(∀ e s',E e s'->R (.error e) s')->S A R s:=by
 obtain ⟨vs,nn,hv,hkl,ia⟩:=r.isLv h4
 have hz:vs.toArray.size<=sizeLine:=by refine sr List.size_toArray (sq hv.length ?_);exact hkl
 have hjv:xs.idxOf x<vs.toArray.size:=by refine sr List.size_toArray ?_;exact Vr hv hin
 refine ⟨_,MeetsSeq.list_remove a vs.toArray nn u (isS x) (gu hv hu) (xs.idxOf x) hjv (GN hv hin hjv) (fun m hm hmj=>Vt hv m hm hmj) hz,fun R hR _=>⟨ia,hR _ (hQ _ ?_)⟩⟩
 have g:=Heap.get?_update_self (Obj.mapSeq fun xs_1=>xs_1.eraseIdxIfInBounds (xs.idxOf x)) ia rfl
 exact r.put (t:=s.toks) P (zcw (nn:=if (vs.toArray.eraseIdxIfInBounds (xs.idxOf x)).size==vs.toArray.size then nn else nn+1) hv hin hkl) (Heap.SameBut.update ..) g
theorem zcx {Q:Shared->Prop} (r:R0 W.prog W.w F ρ σ Φ s) (h5:(a,O.list ys)∈σ) (hyl:ys.length<16777216) (hu:VR y u) (P:Put a (.list (ys++[y])) σ σ') (hQ:∀ s',R0 W.prog W.w F ρ σ' Φ s'->Q s') :
  ∃ S,Meets (Builtin.«list.append» ⟨[.ref a,u],[]⟩) S/\∀ R:Result->Shared->Prop,(∀ s',Q s'->R (.ok (.ret .none)) s')->(∀ e s',E e s'->R (.error e) s')->S A R s:=by
 obtain ⟨vs,nn,hv,hkl,ia⟩:=r.isLv h5
 refine ⟨_,PySem.list_append a vs.toArray nn u (by refine sr List.size_toArray ?_;refine (?_:_<=16777216);exact okd (okZ hyl hv.length.symm)),fun R hR _=>⟨ia,hR _ (hQ _ ?_)⟩⟩
 have g:=Heap.get?_update_self (Obj.mapSeq fun x_1=>x_1.push u) ia rfl
 have z:OR W.prog W.w (.list (ys++[y])) _:=.list (if (vs.toArray.push u).size==vs.toArray.size then nn else nn+1) (hv.append (.cons hu .nil)) (by refine sr List.length_append ?_;exact hyl)
 rw [← List.push_toArray] at z
 exact r.put (t:=s.toks) P z (Heap.SameBut.update ..) g
end
theorem Vu {W:Wd} {lv:Nat} {A:Around} {E:Value->Shared->Prop} {T:Str} {t:String} {Q:Value->Shared->Prop} (C:CxOk W lv c) (vv:Ve W n c Φ env cl) (r:R0 W.prog W.w c.F ρ σ Φ s) (hg:n.glob T=some (.ty t)) (hk:n.scope.names.lookup T=some .globalImplicit) (h:Q (.type t) s):wpAny W.M A (loadName env T) Q E s:=by
 refine e12 (vv.globs _ _ hg) fun u' hu' hgl=>?_
 cases hu'
 have hx:env.kindOf T=some .globalImplicit:=by refine (?_:env.scope.names.lookup _=_);refine sr vv.names ?_;exact hk
 exact (loadName_read vv.kind hx).symm ▸ Xq C r vv.glob vv.blt hgl h
theorem U1 {p6 p12 p13:Pos} {l x l2:Str} {b b2:List Stmt} {W:Wd} {lv:Nat} {K:AFl->List (Option V)->Led->Prop} (C:CxOk W lv c) (vv:Ve W n c Φ env cl) (r:R0 W.prog W.w c.F ρ σ Φ s)
  (m1:jF l "remove" x b) (m2:jF l2 "append" x b2) (hg:n.glob "ValueError" = some (.ty "ValueError")) (hk:n.scope.names.lookup ("ValueError" : Str)=some .globalImplicit) (dx:x≠("__debug__" : Str)) (dl:l≠("__debug__" : Str)) (dl2:l2≠("__debug__" : Str))
  (h:TryC (idx n l) (idx n x) (idx n l2) ρ σ K):wpAny W.M c.A (exec (.Try b [.ExceptHandler (some (.Name ("ValueError" : Str) p6)) none b2 p12] [] [] p13) env) (QJ W c Φ K) NoE s:=by
 have m3:=m2
 cases m2
 cases h with
 | mk i j k hi hj hkk a xx mm xs ys h1 h2 h3 h4 h5 ht hf=>
  refine wpAny_Try_except ?_
  refine JO vv m1 F.slot_list_remove F.type_list_remove F.entry_list_remove hi hj dl dx h1 h2 h4 r fun u hu=>⟨F.args_list_remove_2 _ _,?_⟩
  by_cases hin:xx∈xs
  ·refine (ht hin).elim fun σ' hP=>k_in r h4 hin hu hP.1 fun s' r'=>?_
   exact wpAny_execs_nil ⟨.next,ρ,σ',.next,r',hP.2⟩
  ·obtain ⟨vs,nn,hv,hkl,ia⟩:=r.isLv h4
   refine ⟨_,MeetsSeq.list_remove_none a vs.toArray nn u (isS xx) (gu hv hu) (zbt hv hin),fun R _ hE=>⟨ia,C.handled,fun h' tk e hx=>hE _ _ ?_⟩⟩
   refine sr vv.same ?_
   refine JN C r ⟨rfl,rfl⟩ hx fun s2 r2 ty2 land=>?_
   refine wpAny_handleBy_builtin (X:="ValueError") (T:="ValueError") (b:=true) PySem.F.isExc_ValueError PySem.F.notTuple_ValueError (by rw [isSubtype_type];kernel_rfl) ?_
   refine sq vv.same ?_
   refine wpAny_Name ?_ (by decide)
   refine Vu C vv r2 hg hk ⟨rfl,ty2,?_⟩
   refine land _ _ _ fun s3 r3=>?_
   refine (hf hin).2.elim fun σ' hP=>?_
   refine JO vv m3 F.slot_list_append F.type_list_append F.entry_list_append hkk hj dl2 dx h3 h2 h5 r3 fun u hu=>⟨F.args_list_append_2 _ _,zcx r3 h5 (hf hin).1 hu hP.1 fun s' r'=>?_⟩
   exact ⟨.next,ρ,σ',.next,r',hP.2⟩
theorem Vv {b:List Stmt} {hs:List ExceptHandler} {p:Pos}:qF (.Try b hs [] [] p):=by
 intro W lv c n ρ σ Φ env cl s K C vv h r
 rw [zbr] at h
 unfold Gu at h
 cases q:vz b "actual" "remove" "item" && Gs hs "ValueError" (fun b=>vz b "missing" "append" "item")&&isVE (n.glob "ValueError") (n.scope.names.lookup ("ValueError" : Str)) with
 | false=>rw [q] at h;exact False.elim h
 | true=>
  rw [q] at h
  exact and3 q fun q1 q2 q3=>UU (P:=fun hs=>wpAny W.M c.A (exec (.Try b hs [] [] p) env) (QJ W c Φ K) NoE s) q2 fun p6 b2 p12 q2=>U1 C vv r (YX q1) (YX q2) (Vq q3).1 (Vq q3).2 (by decide) (by decide) (by decide) h
theorem Zh {st:Stmt} (h:∀ n,cS n st=.bad):qF st:=by
 intro W lv c n ρ σ Φ env cl s K C v hh r
 rw [h] at hh;exact hh.elim
theorem Vx {t e:PySem.Expr} {op:Operator} {p:Pos}:qF (.AugAssign t op e p):=by
 cases t with
 | Name x px=>exact xg
 | Attribute o nm px=>exact xh
 | Subscript o i px=>exact XG
 | _=>exact Zh fun n=>rfl
theorem yY {e cs:Option PySem.Expr} {p:Pos}:qF (.Raise e cs p):=by
 intro W lv c n ρ σ Φ env cl s K C v h r
 rcases YY (n:=n) (e:=e) (cs:=cs) (p:=p) with q | ⟨q,_⟩ <;> (rw [q] at h;exact False.elim h)
theorem yZ {b:List Stmt} {hs:List ExceptHandler} {o f:List Stmt} {p:Pos}:qF (.Try b hs o f p):=by
 cases o with
 | cons _ _=>exact Zh fun n=>rfl
 | nil=>
  cases f with
  | cons _ _=>exact Zh fun n=>rfl
  | nil=>
   exact Vv
mutual
theorem Vy:(st:Stmt)->qF st
 | .Expr e p=>Ku
 | .Pass p=>fun W lv c n ρ σ Φ env cl s K C v h r=>wpAny_Pass ⟨.next,ρ,σ,.next,r,h⟩
 | .Break p=>fun W lv c n ρ σ Φ env cl s K C v h r=>wpAny_Break ⟨.brk,ρ,σ,.brk,r,h⟩
 | .Continue p=>fun W lv c n ρ σ Φ env cl s K C v h r=>wpAny_Continue ⟨.cont,ρ,σ,.cont,r,h⟩
 | .Return e p=>XD
 | .Assign ts e p=>XF
 | .AugAssign t op e p=>Vx
 | .If t a b p=>UZ (qh a) (qh b)
 | .While t b [] p=>yX (qh b)
 | .While t b (_::_) p=>Zh fun n=>rfl
 | .For t it b [] p=>Vp (qh b)
 | .For t it b (_::_) p=>Zh fun n=>rfl
 | .Raise e cs p=>yY
 | .Try b hs o f p=>yZ
 | .FunctionDef .. | .AsyncFunctionDef .. | .ClassDef .. | .Delete .. | .TypeAlias .. | .AnnAssign .. | .AsyncFor .. | .With .. | .AsyncWith .. | .Match .. | .TryStar .. | .Assert .. | .Import .. | .ImportFrom .. | .Global .. | .Nonlocal ..=>Zh fun n=>rfl
termination_by structural st=>st
theorem qh:(sts:List Stmt)->Q1 sts
 | []=>Ks
 | st::sts=>yU (Vy st) (qh sts)
termination_by structural sts=>sts
end
end
section
section
variable {W:Wd} {lv:Nat} {σ:Led} {Q:V->Led->Prop}
theorem Zl {a b:Int} (h:Q (.int (a+b)) σ):Op W lv (.bin .Add) [.int a,.int b] σ Q:=.sh fun c ρ Φ s C r=>by
 intro t1 t2
 exact PySem.P.add_int ⟨_,σ,.int _ _,r.toks _,h⟩
theorem qi {a b:Int} (h:Q (.int (a-b)) σ):Op W lv (.bin .Sub) [.int a,.int b] σ Q:=.sh fun c ρ Φ s C r=>by
 intro t1 t2
 exact PySem.P.sub_int ⟨_,σ,.int _ _,r.toks _,h⟩
theorem ZS {a b:Int} (h:Q (.int (a+b)) σ):Op W lv (.inpl .Add) [.int a,.int b] σ Q:=.sh fun c ρ Φ s C r=>by
 intro t1 t2
 exact PySem.P.iadd_int ⟨_,σ,.int _ _,r.toks _,h⟩
theorem qk {a b:Int} (hb:0<b) (h:Q (.int (a % b)) σ):Op W lv (.bin .Mod) [.int a,.int b] σ Q:=.sh fun c ρ Φ s C r=>by
 intro t1 t2
 have e:a.fmod b=a % b:=Int.fmod_eq_emod_of_nonneg _ (by lia)
 exact AutoIntOps.mod_1 (by simp;omega) ⟨_,σ,.int _ _,r.toks _,by refine sr e ?_;exact h⟩
theorem Y1 {a b:Int} (hb:0<b) (hb2:b<2 ^ 60) (h:Q (.int (a / b)) σ):Op W lv (.bin .FloorDiv) [.int a,.int b] σ Q:=.sh fun c ρ Φ s C r=>by
 intro t1 t2
 have e:a.fdiv b=a / b:=Int.fdiv_eq_ediv_of_nonneg _ (by lia)
 refine AutoIntOps.floordiv_1 (by simp;lia) ?_ ⟨_,σ,.int _ _,r.toks _,by refine sr e ?_;exact h⟩
 unfold Builtin.divisionGoesByPylong
 have hl:b.natAbs.log2<60:=(Nat.log2_lt (by omega)).mpr (by omega)
 have h0:(b==0)=false:=by simp;lia
 simp only [h0]
 simp
 intro hh
 omega
theorem JP (h:Q (.int 1000000) σ):Op W lv (.bin .Pow) [.int 10,.int 6] σ Q:=.sh fun c ρ Φ s C r=>by
 intro t1 t2
 exact AutoIntOps.pow_4 (by decide) (by decide) (by decide) (by decide) (by decide +kernel) ⟨_,σ,.int _ _,r.toks _,h⟩
theorem Qg {a:Int} (h:Q (.int (-a)) σ):Op W lv .neg [.int a] σ Q:=.sh fun c ρ Φ s C r=>by
 intro t1
 exact PySem.P.neg_int ⟨_,σ,.int _ _,r.toks _,h⟩
theorem gv {a b:Int} (h:Q (.bool (decide (a=b))) σ):Op W lv (.cmp .Eq) [.int a,.int b] σ Q:=.sh fun c ρ Φ s C r=>by
 intro t1 t2
 exact PySem.P.eq_int ⟨_,σ,.bool _,r,by rw [Bool.beq_eq_decide_eq];exact h⟩
theorem gw {a b:Int} (h:Q (.bool (decide (a≠b))) σ):Op W lv (.cmp .NotEq) [.int a,.int b] σ Q:=.sh fun c ρ Φ s C r=>by
 intro t1 t2
 have e:(a != b)=decide (a≠b):=by by_cases q:a=b <;> simp [q]
 exact PySem.P.ne_int ⟨_,σ,.bool _,r,by refine sr e ?_;exact h⟩
theorem Vz {a b:Int} (h:Q (.bool (decide (a<b))) σ):Op W lv (.cmp .Lt) [.int a,.int b] σ Q:=.sh fun c ρ Φ s C r=>by
 intro t1 t2
 exact PySem.P.lt_int ⟨_,σ,.bool _,r,h⟩
theorem cmp_gt {a b:Int} (h:Q (.bool (decide (b<a))) σ):Op W lv (.cmp .Gt) [.int a,.int b] σ Q:=.sh fun c ρ Φ s C r=>by
 intro t1 t2
 exact PySem.P.gt_int ⟨_,σ,.bool _,r,h⟩
theorem Qh {a b:Int} (h:Q (.bool (decide (b<=a))) σ):Op W lv (.cmp .GtE) [.int a,.int b] σ Q:=.sh fun c ρ Φ s C r=>by
 intro t1 t2
 exact PySem.P.ge_int ⟨_,σ,.bool _,r,h⟩
theorem str_len (l:List Nat):(⟨l.toArray⟩:Str).length=l.length:=by rfl
theorem Y4 {x y:List Nat} {t u:Tok} {c:Cx} {ρ:List (Option V)} {Φ:List (Addr×Obj)} {s:Shared} (hl:x.length+y.length<=16777216) (r:R0 W.prog W.w c.F ρ σ Φ s) (h:Q (.str (x++y)) σ) :
  (if (⟨x.toArray⟩:Str).length==0 then Made.val (.str ⟨y.toArray⟩ u) else if (⟨y.toArray⟩:Str).length==0 then Made.val (.str ⟨x.toArray⟩ t) else Made.str ((⟨x.toArray⟩:Str)++⟨y.toArray⟩)).post (Post W c ρ Φ Q) s:=by
 rw [str_len,str_len]
 cases x with
 | nil=>exact ⟨.str y,σ,.str y _ (Nat.le_of_add_le_add_left hl),r,by simpa using h⟩
 | cons a x=>
  cases y with
  | nil=>exact ⟨.str (a::x),σ,.str _ _ (by simp at hl ⊢;exact hl),r,by simpa using h⟩
  | cons b y=>
   have e:(⟨(a::x).toArray⟩:Str)++(⟨(b::y).toArray⟩:Str)=⟨(a::x++b::y).toArray⟩:=by
    show (⟨_⟩:Str)=⟨_⟩
    congr 1
    simp
   refine sr e ?_
   exact ⟨by show (_:Nat)<=sizeLine;rw [str_len,List.length_append];exact hl,.str (a::x++b::y),σ,.str _ _ (by refine sr List.length_append ?_;exact hl),r.toks _,h⟩
theorem Zw {x y:List Nat} (hl:x.length+y.length<=16777216) (h:Q (.str (x++y)) σ):Op W lv (.bin .Add) [.str x,.str y] σ Q:=.sh fun c ρ Φ s C r=>by
 intro t1 l1 t2 l2
 exact PySem.P.add_str (Y4 hl r h)
theorem jI {x y:List Nat} (hl:x.length+y.length<=16777216) (h:Q (.str (x++y)) σ):Op W lv (.inpl .Add) [.str x,.str y] σ Q:=.sh fun c ρ Φ s C r=>by
 intro t1 l1 t2 l2
 exact PySem.P.iadd_str (Y4 hl r h)
theorem qS {x y:List Nat} (h:Q (.bool (decide (x=y))) σ):Op W lv (.cmp .Eq) [.str x,.str y] σ Q:=.sh fun c ρ Φ s C r=>by
 intro t1 l1 t2 l2
 exact PySem.P.eq_str ⟨_,σ,.bool _,r,by simp only [List.toList_toArray,Bool.beq_eq_decide_eq];exact h⟩
theorem jJ {x y:List Nat} (h:Q (.bool (decide (x≠y))) σ):Op W lv (.cmp .NotEq) [.str x,.str y] σ Q:=.sh fun c ρ Φ s C r=>by
 intro t1 l1 t2 l2
 have e:(x != y)=decide (x≠y):=by by_cases q:x=y <;> simp [q]
 exact PySem.P.ne_str ⟨_,σ,.bool _,r,by simp only [List.toList_toArray];refine sr e ?_;exact h⟩
theorem xi {k:Nat} {y:List Nat} (h:Q (.bool (decide (k∈y))) σ):Op W lv (.cmp .In) [.str [k],.str y] σ Q:=.sh fun c ρ Φ s C r=>by
 intro t1 l1 t2 l2
 exact PySem.P.in_str ⟨_,σ,.bool _,r,by rw [show (⟨[k].toArray⟩:Str)=⟨#[k]⟩ from rfl,PySem.StrLaws.found_one];simpa using h⟩
theorem U2 {k:Nat} {y:List Nat} (h:Q (.bool (decide (k∉y))) σ):Op W lv (.cmp .NotIn) [.str [k],.str y] σ Q:=.sh fun c ρ Φ s C r=>by
 intro t1 l1 t2 l2
 exact PySem.P.notIn_str ⟨_,σ,.bool _,r,by rw [show (⟨[k].toArray⟩:Str)=⟨#[k]⟩ from rfl,PySem.StrLaws.found_one];simpa using h⟩
theorem zJ {a b:Nat} (h:Q (.int ((a+b:Nat):Int)) σ):Op W lv (.bin .Add) [.int a,.int b] σ Q:=Zl h
theorem XH {a b:Nat} (h:Q (.int ((a+b:Nat):Int)) σ):Op W lv (.inpl .Add) [.int a,.int b] σ Q:=ZS h
theorem U3 {a b:Nat} (e:b<=a) (h:Q (.int ((a-b:Nat):Int)) σ):Op W lv (.bin .Sub) [.int a,.int b] σ Q:=qi (Int.ofNat_sub e ▸ h)
theorem qz {a:Nat} (e:0<a) (h:Q (.int ((a-1:Nat):Int)) σ):Op W lv (.bin .Sub) [.int a,.int 1] σ Q:=U3 (b:=1) e h
theorem dec2 {p:Prop} [Decidable p] {F:Bool->Prop} (h1:p->F true) (h2:¬ p->F false):F (decide p):=by
 by_cases h:p
 ·refine sr (decide_eq_true h) ?_;exact h1 h
 ·refine sr (decide_eq_false h) ?_;exact h2 h
theorem Zg {k:Nat} {y:List Nat} (h1:k∈y->Q (.bool true) σ) (h2:k∉y->Q (.bool false) σ):Op W lv (.cmp .In) [.str [k],.str y] σ Q:=xi (dec2 (F:=fun b=>Q (.bool b) σ) h1 h2)
theorem xk {k a:Nat} (h1:k=a->Q (.bool true) σ) (h2:k≠a->Q (.bool false) σ):Op W lv (.cmp .In) [.str [k],.str [a]] σ Q:=Zg (fun h=>h1 (List.mem_singleton.mp h)) fun h=>h2 fun e=>h (e ▸ .head _)
theorem jg {x y:List Nat} (h1:x=y->Q (.bool true) σ) (h2:x≠y->Q (.bool false) σ):Op W lv (.cmp .Eq) [.str x,.str y] σ Q:=qS (dec2 (F:=fun b=>Q (.bool b) σ) h1 h2)
theorem xl {x y:Nat} (h1:x=y->Q (.bool true) σ) (h2:x≠y->Q (.bool false) σ):Op W lv (.cmp .Eq) [.str [x],.str [y]] σ Q:=jg (fun h=>h1 (List.head_eq_of_cons_eq h)) fun h=>h2 fun e=>h (e ▸ rfl)
theorem VA {x y:Nat} (h1:x≠y->Q (.bool true) σ) (h2:x=y->Q (.bool false) σ):Op W lv (.cmp .NotEq) [.str [x],.str [y]] σ Q:=
 jJ (dec2 (F:=fun b=>Q (.bool b) σ) (fun h=>h1 fun e=>h (e ▸ rfl)) fun h=>h2 (Classical.byContradiction fun e=>h fun z=>e (List.head_eq_of_cons_eq z)))
theorem zV {a b:Nat} (h1:a<b->Q (.bool true) σ) (h2:b<=a->Q (.bool false) σ):Op W lv (.cmp .Lt) [.int a,.int b] σ Q:=Vz (dec2 (F:=fun b=>Q (.bool b) σ) (fun h=>h1 (Int.ofNat_lt.mp h)) fun h=>h2 (Nat.le_of_not_lt (mt Int.ofNat_lt.mpr h)))
theorem Y5 {a b:Nat} (h1:a=b->Q (.bool true) σ) (h2:a≠b->Q (.bool false) σ):Op W lv (.cmp .Eq) [.int a,.int b] σ Q:=gv (dec2 (F:=fun b=>Q (.bool b) σ) (fun h=>h1 (Int.ofNat_inj.mp h)) fun h=>h2 (mt (congrArg Int.ofNat) h))
theorem U4 {a b:Nat} (h1:a≠b->Q (.bool true) σ) (h2:a=b->Q (.bool false) σ):Op W lv (.cmp .NotEq) [.int a,.int b] σ Q:=gw (dec2 (F:=fun b=>Q (.bool b) σ) (fun h=>h1 fun e=>h (congrArg Int.ofNat e)) fun h=>h2 (Classical.byContradiction fun e=>h fun z=>e (Int.ofNat_inj.mp z)))
theorem jK {a b:Nat} (h1:b<a->Q (.bool true) σ) (h2:a<=b->Q (.bool false) σ):Op W lv (.cmp .Gt) [.int a,.int b] σ Q:=cmp_gt (dec2 (F:=fun b=>Q (.bool b) σ) (fun h=>h1 (Int.ofNat_lt.mp h)) fun h=>h2 (Nat.le_of_not_lt (mt Int.ofNat_lt.mpr h)))
theorem GO {a b:Nat} (h1:b<=a->Q (.bool true) σ) (h2:a<b->Q (.bool false) σ):Op W lv (.cmp .GtE) [.int a,.int b] σ Q:=Qh (dec2 (F:=fun b=>Q (.bool b) σ) (fun h=>h1 (Int.ofNat_le.mp h)) fun h=>h2 (Nat.lt_of_not_le (mt Int.ofNat_le.mpr h)))
theorem zI {x:V} {b:Bool} (hb:b=match x with | .none=>true | _=>false) (h:Q (.bool b) σ):Op W lv (.cmp .Is) [x,.none] σ Q:=.sh fun c ρ Φ s C r=>by
 refine Sh.of fun u1 z1=>?_
 subst hb
 refine is_none ⟨_,σ,.bool _,r,?_⟩
 cases z1 <;> exact h
theorem zE {x:V} {b:Bool} (hb:b=match x with | .none=>false | _=>true) (h:Q (.bool b) σ):Op W lv (.cmp .IsNot) [x,.none] σ Q:=.sh fun c ρ Φ s C r=>by
 refine Sh.of fun u1 z1=>?_
 subst hb
 refine isNot_none ⟨_,σ,.bool _,r,?_⟩
 cases z1 <;> exact h
end
end
section
section
variable {prog:Program} {w:World} {F:Fm} {ρ:List (Option V)} {σ σ':Led} {Φ:List (Addr×Obj)} {s:Shared}
inductive IsLv (h:Heap) (a:Addr) (xs:List V):Prop
 | mk (vs:List Value) (n:Nat) (v:VRs xs vs) (k:xs.length<=16777216) (i:IsL h a vs.toArray n)
theorem R0.isL (r:R0 prog w F ρ σ Φ s) {a:Addr} {xs:List V} (m:(a,O.list xs)∈σ):IsLv s.heap a xs:=by
 obtain ⟨o,g,z⟩:=r.get m
 refine e23 z.jf fun vs n h k w0=>?_;subst w0
 exact ⟨vs,n,h,k,g⟩
theorem R0.newO (r:R0 prog w F ρ σ Φ s) {x:O} {o:Obj} (z:OR prog w x o) (hf:o.isFreed=false) {t:Nat}:R0 prog w F ρ ((s.heap.objs.size,x)::σ) Φ { s with heap:=s.heap.push o,toks:=t }:=R0.toks (R0.push r z hf) t
theorem R0.upd (r:R0 prog w F ρ σ Φ s) {a:Addr} {y:O} {o:Obj} {h':Heap} {t:Nat} (P:Put a y σ σ') (z:OR prog w y o) (sb:Heap.SameBut a s.heap h') (g:h'.get? a=some o):R0 prog w F ρ σ' Φ { s with heap:=h',toks:=t }:=r.put P z sb g
end
section
variable {W:Wd} {lv:Nat} {σ:Led} {Q:V->Led->Prop}
theorem zQ {id:String} {args:List V} (h:∀ (c:Cx) (ρ:List (Option V)) (Φ:List (Addr×Obj)) (s:Shared),CxOk W lv c->R0 W.prog W.w c.F ρ σ Φ s->Shs args fun us=>wpAny W.M c.A (call (.builtin id) us) (Post W c ρ Φ Q) NoE s) :
  zm W lv (.bi id) args σ Q:=.sh (g:=.builtin id) (fun _ z=>by refine VR.bi_e z ?_;rfl) ⟨.machine,.inr (.inl rfl),fun _=>Looks.now⟩ h
theorem z7 {t:String} {args:List V} (h:∀ (c:Cx) (ρ:List (Option V)) (Φ:List (Addr×Obj)) (s:Shared),CxOk W lv c->R0 W.prog W.w c.F ρ σ Φ s->Shs args fun us=>wpAny W.M c.A (call (.type t) us) (Post W c ρ Φ Q) NoE s) :
  zm W lv (.ty t) args σ Q:=.sh (g:=.type t) (fun _ z=>by refine VR.ty_e z ?_;rfl) ⟨.machine,.inr (.inl rfl),fun _=>Looks.now⟩ h
theorem zC {xs:List V} (hl:xs.length<=16777216) (h:∀ a,Q (.ref a) ((a,.list xs)::σ)):Op W lv .list xs σ Q:=⟨fun c ρ Φ s us C v r=>
 wpAny_newList ⟨_,_,.ref _,r.newO (.list (vs:=us) 0 v hl) rfl,h _⟩ (by have:=v.length;refine (?_:us.length<=2 ^ 24);exact okY hl this.symm)⟩
theorem zK {xs:List V} (hl:xs.length<=16777216) (h:∀ a,Q (.ref a) ((a,.tup xs)::σ)):Op W lv .tup xs σ Q:=⟨fun c ρ Φ s us C v r=>
 wpAny_newTuple ⟨_,_,.ref _,r.newO (.tup (vs:=us) 0 v hl) rfl,h _⟩ (by have:=v.length;show us.length<=2 ^ 24;exact okY hl this.symm)⟩
theorem Zx {a b:Addr} {xs ys:List V} (ma:(a,O.list xs)∈σ) (mb:(b,O.list ys)∈σ) (hl:xs.length+ys.length<=16777216) (h:∀ d,Q (.ref d) ((d,.list (xs++ys))::σ)):Op W lv (.bin .Add) [.ref a,.ref b] σ Q:=.sh fun c ρ Φ s C r=>by
 obtain ⟨vs,n,hv,_,ia⟩:=r.isL ma
 obtain ⟨ws,k,hw,_,ib⟩:=r.isL mb
 have e:vs.toArray++ws.toArray=(vs++ws).toArray:=by simp
 refine PySem.P.add_list ia ib ?_ (by have:=hv.length;have:=hw.length;refine (?_:vs.toArray.size+ws.toArray.size<=2 ^ 24);simp;lia)
 refine sr e ?_
 exact ⟨_,_,.ref _,r.newO (.list 0 (hv.append hw) (by refine sr List.length_append ?_;exact hl)) rfl,h _⟩
theorem Kw:fillsInplaceSlot (.type "list") "add" true=pure false:=by
 unfold fillsInplaceSlot
 refine (?_:(typeLookup (.type "list") (dunderI "add") >>= fun fi=>pure (fi.isSome && !isSeqSlot fi))=pure false)
 refine sr F.slot_list_iadd.lookup ?_
 rfl
theorem U5:seqSlot? (.type "list") (dunderI "add")=pure (some (.builtin "list.__iadd__")):=PySem.seqSlot_of F.slot_list_iadd.lookup (by decide +kernel)
theorem VB {prog:Program} {w:World} {A:Around} {E:Value->Shared->Prop} {s:Shared} {l b:Addr} {items items2:Array Value} {n n2:Nat} {Q:Value->Shared->Prop} (hl:IsL s.heap l items n) (hb:IsL s.heap b items2 n2)
  (hsz:items.size+items2.size<=sizeLine) (h:Q (.ref l) { s with heap:=s.heap.update l (Obj.mapSeq fun x=>x++items2) }):wpAny (model prog w) A (inplaceOp .Add (.ref l) (.ref b)) Q E s:=by
 have ha:s.TypeIs (.ref l) "list":=⟨_,hl,rfl⟩
 have hb':s.TypeIs (.ref b) "list":=⟨_,hb,rfl⟩
 refine wpAny_holding ?_
 refine wpAny_bind (wpAny_typeOf ha (wpAny_bind (wpAny_of_eq Kw ?_)))
 refine (?_:wpAny _ A (if false=true then _ else _) Q E s)
 refine sr (if_neg Bool.false_ne_true) ?_
 refine wpAny_bind (wpAny_binaryOp1_none (nm:="add") ha hb' noFill_list_add ?_)
 refine wpAny_bind (wpAny_of_eq U5 ?_)
 refine wpAny_bind (wpAny_rule ?_)
 refine call_meets F.slot_list_iadd ha F.entry_list_iadd (F.args_list_iadd_2 _ _) (AutoSeq1.list___iadd___list_list_0 l items n b items2 n2 ?_ (oks hsz) (okC hsz)) ⟨hl,hb,h⟩
 simp only [Builtin.List.listTooLong,Bool.and_eq_true,not_and,decide_eq_true_eq]
 intro _
 exact Nat.not_lt_of_le hsz
theorem ZI {a b:Addr} {xs ys:List V} {σ':Led} (ma:(a,O.list xs)∈σ) (mb:(b,O.list ys)∈σ) (hl:xs.length+ys.length<=16777216) (P:Put a (.list (xs++ys)) σ σ') (h:Q (.ref a) σ'):Op W lv (.inpl .Add) [.ref a,.ref b] σ Q:=.sh fun c ρ Φ s C r=>by
 obtain ⟨vs,n,hv,_,ia⟩:=r.isL ma
 obtain ⟨ws,k,hw,_,ib⟩:=r.isL mb
 refine VB ia ib (by have:=hv.length;have:=hw.length;refine (?_:vs.toArray.size+ws.toArray.size<=2 ^ 24);simp;lia) ?_
 have g:=ia.update (fun x=>x++ws.toArray)
 have e:vs.toArray++ws.toArray=(vs++ws).toArray:=by simp
 rw [e] at g
 exact ⟨_,_,.ref _,r.upd P (.list _ (hv.append hw) (by refine sr List.length_append ?_;exact hl)) (Heap.SameBut.update ..) g,h⟩
theorem XI {M:Model} {A:Around} {E:Value->Shared->Prop} {s:Shared} {o i:Value} {T id:String} {Q:Value->Shared->Prop} (hl:typeLookup (.type T) "__getitem__" = pure (some (.builtin id))) (hT:s.TypeIs o T) (h:wpAny M A (getItem o i) Q E s) :
  wpAny M A (getitemInPython o >>= fun g=>subscripted noE g o i) Q E s:=by
 refine sr (getitemInPython_of_ne hT.not_modules) ?_
 refine wpAny_bind (wpAny_bind (wpAny_specialOf hT hl (wpAny_pure ?_)))
 exact wpAny_operating h
theorem qA {M:Model} {A:Around} {E:Value->Shared->Prop} {s:Shared} {o i:Value} {T id:String} {b:Bool} {Q:Value->Shared->Prop} (hl:typeLookup (.type T) "__getitem__" = pure (some (.builtin id))) (hT:s.TypeIs o T) (h:wpAny M A (getItem o i) Q E s) :
  wpAny M A (getitemInPython o >>= fun g=>subscripted (slE b) g o i) Q E s:=by
 refine sr (getitemInPython_of_ne hT.not_modules) ?_
 refine wpAny_bind (wpAny_bind (wpAny_specialOf hT hl (wpAny_pure ?_)))
 cases b <;> exact wpAny_operating h
noncomputable def atIdx {α:Type} (xs:List α) (i:Int):Option α:=if i<0 then (if -(xs.length:Int)<=i then xs[(i+xs.length).toNat]? else none) else xs[i.toNat]?
theorem XJ {c:Cx} {ρ:List (Option V)} {Φ:List (Addr×Obj)} {s:Shared} {a:Addr} {xs:List V} {i:Int} {t:Tok} {x:V} (m:(a,O.list xs)∈σ) (hx:atIdx xs i=some x) (r:R0 W.prog W.w c.F ρ σ Φ s) (h:Q x σ) :
  wpAny W.M c.A (getItem (.ref a) (.int i t)) (Post W c ρ Φ Q) NoE s:=by
 obtain ⟨vs,hv,hk,hL⟩:=r.isList m
 have hlen:=hv.length
 unfold atIdx at hx
 split at hx
 ·rename_i hi
  split at hx
  ·rename_i hj
   obtain ⟨u,hu,z⟩:=hv.get hx
   exact wpAny_getItem_list_neg hL hi (by simp;exact hlen ▸ hj) (by lia) (x:=u) (by simpa [← hlen] using hu) ⟨x,σ,z,r,h⟩
  ·exact nn1 hx
 ·rename_i hi
  obtain ⟨u,hu,z⟩:=hv.get hx
  have hlt:=(List.getElem?_eq_some_iff.mp hu).1
  exact wpAny_getItem_list hL (by lia) (by omega) (x:=u) (by simpa using hu) ⟨x,σ,z,r,h⟩
theorem item_list {a:Addr} {xs:List V} {i:Int} {x:V} (m:(a,O.list xs)∈σ) (hx:atIdx xs i=some x) (h:Q x σ):Op W lv .item [.ref a,.int i] σ Q:=.sh fun c ρ Φ s C r=>by
 intro t2
 obtain ⟨vs,hv,hk,hL⟩:=r.isList m
 exact XI list_getitem_lookup hL.typeIs (XJ m hx r h)
theorem U6 {a:Addr} {xs:List V} {i:Int} {x:V} (m:(a,O.list xs)∈σ) (hx:atIdx xs i=some x) (h:Q x σ):Op W lv .get [.ref a,.int i] σ Q:=.sh fun c ρ Φ s C r=>by
 intro t2
 exact XJ m hx r h
theorem VR.int_inv {i:Int} {u:Value} (z:VR (.int i) u):∃ t,u=.int i t:=by refine VR.UE z fun t=>?_;exact ⟨_,rfl⟩
theorem set_list {a:Addr} {xs:List V} {i:Int} {x:V} {σ':Led} {Q:Led->Prop} (m:(a,O.list xs)∈σ) (h0:0<=i) (h1:i<xs.length) (P:Put a (.list (xs.set i.toNat x)) σ σ') (h:Q σ'):UOp W lv .setitem [.ref a,.int i,x] σ Q:=.sh fun c ρ Φ s C r=>by
 intro t2;refine Sh.of fun u3 z3=>?_
 obtain ⟨vs,n,hv,hk,ia⟩:=r.isL m
 have hlen:=hv.length
 refine ki_setAt (n:=n) ia h0 (by omega) (by simp;exact hlen ▸ h1) ?_
 have g:=ia.update (fun x=>x.setIfInBounds i.toNat u3)
 have e:vs.toArray.setIfInBounds i.toNat u3=(vs.set i.toNat u3).toArray:=by simp
 rw [e] at g
 exact ⟨σ',r.upd P (.list _ (hv.set z3 _) (by refine sr List.length_set ?_;exact hk)) (Heap.SameBut.update ..) g,h⟩
noncomputable def qJ:Option Nat->V
 | none=>.none
 | some k=>.int k
theorem Qi {k:Option Nat} {u:Value} (z:VR (qJ k) u):IsPart u (k.map (fun (n:Nat)=>(n:Int))):=by
 cases k with
 | none=>refine VR.QY z ?_;exact .none
 | some k=>refine VR.UE z fun t=>?_;exact .int _ _
theorem JQ (a b n:Nat):sliceBounds (some (a:Int)) (some (b:Int)) none n=(((min a n:Nat):Int),((min b n:Nat):Int),1):=by
 simp only [sliceBounds,Option.getD_none]
 have h1:¬ ((a:Int)<0):=okK
 have h2:¬ ((b:Int)<0):=okK
 simp only [h1,h2,if_false,show (1:Int) > 0 by decide,if_true]
 congr 1
 ·omega
 ·congr 1;omega
theorem ZT {α:Type} (xs:List α) (a b:Nat):(xs.drop (min a xs.length)).take (min b xs.length-min a xs.length)=(xs.drop a).take (b-a):=by
 refine oe (Nat.le_total a xs.length) (fun h=>?_) fun h=>?_
 ·refine sr (Nat.min_eq_left h) ?_
  refine oe (Nat.le_total b xs.length) (fun h2=>?_) fun h2=>?_
  ·exact sr (Nat.min_eq_left h2) rfl
  ·exact sr (Nat.min_eq_right h2) (sr (List.take_of_length_le (by simp)) (sr (List.take_of_length_le (by simp;omega)) rfl))
 ·refine sr (Nat.min_eq_right h) (sr (List.drop_of_length_le (Nat.le_refl _)) (sr (List.drop_of_length_le h) ?_));simp
theorem U7 (items:Array Value) (a b:Nat):slicePick items (some a) (some b) none=((items.toList.drop a).take (b-a)).toArray:=by
 unfold slicePick
 rw [JQ]
 simp only [sliceRange_one,pick_run]
 exact sq (ZT items.toList a b) (sr Array.length_toList rfl)
theorem pick_from (items:Array Value) (a:Nat):slicePick items (some a) none none=(items.toList.drop a).toArray:=by
 refine oe (Nat.le_total a items.size) (fun h=>?_) fun h=>?_
 ·exact slicePick_from items a h
 ·have e:sliceBounds (some (a:Int)) none none items.size=(((items.size:Nat):Int),((items.size:Nat):Int),1):=by
   simp only [sliceBounds,Option.getD_none]
   have h1:¬ ((a:Int)<0):=okK
   simp only [h1,if_false,show (1:Int) > 0 by decide,if_true]
   congr 1
   omega
  unfold slicePick
  refine sr e ?_
  simp only [sliceRange_one,pick_run]
  rw [Nat.sub_self,List.take_zero,List.drop_of_length_le (by exact h)]
theorem VC (items:Array Value) (b:Nat):slicePick items none (some b) none=(items.toList.take b).toArray:=by
 refine oe (Nat.le_total b items.size) (fun h=>?_) fun h=>?_
 ·exact slicePick_upto items b h
 ·have e:sliceBounds none (some (b:Int)) none items.size=(((0:Nat):Int),((items.size:Nat):Int),1):=by
   simp only [sliceBounds,Option.getD_none]
   have h2:¬ ((b:Int)<0):=okK
   simp only [h2,if_false,show (1:Int) > 0 by decide,if_true]
   congr 1
   congr 1;omega
  unfold slicePick
  rw [e]
  simp only [sliceRange_one,pick_run]
  rw [List.drop_zero,Nat.sub_zero,List.take_of_length_le (by simp),List.take_of_length_le (by simpa using h)]
noncomputable def zM {α:Type} (xs:List α) (lo hi:Option Nat):List α:=match lo,hi with
 | none,none=>xs
 | some a,none=>xs.drop a
 | none,some b=>xs.take b
 | some a,some b=>(xs.drop a).take (b-a)
theorem zT {α:Type} (xs:List α) (lo hi:Option Nat):(zM xs lo hi).length<=xs.length:=by
 unfold zM
 split <;> simp <;> omega
theorem XK (vs:List Value) (lo hi:Option Nat):slicePick vs.toArray (lo.map (fun (n:Nat)=>(n:Int))) (hi.map (fun (n:Nat)=>(n:Int))) none=(zM vs lo hi).toArray:=by
 cases lo <;> cases hi
 ·exact slicePick_all vs.toArray
 ·exact VC vs.toArray _
 ·exact pick_from vs.toArray _
 ·exact U7 vs.toArray _ _
theorem VRs.part {xs:List V} {vs:List Value} (h:VRs xs vs) (lo hi:Option Nat):VRs (zM xs lo hi) (zM vs lo hi):=by
 unfold zM
 split
 ·exact h
 ·exact h.drop _
 ·exact h.take _
 ·exact (h.drop _).take _
theorem slice_list {a:Addr} {xs:List V} {l u:V} (lo hi:Option Nat) (el:l=qJ lo) (eu:u=qJ hi) (m:(a,O.list xs)∈σ) (h:∀ d,Q (.ref d) ((d,.list (zM xs lo hi))::σ)):Z4 W lv false (.ref a) l u .none σ Q:=.sh fun c ρ Φ s lov uv C r zl zu=>by
 subst el;subst eu
 have r1:R0 W.prog W.w c.F ρ σ Φ { s with heap:=s.heap.push { cls:=.type "slice",data:=.fields #[lov,uv,.none] } }:=r.keeps (t:=s.toks) fun b o e=>Heap.get?_push_of_some _ e
 obtain ⟨vs,n,hv,hk,ia⟩:=r1.isL m
 have hlen:=hv.length
 refine qA list_getitem_lookup ia.isList.typeIs ?_
 refine wpAny_getItem_list_slice ia.isList (Heap.IsSliceOf.new s.heap lov uv .none) (Qi zl) (Qi zu) .none (by decide) ?_ (by show vs.toArray.size<=2 ^ 24;simp;exact okY hk hlen.symm)
 rw [XK]
 exact ⟨_,_,.ref _,r1.newO (.list 0 (hv.part lo hi) (by have:=zT xs lo hi;exact okc this hk)) rfl,h _⟩
theorem XM {a:Addr} {xs:List V} (m:(a,O.list xs)∈σ) (h:∀ d,Q (.ref d) ((d,.list xs.reverse)::σ)):Z4 W lv true (.ref a) .none .none (.int (-1)) σ Q:=.sh fun c ρ Φ s lov uv C r zl zu=>by
 intro t;refine VR.QY zl ?_;refine VR.QY zu ?_
 have r1:R0 W.prog W.w c.F ρ σ Φ { s with heap:=s.heap.push { cls:=.type "slice",data:=.fields #[.none,.none,.int (-1) t] } }:=r.keeps (t:=s.toks) fun b o e=>Heap.get?_push_of_some _ e
 obtain ⟨vs,n,hv,hk,ia⟩:=r1.isL m
 have hlen:=hv.length
 refine qA list_getitem_lookup ia.isList.typeIs ?_
 refine wpAny_getItem_list_slice ia.isList (Heap.IsSliceOf.new s.heap .none .none (.int (-1) t)) .none .none (.int (-1) t) (by decide) ?_ (by refine (?_:vs.toArray.size<=2 ^ 24);simp;exact okY hk hlen.symm)
 rw [krv_pick]
 exact ⟨_,_,.ref _,r1.newO (.list 0 hv.reverse (by simpa using hk)) rfl,h _⟩
theorem QK {a:Addr} {xs:List V} {nm:Str} {id:String} {Q:V->List V->Led->Prop} (slot:Slot "list" nm id) (ty:typeOf (.builtin id)=pure (.type "method_descriptor")) (m:(a,O.list xs)∈σ) (h:Q (.bi id) [.ref a] σ):qP W lv (.ref a) nm σ Q:=.sh fun c ρ Φ s im C r=>by
 obtain ⟨vs,n,hv,hk,ia⟩:=r.isL m
 exact getMethod_builtin (T:="list") ⟨_,ia,rfl⟩ F.plainAttrs_list slot ty (fun b e=>by cases e;exact ⟨_,ia,rfl⟩) ⟨_,_,σ,.bi _,.cons (.ref _) .nil,r,h⟩
theorem zk {a:Addr} {xs:List V} {Q:V->List V->Led->Prop} (m:(a,O.list xs)∈σ) (h:Q (.bi "list.append") [.ref a] σ):qP W lv (.ref a) "append" σ Q:=QK F.slot_list_append F.type_list_append m h
theorem XN {a:Addr} {xs:List V} {Q:V->List V->Led->Prop} (m:(a,O.list xs)∈σ) (h:Q (.bi "list.pop") [.ref a] σ):qP W lv (.ref a) "pop" σ Q:=QK F.slot_list_pop F.type_list_pop m h
theorem zq {a:Addr} {xs:List V} {x:V} {σ':Led} (m:(a,O.list xs)∈σ) (hl:xs.length<16777216) (P:Put a (.list (xs++[x])) σ σ') (h:Q .none σ'):zm W lv (.bi "list.append") [.ref a,x] σ Q:=zQ fun c ρ Φ s C r=>by
 refine (Sh.of fun u2 z2=>?_:Sh x fun u=>wpAny _ _ (call _ [.ref a,u]) _ _ _)
 obtain ⟨vs,n,hv,hk,ia⟩:=r.isL m
 have hlen:=hv.length
 refine wpAny_list_append_plain (items:=vs.toArray) ⟨n,ia⟩ (fun h' hp sb=>?_) (by show vs.toArray.size<=2 ^ 24;simp;exact okd (okZ hl hlen.symm))
 refine e11 hp fun k g=>?_
 have e:vs.toArray.push u2=(vs++[u2]).toArray:=by simp
 rw [e] at g
 exact ⟨.none,σ',.none,r.upd (t:=s.toks) P (.list k (hv.append (.cons z2 .nil)) (by simp;exact Nat.le_of_lt_succ hl)) sb g,h⟩
theorem Y6 {a:Addr} {xs:List V} {x:V} {σ':Led} (m:(a,O.list (xs++[x]))∈σ) (P:Put a (.list xs) σ σ') (h:Q x σ'):zm W lv (.bi "list.pop") [.ref a] σ Q:=zQ fun c ρ Φ s C r=>by
 obtain ⟨vs,n,hv,hk,ia⟩:=r.isL m
 have hlen:=hv.length
 rw [List.length_append] at hlen hk
 obtain ⟨u,hu,z⟩:=hv.get (i:=xs.length) (x:=x) (by simp)
 have hs:vs.toArray.size-1=xs.length:=by simp at hlen ⊢;exact Nat.le_antisymm (Nat.sub_le_of_le_add (oke hlen.symm)) (okT (oke hlen))
 refine call_meets F.slot_list_pop ⟨_,ia,rfl⟩ F.entry_list_pop (F.args_list_pop_1 _) (MeetsSeq.list_pop_last a vs.toArray n u (by refine sr hs ?_;simpa using hu) (by refine (?_:vs.toArray.size<=2 ^ 24);simp at hlen hk ⊢;lia)) ⟨ia,?_⟩
 have g:=ia.update (fun ys=>ys.eraseIdxIfInBounds (vs.toArray.size-1))
 have e:vs.toArray.eraseIdxIfInBounds (vs.toArray.size-1)=(vs.take xs.length).toArray:=by
  refine sr hs ?_
  apply Array.ext'
  have hlt:xs.length<vs.toArray.size:=by simp at hlen ⊢;exact oke hlen
  simp only [Array.eraseIdxIfInBounds,hlt,dif_pos,Array.toList_eraseIdx]
  have hh:vs.length=xs.length+1:=by simp at hlen;exact hlen.symm
  rw [List.eraseIdx_eq_take_drop_succ,List.drop_of_length_le (oke hh)]
  simp
 rw [e] at g
 have hv':=hv.take xs.length
 rw [List.take_left] at hv'
 exact ⟨_,σ',z,r.upd P (.list _ hv' (okd hk)) (Heap.SameBut.update ..) g,h⟩
theorem Zy {a:Addr} {xs:List V} (m:(a,O.list xs)∈σ) (h:Q (.int xs.length) σ):zm W lv (.bi "len") [.ref a] σ Q:=zQ fun c ρ Φ s C r=>by
 obtain ⟨vs,n,hv,hk,ia⟩:=r.isL m
 have hlen:=hv.length
 refine call_len_list ia.isList (by simp;omega) ⟨_,σ,.int _ _,r.toks _,?_⟩
 simpa [← hlen] using h
theorem XO {l:List Nat} (h:Q (.int l.length) σ):zm W lv (.bi "len") [.str l] σ Q:=zQ fun c ρ Φ s C r=>by
 intro t1 hl
 exact PySem.P.len_str (by rw [str_len];omega) ⟨_,σ,.int _ _,r.toks _,by rw [str_len];exact h⟩
theorem XQ {a:Addr} {xs:List V} (m:(a,O.list xs)∈σ) (h:∀ d,Q (.ref d) ((d,.list xs)::σ)):zm W lv (.ty "list") [.ref a] σ Q:=z7 fun c ρ Φ s C r=>by
 obtain ⟨vs,n,hv,hk,ia⟩:=r.isL m
 have hlen:=hv.length
 refine call_list_seq a (.inl rfl) ia rfl rfl (fun h' k keep g=>?_) (by show vs.toArray.size<=2 ^ 24;simp;exact okY hk hlen.symm)
 have r1:=R0.moreΦ (t:=s.toks) (Ψ:=[(s.heap.objs.size,zG vs k)]) r keep (fun p hp=>by
  simp only [List.mem_cons,List.mem_nil_iff,or_false] at hp
  subst hp;exact ⟨g,Nat.le_refl _⟩) (by simp)
 exact ⟨.ref _,_,.ref _,R0.show r1 (.list k hv hk),h _⟩
end
end
section
section
variable {W:Wd} {lv:Nat} {σ:Led} {Q:V->Led->Prop}
theorem XR (lo hi:Option Int) (n:Nat):Builtin.Str.strSliceIndices lo hi 1 n=sliceRange (sliceBounds lo hi none n).1 (sliceBounds lo hi none n).2.1 1:=by
 cases lo <;> cases hi <;> rfl
theorem Zm {α:Type} (xs:List α) (a b:Nat) (lo hi:Option Int) (e:sliceBounds lo hi none xs.length=((a:Int),(b:Int),1)):(Builtin.Str.strSliceIndices lo hi 1 xs.length).filterMap (xs.toArray[·]?)=(xs.drop a).take (b-a):=by
 rw [XR,e]
 simp only [sliceRange_one,pick_run]
set_option tactic.hygienic true in
theorem Q3 {α:Type} (xs:List α) (lo hi:Option Nat):(Builtin.Str.strSliceIndices (lo.map (fun (n:Nat)=>(n:Int))) (hi.map (fun (n:Nat)=>(n:Int))) 1 xs.length).filterMap (xs.toArray[·]?)=zM xs lo hi:=by
 cases lo with
 | none=>
  cases hi <;> simp only [Option.map_none,Option.map_some]
  case none=>refine sr (Zm xs 0 xs.length none none (by simp [sliceBounds])) ?_;simp [zM]
  case some b=>
   rw [Zm xs 0 (min b xs.length) none (some (b:Int)) (by
    simp only [sliceBounds,Option.getD_none]
    have h2:¬ ((b:Int)<0):=okK
    simp only [h2,if_false,show (1:Int) > 0 by decide,if_true]
    congr 1;congr 1;omega)]
   simp [zM,List.take_eq_take_iff]
 | some a=>
  cases hi <;> simp only [Option.map_none,Option.map_some]
  case none=>
   rw [Zm xs (min a xs.length) xs.length (some (a:Int)) none (by
    simp only [sliceBounds,Option.getD_none]
    have h2:¬ ((a:Int)<0):=okK
    simp only [h2,if_false,show (1:Int) > 0 by decide,if_true]
    congr 1;omega)]
   have:=ZT xs a xs.length
   rw [Nat.min_self] at this
   refine sr this (sr (List.take_of_length_le (by simp)) ?_);rfl
  case some b=>
   rw [Zm xs (min a xs.length) (min b xs.length) _ _ (JQ a b xs.length),ZT];rfl
theorem y0 {n:Nat} (h:0<n):sliceBounds none (some (-1)) none n=(((0:Nat):Int),((n-1:Nat):Int),1):=by
 show ((0:Int),max 0 (min (if (-1:Int)<0 then -1+(n:Int) else -1) (n:Int)),(1:Int))=_
 rw [if_pos (by decide),Int.add_comm,← Int.sub_eq_add_neg,okI h,Int.min_eq_left (okk (Nat.sub_le n 1)),Int.max_eq_right (Int.natCast_nonneg _)]
 rfl
theorem Q4 {α:Type} (xs:List α) (h:xs≠[]):(Builtin.Str.strSliceIndices none (some (-1)) 1 xs.length).filterMap (xs.toArray[·]?)=xs.dropLast:=by
 have hl:0<xs.length:=List.length_pos_iff.mpr h
 refine sr (Zm xs 0 (xs.length-1) none (some (-1)) (y0 hl)) (sr List.dropLast_eq_take ?_)
 rfl
theorem XS {k:Option Nat} {u:Value} (z:VR (qJ k) u):∃ l:Option (Int×Tok),u=partValue l/\l.map (·.1)=k.map (fun (n:Nat)=>(n:Int)):=by
 cases k with
 | none=>refine VR.QY z ?_;exact ⟨none,rfl,rfl⟩
 | some k=>cases z with | int i t=>exact ⟨some (_,t),rfl,rfl⟩
set_option tactic.hygienic true in
theorem jL {x ys:List Nat} {l u:Option (Int×Tok)} {t:Tok} {c:Cx} {ρ:List (Option V)} {Φ:List (Addr×Obj)} {s:Shared} {lov uv:Value} (el:lov=partValue l) (eu:uv=partValue u) (hx:x.length<=16777216)
  (hp:(Builtin.Str.strSliceIndices (l.map (·.1)) (u.map (·.1)) 1 x.length).filterMap (x.toArray[·]?)=ys) (hlen:ys.length<=x.length) (hall:(Builtin.Str.strSliceIndices (l.map (·.1)) (u.map (·.1)) 1 x.length).length=x.length->ys=x)
  (r:R0 W.prog W.w c.F ρ σ Φ s) (h:Q (.str ys) σ):wpAny W.M c.A (getitemInPython (.str ⟨x.toArray⟩ t) >>= fun g=>subscripted (slE false) g (.str ⟨x.toArray⟩ t) (.ref s.heap.objs.size)) (Post W c ρ Φ Q) NoE { s with heap:=s.heap.push { cls:=.type "slice",data:=.fields #[lov,uv,.none] } }:=by
 subst el;subst eu
 have r1:∀ tk,R0 W.prog W.w c.F ρ σ Φ { s with heap:=s.heap.push { cls:=.type "slice",data:=.fields #[partValue l,partValue u,.none] },toks:=tk }:=fun tk=>r.keeps fun b o e=>Heap.get?_push_of_some _ e
 refine qA (T:="str") F.slot_str_getitem.lookup (typeIs_str _ _ _) ?_
 refine wpAny_getItem_str_slice (l:=l) (u:=u) (st:=none) ⟨_,Heap.get?_push_size _ rfl,rfl,rfl⟩ rfl ?_
 delta sliceMade slicePicked
 rw [str_len]
 split
 ·rename_i q
  simp only [Bool.and_eq_true,beq_iff_eq] at q
  have e:=hall q.2
  subst e
  exact ⟨.str ys,σ,.str _ _ hx,r1 _,h⟩
 ·have e:((Builtin.Str.strSliceIndices (l.map (·.1)) (u.map (·.1)) 1 x.length).filterMap fun i=>(⟨x.toArray⟩:Str).cps[i]?)=ys:=hp
  refine (?_:(Made.str ⟨((Builtin.Str.strSliceIndices (l.map (·.1)) (u.map (·.1)) 1 x.length).filterMap fun i=>(⟨x.toArray⟩:Str).cps[i]?).toArray⟩).post _ _)
  refine sr e ?_
  exact ⟨by refine (?_:(_:Nat)<=2 ^ 24);rw [str_len];exact okc hlen hx,.str ys,σ,.str _ _ (okc hlen hx),r1 _,h⟩
theorem ra_z {a b n:Nat} (h:b-a=n) (hb:b<=n):a=0\/n=0:=by omega
theorem VD (lo hi:Option Int) (n:Nat):∃ a b:Nat,sliceBounds lo hi none n=((a:Int),(b:Int),1)/\b<=n:=by
 have cl:∀ i:Int,∃ k:Nat,max 0 (min i (n:Int))=k/\k<=n:=fun i=>⟨(max 0 (min i (n:Int))).toNat,(Int.toNat_of_nonneg (Int.le_max_left _ _)).symm,Int.toNat_le.mpr (Int.max_le.mpr ⟨Int.natCast_nonneg _,Int.min_le_right _ _⟩)⟩
 cases lo with
 | none=>
  cases hi with
  | none=>exact ⟨0,n,rfl,Nat.le_refl _⟩
  | some i=>exact (cl (if i<0 then i+n else i)).elim fun b hb=>⟨0,b,congrArg (fun z=>((0:Int),z,(1:Int))) hb.1,hb.2⟩
 | some j=>
  refine (cl (if j<0 then j+n else j)).elim fun a ha=>?_
  cases hi with
  | none=>exact ⟨a,n,congrArg (fun z=>(z,(n:Int),(1:Int))) ha.1,Nat.le_refl _⟩
  | some i=>exact (cl (if i<0 then i+n else i)).elim fun b hb=>⟨a,b,(congrArg (fun z=>(z,_,(1:Int))) ha.1).trans (congrArg (fun z=>((a:Int),z,(1:Int))) hb.1),hb.2⟩
theorem GR {α:Type} {x:List α} {a b:Nat} (h:b-a=x.length) (hb:b<=x.length):(x.drop a).take (b-a)=x:=by
 rcases ra_z h hb with h0 | h0
 ·exact sr h (sr h0 (sr List.drop_zero (sr List.take_length rfl)))
 ·exact sr (List.length_eq_zero_iff.mp h0) (sr List.drop_nil (sr List.take_nil rfl))
theorem Qj {lo hi:Option Int} {α:Type} {x:List α} (h:(Builtin.Str.strSliceIndices lo hi 1 x.length).length=x.length):(Builtin.Str.strSliceIndices lo hi 1 x.length).filterMap (x.toArray[·]?)=x:=by
 rw [XR] at h ⊢
 refine (VD lo hi x.length).elim fun a ⟨b,e,hb⟩=>?_
 rw [e] at h ⊢
 simp only [sliceRange_one,List.length_map,List.length_range] at h
 simp only [sliceRange_one,pick_run]
 exact GR h hb
theorem ql {x:List Nat} {l u:V} (lo hi:Option Nat) (el:l=qJ lo) (eu:u=qJ hi) (h:Q (.str (zM x lo hi)) σ):Z4 W lv false (.str x) l u .none σ Q:=.sh fun c ρ Φ s lov uv C r zl zu=>by
 subst el;subst eu
 intro t hx
 ·refine e12 (XS zl) fun l el hl=>?_
  refine e12 (XS zu) fun u eu hu=>?_
  refine jL (ys:=zM x lo hi) el eu hx ?_ (zT _ _ _) (fun q=>?_) r h
  ·refine sr hl (sr hu ?_);exact Q3 x lo hi
  ·rw [hl,hu] at q
   refine sq (Q3 x lo hi) ?_;exact Qj q
theorem Kx {x:List Nat} (hne:x≠[]) (h:Q (.str x.dropLast) σ):Z4 W lv false (.str x) .none (.int (-1)) .none σ Q:=.sh fun c ρ Φ s lov uv C r zl zu=>by
 intro t hx
 refine VR.QY zl ?_
 refine VR.UE zu fun tu=>?_
 ·refine jL (l:=none) (u:=some (-1,tu)) (ys:=x.dropLast) rfl rfl hx (Q4 x hne) (by simp) (fun q=>?_) r h
  refine sq (Q4 x hne) ?_;exact Qj q
theorem item_str {x:List Nat} {i:Int} {k:Nat} (h0:0<=i) (hk:x[i.toNat]?=some k) (h:Q (.str [k]) σ):Op W lv .item [.str x,.int i] σ Q:=.sh fun c ρ Φ s C r=>by
 intro t1 hx t2
 ·have hlt:=(List.getElem?_eq_some_iff.mp hk).1
  refine XI (T:="str") F.slot_str_getitem.lookup (typeIs_str _ _ _) (PySem.P.getItem_str (c:=k) (by simp;omega) ?_ ⟨.str [k],σ,.str [k] _ (by simp),r.toks _,h⟩)
  rw [str_len]
  have e:seqIndex? i x.length=some i.toNat:=by
   unfold seqIndex?
   simp
   omega
  refine sr e ?_
  simpa using hk
end
end
section
noncomputable abbrev mkS (l:List Nat):Str:=⟨l.toArray⟩
noncomputable def qG (sep:List Nat):List (List Nat)->List Nat
 | []=>[]
 | [x]=>x
 | x::y::r=>x++sep++qG sep (y::r)
theorem VE (a b:List Nat):mkS a++mkS b=mkS (a++b):=by
 show (⟨_⟩:Str)=⟨_⟩
 congr 1
 simp
theorem VF (sep:List Nat):∀ ws:List (List Nat),Str.join (mkS sep) (ws.map mkS)=mkS (qG sep ws)
 | []=>rfl
 | [x]=>rfl
 | x::y::r=>by
  have ih:=VF sep (y::r)
  refine (?_:mkS x++mkS sep++Str.join (mkS sep) ((y::r).map mkS)=_)
  rw [ih,VE,VE]
  rfl
theorem QL {ws:List (List Nat)} {vs:List Value} (h:VRs (ws.map V.str) vs):StrsAre vs (ws.map mkS):=by
 induction ws generalizing vs with
 | nil=>cases h;exact .nil
 | cons w ws ih=>
  cases h with
  | cons z h=>cases z;exact .cons _ _ (ih h)
theorem VG {vs:List Value} {ss:List Str} (h:StrsAre vs ss) (hb:∀ x∈ss,x.cps.toList.length<=16777216):VRs ((ss.map fun x=>x.cps.toList).map V.str) vs:=by
 induction h with
 | nil=>exact .nil
 | cons y t h ih=>
  refine .cons ?_ (ih fun x m=>hb x (.tail _ m))
  have:=VR.str y.cps.toList t (hb y (.head _))
  exact this
theorem VRs.strB {ws:List (List Nat)} {vs:List Value} (h:VRs (ws.map V.str) vs):∀ w∈ws,w.length<=16777216:=by
 induction ws generalizing vs with
 | nil=>intro w m;exact nn9 m
 | cons w ws ih=>
  cases h with
  | cons z h=>
   cases z with
   | str _ _ hl=>
    intro w' m
    refine mc m ?_ fun m=>?_
    ·exact hl
    ·exact ih h w' m
theorem qm:∀ (a b:List Nat),ltCps a b=true↔a<b
 | [],[]=>by simp [ltCps]
 | [],_::_=>by simp [ltCps]
 | _::_,[]=>by simp [ltCps]
 | a::r,b::t=>by
  simp only [ltCps,Bool.or_eq_true,decide_eq_true_eq,Bool.and_eq_true,beq_iff_eq,List.cons_lt_cons_iff,qm r t]
noncomputable def srt (ws:List (List Nat)):List (List Nat):=ws.mergeSort (fun a b=>!(ltCps b a))
theorem XT (a b c:List Nat) (h1:(!(ltCps b a))=true) (h2:(!(ltCps c b))=true):(!(ltCps c a))=true:=by
 simp only [Bool.not_eq_true',← Bool.not_eq_true,qm] at h1 h2 ⊢
 exact List.not_lt.mpr (List.le_trans (List.not_lt.mp h1) (List.not_lt.mp h2))
theorem VH (a b:List Nat):((!(ltCps b a)) || (!(ltCps a b)))=true:=by
 rcases h:ltCps b a with _ | _
 ·rfl
 ·have h1:=(qm b a).mp h
  rcases h2:ltCps a b with _ | _
  ·rfl
  ·exact absurd (List.lt_trans h1 ((qm a b).mp h2)) (List.lt_irrefl _)
theorem U8 {a b:List Nat} (h1:(!(ltCps b a))=true) (h2:(!(ltCps a b))=true):a=b:=by
 simp only [Bool.not_eq_true',← Bool.not_eq_true,qm] at h1 h2
 exact List.le_antisymm (List.not_lt.mp h1) (List.not_lt.mp h2)
theorem Zz (ws:List (List Nat)):(srt ws).Perm ws:=List.mergeSort_perm _ _
theorem gz (ws:List (List Nat)):(srt ws).Pairwise (fun a b=>(!(ltCps b a))=true):=List.pairwise_mergeSort (XT) (VH) ws
theorem xm {xs ys:List (List Nat)} (p:xs.Perm ys) (hx:xs.Pairwise (fun a b=>(!(ltCps b a))=true)) (hy:ys.Pairwise (fun a b=>(!(ltCps b a))=true)):xs=ys:=
 p.eq_of_pairwise (fun a b _ _ h1 h2=>U8 h1 h2) hx hy
theorem gE {xs ws:List (List Nat)} (p:xs.Perm ws) (hx:xs.Pairwise (fun a b=>(!(ltCps b a))=true)):xs=srt ws:=xm (p.trans (Zz ws).symm) hx (gz ws)
theorem Zc {xs ys:List (List Nat)} (p:xs.Perm ys):srt xs=srt ys:=gE ((Zz xs).trans p) (gz xs)
theorem XU:∀ (ss:List Str) (p:Str),risingS p ss=true->(p::ss).Pairwise (fun a b=>(!(ltCps b.cps.toList a.cps.toList))=true)
 | [],p,_=>by simp
 | x::r,p,h=>by
  unfold risingS at h
  rw [Bool.and_eq_true] at h
  have ih:=XU r x h.2
  refine List.pairwise_cons.mpr ⟨fun y hy=>?_,ih⟩
  refine mc hy ?_ fun hm=>?_
  ·exact h.1
  ·exact XT _ _ _ h.1 ((List.pairwise_cons.mp ih).1 y hm)
theorem Ky {ss:List Str} (h:sortedS ss=true):ss.Pairwise (fun a b=>(!(ltCps b.cps.toList a.cps.toList))=true):=by
 cases ss with
 | nil=>exact .nil
 | cons x r=>exact XU r x h
section
variable {W:Wd} {lv:Nat} {σ:Led} {Q:V->Led->Prop}
theorem VI {l:List Nat} {nm:Str} {id:String} {Q:V->List V->Led->Prop} (slot:Slot "str" nm id) (ty:typeOf (.builtin id)=pure (.type "method_descriptor")) (h:Q (.bi id) [.str l] σ):qP W lv (.str l) nm σ Q:=.sh fun c ρ Φ s im C r=>by
 intro t hl
 exact getMethod_builtin (T:="str") (typeIs_str _ _ _) F.plainAttrs_str slot ty (fun b e=>by cases e) ⟨_,_,σ,.bi _,.cons (.str l t hl) .nil,r,h⟩
theorem QM {l:List Nat} {Q:V->List V->Led->Prop} (h:Q (.bi "str.join") [.str l] σ):qP W lv (.str l) "join" σ Q:=VI F.slot_str_join F.type_str_join h
theorem Qk (sep:List Nat):∀ ws:List (List Nat),(qG sep ws).length<=(ws.map (·.length)).sum+ws.length*sep.length
 | []=>by simp [qG]
 | [x]=>by simp [qG]
 | x::y::r=>by
  have ih:=Qk sep (y::r)
  simp only [qG,List.length_append,List.map_cons,List.sum_cons,List.length_cons] at ih ⊢
  rw [Nat.add_mul (r.length+1) 1,Nat.add_mul r.length 1,Nat.one_mul]
  rw [Nat.add_mul,Nat.one_mul] at ih
  omega
theorem jM {sep:List Nat} {a:Addr} {ws:List (List Nat)} (m:(a,O.list (ws.map V.str))∈σ) (hl:(ws.map (·.length)).sum+ws.length*sep.length<=16777216) (h:Q (.str (qG sep ws)) σ):zm W lv (.bi "str.join") [.str sep,.ref a] σ Q:=zQ fun c ρ Φ s C r=>by
 intro t1 l1
 obtain ⟨vs,n,hv,hk,ia⟩:=r.isL m
 have e1:((ws.map mkS).map (·.length))=ws.map (·.length):=by
  refine sr List.map_map ?_;apply List.map_congr_left;intro x _;exact str_len x
 refine join_list ia.isList (ys:=ws.map mkS) (QL hv) (by rw [e1,List.length_map,str_len];exact hl) fun t' k=>?_
 have e:Txt.join (mkS sep) (ws.map mkS)=mkS (qG sep ws):=by
  rw [← VF];exact eq_of_beq (join_closes rfl)
 refine sr e ?_
 exact ⟨_,σ,.str _ _ (by have:=Qk sep ws;exact okc this hl),r.toks _,h⟩
theorem Zn {a:Addr} {ws:List (List Nat)} (m:(a,O.list (ws.map V.str))∈σ) (hl:ws.length<64) (h:∀ d,Q (.ref d) ((d,.list ((srt ws).map V.str))::σ)):zm W lv (.bi "sorted") [.ref a] σ Q:=zQ fun c ρ Φ s C r=>by
 obtain ⟨vs,n,hv,hk,ia⟩:=r.isL m
 have hlen:=hv.length
 rw [List.length_map] at hlen
 refine sorted_strs ia.isList (QL hv) (okZ hl hlen.symm) fun out ss' h1 h2 h3=>?_
 obtain ⟨e,he⟩:=sortedAll_at s.heap vs out
 have hmap:(ws.map mkS).map (fun x:Str=>x.cps.toList)=ws:=by
  rw [List.map_map];conv=>rhs;rw [← List.map_id ws]
  apply List.map_congr_left;intro x _;rfl
 have hp:(ss'.map fun x:Str=>x.cps.toList).Perm ws:=by
  have:=h2.map (fun x:Str=>x.cps.toList)
  rwa [hmap] at this
 have hss:(ss'.map fun x:Str=>x.cps.toList)=srt ws:=gE hp (List.pairwise_map.mpr (Ky h3))
 have hb:∀ x∈ss',x.cps.toList.length<=16777216:=fun x mx=>hv.strB _ (hp.mem_iff.mp (List.mem_map_of_mem mx))
 have hV:=VG h1 hb
 rw [hss] at hV
 have r1:=R0.moreΦ (t:=s.toks) (Ψ:=[(s.heap.objs.size+1,seqObj "list" out e)]) r (fun b o q=>sortedAll_old q) (fun p hp=>by
  simp only [List.mem_cons,List.mem_nil_iff,or_false] at hp
  subst hp;exact ⟨he,Nat.le_succ _⟩) (by simp)
 have oo:seqObj "list" out e={ cls:=.type "list",dict:=none,data:=.seq out.toList.toArray e,slots:=#[] }:=by rfl
 rw [oo] at r1
 exact ⟨.ref _,_,.ref _,R0.show r1 (.list e hV (by rw [List.length_map,(Zz ws).length_eq];exact okd (oka hl (by decide)))),h _⟩
noncomputable def numL (m:Nat):List Nat:=(Nat.toDigits 10 m).map Char.toNat
theorem VJ (m:Nat):mkS (numL m)=Str.ofString (toString ((m:Nat):Int)):=by
 have:=KIN.signs_num m
 unfold numL
 exact sq this rfl
theorem xo:∀ m<1000,(numL m).length<=3:=by decide +kernel
theorem Y7 {m:Nat} (hm:m<1000) (h:Q (.str (numL m)) σ):zm W lv (.ty "str") [.int m] σ Q:=z7 fun c ρ Φ s C r=>by
 intro t1
 refine PySem.P.str_of_int ?_ ?_
 ·by_cases h0:m=0
  ·refine sr h0 ?_;decide
  ·have h3:((m:Int)).natAbs=m:=by exact Int.toNat_natCast _
   refine sr h3 ?_
   exact Nat.lt_of_lt_of_le ((Nat.log2_lt h0).mpr (show m<2 ^ 10 by exact oka hm (by decide))) (by decide)
 ·have e:(toString ((m:Nat):Int):Str)=mkS (numL m):=(VJ m).symm
  refine sr e ?_
  have hl:(numL m).length<=16777216:=by
   have hh:=xo m hm
   exact okc hh (by decide)
  exact ⟨_,σ,.str _ _ hl,r.toks _,h⟩
theorem Y8 {m:Nat} (hm:m<1000) (h:Q (.int m) σ):zm W lv (.ty "int") [.str (numL m)] σ Q:=z7 fun c ρ Φ s C r=>by
 intro t1 l1
 refine (?_:wpAny _ _ (call (.type "int") [.str (mkS (numL m)) _]) _ _ _)
 rw [VJ]
 exact KIN.call_num (Int.natCast_nonneg _) (by omega) ⟨_,σ,.int _ _,r.toks _,h⟩
theorem foldl_rep {α:Type} (vs:List α):∀ (k:Nat) (acc:List α),List.foldl (fun x1 x2=>x1++x2) acc.toArray (List.replicate k vs.toArray)=(acc++(List.replicate k vs).flatten).toArray
 | 0,acc=>by simp
 | k+1,acc=>by
  rw [List.replicate_succ,List.foldl_cons,show acc.toArray++vs.toArray=(acc++vs).toArray by simp,foldl_rep vs k (acc++vs),List.replicate_succ,List.flatten_cons,List.append_assoc]
theorem VRs.rep {xs:List V} {vs:List Value} (h:VRs xs vs):∀ k,VRs (List.replicate k xs).flatten (List.replicate k vs).flatten
 | 0=>.nil
 | k+1=>by refine sr List.replicate_succ (sr List.replicate_succ (sr List.flatten_cons (sr List.flatten_cons ?_)));exact h.append (VRs.rep h k)
theorem Y9 {a:Addr} {xs:List V} {i:Int} (m:(a,O.list xs)∈σ) (hi:-1000<=i) (hi2:i<=1000) (hl:xs.length<=16000) (h:∀ d,Q (.ref d) ((d,.list (List.replicate i.toNat xs).flatten)::σ)):Op W lv (.bin .Mult) [.ref a,.int i] σ Q:=.sh fun c ρ Φ s C r=>by
 intro t2
 obtain ⟨vs,n,hv,hk,ia⟩:=r.isL m
 have hlen:=hv.length
 obtain ⟨fr,up,r⟩:=r.ex
 obtain ⟨m',os,FF,lo,l,N,nd⟩:=r.ex
 have hmul:vs.toArray.size*i.toNat<=2 ^ 24:=by
  have h1:vs.toArray.size<=16000:=by simp;exact okY hl hlen.symm
  have h2:i.toNat<=1000:=by lia
  exact Nat.le_trans (Nat.mul_le_mul h1 h2) (by decide)
 refine PyProof.Rows.mul_list FF N ia (by lia) (by omega) hmul fun h' F' N'=>?_
 have e:List.foldl (fun x1 x2=>x1++x2) #[] (List.replicate (if vs.toArray.isEmpty=true then 0 else i.toNat) vs.toArray)=((List.replicate i.toNat vs).flatten).toArray:=by
  have:=foldl_rep vs (if vs.toArray.isEmpty=true then 0 else i.toNat) []
  rw [show ([]:List Value).toArray = #[] from rfl] at this
  rw [this,List.nil_append]
  cases vs with
  | nil=>simp
  | cons u vs=>rfl
 rw [e] at N'
 have hL:(List.replicate i.toNat xs).flatten.length<=16777216:=by
  have e3:(List.replicate i.toNat xs).flatten.length=i.toNat*xs.length:=by simp
  refine sr e3 ?_
  have h1:xs.length<=16000:=hl
  have h2:i.toNat<=1000:=by lia
  exact Nat.le_trans (Nat.mul_le_mul h2 h1) (by decide)
 have hnew:s.heap.objs.size∉(os++(Φ++fr)).map (·.1):=fun q=>by
  refine e12 (List.mem_map.mp q) fun p hp e=>?_
  have:=Heap.lt_size (N p hp).1
  rw [e] at this;exact Nat.lt_irrefl _ this
 exact ⟨.ref _,_,.ref _,⟨fr,up,⟨⟨m',(s.heap.objs.size,_)::os,F',lo,.cons (.list 0 (hv.rep i.toNat) hL) l,N',by rw [List.cons_append,List.map_cons,List.nodup_cons];exact ⟨hnew,nd⟩⟩,r.gens,r.os⟩⟩,h _⟩
end
end
section
mutual
inductive DR (σ:Led):V->PyData->Prop
 | str (l:List Nat):DR σ (.str l) (.str (mkS l))
 | list {a:Addr} {xs:List V} {ds:List PyData}:(a,O.list xs)∈σ->DRs σ xs ds->DR σ (.ref a) (.list ds)
 | tup {a:Addr} {xs:List V} {ds:List PyData}:(a,O.tup xs)∈σ->DRs σ xs ds->DR σ (.ref a) (.tuple ds)
inductive DRs (σ:Led):List V->List PyData->Prop
 | nil:DRs σ [] []
 | cons {x:V} {d:PyData} {xs:List V} {ds:List PyData}:DR σ x d->DRs σ xs ds->DRs σ (x::xs) (d::ds)
end
theorem OR.GW {prog:Program} {w:World} {xs:List V} {o:Obj} (h:OR prog w (.tup xs) o):∃ vs n,VRs xs vs/\xs.length<=16777216/\o={ cls:=.type "tuple",dict:=none,data:=.seq vs.toArray n,slots:=#[] }:=by
 cases h with
 | tup n h k=>exact ⟨_,n,h,k,rfl⟩
theorem R0.isT {prog:Program} {w:World} {F:Fm} {ρ:List (Option V)} {σ:Led} {Φ:List (Addr×Obj)} {s:Shared} (r:R0 prog w F ρ σ Φ s) {a:Addr} {xs:List V} (m:(a,O.tup xs)∈σ):∃ vs n,VRs xs vs/\xs.length<=16777216/\s.heap.get? a=some { cls:=.type "tuple",dict:=none,data:=.seq vs.toArray n,slots:=#[] }:=by
 obtain ⟨o,g,z⟩:=r.get m
 refine e23 z.GW fun vs n h k w0=>?_;subst w0
 exact ⟨vs,n,h,k,g⟩
section
variable {prog:Program} {w:World} {F:Fm} {ρ:List (Option V)} {σ:Led} {Φ:List (Addr×Obj)} {s:Shared}
theorem DR.reads (r:R0 prog w F ρ σ Φ s) {v:V} {d:PyData} (h:DR σ v d):∀ {u:Value},VR v u->∃ as,Reads s.heap u d as:=by
 refine DR.rec (motive_1:=fun v d _=>∀ {u:Value},VR v u->∃ as,Reads s.heap u d as) (motive_2:=fun xs ds _=>∀ {us:List Value},VRs xs us->∃ as,ReadsAll s.heap us ds as) ?_ ?_ ?_ ?_ ?_ h
 ·intro l u z;cases z;exact ⟨_,.str _ _⟩
 ·intro a xs ds m _ ih u z
  refine VR.ZQ z ?_
  obtain ⟨vs,n,hv,_,g⟩:=r.isL m
  exact (ih hv).elim fun as ha=>⟨_,.list g rfl rfl (by simpa using ha)⟩
 ·intro a xs ds m _ ih u z
  refine VR.ZQ z ?_
  refine e23 (r.isT m) fun vs n hv _ g=>?_
  exact (ih hv).elim fun as ha=>⟨_,.tuple g rfl rfl (by simpa using ha)⟩
 ·intro us z;cases z;exact ⟨_,.nil⟩
 ·intro x d xs ds _ _ i1 i2 us z
  cases z with
  | cons a b=>exact (i1 a).elim fun x hx=>(i2 b).elim fun y hy=>⟨_,.cons hx hy⟩
end
theorem DRs.strs {σ:Led}:∀ ws:List (List Nat),DRs σ (ws.map V.str) (ws.map fun l=>.str (mkS l))
 | []=>.nil
 | w::ws=>.cons (.str w) (DRs.strs ws)
noncomputable abbrev dW (ws:List (List Nat)):PyData:=.list (ws.map fun l=>.str (mkS l))
theorem DR.words {σ:Led} {a:Addr} {ws:List (List Nat)} (m:(a,O.list (ws.map V.str))∈σ):DR σ (.ref a) (dW ws):=.list m (DRs.strs ws)
noncomputable def PW (w:List Nat):Prop:=∀ k∈w,k<128
theorem U9 {w:List Nat} (h:PW w):PyData.strOk (mkS w)=true:=by
 unfold PyData.strOk
 simp
 intro k hk
 have:=h k hk
 exact oka this (by decide)
theorem kb:∀ ws:List (List Nat),(∀ w∈ws,PW w)->PyData.canLayAll0 (ws.map fun l=>PyData.str (mkS l))=true/\PyData.depthAll (ws.map fun l=>PyData.str (mkS l))=0
 | [],_=>⟨rfl,rfl⟩
 | w::ws,h=>by
  refine e02 (kb ws fun x m=>h x (.tail _ m)) fun a b=>?_
  refine ⟨?_,?_⟩
  ·refine (?_:(PyData.strOk (mkS w)&&PyData.canLayAll0 (ws.map fun l=>PyData.str (mkS l)))=true)
   refine sr a (sr (U9 (h w (.head _))) ?_);rfl
  ·refine (?_:max (PyData.depth (.str (mkS w))) (PyData.depthAll (ws.map fun l=>PyData.str (mkS l)))=0)
   refine sr b ?_;rfl
theorem XW {ws:List (List Nat)} (h:∀ w∈ws,PW w):(dW ws).canLay0=true/\(dW ws).depth<=1:=by
 refine e02 (kb ws h) fun a b=>?_
 exact ⟨a,by show PyData.depthAll _+1<=1;refine sr b ?_;exact Nat.le_refl _⟩
theorem xp {ds:List PyData} {k:Nat} (h:∀ d∈ds,d.canLay0=true/\d.depth<=k):PyData.canLayAll0 ds=true/\PyData.depthAll ds<=k:=by
 induction ds with
 | nil=>exact ⟨rfl,Nat.zero_le _⟩
 | cons d ds ih=>
  refine e02 (ih fun d m=>h d (.tail _ m)) fun a b=>?_
  refine e02 (h d (.head _)) fun a' b'=>?_
  refine ⟨?_,?_⟩
  ·refine (?_:(d.canLay0&&PyData.canLayAll0 ds)=true)
   refine sr a (sr a' ?_);rfl
  ·refine (?_:max d.depth (PyData.depthAll ds)<=k)
   omega
section
variable {W:Wd} {lv:Nat} {σ:Led} {Q:V->Led->Prop}
theorem qT {v1 v2:V} {d:PyData} (hlv:lv<100) (h1:DR σ v1 d) (h2:DR σ v2 d) (hc:d.canLay0=true) (hd:d.depth<=100) (h:Q (.bool true) σ):Op W lv (.cmp .Eq) [v1,v2] σ Q:=.sh fun c ρ Φ s C r=>by
 refine Sh.of fun u1 z1=>?_;refine Sh.of fun u2 z2=>?_
 obtain ⟨as,ha⟩:=h1.reads r z1
 obtain ⟨bs,hb⟩:=h2.reads r z2
 refine SeqAt.compareEq_reads ha hb hc hc (by have:=C.units;unfold cLine;lia) ⟨_,σ,.bool _,r,?_⟩
 refine sr (SeqAt.eqv_refl d hc) ?_;exact h
theorem jN {v1 v2:V} {d:PyData} (hlv:lv<100) (h1:DR σ v1 d) (h2:DR σ v2 d) (hc:d.canLay0=true) (hd:d.depth<=100) (h:Q (.bool false) σ):Op W lv (.cmp .NotEq) [v1,v2] σ Q:=.sh fun c ρ Φ s C r=>by
 refine Sh.of fun u1 z1=>?_;refine Sh.of fun u2 z2=>?_
 refine e11 (h1.reads r z1) fun as ha=>?_
 refine e11 (h2.reads r z2) fun bs hb=>?_
 refine SeqAt.compareNe_reads ha hb hc hc (by have:=C.units;unfold cLine;lia) ⟨_,σ,.bool _,r,?_⟩
 refine sr (SeqAt.eqv_refl d hc) ?_;exact h
theorem Kz {x:List Nat} {a:Addr} {ws:List (List Nat)} (m:(a,O.tup (ws.map V.str))∈σ) (h:Q (.bool (decide (x∈ws))) σ):Op W lv (.cmp .In) [.str x,.ref a] σ Q:=.sh fun c ρ Φ s C r=>by
 intro t1 l1
 refine e23 (r.isT m) fun vs n hv hk g=>?_
 refine in_tuple_strs (ys:=ws.map mkS) ⟨_,g,rfl,n,rfl⟩ (QL (by exact hv)) ⟨_,σ,.bool _,r,?_⟩
 have e:((ws.map mkS).any fun y=>y==mkS x)=decide (x∈ws):=by
  rw [List.any_map,Bool.eq_iff_iff]
  simp only [List.any_eq_true,Function.comp,decide_eq_true_eq]
  constructor
  ·rintro ⟨y,hy,e⟩
   have:=eq_of_beq e
   injection this with this
   have:=congrArg Array.toList this
   simp at this
   subst this;exact hy
  ·intro hx
   exact ⟨x,hx,beq_self_eq_true _⟩
 refine sr e ?_;exact h
theorem zp {a:Addr} {xs:List V} {n:Nat} {Q:List V->Led->Prop} (m:(a,O.tup xs)∈σ) (hn:xs.length=n) (h:Q xs σ):qQ W lv (.ref a) n σ Q:=.sh fun c ρ Φ s C r=>by
 refine e23 (r.isT m) fun vs k hv hk g=>?_
 have hlen:=hv.length
 have e:n=vs.toArray.size:=by simp;exact Eq.trans hn.symm hlen
 refine sr e ?_
 refine unpackItems_tuple C.handled ⟨_,g,rfl,k,rfl⟩ fun h' he=>?_
 have r1:R0 W.prog W.w c.F ρ σ Φ { s with heap:=h' }:=r.keeps (t:=s.toks) fun b o q=>he b o (Nat.ne_of_lt (Heap.lt_size q)) q
 exact ⟨xs,σ,by exact hv,hn.trans e,r1,h⟩
end
end
section
theorem jO {d:Data} {fd:FuncData} (h:YH d=some fd):d=.func fd:=by
 cases d with
 | func _=>cases h;rfl
 | _=>exact nn1 h
theorem GX {v:Value}:∀ {x:V},valV v=some x->VR x v:=by
 cases v with
 | str s t=>
  intro x h
  by_cases q:s.cps.toList.length<=1000
  ·cases (if_pos q).symm.trans h;exact .str s.cps.toList t (okc q (by decide))
  ·cases (if_neg q).symm.trans h
 | _=>intro x h;cases h <;> constructor
theorem hG {vs:List Value}:∀ {xs:List V},Gv vs=some xs->VRs xs vs:=by
 induction vs with
 | nil=>intro xs h;cases h;exact .nil
 | cons v r ih=>
  intro xs h
  refine (Option.bind_eq_some_iff.mp h).elim fun x q=>(Option.map_eq_some_iff.mp q.2).elim fun ys z=>z.2 ▸ .cons (GX q.1) (ih z.1)
inductive hH (K:Frag):Value->List Value->Prop
 | no:hH K .none []
 | at (a:Addr) (oc:Value) (od:Option Addr) (vs:Array Value) (n:Nat) (sl:Array (Option Value)) (h:K.lookup a=some ⟨oc,od,.seq vs n,sl⟩):hH K (.ref a) vs.toList
theorem GY {d:Data} {l:List Value} (h:za7 d=some l) {P:Data->List Value->Prop} (k:∀ vs n,P (.seq vs n) vs.toList):P d l:=by
 cases d <;> cases h;exact k _ _
theorem VK {K:Frag} {dV:Value} {ds:List Value} (h:Xn K dV=some ds):hH K dV ds:=by
 cases dV with
 | none=>cases h;exact .no
 | ref a=>exact (Option.bind_eq_some_iff.mp h).elim fun ⟨oc,od,dt,sl⟩ z=>GY (P:=fun dt ds=>K.lookup a=some ⟨oc,od,dt,sl⟩->hH K (.ref a) ds) z.2 (fun vs n q=>.at a oc od vs n sl q) z.1
 | _=>exact nn1 h
theorem y1 {K:Frag} {dV:Value} {ds:List Value} (h:Xn K dV=some ds) (s:Shared) (X:K.In s.heap) (M:Model) (A:Around) (E:Value->Shared->Prop) (Q:Option (Array Value)->Shared->Prop) (q:∀ r,(r.getD #[]).toList=ds->Q r s) :
  wpAny M A (seqItems? dV) Q E s:=by
 cases VK h with
 | no=>exact wpAny_pure (q none rfl)
 | «at» a oc od vs n sl ho=>exact wpAny_seqItems (X _ _ ho) rfl (q _ rfl)
theorem GZ {l:List Arg} {x:Str} (h:l.map (·.arg)=[x]):∃ a p,l=[⟨x,a,p⟩]:=by
 match l with
 | [⟨y,a,p⟩]=>exact ⟨a,p,by exact sr (show y=x from List.head_eq_of_cons_eq h) rfl⟩
 | []=>exact nn5 h
 | _::_::_=>cases List.tail_eq_of_cons_eq h
theorem xq {α:Type} {c:Bool} {a b:α} (h:(if c=true then some a else none)=some b):c=true/\a=b:=by
 cases c with
 | false=>exact nn1 h
 | true=>exact ⟨rfl,Option.some.inj h⟩
theorem VL {α:Type} {c:Bool} {a:Option α} {b:α} (h:(if c=true then a else none)=some b):c=true/\a=some b:=by
 cases c with
 | false=>exact nn1 h
 | true=>exact ⟨rfl,h⟩
end
section
inductive zbu (W:Wd) (c:Cx) (Φ:List (Addr×Obj)) (QE:Led->Prop) (e:Value) (s':Shared):Prop
 | mk (ρ':List (Option V)) (σ':Led) (s0:Shared) (ea:Addr) (he:e=.ref ea) (r:R0 W.prog W.w c.F ρ' σ' Φ s0) (g:s'.gens=s0.gens/\s'.os=s0.os) (n:Heap.NewExc s0.heap s'.heap ea "StopIteration") (q:QE σ')
section
variable {W:Wd}
theorem xr {lv:Nat} {f:Addr} {name qual:Str} {params:Arguments} {body:List Stmt} {scope:Scope} {dV kV doc pm cdv ct oc:Value} {an od:Option Addr} {osl:Array (Option Value)} {ps rest:List Str} {kw:List (Str×Value)} {vs:List Value} {σ:Led}
  {Bq:List V->Led->Prop} {Q:V->Led->Prop} {QE:Led->Prop} {c:Cx} {ρ:List (Option V)} {Φ:List (Addr×Obj)} {s:Shared} {R:Result->Shared->Prop} (C:CxOk W lv c) (r:R0 W.prog W.w c.F ρ σ Φ s) (hR:RetP W c ρ Φ Q R)
  (hE:∀ e s' σ',R0 W.prog W.w c.F ρ σ' Φ s'->s'.TypeIs e "StopIteration"->QE σ'->R (.error e) s')
  (hlv:lv<100) (ho:W.K.lookup f=some ⟨oc,od,.func (fnOf name qual params body scope dV kV doc pm an cdv ct),osl⟩) (hcd:codeIn W.K cdv qual=true) (nd:(ps++rest).Nodup)
  (hb:∀ (M:Model) (A:Around) (E:Value->Shared->Prop) (Qb:List (Str×Value)->Shared->Prop),(∀ s₁ xs us σ₁,VRs xs us->ps.length=us.length->R0 W.prog W.w c.F ρ σ₁ Φ s₁->Bq xs σ₁->Qb (ps.zip us) s₁)->
   wpAny M A (bindArgs (fnOf name qual params body scope dV kV doc pm an cdv ct) ⟨vs,kw⟩) Qb E s)
  (hloc:∀ x∈ps,scope.names.lookup x=some .local) (hco:scope.isCoroutine=false) (hgen:scope.isGenerator=false) (hkf:scope.kind=.function) (hcell:∀ x∈scope.names,x.2≠.cell)
  (h:∀ (xs:List V) (σ₁:Led),Bq xs σ₁->∀ (c:Cx) (Φ:List (Addr×Obj)) (s:Shared),CxOk W (lv+1) c->c.F.names=ps++rest->c.env=envX qual scope c.F.L f cdv []->
   R0 W.prog W.w c.F (xs.map some++rest.map fun _=>none) σ₁ Φ s->
   wpAny W.M c.A (execs body c.env) (UG W c Φ Q) (zbu W c Φ QE) s) :
  codeAny W.M c.A (.call (.ref f) ⟨vs,kw⟩) R s:=by
 have ndp:ps.Nodup:=(List.nodup_append.mp nd).1
 have X:=C.kin.keeps (fun b o e=>r.old e)
 refine codeAny_call_function (fd:=fnOf name qual params body scope dV kV doc pm an cdv ct) (body:=body) (by have:=C.depth;unfold recursionLimit;unfold claimMargin at this;omega)
  (X _ _ ho) rfl hco hgen rfl (codeRec_of X hcd) (hb _ _ _ _ fun s₁ xs us σ₁ hu hul r₁ hB=>?_)
 clear r
 obtain ⟨fr,up,r⟩:=r₁.ex
 obtain ⟨m,os,FF,lo,l,N,ndk⟩:=r.ex
 refine e34 FF.ns fun oL es ep hL hLd hLk hLf=>?_
 refine wpAny_newFunctionEnv hcell (fun y hy=>hloc _ (List.of_mem_zip hy).1) (fun h₁ hns hsb₀=>⟨(C.top.nolimit.keeps FF.keep).fresh _ hsb₀,codeAny_func ?_⟩) hkf
 have hk₁:∀ b o,s₁.heap.get? b=some o->h₁.get? b=some o:=fun b o e=>hsb₀.extBut b o (Nat.ne_of_lt (Heap.lt_size e)) (Heap.get?_push_of_some _ e)
 have ltL:c.F.L<s₁.heap.objs.size:=FF.ns.lt
 have pm:(os++(Φ++(c.F.L,oL)::fr)).Perm ((c.F.L,oL)::(os++(Φ++fr))):=
  (List.perm_middle.append_left os).trans List.perm_middle
 have h0:c.F.h₀.get? c.F.L=none:=by
  cases q:c.F.h₀.get? c.F.L with
  | none=>rfl
  | some o=>exact absurd (Nat.lt_of_lt_of_le (Heap.lt_size q) FF.above) (Nat.lt_irrefl _)
 have R1':R1 W.prog W.w ⟨c.F.h₀,s₁.heap.objs.size,ps++rest,c.F.gens,c.F.os,(c.F.L,oL)::fr⟩ (xs.map some++rest.map fun _=>none) σ₁ (Φ++(c.F.L,oL)::fr) { s₁ with heap:=h₁,toks:=s₁.toks+(ps.zip us).length }:=by
  refine ⟨⟨_,os,⟨hns,fun b o e=>hk₁ b o (FF.keep b o e),Nat.le_of_lt (Nat.lt_of_le_of_lt FF.above ltL)⟩,⟨?_,fun i x hi=>?_⟩,l,fun p hp=>?_,?_⟩,r.gens,r.os⟩
  ·rw [List.length_append,List.length_append,List.length_map,List.length_map,hu.length,← hul]
  ·by_cases hi':i<ps.length
   ·rw [List.getElem?_append_left hi'] at hi
    rw [List.getElem?_append_left (by rw [List.length_map,hu.length,← hul];exact hi'),List.getElem?_map]
    cases e:xs[i]? with
    | none=>trivial
    | some y=>
     obtain ⟨v,hv1,hv2⟩:=hu.get e
     exact ⟨v,(Jf ndp hul hi).trans hv1,hv2⟩
   ·rw [List.getElem?_append_right (by rw [List.length_map,hu.length,← hul];exact okh hi')]
    cases e:(rest.map fun _=>(none:Option V))[i-(xs.map some).length]? with
    | none=>trivial
    | some y=>
     rw [List.getElem?_map,Option.map_eq_some_iff] at e
     refine e12 e fun _ _ w0=>?_;subst w0
     trivial
  ·refine mc (pm.mem_iff.mp hp) ?_ fun hp=>?_
   ·exact ⟨hk₁ _ _ hL,Nat.ne_of_lt ltL,h0⟩
   ·have B:=N p hp
    exact ⟨hk₁ _ _ B.1,Nat.ne_of_lt (Heap.lt_size B.1),B.2.2⟩
  ·refine ((pm.map (·.1)).nodup_iff).mpr ?_
   rw [List.map_cons,List.nodup_cons]
   refine ⟨fun q=>?_,ndk⟩
   refine e12 (List.mem_map.mp q) fun p hp e=>?_
   exact (N p hp).2.1 e
 have C1:CxOk W (lv+1) ⟨⟨c.F.h₀,s₁.heap.objs.size,ps++rest,c.F.gens,c.F.os,(c.F.L,oL)::fr⟩,envX qual scope s₁.heap.objs.size f cdv [],c.A.deeper (envX qual scope s₁.heap.objs.size f cdv []),c.A,c.base,c.env::c.outer⟩:=
  ⟨⟨by refine sr C.kind ?_;decide,C.frame,fun vs q=>(by dsimp only at q;rw [hLd] at q;cases q),C.outs.up up⟩,C.kin,C.top,Around.frames_deeper C.frames,rfl,hkf,rfl,rfl,by have:=C.depth;refine (?_:c.A.depth+1<=_);lia,by have:=C.units;refine (?_:c.A.units+3<=_);lia,C.handled,nd⟩
 have back:∀ (ρ':List (Option V)) (σ':Led) (s':Shared),R0 W.prog W.w ⟨c.F.h₀,s₁.heap.objs.size,ps++rest,c.F.gens,c.F.os,(c.F.L,oL)::fr⟩ ρ' σ' Φ s'->R0 W.prog W.w c.F ρ σ' Φ s':=fun ρ' σ' s' R2=>by
  obtain ⟨fr2,u2,R2⟩:=R2.ex
  cases u2 with
  | @cons _ _ sl _ fr3 u2=>
   obtain ⟨m2,os2,FF2,lo2,l2,N2,nd2⟩:=R2.ex
   have pm2:(os2++(Φ++(c.F.L,{ oL with slots:=sl })::fr3)).Perm ((c.F.L,{ oL with slots:=sl })::(os2++(Φ++fr3))):=
    (List.perm_middle.append_left os2).trans List.perm_middle
   have nd3:=((pm2.map (·.1)).nodup_iff).mp nd2
   rw [List.map_cons,List.nodup_cons] at nd3
   have hL2:=(N2 _ (pm2.mem_iff.mpr (.head _))).1
   exact ⟨fr3,up.trans u2,⟨⟨m,os2,⟨⟨_,es,ep,hL2,hLd,hLk,hLf⟩,FF2.keep,FF.above⟩,lo,l2,fun p hp=>by
    have B:=N2 p (pm2.mem_iff.mpr (.tail _ hp))
    exact ⟨B.1,fun e=>nd3.1 (List.mem_map.mpr ⟨p,hp,e⟩),B.2.2⟩,nd3.2⟩,R2.gens,R2.os⟩⟩
 refine wpAny_mono (h xs σ₁ hB _ Φ _ C1 rfl rfl ⟨_,Ups.refl _,R1'⟩) (fun fl s' z=>?_) (fun e s' z=>?_)
 ·obtain ⟨ρ',x,v,σ',hfl,hx,R2,hQ⟩:=z
  refine hR _ _ ⟨x,σ',?_,back _ _ _ R2,hQ⟩
  cases fl <;> (unfold H9 at hfl;dsimp only at hfl;refine sr hfl ?_;exact hx)
 ·obtain ⟨ρ',σ',s0,ea,rfl,R2,hs,hx,hQ⟩:=z
  exact wpAny_bind (JN C1 R2 hs hx fun s2 r2 ty2 _=>hE _ _ _ (back _ _ _ r2) ty2 hQ)
theorem KA {lv:Nat} {f:Addr} {name qual:Str} {params:Arguments} {body:List Stmt} {scope:Scope} {dV kV doc pm cdv ct oc:Value} {an od:Option Addr} {osl:Array (Option Value)} {ps rest:List Str} {kw:List (Str×Value)} {vs us:List Value} {xs:List V} {σ:Led} {Q:V->Led->Prop}
  {c:Cx} {ρ:List (Option V)} {Φ:List (Addr×Obj)} {s:Shared} {R:Result->Shared->Prop} (C:CxOk W lv c) (r:R0 W.prog W.w c.F ρ σ Φ s) (hR:RetP W c ρ Φ Q R)
  (hlv:lv<100) (ho:W.K.lookup f=some ⟨oc,od,.func (fnOf name qual params body scope dV kV doc pm an cdv ct),osl⟩) (hcd:codeIn W.K cdv qual=true) (nd:(ps++rest).Nodup)
  (hb:W.K.In s.heap->BindsTo s (fnOf name qual params body scope dV kV doc pm an cdv ct) ⟨vs,kw⟩ (ps.zip us)) (hu:VRs xs us) (hul:ps.length=us.length)
  (hloc:∀ x∈ps,scope.names.lookup x=some .local) (hco:scope.isCoroutine=false) (hgen:scope.isGenerator=false) (hkf:scope.kind=.function) (hcell:∀ x∈scope.names,x.2≠.cell)
  (h:∀ (c:Cx) (Φ:List (Addr×Obj)) (s:Shared),CxOk W (lv+1) c->c.F.names=ps++rest->c.env=envX qual scope c.F.L f cdv []->
   R0 W.prog W.w c.F (xs.map some++rest.map fun _=>none) σ Φ s->
   wpAny W.M c.A (execs body c.env) (UG W c Φ Q) NoE s) :
  codeAny W.M c.A (.call (.ref f) ⟨vs,kw⟩) R s:=
 xr (Bq:=fun ys σ₁=>ys=xs/\σ₁=σ) (QE:=fun _=>False) C r hR (fun _ _ _ _ _ h=>h.elim) hlv ho hcd nd (fun M A E Qb q=>hb (C.kin.keeps fun b o e=>r.old e) M A E Qb (q s xs us σ hu hul r ⟨rfl,rfl⟩)) hloc hco hgen hkf hcell
  fun _ _ e c Φ s C hn he r=>zb (h c Φ s C hn he (e.1 ▸ e.2 ▸ r)) fun _ _ z=>z
end
end
section
structure Q9 (W:Wd) (lv:Nat) (f:Addr) (args:List V) (σ:Led) (Q:V->Led->Prop):Prop where
 keep:∃ fo fd,W.K.lookup f=some fo/\fo.data=.func fd
 run:∀ (c:Cx) (ρ:List (Option V)) (Φ:List (Addr×Obj)) (s:Shared) (vs:List Value) (R:Result->Shared->Prop),CxOk W lv c->VRs args vs->R0 W.prog W.w c.F ρ σ Φ s->RetP W c ρ Φ Q R->
  codeAny W.M c.A (.call (.ref f) ⟨vs,[]⟩) R s
theorem Q9.call {W:Wd} {lv:Nat} {f:Addr} {args:List V} {σ:Led} {Q:V->Led->Prop} (h:Q9 W lv f args σ Q):zm W lv (.ref f) args σ Q:=by
 refine ⟨fun c ρ Φ s fv C hf r=>?_,fun c ρ Φ s fv vs C hf hvs r=>?_⟩
 ·refine VR.ZQ hf ?_
  have X:=C.kin.keeps (fun b o e=>r.old e)
  refine e22 h.keep fun fo fd ho hd=>?_
  obtain ⟨oc,od,dt,osl⟩:=fo
  dsimp only at hd
  subst hd
  exact ⟨.frame,.inl rfl,(Looks.ld (part:=none) (X _ _ ho)).andThen .now⟩
 ·refine VR.ZQ hf ?_
  exact wpAny_call (h.run c ρ Φ s vs _ C hvs r fun v s' z=>z)
structure FnOk (K:Frag) (f:Addr) (fv:FV) (name qual:Str) (params:Arguments) (body:List Stmt) (scope:Scope) (dV kV doc pm cdv ct oc:Value) (an od:Option Addr) (osl:Array (Option Value)) (ds:List Value):Prop where
 ho:K.lookup f=some ⟨oc,od,.func (fnOf name qual params body scope dV kV doc pm an cdv ct),osl⟩
 dflt:Xn K dV=some ds
 hvs:VRs fv.ys ds
 code:codeIn K cdv qual=true
 kwo:params.kwonlyargs=[]
 vararg:params.vararg=none
 kwarg:params.kwarg=none
 ps:params.posonlyargs.map (·.arg)++params.args.map (·.arg)=fv.ps
 locs:(nmOf K scope fv.ps).locs=fv.ps++fv.rest
 nd:(fv.ps++fv.rest).Nodup
 co:scope.isCoroutine=false
 gen:scope.isGenerator=false
 kind:scope.kind=.function
 loc:∀ x∈fv.ps,scope.names.lookup x=some .local
 cell:∀ x∈scope.names,x.2≠.cell
 yl:fv.ys.length<=fv.ps.length
 bd:fv.body=cSs (nmOf K scope fv.ps) body
inductive FnEx (K:Frag) (f:Addr) (fv:FV):Prop
 | mk (name qual:Str) (params:Arguments) (body:List Stmt) (scope:Scope) (dV kV doc pm cdv ct oc:Value) (an od:Option Addr) (osl:Array (Option Value)) (ds:List Value) (k:FnOk K f fv name qual params body scope dV kV doc pm cdv ct oc an od osl ds)
theorem zcy {K:Frag} {f:Addr} {fv:FV} {name qual:Str} {params:Arguments} {body:List Stmt} {scope:Scope} {dV kV doc pm cdv ct oc:Value} {an od:Option Addr} {osl:Array (Option Value)} {ds:List Value} {ys:List V} {globals blt:Addr} {closure:List (Str×Addr)}
  (ho:K.lookup f=some ⟨oc,od,.func ⟨name,qual,params,.stmts body,scope,globals,closure,dV,kV,doc,pm,an,cdv,ct,blt⟩,osl⟩) (hb:(⟨params.posonlyargs.map (·.arg)++params.args.map (·.arg),(nmOf K scope (params.posonlyargs.map (·.arg)++params.args.map (·.arg))).locs.drop (params.posonlyargs.map (·.arg)++params.args.map (·.arg)).length,ys,cSs (nmOf K scope (params.posonlyargs.map (·.arg)++params.args.map (·.arg))) body⟩:FV)=fv)
  (e1:globals=mainGlobals) (e2:blt=builtinsNs) (e9:closure=[]) (dflt:Xn K dV=some ds) (hvs:VRs ys ds) (code:codeIn K cdv qual=true) (kwo:params.kwonlyargs=[]) (vararg:params.vararg=none) (kwarg:params.kwarg=none) (nd:(nmOf K scope (params.posonlyargs.map (·.arg)++params.args.map (·.arg))).locs.Nodup)
  (co:scope.isCoroutine=false) (gen:scope.isGenerator=false) (kind:scope.kind=.function) (loc:∀ x∈params.posonlyargs.map (·.arg)++params.args.map (·.arg),scope.names.lookup x=some .local) (cell:∀ x∈scope.names,x.2≠.cell) (yl:ys.length<=(params.posonlyargs.map (·.arg)++params.args.map (·.arg)).length):FnEx K f fv:=by
 subst e1 e2 e9 hb
 generalize hp:params.posonlyargs.map (·.arg)++params.args.map (·.arg)=ps at *
 have hlocs:(nmOf K scope ps).locs=ps++(nmOf K scope ps).locs.drop ps.length:=by
  exact sr List.drop_left rfl
 exact .mk name qual params body scope dV kV doc pm cdv ct oc an od osl ds ⟨ho,dflt,hvs,code,kwo,vararg,kwarg,hp,hlocs,hlocs ▸ nd,co,gen,kind,loc,cell,yl,rfl⟩
theorem y2 {K:Frag} {f:Addr} {fv:FV} (hf:zt K f=some fv):FnEx K f fv:=by
 obtain ⟨⟨oc,od,dt,osl⟩,ho,h1⟩:=Option.bind_eq_some_iff.mp hf
 clear hf
 obtain ⟨⟨name,qual,params,fbody,scope,globals,closure,dV,kV,doc,pm,an,cdv,ct,blt⟩,hd,h2⟩:=Option.bind_eq_some_iff.mp h1
 clear h1
 obtain rfl:=jO hd
 clear hd
 refine e12 (Option.bind_eq_some_iff.mp h2) fun ys hys h3=>?_
 refine e02 (xq h3) fun hc hb=>?_
 refine e12 (Option.bind_eq_some_iff.mp hys) fun ds hds hvs=>?_
 refine zbe hc fun c1 c2 c3 c4 c5 c6 c7 c8 c9 c10 c11 c12 c13 c14 c15=>?_
 clear hc h2 h3 hys
 cases fbody with
 | expr e=>exact nn3 c3
 | stmts body=>
  exact zcy ho hb (beq_iff_eq.mp c1) (beq_iff_eq.mp c2) (List.isEmpty_iff.mp c9) hds (hG hvs) c4 (List.isEmpty_iff.mp c5) (Option.isNone_iff_eq_none.mp c6) (Option.isNone_iff_eq_none.mp c7) (of_decide_eq_true c8) (Bool.not_eq_true' _ ▸ c10) (Bool.not_eq_true' _ ▸ c11) (beq_iff_eq.mp c12)
   (fun x hx=>beq_iff_eq.mp (List.all_eq_true.mp c13 x hx)) (fun x hx=>bne_iff_ne.mp (List.all_eq_true.mp c14 x hx)) (of_decide_eq_true c15)
theorem FnOk.body {W:Wd} {lv:Nat} {f:Addr} {fv:FV} {name qual:Str} {params:Arguments} {body:List Stmt} {scope:Scope} {dV kV doc pm cdv ct oc:Value} {an od:Option Addr} {osl:Array (Option Value)} {ds:List Value} {xs:List V} {σ:Led} {Q:V->Led->Prop}
  (k:FnOk W.K f fv name qual params body scope dV kV doc pm cdv ct oc an od osl ds)
  (h:aexs W (lv+1) [] fv.body (xs.map some++fv.rest.map fun _=>none) σ fun fl _ σ'=>∃ σ'',Sub σ'' σ'/\match fl with
   | .next=>Q .none σ''
   | .ret v=>Q v σ''
   | _=>False) (c:Cx) (Φ:List (Addr×Obj)) (s:Shared) (C:CxOk W (lv+1) c) (hn:c.F.names=fv.ps++fv.rest) (he:c.env=envX qual scope c.F.L f cdv [])
  (r:R0 W.prog W.w c.F (xs.map some++fv.rest.map fun _=>none) σ Φ s):wpAny W.M c.A (execs body c.env) (UG W c Φ Q) NoE s:=by
 have v:Ve W (nmOf W.K scope fv.ps) c Φ c.env []:=by
  refine ⟨?_,?_,?_,?_,?_,rfl,?_,fun x v hx=>je hx,rfl,fun k x y _ hk=>by simp [nmOf] at hk⟩
  ·refine sr he ?_;rfl
  ·refine sr he ?_;exact k.kind
  ·exact sr he rfl
  ·exact sr he rfl
  ·exact sr he rfl
  ·refine sr hn ?_;exact k.locs
 rw [k.bd] at h
 refine zb (qh body W (lv+1) c _ _ σ Φ c.env [] s _ C v h r) ?_
 rintro fl s' ⟨a,ρ',σ',hfl,r',σ'',hs,hq⟩
 cases hfl with
 | next=>exact ⟨ρ',.none,.none,σ'',rfl,.none,r'.sub hs,hq⟩
 | brk=>exact hq.elim
 | cont=>exact hq.elim
 | ret z=>exact ⟨ρ',_,_,σ'',rfl,z,r'.sub hs,hq⟩
theorem ZU {W:Wd} {lv:Nat} {f:Addr} {fv:FV} {args:List V} {σ:Led} {Q:V->Led->Prop} (hf:zt W.K f=some fv) (hlv:lv<100) (h1:args.length<=fv.ps.length) (h2:fv.ps.length<=args.length+fv.ys.length)
  (h:aexs W (lv+1) [] fv.body ((args++fv.ys.drop (args.length+fv.ys.length-fv.ps.length)).map some++fv.rest.map fun _=>none) σ fun fl _ σ'=>∃ σ'',Sub σ'' σ'/\match fl with
   | .next=>Q .none σ''
   | .ret v=>Q v σ''
   | _=>False):Q9 W lv f args σ Q:=by
 obtain ⟨name,qual,params,body,scope,dV,kV,doc,pm,cdv,ct,oc,an,od,osl,ds,k⟩:=y2 hf
 refine ⟨⟨_,_,k.ho,rfl⟩,fun c ρ Φ s vs R C hvs r hR=>?_⟩
 have hlen:=hvs.length
 have hlen2:=k.hvs.length
 have hu:VRs (args++fv.ys.drop (args.length+fv.ys.length-fv.ps.length)) (vs++ds.drop (vs.length+ds.length-fv.ps.length)):=by
  refine sq hlen (sq hlen2 ?_);exact hvs.append (k.hvs.drop _)
 refine KA C r hR hlv k.ho k.code k.nd (fun X=>J0 k.ps k.kwo k.vararg k.kwarg (List.nodup_append.mp k.nd).1 (fun M A E Q q=>y1 k.dflt s X M A E Q q) (okY h1 hlen.symm) (okc h2 (Nat.add_le_add (oke hlen) (oke hlen2))) (by have:=k.yl;exact okY this hlen2.symm)) hu
  (by refine sr List.length_append (sr List.length_drop ?_);exact okB2 (okY h1 hlen.symm) (okc h2 (Nat.add_le_add (oke hlen) (oke hlen2)))) k.loc k.co k.gen k.kind k.cell (k.body h)
theorem zA {W:Wd} {lv:Nat} {f:Addr} {fv:FV} {args:List V} {σ:Led} {Q:V->Led->Prop} (hf:zt W.K f=some fv) (hlv:lv<100) (h1:args.length<=fv.ps.length) (h2:fv.ps.length<=args.length+fv.ys.length)
  (h:aexs W (lv+1) [] fv.body ((args++fv.ys.drop (args.length+fv.ys.length-fv.ps.length)).map some++fv.rest.map fun _=>none) σ fun fl _ σ'=>∃ σ'',Sub σ'' σ'/\match fl with
   | .next=>Q .none σ''
   | .ret v=>Q v σ''
   | _=>False):zm W lv (.ref f) args σ Q:=(ZU hf hlv h1 h2 h).call
end
section
structure PrOk (K:Frag):Prop where
 h_versions:zt K 1095=some Mine.QA
 h_step:zt K 1100=some Mine.YI
 h_line:zt K 1105=some Mine.vB
 h_replayed:zt K 1112=some Mine.QB
 h_forth_and_back:zt K 1119=some Mine.Zd
 h_cancelled:zt K 1124=some Mine.jj
 h_counted:zt K 1131=some Mine.jk
 h_count_diff:zt K 1090=some Mine.Z2
 h_unorderable:zt K 1009=some Mine.q7
 h_mismatch_new:zt K 1027=some Mine.ZF
 h_sm_init:zt K 873=some Mine.Xo
 h_set_seqs:zt K 880=some Mine.Jz
 h_set_seq1:zt K 887=some Mine.JA
 h_set_seq2:zt K 894=some Mine.JB
 h_chain_b:zt K 901=some Mine.jl
 h_flm:zt K 909=some Mine.vC
 h_gmb:zt K 916=some Mine.k0
 h_opcodes:zt K 923=some Mine.jm
 h_match_new:zt K 795=some Mine.qO
 h_match_make:zt K 802=some Mine.Zu
 h_shlex_init:zt K 646=some Mine.zh
 h_get_token:zt K 683=some Mine.jo
 h_read_token:zt K 690=some Mine.zS
 h_iter:zt K 712=some Mine.H6
 h_next:zt K 719=some Mine.JC
 h_split:zt K 734=some Mine.vD
 h_sio_init:zt K 357=some Mine.JD
 h_translated:zt K 364=some Mine.QW
 h_check:zt K 371=some Mine.vE
 h_read:zt K 533=some Mine.H7
 h_mis_make:zt K 1034=some Mine.JE
 h_index:zt K 53=some Mine.vF
end
section
theorem Sub.refl:∀ σ:Led,Sub σ σ
 | []=>.nil _
 | p::r=>.cons (List.Perm.refl _) (Sub.refl r)
theorem Sub.skip {p:Addr×O} {σ τ:Led} (h:Sub τ σ):Sub τ (p::σ):=by
 induction h with
 | nil σ=>exact .nil _
 | @cons q σ σ' τ hp h ih=>
  exact .cons ((List.Perm.swap p q τ).trans (hp.cons p)) ih
theorem Sub.keep {p:Addr×O} {σ τ:Led} (h:Sub τ σ):Sub (p::τ) (p::σ):=.cons (List.Perm.refl _) h
theorem Sub.swap {p q:Addr×O} {σ τ:Led} (h:Sub (p::q::τ) σ):Sub (q::p::τ) σ:=by
 cases h with
 | @cons _ _ _ r1 h1 h=>
  cases h with
  | @cons _ _ _ r2 h2 h=>
   refine .cons (τ:=p::r2) ?_ (.keep h)
   exact (List.Perm.swap p q r2).trans ((h2.cons p).trans h1)
theorem Sub.trans {a b c:Led} (h:Sub a b) (k:Sub b c):Sub a c:=by
 have perm:∀ {x y z:Led},Sub x y->y.Perm z->Sub x z:=fun h p=>by
  cases h with
  | nil=>exact .nil _
  | cons q h=>exact .cons (q.trans p) h
 have key:∀ {b c:Led},Sub b c->∃ r,(b++r).Perm c:=by
  intro b c k
  induction k with
  | nil σ=>exact ⟨σ,List.Perm.refl _⟩
  | cons q _ ih=>refine e11 ih fun r hr=>?_;exact ⟨r,(hr.cons _).trans q⟩
 have app:∀ {a b:Led} (r:Led),Sub a b->Sub a (b++r):=by
  intro a b r h
  induction h with
  | nil σ=>exact .nil _
  | cons q _ ih=>exact .cons (q.append_right r) ih
 refine e11 (key k) fun r hr=>?_
 exact perm (app r h) hr
noncomputable def PS.blk:PS->List PS
 | .forr _ _ b=>b
 | .ite _ a _=>a
 | .whil _ b=>b
 | _=>[]
noncomputable def PS.alt:PS->List PS
 | .ite _ _ b=>b
 | _=>[]
section
variable {W:Wd} {lv:Nat} {cl:List V} {ρ:List (Option V)} {σ:Led} {K:AFl->List (Option V)->Led->Prop}
theorem za {p:PS} {r:List PS} (h:aex W lv cl p ρ σ fun fl ρ σ=>match fl with
  | .next=>aexs W lv cl r ρ σ K
  | fl=>K fl ρ σ):aexs W lv cl (p::r) ρ σ K:=⟨σ,Sub.refl σ,h⟩
theorem ze {p:PS} {r:List PS} {σ':Led} (hs:Sub σ' σ) (h:aex W lv cl p ρ σ' fun fl ρ σ=>match fl with
  | .next=>aexs W lv cl r ρ σ K
  | fl=>K fl ρ σ):aexs W lv cl (p::r) ρ σ K:=⟨σ',hs,h⟩
theorem zc {p:PS} (h:aex W lv cl p ρ σ K):aexs W lv cl [p] ρ σ K:=⟨σ,Sub.refl σ,by
 have e:(fun fl ρ σ=>match fl with
  | .next=>aexs W lv cl [] ρ σ K
  | fl=>K fl ρ σ)=K:=by funext fl ρ σ;cases fl <;> rfl
 exact e.symm ▸ h⟩
theorem jP {i:Nat} {e:PE} (h:aev W lv cl ρ e σ fun v σ=>K .next (ρ.set i (some v)) σ):aex W lv cl (.assignC i e) ρ σ K:=h
theorem kc {store:V->List (Option V)->Led->(List (Option V)->Led->Prop)->Prop} {body:List (Option V)->Led->(AFl->List (Option V)->Led->Prop)->Prop} {b:Bool} {a:Addr} {xs:List V}
  (hb:b=false\/∀ i:Nat,xs[i]?=none\/∃ t,xs[i]?=some (.ref t)) (I:Nat->List (Option V)->Led->Prop) (mem:∀ i ρ σ,I i ρ σ->(a,O.list xs)∈σ)
  (step:∀ i x ρ σ (R:AFl->List (Option V)->Led->Prop),xs[i]?=some x->I i ρ σ->(∀ fl ρ' σ',(fl=.next\/fl=.cont)->(∃ σ'',Sub σ'' σ'/\I (i+1) ρ' σ'')->R fl ρ' σ')->(∀ fl ρ' σ',(match fl with | .brk=>K .next ρ' σ' | .ret v=>K (.ret v) ρ' σ' | _=>False)->R fl ρ' σ')->
   store x ρ σ fun ρ σ=>body ρ σ R)
  (done:∀ ρ σ,I xs.length ρ σ->K .next ρ σ) (h:I 0 ρ σ):∃ n,afor W lv b store body (.list a) n 0 ρ σ K:=by
 refine ⟨xs.length+1,?_⟩
 suffices ∀ k i ρ σ,i+k=xs.length->I i ρ σ->afor W lv b store body (.list a) (k+1) i ρ σ K from this xs.length 0 ρ σ (Nat.add_comm _ _) h
 intro k
 induction k with
 | zero=>
  intro i ρ σ hi h
  have e:xs[i]?=none:=by rw [List.getElem?_eq_none_iff];exact oke hi.symm
  refine zH (mem i ρ σ h) ?_ (by rcases hb with hb | hb;exact .inl hb;exact .inr (hb i))
  refine sr e ?_
  have:i=xs.length:=hi
  subst this
  exact done ρ σ h
 | succ k ih=>
  intro i ρ σ hi h
  have e:xs[i]?=some xs[i]:=List.getElem?_eq_getElem (oku hi)
  refine zH (mem i ρ σ h) ?_ (by rcases hb with hb | hb;exact .inl hb;exact .inr (hb i))
  refine sr e ?_
  refine step i xs[i] ρ σ _ e h (fun fl ρ' σ' hf hh=>?_) (fun fl ρ' σ' hh=>?_)
  ·refine e12 hh fun σ'' hs hI=>?_
   rcases hf with rfl | rfl
   ·exact ⟨σ'',hs,ih (i+1) ρ' σ'' (okv hi) hI⟩
   ·exact ⟨σ'',hs,ih (i+1) ρ' σ'' (okv hi) hI⟩
  ·cases fl <;> first | exact hh | exact hh.elim
theorem G0 {i j:Nat} {v:V} (e:ρ[j]?=some (some v)) (h:K .next (ρ.set i (some v)) σ):aex W lv cl (.assign [.loc i] (.loc j)) ρ σ K:=by
 show (match ρ[j]? with
  | some (some v)=>K .next (ρ.set i (some v)) σ
  | _=>False)
 refine sr e ?_;exact h
theorem Sub.aexs {p:PS} {r:List PS} {σ':Led} (hs:Sub σ' σ) (h:Mine.aexs W lv cl (p::r) ρ σ' K):Mine.aexs W lv cl (p::r) ρ σ K:=by
 refine e12 h fun τ h1 h=>?_
 exact ⟨τ,Sub.trans h1 hs,h⟩
theorem zL {α:Type} {ρf:α->List (Option V)} {σf:α->Led} {store:V->List (Option V)->Led->(List (Option V)->Led->Prop)->Prop} {body:List (Option V)->Led->(AFl->List (Option V)->Led->Prop)->Prop} {b:Bool} {a:Addr} {xs:List V}
  (hb:b=false\/∀ i:Nat,xs[i]?=none\/∃ t,xs[i]?=some (.ref t)) (P:Nat->α->Prop) (mem:∀ s,(a,O.list xs)∈σf s)
  (step:∀ i x (R:AFl->List (Option V)->Led->Prop),xs[i]?=some x->∀ s,P i s->(∀ fl s' τ,(fl=.next\/fl=.cont)->P (i+1) s'->Sub (σf s') τ->R fl (ρf s') τ)->(∀ ρ τ,K .next ρ τ->R .brk ρ τ)->(∀ v ρ τ,K (.ret v) ρ τ->R (.ret v) ρ τ)->
   store x (ρf s) (σf s) fun ρ σ=>body ρ σ R)
  (done:∀ s,P xs.length s->K .next (ρf s) (σf s)) {s:α} (h:P 0 s):∃ n,afor W lv b store body (.list a) n 0 (ρf s) (σf s) K:=by
 refine kc hb (fun i ρ σ=>∃ s,P i s/\ρ=ρf s/\σ=σf s) ?_ ?_ ?_ ⟨s,h,rfl,rfl⟩
 ·rintro i ρ σ ⟨s,_,rfl,rfl⟩;exact mem s
 ·rintro i x ρ σ R hx ⟨s,hp,rfl,rfl⟩ hR hk
  exact step i x R hx s hp (fun fl s' τ hf hp' hs=>hR fl _ _ hf ⟨_,hs,s',hp',rfl,rfl⟩) (fun ρ τ q=>hk .brk ρ τ q) fun v ρ τ q=>hk (.ret v) ρ τ q
 ·rintro ρ σ ⟨s,hp,rfl,rfl⟩;exact done s hp
end
end
section
noncomputable def esc1 (S:List Nat) (c:Nat):List Nat:=if c∈S then [92,c] else [c]
noncomputable def zD (w:List Nat):List Nat:=if w≠[]/\w.length<5 then qG [] (w.map (esc1 [32,39,34,92])) else [34]++qG [] (w.map (esc1 [34,92]))++[34]
noncomputable def ZJ (ws:List (List Nat)):List Nat:=qG [32] (ws.map zD)
section
variable {W:Wd} {lv:Nat} {σ:Led}
theorem ke {S:List Nat} {w:List Nat} {K:List V->Led->Prop} (hw:w.length<=16777216) (h:K ((w.map (esc1 S)).map V.str) σ) :
  ∃ N,ZG W lv (fun x σ R=>aifs W lv [] [some x] [] σ R) (fun x σ R=>aev W lv [] [some x] (.ite (.cmp .In (.loc 0) (.const (.str S))) (.bin .Add (.const (.str [92])) (.loc 0)) (.loc 0)) σ R) N (.str w) 0 [] σ K:=by
 refine ⟨w.length+1,?_⟩
 suffices ∀ k i ys,i+k=w.length->ys=((w.take i).map (esc1 S)).map V.str->ZG W lv (fun x σ R=>aifs W lv [] [some x] [] σ R) (fun x σ R=>aev W lv [] [some x] (.ite (.cmp .In (.loc 0) (.const (.str S))) (.bin .Add (.const (.str [92])) (.loc 0)) (.loc 0)) σ R) (k+1) (.str w) i ys σ K from this w.length 0 [] (Nat.add_comm _ _) rfl
 intro k
 induction k with
 | zero=>
  rintro i ys hi rfl
  refine YS ?_
  have:i=w.length:=hi
  subst this
  simpa using h
 | succ k ih=>
  rintro i ys hi rfl
  refine YS ?_
  have hlt:i<w.length:=oku hi
  rw [List.getElem?_eq_getElem hlt]
  have e:((w.take (i+1)).map (esc1 S)).map V.str=((w.take i).map (esc1 S)).map V.str++[V.str (esc1 S w[i])]:=by
   rw [List.take_add_one,List.getElem?_eq_getElem hlt,List.map_append,List.map_append];rfl
  have fin:∀ y,y=V.str (esc1 S w[i])->(((w.take i).map (esc1 S)).map V.str).length<16777216/\ZG W lv (fun x σ R=>aifs W lv [] [some x] [] σ R) (fun x σ R=>aev W lv [] [some x] (.ite (.cmp .In (.loc 0) (.const (.str S))) (.bin .Add (.const (.str [92])) (.loc 0)) (.loc 0)) σ R) (k+1) (.str w) (i+1) (((w.take i).map (esc1 S)).map V.str++[y]) σ K:=by
   rintro y rfl
   refine ⟨by simp;omega,ih (i+1) _ (okv hi) e.symm⟩
  refine (?_:ait W lv [] [some (V.str [w[i]])] (.cmp .In (.loc 0) (.const (.str S))) σ _)
  refine xi ?_
  by_cases hm:w[i]∈S
  ·refine sr (decide_eq_true hm) ?_
   refine Zw (by simp) ?_
   exact fin _ (by simp [esc1,hm])
  ·refine sr (decide_eq_false hm) ?_
   exact fin _ (by simp [esc1,hm])
theorem hO (S:List Nat) (k:Nat):(esc1 S k).length<=2:=by
 unfold esc1
 by_cases h:k∈S
 ·refine sr (if_pos h) ?_;exact Nat.le_refl 2
 ·refine sr (if_neg h) ?_;exact Nat.le_succ 1
theorem VM (S:List Nat):∀ v:List Nat,((v.map (esc1 S)).map (·.length)).sum<=2*v.length
 | []=>Nat.zero_le _
 | k::v=>by
  rw [List.map_cons,List.map_cons,List.sum_cons,List.length_cons,Nat.mul_succ,Nat.add_comm]
  exact Nat.add_le_add (VM S v) (hO S k)
theorem VN {S w:List Nat} (h:w.length<=100000):((w.map (esc1 S)).map (·.length)).sum+(w.map (esc1 S)).length*([]:List Nat).length<=200000:=okc (VM S w) (Nat.mul_le_mul_left 2 h)
noncomputable abbrev lnB:PS:=((vB.body.getD 1 .pass).blk).getD 0 .pass
variable {a d:Addr} {w:List Nat} {T:List (List Nat)} {τ:Led} {K:AFl->List (Option V)->Led->Prop}
noncomputable def LnP (a d:Addr) (σ:Led) (w:List Nat) (T:List (List Nat)) (K:AFl->List (Option V)->Led->Prop):Prop:=∀ τ,Sub ((d,.list ((T++[zD w]).map V.str))::σ) τ->K .next [some (.ref a),some (.ref d),some (.str w)] τ
theorem LnP.at {l:List Nat} (h:LnP a d σ w T K) (e:zD w=l) (hs:Sub ((d,.list (T.map V.str++[.str l]))::σ) τ):K .next [some (.ref a),some (.ref d),some (.str w)] τ:=h τ (by refine sr e (sr List.map_append ?_);exact hs)
theorem gF (hw:w.length<=100000) (hT:T.length<100000) (q:¬ (w≠[]/\w.length<5)) (h:LnP a d σ w T K):aexs W lv [] lnB.alt [some (.ref a),some (.ref d),some (.str w)] ((d,.list (T.map V.str))::σ) K:=by
 refine zc (zk (.head _) (QM (YR (ke (okc hw (by decide)) fun b=>?_))))
 have hl:=okc (Qk [] (w.map (esc1 [34,92]))) (VN hw)
 refine jM (.head _) (okc (VN hw) (by decide)) ?_
 refine Zw (okc (Nat.add_le_add_left hl 1) (by decide)) ?_
 refine Zw (by refine sr List.length_append ?_;exact okc (Nat.add_le_add_right (Nat.add_le_add_left hl 1) 1) (by decide)) ?_
 refine zq (.tail _ (.head _)) (by rw [List.length_map];exact oka hT (by decide)) (.there _ (.here _ _)) ?_
 exact h.at (if_neg q) (Sub.refl _).skip
theorem hU (hw:w.length<=100000) (hT:T.length<100000) (q:w≠[]/\w.length<5) (h:LnP a d σ w T K):aexs W lv [] lnB.blk [some (.ref a),some (.ref d),some (.str w)] ((d,.list (T.map V.str))::σ) K:=by
 refine zc (zk (.head _) (QM (YR (ke (okc hw (by decide)) fun b=>?_))))
 refine jM (.head _) (okc (VN hw) (by decide)) ?_
 refine zq (.tail _ (.head _)) (by rw [List.length_map];exact oka hT (by decide)) (.there _ (.here _ _)) ?_
 exact h.at (if_pos q) (Sub.refl _).skip
theorem G1 (hw:w.length<=100000) (hT:T.length<100000) (h:LnP a d σ w T K):aexs W lv [] [lnB] [some (.ref a),some (.ref d),some (.str w)] ((d,.list (T.map V.str))::σ) K:=by
 refine zc ?_
 by_cases e:w=[]
 ·have:=gF (W:=W) (lv:=lv) hw hT (fun q=>q.1 e) h
  rw [e] at this ⊢
  exact this
 ·refine e21 (List.exists_cons_of_ne_nil e) fun k v ew=>?_
  have hS:=fun q=>hU (W:=W) (lv:=lv) hw hT ⟨e,q⟩ h
  have hB:=fun q:¬ w.length<5=>gF (W:=W) (lv:=lv) hw hT (fun z=>q z.2) h
  rw [ew] at hS hB ⊢
  exact XO (zV (b:=5) hS fun q=>hB (Nat.not_lt_of_le q))
theorem VO {ws:List (List Nat)} {Q:V->Led->Prop} (P:PrOk W.K) (hlv:lv<90) (m:(a,O.list (ws.map V.str))∈σ) (hn:ws.length<=100000) (hw:∀ w∈ws,w.length<=100000) (hsum:((ws.map zD).map (·.length)).sum+ws.length<=16777216)
  (h:Q (.str (ZJ ws)) σ):zm W lv (.ref 1105) [.ref a] σ Q:=by
 refine zA P.h_line (oka hlv (by decide)) (Nat.le_refl 1) (Nat.le_refl 1) ?_
 refine za (zC (Nat.zero_le _) fun d=>?_)
 refine za (zB (.tail _ m) ?_)
 refine zL (α:=Nat×Option V) (xs:=ws.map V.str) (ρf:=fun s=>[some (.ref a),some (.ref d),s.2]) (σf:=fun s=>(d,.list (((ws.take s.1).map zD).map V.str))::σ) (.inl rfl) (fun n s=>s.1=n) (fun _=>.tail _ m) ?_ ?_ (s:=(0,none)) rfl
 ·rintro i x R hx ⟨n,y⟩ e hR _ _
  cases e
  rw [List.getElem?_map,Option.map_eq_some_iff] at hx
  obtain ⟨w,hi,rfl⟩:=hx
  have hlt:=(List.getElem?_eq_some_iff.mp hi).1
  refine G1 (hw w (List.mem_of_getElem? hi)) (by rw [List.length_map];exact okb (List.length_take_le _ _) (oka hlt hn)) fun τ hs=>?_
  refine hR _ (n+1,_) τ (.inl rfl) rfl ?_
  dsimp only
  refine sr List.take_add_one (sr hi (sr List.map_append ?_))
  exact hs
 ·rintro ⟨n,y⟩ e
  refine sr e ?_
  dsimp only
  rw [List.length_map,List.take_length]
  refine za (QM ?_)
  refine jM (.head _) (by rw [List.length_map];exact okc (Nat.add_le_add_left (Nat.le_of_eq (Nat.mul_one _)) _) hsum) ?_
  exact ⟨σ,(Sub.refl σ).skip,h⟩
end
end
section
noncomputable abbrev Wo:=List Nat
set_option genCtorIdx true in
inductive Tk where
 | at (n:Nat)
 | eq (n:Nat)
 | del (w:Wo)
 | ins (w:Wo)
noncomputable def Tk.enc:Tk->Wo
 | .at n=>64::numL n
 | .eq n=>61::numL n
 | .del w=>45::w
 | .ins w=>43::w
noncomputable def Tk.ok:Tk->Prop
 | .at n=>n<1000
 | .eq n=>n<1000
 | .del w=>w.length<=1000
 | .ins w=>w.length<=1000
noncomputable def rp (side:Bool) (ver:List Wo):List Tk->List Wo->Nat->Option (List Wo)
 | [],f,r=>some (f++ver.drop r)
 | .at n::ts,f,r=>match side with
  | false=>rp side ver ts (f++(ver.drop r).take (n-r)) n
  | true=>rp side ver ts f r
 | .eq n::ts,f,r=>match side with
  | true=>rp side ver ts (f++(ver.drop r).take (n-r)) n
  | false=>rp side ver ts f r
 | .del w::ts,f,r=>match side with
  | false=>if (ver.drop r).take 1=[w] then rp side ver ts f (r+1) else none
  | true=>rp side ver ts (f++[w]) r
 | .ins w::ts,f,r=>match side with
  | true=>if (ver.drop r).take 1=[w] then rp side ver ts f (r+1) else none
  | false=>rp side ver ts (f++[w]) r
theorem qK {side:Bool} {ver:List Wo} {res:List Wo}:∀ (ts:List Tk) (f:List Wo) (r:Nat),rp side ver ts f r=some res->f.length<=res.length
 | [],f,r,h=>by cases h;simp
 | .at n::ts,f,r,h=>by
  cases side with
  | false=>have:=qK ts _ _ h;simp at this;exact oks this
  | true=>exact qK ts _ _ h
 | .eq n::ts,f,r,h=>by
  cases side with
  | true=>have:=qK ts _ _ h;simp at this;exact oks this
  | false=>exact qK ts _ _ h
 | .del w::ts,f,r,h=>by
  cases side with
  | false=>
   unfold rp at h
   dsimp only at h
   split at h
   ·exact qK ts _ _ h
   ·exact nn1 h
  | true=>have:=qK ts _ _ h;simp at this;exact okd this
 | .ins w::ts,f,r,h=>by
  cases side with
  | true=>
   unfold rp at h
   dsimp only at h
   split at h
   ·exact qK ts _ _ h
   ·exact nn1 h
  | false=>have:=qK ts _ _ h;simp at this;exact okd this
noncomputable abbrev hW (b:Bool):V:=.int (if b then 1 else 0)
theorem part_map (xs:List Wo) (lo hi:Option Nat):zM (xs.map V.str) lo hi=(zM xs lo hi).map V.str:=by
 unfold zM;split <;> simp [List.map_drop,List.map_take]
section
variable {W:Wd} {lv:Nat} {σ:Led}
variable {a t df:Addr} {ver res f:List Wo} {ts:List Tk} {side:Bool} {m r n:Nat} {w:Wo} {x5:Option V} {τ:Led} {K:AFl->List (Option V)->Led->Prop}
noncomputable abbrev rB:List PS:=(QB.body.getD 1 .pass).blk
noncomputable def rρ (a t df:Addr) (side:Bool) (r:Nat) (x5:Option V) (m:Nat) (w:Wo):List (Option V):=[some (.ref a),some (.ref t),some (hW side),some (.ref df),some (.int r),x5,some (.str [m]),some (.str w)]
noncomputable def VQ (σ:Led) (a t df:Addr) (side:Bool) (ver res:List Wo) (ts:List Tk) (x5:Option V) (m:Nat) (w:Wo) (K:AFl->List (Option V)->Led->Prop):Prop:=
 ∀ f r τ,rp side ver ts f r=some res->Sub ((df,.list (f.map V.str))::σ) τ->K .next (rρ a t df side r x5 m w) τ
theorem VS (p q:Nat):([p,q]:List Nat)[(if side then (1:Int) else 0).toNat]?=some (cond side q p):=by cases side <;> rfl
theorem VT:(0:Int)<=(if side then (1:Int) else 0):=by cases side <;> decide
theorem ZV {p q:Nat} {A:List PS} (hm:m≠cond side q p) (h:K .next (rρ a t df side r x5 m w) τ):aex W lv [] (.ite (.cmp .Eq (.loc 6) (.item (.const (.str [p,q])) (.loc 2))) A []) (rρ a t df side r x5 m w) τ K:=
 item_str VT (VS p q) (xl (fun e=>absurd e hm) fun _=>h)
theorem G4 {p q:Nat} {A:List PS} (hm:m=cond side q p) (h:aexs W lv [] A (rρ a t df side r x5 m w) τ K):aex W lv [] (.ite (.cmp .Eq (.loc 6) (.item (.const (.str [p,q])) (.loc 2))) A []) (rρ a t df side r x5 m w) τ K:=
 item_str VT (VS p q) (xl (fun _=>h) fun e=>absurd hm e)
theorem ZW {p q p' q':Nat} (h:m=cond side q p) (e:(p≠p')/\q≠q'):m≠cond side q' p':=by cases side <;> (refine sr h ?_;first | exact e.1 | exact e.2)
theorem VU (hm:m=cond side 64 61) (hs:Sub ((df,.list (f.map V.str))::σ) τ) (hrp:rp side ver ts f r=some res) (last:VQ σ a t df side ver res ts x5 m w K):aexs W lv [] (rB.drop 1) (rρ a t df side r x5 m w) τ K:=by
 refine za (ZV (ZW hm (by decide)) (za (ZV (ZW hm (by decide)) (za (ZV (ZW hm (by decide)) ?_)))))
 exact last f r _ hrp hs
theorem VW (hn:n<1000) (ma:(a,O.list (ver.map V.str))∈σ) (hres:res.length<=100000) (hm:m=cond side 61 64) (hs:Sub ((df,.list (f.map V.str))::σ) τ) (hrp:rp side ver ts (f++(ver.drop r).take (n-r)) n=some res)
  (last:VQ σ a t df side ver res ts x5 m (numL n) K):aexs W lv [] (rB.drop 1) (rρ a t df side r x5 m (numL n)) τ K:=by
 refine za (G4 hm (ze hs (Y8 hn (slice_list (some r) (some n) rfl rfl (.tail _ ma) fun d3=>?_))))
 rw [part_map]
 refine ZI (.tail _ (.head _)) (.head _) (by rw [← List.length_append,← List.map_append,List.length_map];exact Nat.le_trans (qK _ _ _ hrp) (okc hres (by decide))) (.there _ (.here _ _)) ?_
 refine sq List.map_append ?_
 refine za (Y8 hn ?_)
 refine za (ZV (a:=a) (t:=t) (df:=df) (r:=n) (x5:=x5) (w:=numL n) (ZW hm (by decide)) (za (ZV (a:=a) (t:=t) (df:=df) (r:=n) (x5:=x5) (w:=numL n) (ZW hm (by decide)) ?_)))
 exact last _ n _ hrp (Sub.refl _).skip
theorem gG (hres:res.length<=100000) (hm:m=cond side 45 43) (hs:Sub ((df,.list (f.map V.str))::σ) τ) (hrp:rp side ver ts (f++[w]) r=some res)
  (last:VQ σ a t df side ver res ts x5 m w K):aexs W lv [] (rB.drop 1) (rρ a t df side r x5 m w) τ K:=by
 refine za (ZV (ZW hm (by decide)) (za (ZV (ZW hm (by decide)) (za (G4 hm ?_)))))
 have hfl:=qK _ _ _ hrp
 rw [List.length_append] at hfl
 refine ze hs (zk (.head _) (zq (.head _) (by rw [List.length_map];exact okb (oks hfl) (okb hres (by decide))) (.here _ _) ?_))
 have:=last _ r _ hrp (Sub.refl _)
 rw [List.map_append] at this
 exact this
theorem VX (hlv:lv<100) (ma:(a,O.list (ver.map V.str))∈σ) (hp:∀ w∈ver,PW w) (hm:m=cond side 43 45) (hs:Sub ((df,.list (f.map V.str))::σ) τ) (hrp:(if (ver.drop r).take 1=[w] then rp side ver ts f (r+1) else none)=some res)
  (last:VQ σ a t df side ver res ts x5 m w K):aexs W lv [] (rB.drop 1) (rρ a t df side r x5 m w) τ K:=by
 refine za (ZV (ZW hm (by decide)) (za (G4 hm (ze hs (Zl (slice_list (some r) (some (r+1)) rfl rfl (.tail _ ma) fun d3=>?_))))))
 by_cases hw:(ver.drop r).take 1=[w]
 ·rw [if_pos hw] at hrp
  have hwm:w∈ver:=List.mem_of_mem_drop (List.mem_of_mem_take (by refine sr hw ?_;exact .head _))
  have l:=XW (ws:=[w]) fun v hv=>List.mem_singleton.mp hv ▸ hp w hwm
  have ep:zM (ver.map V.str) (some r) (some (r+1))=[w].map V.str:=by
   rw [part_map];show ((ver.drop r).take (r+1-r)).map V.str=_;rw [Nat.add_sub_cancel_left,hw]
  refine sr ep ?_
  refine zC (show 1<=16777216 by decide) fun d4=>?_
  refine jN hlv (.words (ws:=[w]) (.tail _ (.head _))) (.words (ws:=[w]) (.head _)) l.1 (Nat.le_trans l.2 (by decide)) ?_
  refine za (ZS ?_)
  refine za (ZV (a:=a) (t:=t) (df:=df) (r:=r+1) (x5:=x5) (w:=w) (ZW hm (by decide)) ?_)
  exact last f (r+1) _ hrp (Sub.refl _).skip.skip
 ·rw [if_neg hw] at hrp;exact nn1 hrp
structure RSt where
 f:List Wo
 r:Nat
 x5:Option V
 x6:Option V
 x7:Option V
theorem jQ {toks:List Tk} {Q:V->Led->Prop} (P:PrOk W.K) (hlv:lv<90) (ma:(a,O.list (ver.map V.str))∈σ) (mt:(t,O.list ((toks.map Tk.enc).map V.str))∈σ)
  (hver:ver.length<=100000) (hres:res.length<=100000) (hok:∀ k∈toks,k.ok) (hp:∀ w∈ver,PW w) (hr:rp side ver toks [] 0=some res) (h:∀ d,Q (.ref d) ((d,.list (res.map V.str))::σ)):zm W lv (.ref 1112) [.ref a,.ref t,hW side] σ Q:=by
 refine zA P.h_replayed (oka hlv (by decide)) (Nat.le_refl 3) (Nat.le_refl 3) ?_
 refine za ⟨rfl,zC (Nat.zero_le _) fun df=>?_⟩
 refine zK (show 2<=16777216 by decide) fun dt=>?_
 refine zp (.head _) rfl ?_
 refine ze ((Sub.refl _).skip) (zB (.tail _ mt) ?_)
 refine zL (xs:=(toks.map Tk.enc).map V.str) (ρf:=fun s:RSt=>[some (.ref a),some (.ref t),some (hW side),some (.ref df),some (.int s.r),s.x5,s.x6,s.x7]) (σf:=fun s=>(df,.list (s.f.map V.str))::σ) (.inl rfl)
  (fun i s=>rp side ver (toks.drop i) s.f s.r=some res) (fun s=>.tail _ mt) ?_ ?_ (s:=⟨[],0,none,none,none⟩) hr
 ·intro i x R hx s hrp hR _ _
  rw [List.getElem?_map,List.getElem?_map,Option.map_map,Option.map_eq_some_iff] at hx
  obtain ⟨k,hi,rfl⟩:=hx
  have hkok:=hok k (List.mem_of_getElem? hi)
  rw [List.drop_eq_getElem_cons (List.getElem?_eq_some_iff.mp hi).1,(List.getElem?_eq_some_iff.mp hi).2] at hrp
  refine za ⟨rfl,ql none (some 1) rfl rfl (ql (some 1) none rfl rfl (zK (show 2<=16777216 by decide) fun d2=>zp (.head _) rfl ?_))⟩
  have hs:∀ p:Addr×O,Sub ((df,O.list (s.f.map V.str))::σ) (p::(df,.list (s.f.map V.str))::σ):=fun p=>(Sub.refl _).skip
  have last:∀ m w,VQ σ a t df side ver res (toks.drop (i+1)) (some (.str k.enc)) m w R:=fun m w f r τ h1 h2=>hR _ ⟨f,r,some (.str k.enc),some (.str [m]),some (.str w)⟩ τ (.inl rfl) h1 h2
  have hlv':lv+1<100:=Nat.succ_lt_succ (oka hlv (by decide))
  cases k with
  | «at» n=>
   cases side with
   | false=>exact VW hkok ma hres rfl (hs _) hrp (last _ _)
   | true=>exact VU rfl (hs _) hrp (last _ _)
  | eq n=>
   cases side with
   | true=>exact VW hkok ma hres rfl (hs _) hrp (last _ _)
   | false=>exact VU rfl (hs _) hrp (last _ _)
  | del w=>
   cases side with
   | false=>exact VX hlv' ma hp rfl (hs _) hrp (last _ _)
   | true=>exact gG hres rfl (hs _) hrp (last _ _)
  | ins w=>
   cases side with
   | true=>exact VX hlv' ma hp rfl (hs _) hrp (last _ _)
   | false=>exact gG hres rfl (hs _) hrp (last _ _)
 ·intro s hrp
  rw [List.length_map,List.length_map,List.drop_length] at hrp
  cases hrp
  refine za (slice_list (some s.r) none rfl rfl (.tail _ ma) fun d2=>?_)
  rw [part_map]
  refine Zx (.tail _ (.head _)) (.head _) ?_ fun d3=>?_
  ·rw [List.length_map,List.length_map]
   exact okc (Nat.add_le_add (okc (Nat.le_trans (Nat.le_add_right _ _) (Nat.le_of_eq List.length_append.symm)) hres) (okc (zT ver (some s.r) none) hver)) (by decide)
  refine sq List.map_append ?_
  exact ⟨_,.keep ((Sub.refl σ).skip.skip),h d3⟩
end
end
section
noncomputable def ixOf (nm:Str):List Str->Option Nat
 | []=>none
 | k::r=>if k==nm then some 0 else (ixOf nm r).map (· + 1)
noncomputable def V.handed:V->Bool
 | .bi _=>false
 | _=>true
theorem VR.handed {x:V} {v:Value} (z:VR x v) (h:x.handed=true):handedIn v=true:=by cases z <;> first | rfl | exact nn3 h
structure ClOk (K:Frag) (C:Addr) (names:List Str):Prop where
 get:plainGet K C "" = true
 hd:hasDictIn K C=true
 set:findIn K (.ref C) "__setattr__" = some (some (.builtin "object.__setattr__"))
 over:plainOver K C=true
 none:∀ nm∈names,findIn K (.ref C) nm=some none
structure MkOk (K:Frag) (C fI:Addr):Prop where
 made:makesIn K C=true
 init:findIn K (.ref C) "__init__" = some (some (.ref fI))
 fn:isFn K (.ref fI)=true
 keep:keepIn K (.ref C)=true
structure MeOk (K:Frag) (C:Addr) (nm:Str) (f:Addr):Prop where
 get:plainGet K C "" = true
 find:findIn K (.ref C) nm=some (some (.ref f))
 fn:isFn K (.ref f)=true
section
variable {P:Params}
theorem FR.lookup {nm:Str}:∀ {ks:List Str} {vs:List V} {des:List DictEntry} {i:Nat} {v:V},FR P (ks.zip vs) des->ixOf nm ks=some i->vs[i]?=some v->∃ u,getL nm des=some (some u)/\VR v u:=by
 intro ks
 induction ks with
 | nil=>intro vs des i v _ h;exact nn1 h
 | cons k r ih=>
  intro vs des i v hF h hv
  cases vs with
  | nil=>simp at hv
  | cons x vs=>
   rw [List.zip_cons_cons] at hF
   cases hF with
   | @cons _ t _ u _ es z hF=>
    unfold ixOf at h
    unfold getL
    rw [List.find?_cons]
    have ek:(Value.str k t).isStr nm=(k==nm):=rfl
    dsimp only
    refine sr ek ?_
    cases hk:(k==nm) with
    | true=>
     rw [hk,if_pos rfl] at h;cases h
     cases hv
     exact ⟨u,rfl,z⟩
    | false=>
     rw [hk,if_neg Bool.false_ne_true] at h
     refine e12 (Option.map_eq_some_iff.mp h) fun j hj w0=>?_;subst w0
     refine e12 (ih hF hj (by simpa using hv)) fun w hw zw=>?_
     refine ⟨w,?_,zw⟩
     unfold getL at hw
     dsimp only
     revert hw
     cases hf:es.find? (·.key.isStr nm) with
     | none=>
      dsimp only
      intro hw
      split at hw <;> cases hw
     | some e=>exact fun hw=>hw
theorem FR.noRef:∀ {xs:List (Str×V)} {des:List DictEntry},FR P xs des->des.any (·.refKey)=false
 | _,_,.nil=>rfl
 | _,_,.cons z h=>by refine sr List.any_cons (sr h.noRef ?_);rfl
theorem FR.absent {nm:Str}:∀ {ks:List Str} {vs:List V} {des:List DictEntry},FR P (ks.zip vs) des->ixOf nm ks=none->getL nm des=some none:=by
 intro ks vs des hF hn
 have h1:=hF.noRef
 have h2:des.find? (·.key.isStr nm)=none:=by
  clear h1
  induction ks generalizing vs des with
  | nil=>cases hF;rfl
  | cons k r ih=>
   cases vs with
   | nil=>cases hF;rfl
   | cons x vs=>
    rw [List.zip_cons_cons] at hF
    cases hF with
    | @cons _ t _ u _ es z hF=>
     unfold ixOf at hn
     rw [List.find?_cons]
     have ek:(Value.str k t).isStr nm=(k==nm):=rfl
     refine sr ek ?_
     cases hk:(k==nm) with
     | true=>rw [hk,if_pos rfl] at hn;exact nn2 hn
     | false=>
      rw [hk,if_neg Bool.false_ne_true] at hn
      exact ih hF (Option.map_eq_none_iff.mp hn)
 unfold getL
 refine sr h2 ?_
 dsimp only
 refine sr h1 ?_;rfl
theorem FR.put {nm:Str} {h:Int} {key:Value} {v:V} {u:Value} (z:VR v u):∀ {ks:List Str} {vs:List V} {des:List DictEntry} {i:Nat},FR P (ks.zip vs) des->ixOf nm ks=some i->i<vs.length->FR P (ks.zip (vs.set i v)) (putL nm h key u des):=by
 intro ks
 induction ks with
 | nil=>intro vs des i _ h;exact nn1 h
 | cons k r ih=>
  intro vs des i hF hi hl
  cases vs with
  | nil=>cases hl
  | cons x vs=>
   rw [List.zip_cons_cons] at hF
   cases hF with
   | @cons _ t _ u' _ es z' hF=>
    unfold ixOf at hi
    refine (?_:FR P _ (if (k==nm)=true then _ else _))
    cases hk:(k==nm) with
    | true=>
     rw [hk,if_pos rfl] at hi;cases hi
     refine sr (if_pos rfl) ?_
     exact .cons z hF
    | false=>
     rw [hk,if_neg Bool.false_ne_true] at hi
     refine e12 (Option.map_eq_some_iff.mp hi) fun j hj w0=>?_;subst w0
     refine sr (if_neg Bool.false_ne_true) ?_
     exact .cons z' (ih hF hj (by simpa using hl))
theorem FR.add {nm:Str} {t:Tok} {v:V} {u:Value} (z:VR v u):∀ {ks:List Str} {vs:List V} {des:List DictEntry},FR P (ks.zip vs) des->ixOf nm ks=none->ks.length=vs.length->
  FR P ((ks++[nm]).zip (vs++[v])) (putL nm (PyData.keyHash P nm) (.str nm t) u des):=by
 intro ks
 induction ks with
 | nil=>
  intro vs des hF _ hl
  cases vs with
  | nil=>cases hF;exact .cons z .nil
  | cons _ _=>exact nn7 hl
 | cons k r ih=>
  intro vs des hF hi hl
  cases vs with
  | nil=>exact nn8 hl
  | cons x vs=>
   rw [List.zip_cons_cons] at hF
   cases hF with
   | @cons _ t _ u' _ es z' hF=>
    unfold ixOf at hi
    refine (?_:FR P _ (if (k==nm)=true then _ else _))
    cases hk:(k==nm) with
    | true=>rw [hk,if_pos rfl] at hi;exact nn2 hi
    | false=>
     rw [hk,if_neg Bool.false_ne_true] at hi
     refine sr (if_neg Bool.false_ne_true) ?_
     exact .cons z' (ih hF (Option.map_eq_none_iff.mp hi) (by simpa using hl))
theorem FR.length:∀ {xs:List (Str×V)} {des:List DictEntry},FR P xs des->des.length=xs.length
 | _,_,.nil=>rfl
 | _,_,.cons z h=>by exact sr List.length_cons (sr List.length_cons (sr h.length rfl))
end
theorem OR.xt {prog:Program} {w:World} {C dx:Addr} {o:Obj} (h:OR prog w (.inst C dx) o):o=instObj C dx:=by cases h;rfl
theorem OR.G5 {prog:Program} {w:World} {xs:List (Str×V)} {o:Obj} (h:OR prog w (.fld xs) o):∃ es n,FR w.params xs es/\o=dictOf es n:=by
 cases h with
 | fld n h=>exact ⟨_,n,h,rfl⟩
theorem Upd.mk {d:Addr} {o o':Obj} {post:List (Addr×Obj)} (h2:∀ p∈post,p.1≠d):∀ {pre:List (Addr×Obj)},(∀ p∈pre,p.1≠d)->Upd d o o' (pre++(d,o)::post) (pre++(d,o')::post)
 | [],_=>.head h2
 | p::r,h=>.tail (h p (.head _)) (Upd.mk h2 fun q hq=>h q (.tail _ hq))
theorem Upd.kf {d:Addr} {o:Obj} {l:List (Addr×Obj)} (m:(d,o)∈l) (nd:(l.map (·.1)).Nodup) (o':Obj):∃ l',Upd d o o' l l'/\(d,o')∈l'/\∀ p∈l,p.1≠d->p∈l':=by
 refine e21 (List.append_of_mem m) fun pre post w0=>?_;subst w0
 rw [List.map_append,List.map_cons] at nd
 have q:=List.nodup_append.mp nd
 have q2:=List.nodup_cons.mp q.2.1
 refine ⟨_,Upd.mk (fun p hp e=>q2.1 (List.mem_map.mpr ⟨p,hp,e⟩)) (fun p hp e=>q.2.2 p.1 (List.mem_map_of_mem hp) d (.head _) e),List.mem_append_right _ (.head _),fun p hp hn=>?_⟩
 refine ma hp (fun hp=>?_) fun hp=>?_
 ·exact List.mem_append_left _ hp
 ·rcases List.mem_cons.mp hp with rfl | hp
  ·exact absurd rfl hn
  ·exact List.mem_append_right _ (.tail _ hp)
section
variable {prog:Program} {w:World} {F:Fm} {ρ:List (Option V)} {σ σ':Led} {Φ:List (Addr×Obj)} {s:Shared}
inductive InsA (w:World) (h:Heap) (x C dx:Addr) (xs:List (Str×V)):Prop
 | mk (es:List DictEntry) (n:Nat) (f:FR w.params xs es) (i:InstAt h x (instObj C dx) C (some (dictOf es n)))
theorem R0.inst (r:R0 prog w F ρ σ Φ s) {x C dx:Addr} {xs:List (Str×V)} (mi:(x,O.inst C dx)∈σ) (md:(dx,O.fld xs)∈σ):InsA w s.heap x C dx xs:=by
 obtain ⟨oi,gi,zi⟩:=r.get mi
 obtain ⟨od,gd,zd⟩:=r.get md
 refine e22 zd.G5 fun es n h w0=>?_;subst w0
 cases zi.xt
 exact ⟨es,n,h,gi,rfl,rfl,gd⟩
end
section
variable {W:Wd} {lv:Nat} {σ σ':Led} {Q:V->Led->Prop} {x C dx:Addr} {ks:List Str} {vs:List V} {nm:Str} {names:List Str}
theorem zf {i:Nat} {v:V} (k:ClOk W.K C names) (hn:nm∈names) (mi:(x,O.inst C dx)∈σ) (md:(dx,O.fld (ks.zip vs))∈σ) (hi:ixOf nm ks=some i) (hv:vs[i]?=some v) (hh:v.handed=true) (h:Q v σ):Op W lv (.attr nm) [.ref x] σ Q:=.sh fun c ρ Φ s Cx r=>by
 obtain ⟨es,n,hF,I⟩:=r.inst mi md
 obtain ⟨fr,up,⟨m,os,FF,_⟩,_,_⟩:=r.ex
 refine e12 (hF.lookup hi hv) fun u hl z=>?_
 exact get_own (K:=W.K) FF Cx.kin I k.get k.hd (k.none nm hn) rfl hl (z.handed hh) ⟨v,σ,z,r.toks _,h⟩
theorem zN {f:Addr} {Q:V->List V->Led->Prop} (k:MeOk W.K C nm f) (mi:(x,O.inst C dx)∈σ) (md:(dx,O.fld (ks.zip vs))∈σ) (hi:ixOf nm ks=none) (h:Q (.ref f) [.ref x] σ):qP W lv (.ref x) nm σ Q:=.sh fun c ρ Φ s im Cx r=>by
 obtain ⟨es,n,hF,I⟩:=r.inst mi md
 obtain ⟨fr,up,⟨m,os,FF,_⟩,_,_⟩:=r.ex
 exact method_inst (K:=W.K) FF Cx.kin I k.get k.find k.fn (hF.absent hi) ⟨.ref f,[.ref x],σ,.ref _,.cons (.ref _) .nil,r,h⟩
theorem kg {v:V} {vs':List (Str×V)} {Q:Led->Prop} (k:ClOk W.K C names) (hn:nm∈names) (mi:(x,O.inst C dx)∈σ) (md:(dx,O.fld (ks.zip vs))∈σ)
  (hz:(ks.zip vs).length<=900) (P:Put dx (.fld vs') σ σ') (hvs:∀ u t es,VR v u->FR W.w.params (ks.zip vs) es->FR W.w.params vs' (putL nm (PyData.keyHash W.w.params nm) (.str nm t) u es)/\(getL nm es).isSome=true) (hl:vs'.length<=1000) (h:Q σ'):UOp W lv (.setattr nm) [.ref x,v] σ Q:=.sh fun c ρ Φ s Cx r=>by
 refine (Sh.of fun u2 z2=>?_:Sh v fun u=>wpAny _ _ (setAttr (.ref x) nm u) _ _ _)
 obtain ⟨es,n,hF,I⟩:=r.inst mi md
 have gd:=r.get md
 obtain ⟨fr,up,r⟩:=r.ex
 obtain ⟨m,os,FF,lo,l,N,nd⟩:=r.ex
 obtain ⟨od,mod,zd⟩:=l.mem md
 have e:od=dictOf es n:=by
  have g:=(N _ (List.mem_append_left _ mod)).1
  have g2:=I.dict
  dsimp only at g2
  exact Option.some.inj (g.symm.trans g2)
 subst e
 have nd1:(os.map (·.1)).Nodup:=by rw [List.map_append] at nd;exact (List.nodup_append.mp nd).1
 refine e02 (hvs u2 (s.toks+1) es z2 hF) fun hFR hsome=>?_
 refine e13 (Upd.kf (List.mem_append_left (Φ++fr) mod) nd (dictOf (putL nm (PyData.keyHash W.w.params nm) (.str nm (s.toks+1)) u2 es) (putN nm es n))) fun news' U mU oU=>?_
 have zo:OR W.prog W.w (.fld vs') (dictOf (putL nm (PyData.keyHash W.w.params nm) (.str nm (s.toks+1)) u2 es) (putN nm es n)):=.fld _ hFR
 obtain ⟨os',l',keys,mm⟩:=l.put P zo nd1
 have ne:∀ p∈Φ++fr,p.1≠dx:=fun p hp e=>by
  rw [List.map_append] at nd
  exact (List.nodup_append.mp nd).2.2 dx (List.mem_map.mpr ⟨_,mod,rfl⟩) p.1 (List.mem_map.mpr ⟨p,hp,rfl⟩) e.symm
 refine set_dict (K:=W.K) FF Cx.kin N I rfl k.set k.over ?_ k.hd hsome rfl U (by refine sr hFR.length ?_;exact hl) fun h' F' N'=>?_
 ·unfold takerIn;refine sr (k.none nm hn) ?_;rfl
 ·refine ⟨σ',⟨fr,up,⟨⟨m,os',F',lo,l',fun p hp=>N' p ?_,by refine sr List.map_append (sr keys (sq List.map_append ?_));exact nd⟩,r.gens,r.os⟩⟩,h⟩
  refine ma hp (fun hp=>?_) fun hp=>?_
  ·rcases mm p hp with rfl | ⟨hp,hne⟩
   ·exact mU
   ·exact oU p (List.mem_append_left _ hp) hne
  ·exact oU p (List.mem_append_right _ hp) (ne p hp)
theorem zR {i:Nat} {v:V} {Q:Led->Prop} (k:ClOk W.K C names) (hn:nm∈names) (mi:(x,O.inst C dx)∈σ) (md:(dx,O.fld (ks.zip vs))∈σ) (hi:ixOf nm ks=some i) (hv:i<vs.length) (hz:ks.length<=900) (P:Put dx (.fld (ks.zip (vs.set i v))) σ σ') (h:Q σ'):UOp W lv (.setattr nm) [.ref x,v] σ Q:=by
 refine kg k hn mi md (by refine sr List.length_zip ?_;lia) P (fun u t es z hF=>⟨hF.put z hi hv,?_⟩) (by refine sr List.length_zip ?_;omega) h
 refine e12 (hF.lookup hi (List.getElem?_eq_getElem hv)) fun u' hl _=>?_
 refine sr hl ?_;rfl
theorem zg {v:V} {Q:Led->Prop} (k:ClOk W.K C names) (hn:nm∈names) (mi:(x,O.inst C dx)∈σ) (md:(dx,O.fld (ks.zip vs))∈σ) (hi:ixOf nm ks=none) (hv:ks.length=vs.length) (hz:ks.length<=900) (P:Put dx (.fld ((ks++[nm]).zip (vs++[v]))) σ σ') (h:Q σ'):UOp W lv (.setattr nm) [.ref x,v] σ Q:=by
 refine kg k hn mi md (by refine sr List.length_zip ?_;lia) P (fun u t es z hF=>⟨hF.add z hi hv,?_⟩) (by refine sr List.length_zip ?_;simp;lia) h
 refine sr (hF.absent hi) ?_;rfl
end
theorem CxOk.under {W:Wd} {lv:Nat} {c:Cx} {k:Code} (C:CxOk W lv c) (h1:k.envs=[]) (h2:k.weight<=4) (h3:k.cUnits<=30):CxOk W (lv+1) { c with A:=c.A.under k }:=
 ⟨C.outs,C.kin,C.top,by refine (?_:pushEnvs k.envs c.A.frames=_);refine sr h1 ?_;exact C.frames,C.frame,C.kind,C.glob,C.blt,by have:=C.depth;refine (?_:c.A.depth+k.weight<=_);lia,by have:=C.units;refine (?_:c.A.units+k.cUnits<=_);lia,C.handled,C.names⟩
theorem CxOk.in1 {W:Wd} {lv:Nat} {c:Cx} (C:CxOk W lv c):CxOk W (lv+1) { c with A:=c.A.in1 }:=
 ⟨C.outs,C.kin,C.top,C.frames,C.frame,C.kind,C.glob,C.blt,by have:=C.depth;refine (?_:c.A.depth<=_);exact okc this (Nat.add_le_add_left (Nat.le_add_right _ _) _),by have:=C.units;refine (?_:c.A.units+1<=_);lia,C.handled,C.names⟩
end
section
theorem tc_w (C:Addr) (rest:List Value) (kw:List (Str×Value)):(Code.builtin "type.__call__" ⟨.ref C::rest,kw⟩).weight<=4:=by
 have e:(Code.builtin "type.__call__" ⟨.ref C::rest,kw⟩).weight=1:=by kernel_rfl
 exact Nat.le_add_left _ _
theorem tc_u (C:Addr) (rest:List Value) (kw:List (Str×Value)):(Code.builtin "type.__call__" ⟨.ref C::rest,kw⟩).cUnits<=30:=by
 have e:(Code.builtin "type.__call__" ⟨.ref C::rest,kw⟩).cUnits=1:=by kernel_rfl
 exact Nat.le_add_left _ _
structure VY (W:Wd) (lv:Nat) (f:Addr) (args:List V) (names:List Str) (kws:List V) (σ:Led) (Q:V->Led->Prop):Prop where
 run:∀ (c:Cx) (ρ:List (Option V)) (Φ:List (Addr×Obj)) (s:Shared) (vs ks:List Value) (R:Result->Shared->Prop),CxOk W lv c->VRs args vs->VRs kws ks->R0 W.prog W.w c.F ρ σ Φ s->RetP W c ρ Φ Q R->
  codeAny W.M c.A (.call (.ref f) ⟨vs,names.zip ks⟩) R s
section
variable {W:Wd} {lv:Nat} {σ σ':Led} {Q:V->Led->Prop}
theorem R1.made {prog:Program} {w:World} {F:Fm} {ρ:List (Option V)} {σ:Led} {Φ:List (Addr×Obj)} {s:Shared} {m:Str->Option Value} {os:List (Addr×Obj)} (r:R1 prog w F ρ σ Φ s) {x dx C:Addr} {h':Heap}
  (FF:Fr F.h₀ F.L h' m) (lo:LocR F.names m ρ) (l:LR prog w σ os) (nd:((os++Φ).map (·.1)).Nodup) (N':News F.h₀ F.L h' ((x,instObj C dx)::(dx,emptyDict)::(os++Φ))) (lt:∀ p∈os++Φ,p.1<dx) (h2:dx<x) :
  R1 prog w F ρ ((x,.inst C dx)::(dx,.fld [])::σ) Φ { s with heap:=h' }:=by
 refine ⟨⟨m,(x,instObj C dx)::(dx,emptyDict)::os,FF,lo,.cons (.inst C dx) (.cons (.fld 0 .nil) l),N',?_⟩,r.gens,r.os⟩
 rw [List.cons_append,List.cons_append,List.map_cons,List.map_cons,List.nodup_cons,List.nodup_cons]
 refine ⟨fun q=>?_,fun q=>?_,nd⟩
 ·refine mo q (fun e=>?_) fun q=>?_
  ·have e':x=dx:=e
   exact absurd h2 (by rw [e'];exact Nat.lt_irrefl _)
  ·refine e12 (List.mem_map.mp q) fun p hp e=>?_
   have:=lt p hp
   rw [e] at this
   exact absurd (Nat.lt_trans this h2) (Nat.lt_irrefl _)
 ·refine e12 (List.mem_map.mp q) fun p hp e=>?_
  have:=lt p hp
  rw [e] at this
  exact Nat.lt_irrefl _ this
theorem VZ {C fI:Addr} {args:List V} (k:MkOk W.K C fI) (h:∀ x dx,Q9 W (lv+1) fI (.ref x::args) ((x,.inst C dx)::(dx,.fld [])::σ) (fun v σ'=>v=.none/\Q (.ref x) σ')):zm W lv (.ref C) args σ Q:=by
 refine ⟨fun c ρ Φ s fv Cx hf r=>?_,fun c ρ Φ s fv us Cx hf v r=>?_⟩
 ·refine VR.ZQ hf ?_
  exact keeps_K (M:=W.M) k.keep s.heap (Cx.kin.keeps fun b o e=>r.old e)
 ·refine VR.ZQ hf ?_
  obtain ⟨fr,up,r⟩:=r.ex
  obtain ⟨m,os,FF,lo,l,N,nd⟩:=r.ex
  refine PySem.W.call_cls FF Cx.kin N k.made k.init k.fn fun x dx h' F' N' lt h2=>?_
  refine (h x dx).run { c with A:=c.A.under (.builtin "type.__call__" ⟨.ref C::us,[]⟩) } ρ Φ _ (.ref x::us) _ (Cx.under rfl (tc_w _ _ _) (tc_u _ _ _)) (.cons (.ref x) v) ⟨fr,up,r.made F' lo l nd N' lt h2⟩ fun v' s' hp=>?_
  obtain ⟨x',σ',z,r',rfl,hq⟩:=hp
  refine VR.QY z ?_
  exact ⟨rfl,_,σ',.ref x,r',hq⟩
theorem G6 {C fI:Addr} {args:List V} {ns:List Str} {kws:List V} (k:MkOk W.K C fI) (h:∀ x dx,VY W (lv+1) fI (.ref x::args) ns kws ((x,.inst C dx)::(dx,.fld [])::σ) (fun v σ'=>v=.none/\Q (.ref x) σ')):AKw W lv (.ref C) args ns kws σ Q:=by
 refine ⟨fun c ρ Φ s fv Cx hf r=>?_,fun c ρ Φ s fv us ks Cx hf v vk r=>?_⟩
 ·refine VR.ZQ hf ?_
  exact keeps_K (M:=W.M) k.keep s.heap (Cx.kin.keeps fun b o e=>r.old e)
 ·refine VR.ZQ hf ?_
  obtain ⟨fr,up,r⟩:=r.ex
  obtain ⟨m,os,FF,lo,l,N,nd⟩:=r.ex
  refine PySem.W.call_cls FF Cx.kin N k.made k.init k.fn fun x dx h' F' N' lt h2=>?_
  refine (h x dx).run { c with A:=c.A.under (.builtin "type.__call__" ⟨.ref C::us,ns.zip ks⟩) } ρ Φ _ (.ref x::us) ks _ (Cx.under rfl (tc_w _ _ _) (tc_u _ _ _)) (.cons (.ref x) v) vk ⟨fr,up,r.made F' lo l nd N' lt h2⟩ fun v' s' hp=>?_
  obtain ⟨x',σ',z,r',rfl,hq⟩:=hp
  refine VR.QY z ?_
  exact ⟨rfl,_,σ',.ref x,r',hq⟩
structure V0 (K:Frag) (C:Addr) (nm:Str) (p fget:Addr) (rest:List Value):Prop where
 get:plainGet K C "" = true
 hd:hasDictIn K C=true
 find:findIn K (.ref C) nm=some (some (.ref p))
 getter:specialIn K (.ref p) "__get__" = some (some (.builtin "property.__get__"))
 takes:takesIn K (.ref p)=some true
 recd:recIn K p "property" = some (.ref fget::rest)
theorem V1 {C dx x:Addr} {es:List (Str×V)} {nm:Str} {p fget:Addr} {rest:List Value} (k:V0 W.K C nm p fget rest) (mi:(x,O.inst C dx)∈σ) (md:(dx,O.fld es)∈σ)
  (h:Q9 W (lv+1) fget [.ref x] σ fun v σ'=>v.handed=true/\Q v σ'):Op W lv (.attr nm) [.ref x] σ Q:=.sh fun c ρ Φ s Cx r=>by
 obtain ⟨es,n,hF,I⟩:=r.inst mi md
 obtain ⟨fr,up,⟨m,os,FF,_⟩,_,_⟩:=id r.ex
 refine get_prop (K:=W.K) FF Cx.kin I k.get k.hd k.find k.getter k.takes k.recd ?_
 refine h.run { c with A:=c.A.in1 } ρ Φ _ [.ref x] _ Cx.in1 (.cons (.ref x) .nil) (r.toks _) fun v' s' hp=>?_
 obtain ⟨x',σ',z,r',hh,hq⟩:=hp
 refine (?_:wpAny _ _ (handedOut v') _ _ _)
 refine sr (handedOut_of (z.handed hh)) ?_
 exact wpAny_pure ⟨x',σ',z,r',hq⟩
end
end
section
section
variable {α:Type} [DecidableEq α]
noncomputable def Zo (es:List (α×V)) (k:α):Option V:=(es.find? fun kv=>kv.1=k).map (·.2)
noncomputable def ZK (es:List (α×V)) (k:α) (x:V):List (α×V):=if es.any (fun kv=>kv.1=k) then es.map (fun kv=>if kv.1=k then (kv.1,x) else kv) else es++[(k,x)]
theorem KR.length {es:List (α×V)} {kvs:List (α×Value)} (h:KR es kvs):es.length=kvs.length:=by
 induction h with
 | nil=>rfl
 | cons _ _ ih=>simp [ih]
theorem KR.look {es:List (α×V)} {kvs:List (α×Value)} (h:KR es kvs) (k:α):match Zo es k with
  | none=>valueAt kvs k=none
  | some x=>∃ v,valueAt kvs k=some v/\VR x v:=by
 induction h with
 | nil=>rfl
 | @cons k' x v xs vs z h ih=>
  unfold Zo valueAt at *
  rw [List.find?_cons,List.find?_cons]
  by_cases e:k'=k
  ·simp only [e,decide_true];exact ⟨v,rfl,z⟩
  ·simp only [e,decide_false];exact ih
theorem KR.any {es:List (α×V)} {kvs:List (α×Value)} (h:KR es kvs) (k:α):es.any (fun kv=>kv.1=k)=kvs.any (fun kv=>kv.1=k):=by
 induction h with
 | nil=>rfl
 | cons _ _ ih=>simp [ih]
theorem KR.append {es es':List (α×V)} {kvs kvs':List (α×Value)} (h:KR es kvs) (h':KR es' kvs'):KR (es++es') (kvs++kvs'):=by
 induction h with
 | nil=>exact h'
 | cons z _ ih=>exact .cons z ih
theorem KR.map {es:List (α×V)} {kvs:List (α×Value)} (h:KR es kvs) {k:α} {x:V} {v:Value} (z:VR x v):KR (es.map (fun kv=>if kv.1=k then (kv.1,x) else kv)) (kvs.map (fun kv=>if kv.1=k then (kv.1,v) else kv)):=by
 induction h with
 | nil=>exact .nil
 | @cons k' x' v' xs vs z' _ ih=>
  rw [List.map_cons,List.map_cons]
  by_cases e:k'=k
  ·simp only [e,if_true];exact .cons z (by simpa using ih)
  ·simp only [e,if_false];exact .cons z' ih
theorem KR.store {es:List (α×V)} {kvs:List (α×Value)} (h:KR es kvs) {k:α} {x:V} {v:Value} (z:VR x v):KR (ZK es k x) (stored kvs k v):=by
 unfold ZK stored
 refine sr (h.any k) ?_
 split
 ·exact h.map z
 ·exact h.append (.cons z .nil)
end
theorem UpdF.mk {d:Addr} {o:Obj} {post:List (Addr×Obj)} (h2:∀ p∈post,p.1≠d):∀ {pre:List (Addr×Obj)},(∀ p∈pre,p.1≠d)->UpdF d o (pre++(d,o)::post) (fun o'=>pre++(d,o')::post)
 | [],_=>.head h2
 | p::r,h=>.tail (h p (.head _)) (UpdF.mk h2 fun q hq=>h q (.tail _ hq))
theorem UpdF.kf {d:Addr} {o:Obj} {l:List (Addr×Obj)} (m:(d,o)∈l) (nd:(l.map (·.1)).Nodup):∃ g,UpdF d o l g/\∀ o',(d,o')∈g o'/\∀ p∈l,p.1≠d->p∈g o':=by
 refine e21 (List.append_of_mem m) fun pre post w0=>?_;subst w0
 rw [List.map_append,List.map_cons] at nd
 have q:=List.nodup_append.mp nd
 have q2:=List.nodup_cons.mp q.2.1
 refine ⟨_,UpdF.mk (fun p hp e=>q2.1 (List.mem_map.mpr ⟨p,hp,e⟩)) (fun p hp e=>q.2.2 p.1 (List.mem_map_of_mem hp) d (.head _) e),fun o'=>⟨List.mem_append_right _ (.head _),fun p hp hn=>?_⟩⟩
 refine ma hp (fun hp=>?_) fun hp=>?_
 ·exact List.mem_append_left _ hp
 ·rcases List.mem_cons.mp hp with rfl | hp
  ·exact absurd rfl hn
  ·exact List.mem_append_right _ (.tail _ hp)
section
variable {prog:Program} {w:World} {F:Fm} {ρ:List (Option V)} {σ σ':Led} {Φ:List (Addr×Obj)} {s:Shared}
inductive AtN (prog:Program) (w:World) (F:Fm) (h:Heap) (a:Addr) (x:O):Prop
 | mk (m:Str->Option Value) (N:List (Addr×Obj)) (o:Obj) (f:Fr F.h₀ F.L h m) (n:News F.h₀ F.L h N) (mo:(a,o)∈N) (z:OR prog w x o)
inductive zbv (prog:Program) (w:World) (F:Fm) (h:Heap) (a:Addr) (x y:O) (B:Heap->Nat->Prop):Prop
 | mk (m:Str->Option Value) (N:List (Addr×Obj)) (o:Obj) (g:Obj->List (Addr×Obj)) (f:Fr F.h₀ F.L h m) (n:News F.h₀ F.L h N) (mo:(a,o)∈N) (z:OR prog w x o) (u:UpdF a o N g)
  (b:∀ h' o' tk,Fr F.h₀ F.L h' m->News F.h₀ F.L h' (g o')->OR prog w y o'->B h' tk)
theorem R1.Ha (r:R1 prog w F ρ σ Φ s) {a:Addr} {x y:O} (m:(a,x)∈σ) (P:Put a y σ σ'):zbv prog w F s.heap a x y fun h' tk=>R1 prog w F ρ σ' Φ { s with heap:=h',toks:=tk }:=by
 obtain ⟨m',os,FF,lo,l,N,nd⟩:=r.ex
 obtain ⟨o,mo,zo⟩:=l.mem m
 have nd1:(os.map (·.1)).Nodup:=by rw [List.map_append] at nd;exact (List.nodup_append.mp nd).1
 refine e12 (UpdF.kf (List.mem_append_left Φ mo) nd) fun g U hg=>?_
 have ne:∀ p∈Φ,p.1≠a:=fun p hp e=>by
  rw [List.map_append] at nd
  exact (List.nodup_append.mp nd).2.2 a (List.mem_map.mpr ⟨_,mo,rfl⟩) p.1 (List.mem_map.mpr ⟨p,hp,rfl⟩) e.symm
 refine ⟨m',_,o,g,FF,N,List.mem_append_left _ mo,zo,U,fun h' o' tk F' N' z=>?_⟩
 obtain ⟨os',l',keys,mm⟩:=l.put P z nd1
 refine ⟨⟨m',os',F',lo,l',fun p hp=>N' p ?_,by refine sr List.map_append (sr keys (sq List.map_append ?_));exact nd⟩,r.gens,r.os⟩
 refine ma hp (fun hp=>?_) fun hp=>?_
 ·rcases mm p hp with rfl | ⟨hp,hne⟩
  ·exact (hg o').1
  ·exact (hg o').2 p (List.mem_append_left _ hp) hne
 ·exact (hg o').2 p (List.mem_append_right _ hp) (ne p hp)
theorem R1.atN (r:R1 prog w F ρ σ Φ s) {a:Addr} {x:O} (m:(a,x)∈σ):AtN prog w F s.heap a x:=by
 obtain ⟨m',os,FF,lo,l,N,nd⟩:=r.ex
 obtain ⟨o,mo,zo⟩:=l.mem m
 exact ⟨m',_,o,FF,N,List.mem_append_left _ mo,zo⟩
theorem R0.Ha (r:R0 prog w F ρ σ Φ s) {a:Addr} {x y:O} (m:(a,x)∈σ) (P:Put a y σ σ'):zbv prog w F s.heap a x y fun h' tk=>R0 prog w F ρ σ' Φ { s with heap:=h',toks:=tk }:=by
 obtain ⟨fr,up,r⟩:=r.ex
 obtain ⟨m',os,o,g,FF,N,mo,zo,U,back⟩:=r.Ha m P
 exact ⟨m',_,o,g,FF,N,mo,zo,U,fun h' o' tk F' N' z=>⟨fr,up,back h' o' tk F' N' z⟩⟩
theorem R0.atN (r:R0 prog w F ρ σ Φ s) {a:Addr} {x:O} (m:(a,x)∈σ):AtN prog w F s.heap a x:=by
 obtain ⟨fr,up,r⟩:=r.ex
 obtain ⟨m',os,o,FF,N,mo,zo⟩:=r.atN m
 exact ⟨m',_,o,FF,N,mo,zo⟩
theorem R0.y3 (r:R0 prog w F ρ σ Φ s) {K:Frag} (X:K.In F.h₀) (hm:(K.lookup sysModules).isSome=true) {a:Addr} {x:O} (m:(a,x)∈σ):(a==sysModules)=false:=by
 obtain ⟨m',os,o,FF,N,mo,zo⟩:=r.atN m
 obtain ⟨ob,hb⟩:=Option.isSome_iff_exists.mp hm
 have h1:=X _ _ hb
 have h2:=(N _ mo).2.2
 refine beq_false_of_ne fun e=>?_
 dsimp only at h2
 rw [e,h1] at h2
 exact nn2 h2
end
theorem OR.qn {prog:Program} {w:World} {es:List (Str×V)} {o:Obj} (h:OR prog w (.sdict es) o):∃ kvs,KR es kvs/\o.IsDictOf (PySem.strKind prog w) kvs:=by
 cases h with
 | sdict a b=>exact ⟨_,a,b⟩
theorem OR.Ql {prog:Program} {w:World} {es:List (Int×V)} {o:Obj} (h:OR prog w (.idict es) o):∃ kvs,KR es kvs/\o.IsDictOf (PySem.intKind prog w) kvs:=by
 cases h with
 | idict a b=>exact ⟨_,a,b⟩
theorem str_is (prog:Program) (w:World) {l:List Nat} {u:Value} (z:VR (.str l) u):(PySem.strKind prog w).is (mkS l) u=true:=by cases z;exact strKind_is _ _ _ _
theorem int_is (prog:Program) (w:World) {i:Int} {u:Value} (z:VR (.int i) u):(PySem.intKind prog w).is i u=true:=by refine VR.UE z fun t=>?_;exact intKind_is _ _ _ _
section
variable {W:Wd} {lv:Nat} {σ σ':Led} {Q:V->Led->Prop}
theorem qo {K:Type} [DecidableEq K] {prog:Program} {w:World} (knd:KeyKind prog w K):({ cls:=.type "dict",data:=.dict #[] }:Obj).IsDictOf knd []:=
 ⟨#[],0,⟨rfl,rfl,rfl⟩,rfl,fun e he=>by simp at he,.nil,.nil⟩
theorem gH:dictDisplay []=newDict:=by kernel_rfl
theorem Hb (h:∀ a,Q (.ref a) ((a,.sdict [])::σ)):Op W lv .dict [] σ Q:=.sh fun c ρ Φ s C r=>by
 refine (?_:wpAny _ _ (dictDisplay []) _ _ _)
 refine sr gH ?_
 refine wpAny_bind (wpAny_alloc (wpAny_pure ?_))
 exact ⟨_,_,.ref _,r.newO (x:=.sdict []) (t:=s.toks) (.sdict .nil (qo _)) rfl,h _⟩
theorem kh (h:∀ a,Q (.ref a) ((a,.idict [])::σ)):Op W lv .dict [] σ Q:=.sh fun c ρ Φ s C r=>by
 show wpAny _ _ (dictDisplay []) _ _ _
 rw [gH]
 refine wpAny_bind (wpAny_alloc (wpAny_pure ?_))
 exact ⟨_,_,.ref _,r.newO (x:=.idict []) (t:=s.toks) (.idict .nil (qo _)) rfl,h _⟩
theorem qp (a b c:Value):argsOk "dict.setdefault" ⟨[a,b,c],[]⟩:=by kernel_rfl
theorem jR:typeOf (.builtin "dict.setdefault")=pure (.type "method_descriptor"):=by refine sr builtinType_eq_fast ?_;kernel_rfl
theorem ja {d:Addr} {es:List (Str×V)} {Q:V->List V->Led->Prop} (m:(d,O.sdict es)∈σ) (h:Q (.bi "dict.setdefault") [.ref d] σ):qP W lv (.ref d) "setdefault" σ Q:=.sh fun c ρ Φ s im C r=>by
 obtain ⟨m',os,o,FF,N,mo,zo⟩:=r.atN m
 refine e12 zo.qn fun kvs _ hd=>?_
 exact kob_method PySem.F.slot_dict_setdefault jR N mo hd ⟨.bi _,[.ref d],σ,.bi _,.cons (.ref _) .nil,r,h⟩
theorem KC {d:Addr} {es:List (Str×V)} {Q:V->List V->Led->Prop} (m:(d,O.sdict es)∈σ) (h:Q (.bi "dict.get") [.ref d] σ):qP W lv (.ref d) "get" σ Q:=.sh fun c ρ Φ s im C r=>by
 obtain ⟨m',os,o,FF,N,mo,zo⟩:=r.atN m
 refine e12 zo.qn fun kvs _ hd=>?_
 exact kdg_method N mo hd ⟨.bi _,[.ref d],σ,.bi _,.cons (.ref _) .nil,r,h⟩
theorem jS {d:Addr} {es:List (Str×V)} {l:List Nat} {x:V} (hm:(W.K.lookup sysModules).isSome=true) (m:(d,O.sdict es)∈σ) (hl:es.length<=1000) (h0:∀ y,Zo es (mkS l)=some y->Q y σ)
  (h1:Zo es (mkS l)=none->∃ σ',Put d (.sdict (ZK es (mkS l) x)) σ σ'/\Q x σ'):zm W lv (.bi "dict.setdefault") [.ref d,.str l,x] σ Q:=zQ fun c ρ Φ s C r=>by
 intro t2 l2;refine Sh.of (x:=x) fun u3 z3=>?_
 have lo:=r.y3 C.kin hm m
 have hk:=str_is W.prog W.w (.str l t2 l2)
 cases e:Zo es (mkS l) with
 | some y=>
  obtain ⟨m',os,o,FF,N,mo,zo⟩:=r.atN m
  refine e12 zo.qn fun kvs hK hd=>?_
  have q:=hK.look (mkS l)
  rw [e] at q
  refine e12 q fun v' hv zv=>?_
  exact kob_setdef_there N mo hd lo hk (qp _ _ _) hv (by refine sq hK.length ?_;exact Nat.le_trans hl (by decide)) ⟨y,σ,zv,r.toks _,h0 y e⟩
 | none=>
  refine e12 (h1 e) fun σ' P hq=>?_
  obtain ⟨m',os,o,g,FF,N,mo,zo,U,back⟩:=r.Ha m P
  refine e12 zo.qn fun kvs hK hd=>?_
  have q:=hK.look (mkS l)
  rw [e] at q
  exact kob_setdef_new FF N U hd lo hk (qp _ _ _) q (by refine sq hK.length ?_;exact Nat.le_trans hl (by decide)) fun h' o' F' N' hd'=>
   ⟨x,σ',z3,back h' o' _ F' N' (.sdict (hK.store z3) hd'),hq⟩
theorem V2 {d:Addr} {es:List (Str×V)} {l:List Nat} {x:V} (hm:(W.K.lookup sysModules).isSome=true) (m:(d,O.sdict es)∈σ) (h:Q ((Zo es (mkS l)).getD x) σ):zm W lv (.bi "dict.get") [.ref d,.str l,x] σ Q:=zQ fun c ρ Φ s C r=>by
 intro t2 l2;refine Sh.of (x:=x) fun u3 z3=>?_
 have lo:=r.y3 C.kin hm m
 have hk:=str_is W.prog W.w (.str l t2 l2)
 obtain ⟨m',os,o,FF,N,mo,zo⟩:=r.atN m
 refine e12 zo.qn fun kvs hK hd=>?_
 have q:=hK.look (mkS l)
 cases e:Zo es (mkS l) with
 | some y=>
  rw [e] at q h
  refine e12 q fun v' hv zv=>?_
  exact kdg_get2 N mo hd lo hk (some v') hv ⟨y,σ,zv,r.toks _,h⟩
 | none=>
  rw [e] at q h
  exact kdg_get2 N mo hd lo hk none q ⟨x,σ,z3,r.toks _,h⟩
theorem V3 {d:Addr} {es:List (Int×V)} {i:Int} {x:V} {Q:Led->Prop} (m:(d,O.idict es)∈σ) (hl:es.length<=1000) (P:Put d (.idict (ZK es i x)) σ σ') (h:Q σ'):UOp W lv .setitem [.ref d,.int i,x] σ Q:=.sh fun c ρ Φ s C r=>by
 intro t2;refine Sh.of fun u3 z3=>?_
 have hk:=int_is W.prog W.w (.int i t2)
 obtain ⟨m',os,o,g,FF,N,mo,zo,U,back⟩:=r.Ha m P
 refine e12 zo.Ql fun kvs hK hd=>?_
 exact kda_set FF N U hd hk (by refine sq hK.length ?_;exact Nat.le_trans hl (by decide)) fun h' o' F' N' hd'=>⟨σ',back h' o' _ F' N' (.idict (hK.store z3) hd'),h⟩
end
end
section
noncomputable abbrev zX (id:String) (a:Addr):Obj:={ cls:=.type "builtin_function_or_method",data:=.fields #[.builtin id,.ref a] }
theorem Za:Slot "method_descriptor" "__get__" "method_descriptor.__get__":=
 .of (owner:="method_descriptor") (n:="__get__") (by rw [typeLookup_type,builtinLookup_eq_fast];kernel_rfl) (by decide +kernel) (by decide +kernel) (by decide +kernel)
  (by first | exact .inl (by decide +kernel) | exact .inr (by decide +kernel)) (by rw [isSubtype_type];kernel_rfl)
theorem Q5:entryFor table "method_descriptor.__get__" = some Builtin.«method_descriptor.__get__»:=entryFor_of_tree (by kernel_rfl)
theorem jT (a b c:Value):argsOk "method_descriptor.__get__" ⟨[a,b,c],[]⟩:=by kernel_rfl
theorem y4:typeLookup (.type "dict") "get" = pure (some (.builtin "dict.get")):=by rw [typeLookup_type,builtinLookup_eq_fast];kernel_rfl
theorem ki:typeLookup (.type "method_descriptor") "__set__" = pure none:=by rw [typeLookup_type,builtinLookup_eq_fast];kernel_rfl
theorem kj:typeLookup (.type "method_descriptor") "__delete__" = pure none:=by rw [typeLookup_type,builtinLookup_eq_fast];kernel_rfl
theorem qU:typeOf (.builtin "dict.get")=pure (.type "method_descriptor"):=PySem.F.type_dict_get
theorem Jl:(".".intercalate ("dict.get".cutAt '.').dropLast) = "dict":=by
 have e0 : "dict.get".cutAt '.'=["dict","get"]:=by first | rfl | decide +kernel
 refine sr e0 ?_;decide +kernel
theorem XX:isSubtype (.type "dict") (.type (".".intercalate ("dict.get".cutAt '.').dropLast))=pure true:=by rw [Jl,isSubtype_type];kernel_rfl
theorem Qm:(".".intercalate ("set.__contains__".cutAt '.').dropLast) = "set":=by
 have e0 : "set.__contains__".cutAt '.'=["set","__contains__"]:=by first | rfl | decide +kernel
 refine sr e0 ?_;decide +kernel
theorem jb:isSubtype (.type "set") (.type (".".intercalate ("set.__contains__".cutAt '.').dropLast))=pure true:=by rw [Qm,isSubtype_type];kernel_rfl
theorem jU:typeLookup (.type "set") "__contains__" = pure (some (.builtin "set.__contains__")):=by rw [typeLookup_type,builtinLookup_eq_fast];kernel_rfl
theorem Zp:typeOf (.builtin "set.__contains__")=pure (.type "method_descriptor"):=PySem.F.type_set_contains
section
variable {prog:Program} {w:World} {A:Around} {E:Value->Shared->Prop} {h:Heap} {g:Array GenState} {d:Drawn} {t:Nat} {os:OsState} {a:Addr}
theorem Jm {R:Result->Shared->Prop} {es:Array DictEntry} {n:Nat} (hx:h.get? a=some { cls:=.type "dict",dict:=none,data:=.dict es n,slots:=#[] }) (hq:R (.ok (.ret (.ref h.objs.size))) ⟨h.push (zX "dict.get" a),g,d,t,os⟩) :
  codeAny (model prog w) A (.call (.builtin "method_descriptor.__get__") ⟨[.builtin "dict.get",.ref a,.type "dict"],[]⟩) R ⟨h,g,d,t,os⟩:=by
 have hT:(⟨h,g,d,t,os⟩:Shared).TypeIs (.ref a) "dict":=⟨_,hx,rfl⟩
 have hT5:(⟨h,g,d,t,os⟩:Shared).TypeIs (.builtin "dict.get") "method_descriptor":=qU
 have f8:=XX
 refine codeAny_call_builtin Za.plain Q5 (Za.check _ _ _ _ _ _ _ _ hT5 (jT _ _ _) ?_)
 unfold Builtin.«method_descriptor.__get__»
 repeat (any_goals (first | assumption | wp_step))
theorem Jn {tk:Tok} {Q:PySem.Fin->Shared->Prop} {es:Array DictEntry} {n:Nat} (hx:h.get? a=some { cls:=.type "dict",dict:=none,data:=.dict es n,slots:=#[] }) (hq:Q (.done (.ret (.ref h.objs.size))) ⟨h.push (zX "dict.get" a),g,d,t,os⟩) :
  wpAny (model prog w) A (Builtin.«object.__getattribute__» ⟨[.ref a,.str "get" tk],[]⟩) Q E ⟨h,g,d,t,os⟩:=by
 have hT:(⟨h,g,d,t,os⟩:Shared).TypeIs (.ref a) "dict":=⟨_,hx,rfl⟩
 have hT5:(⟨h,g,d,t,os⟩:Shared).TypeIs (.builtin "dict.get") "method_descriptor":=qU
 have f4:=y4
 have f5:=qU
 have f6:=Za.lookup
 have f7:=ki
 have f8:=kj
 repeat (any_goals (first | assumption | wp_step))
 refine Jm hx ?_
 repeat (any_goals (first | assumption | wp_step))
theorem xu {tk:Tok} {R:Result->Shared->Prop} {es:Array DictEntry} {n:Nat} (hx:h.get? a=some { cls:=.type "dict",dict:=none,data:=.dict es n,slots:=#[] }) (hq:R (.ok (.ret (.ref h.objs.size))) ⟨h.push (zX "dict.get" a),g,d,t,os⟩) :
  codeAny (model prog w) A (.call (.builtin "dict.__getattribute__") ⟨[.ref a,.str "get" tk],[]⟩) R ⟨h,g,d,t,os⟩:=
 codeAny_call_builtin PySem.F.slot_dict_getattribute.plain PySem.F.entry_dict_ga (PySem.F.slot_dict_getattribute.check _ _ _ _ _ _ _ _ (show (⟨h,g,d,t,os⟩:Shared).TypeIs (.ref a) "dict" from ⟨_,hx,rfl⟩) (PySem.F.args_dict_getattribute_2 _ _) (Jn hx hq))
theorem xw {Q:Value->Shared->Prop} {es:Array DictEntry} {n:Nat} (hx:h.get? a=some { cls:=.type "dict",dict:=none,data:=.dict es n,slots:=#[] }) (hq:Q (.ref h.objs.size) ⟨h.push (zX "dict.get" a),g,d,t+1,os⟩) :
  wpAny (model prog w) A (getAttr (.ref a) "get" true) Q E ⟨h,g,d,t,os⟩:=by
 have hT:(⟨h,g,d,t+1,os⟩:Shared).TypeIs (.ref a) "dict":=⟨_,hx,rfl⟩
 have f2:=PySem.F.slot_dict_getattribute.lookup
 have f3:=PySem.F.slot_dict_getattribute.bind (.ref a)
 repeat (any_goals (first | assumption | wp_step))
 refine xu hx ?_
 repeat (any_goals (first | assumption | wp_step))
theorem Qn {R:Result->Shared->Prop} {es:_} {n:_} {z:_} (hx:h.get? a=some { cls:=.type "set",dict:=none,data:=.set es n z,slots:=#[] }) (hq:R (.ok (.ret (.ref h.objs.size))) ⟨h.push (zX "set.__contains__" a),g,d,t,os⟩) :
  codeAny (model prog w) A (.call (.builtin "method_descriptor.__get__") ⟨[.builtin "set.__contains__",.ref a,.type "set"],[]⟩) R ⟨h,g,d,t,os⟩:=by
 have hT:(⟨h,g,d,t,os⟩:Shared).TypeIs (.ref a) "set":=⟨_,hx,rfl⟩
 have hT5:(⟨h,g,d,t,os⟩:Shared).TypeIs (.builtin "set.__contains__") "method_descriptor":=Zp
 have f8:=jb
 refine codeAny_call_builtin Za.plain Q5 (Za.check _ _ _ _ _ _ _ _ hT5 (jT _ _ _) ?_)
 unfold Builtin.«method_descriptor.__get__»
 repeat (any_goals (first | assumption | wp_step))
theorem Qo {tk:Tok} {Q:PySem.Fin->Shared->Prop} {es:_} {n:_} {z:_} (hx:h.get? a=some { cls:=.type "set",dict:=none,data:=.set es n z,slots:=#[] }) (hq:Q (.done (.ret (.ref h.objs.size))) ⟨h.push (zX "set.__contains__" a),g,d,t,os⟩) :
  wpAny (model prog w) A (Builtin.«object.__getattribute__» ⟨[.ref a,.str "__contains__" tk],[]⟩) Q E ⟨h,g,d,t,os⟩:=by
 have hT:(⟨h,g,d,t,os⟩:Shared).TypeIs (.ref a) "set":=⟨_,hx,rfl⟩
 have hT5:(⟨h,g,d,t,os⟩:Shared).TypeIs (.builtin "set.__contains__") "method_descriptor":=Zp
 have f4:=jU
 have f5:=Zp
 have f6:=Za.lookup
 have f7:=ki
 have f8:=kj
 repeat (any_goals (first | assumption | wp_step))
 refine Qn hx ?_
 repeat (any_goals (first | assumption | wp_step))
theorem QN {tk:Tok} {R:Result->Shared->Prop} {es:_} {n:_} {z:_} (hx:h.get? a=some { cls:=.type "set",dict:=none,data:=.set es n z,slots:=#[] }) (hq:R (.ok (.ret (.ref h.objs.size))) ⟨h.push (zX "set.__contains__" a),g,d,t,os⟩) :
  codeAny (model prog w) A (.call (.builtin "set.__getattribute__") ⟨[.ref a,.str "__contains__" tk],[]⟩) R ⟨h,g,d,t,os⟩:=
 codeAny_call_builtin PySem.F.slot_set_getattribute.plain PySem.F.entry_set_ga (PySem.F.slot_set_getattribute.check _ _ _ _ _ _ _ _ (show (⟨h,g,d,t,os⟩:Shared).TypeIs (.ref a) "set" from ⟨_,hx,rfl⟩) (PySem.F.args_set_getattribute_2 _ _) (Qo hx hq))
theorem QO {Q:Value->Shared->Prop} {es:_} {n:_} {z:_} (hx:h.get? a=some { cls:=.type "set",dict:=none,data:=.set es n z,slots:=#[] }) (hq:Q (.ref h.objs.size) ⟨h.push (zX "set.__contains__" a),g,d,t+1,os⟩) :
  wpAny (model prog w) A (getAttr (.ref a) "__contains__" true) Q E ⟨h,g,d,t,os⟩:=by
 have hT:(⟨h,g,d,t+1,os⟩:Shared).TypeIs (.ref a) "set":=⟨_,hx,rfl⟩
 have f2:=PySem.F.slot_set_getattribute.lookup
 have f3:=PySem.F.slot_set_getattribute.bind (.ref a)
 repeat (any_goals (first | assumption | wp_step))
 refine QN hx ?_
 repeat (any_goals (first | assumption | wp_step))
end
end
section
theorem jV:isSubtype (.type "dict") (.type "module")=pure false:=by rw [isSubtype_type];kernel_rfl
theorem Jo:isSubtype (.type "set") (.type "module")=pure false:=by rw [isSubtype_type];kernel_rfl
theorem Hc:Manifest.signature? "dict.get" = some ⟨.positional,"dict.get","get",.self,[⟨"key",.posOnly,true⟩,⟨"default",.posOnly,false⟩]⟩:=by
 rw [signature?_of (id:="dict.get") (n:=['t','e','g']) (o:=['t','c','i','d']) (by kernel_rfl) PySem.F.owner_dict];kernel_rfl
theorem V4:builtinKind "dict.get" = some .method:=by kernel_rfl
theorem y5:Manifest.varargsMethods.contains "dict.get" = false:=by decide +kernel
theorem V5 (a b c:Value) (x:String) (hx:x = "dict.get"):Bind.checkArgs "dict.get" ⟨.positional,x,"get",.self,[⟨"key",.posOnly,true⟩,⟨"default",.posOnly,false⟩]⟩ ⟨[a,b,c],[]⟩=pure ():=by subst hx;kernel_rfl
theorem Hd:Manifest.signature? "set.__contains__" = some ⟨.oneArg,"set.__contains__","__contains__",.self,[⟨"object",.posOnly,true⟩]⟩:=by
 rw [signature?_of (id:="set.__contains__") (n:=['_','_','s','n','i','a','t','n','o','c','_','_']) (o:=['t','e','s']) (by kernel_rfl) PySem.F.owner_set];kernel_rfl
theorem V6:builtinKind "set.__contains__" = some .method:=by kernel_rfl
theorem y6:Manifest.varargsMethods.contains "set.__contains__" = false:=by decide +kernel
theorem V7 (a b:Value) (x:String) (hx:x = "set.__contains__"):Bind.checkArgs "set.__contains__" ⟨.oneArg,x,"__contains__",.self,[⟨"object",.posOnly,true⟩]⟩ ⟨[a,b],[]⟩=pure ():=by subst hx;kernel_rfl
section
variable {prog:Program} {w:World} {A:Around} {E:Value->Shared->Prop} {s:Shared} {a q:Addr}
theorem KD {id:String} {pos:List Value} {R:Result->Shared->Prop} (ho:s.heap.get? q=some (zX id a)) (hq:plainId id=true)
  (hc:∀ A E (Q:Unit->Shared->Prop),Q () s->wpAny (model prog w) A (checkBoundCall id ⟨.ref a::pos,[]⟩) Q E s)
  (h:codeAny (model prog w) A (.builtin id ⟨.ref a::pos,[]⟩) R s):codeAny (model prog w) A (.call (.ref q) ⟨pos,[]⟩) R s:=by
 obtain ⟨hh,g,dr,t,os⟩:=s
 refine codeAny_of_tree ?_
 refine (?_:wpAny _ _ (callAny (.ref q) _) _ _ _)
 dsimp only at ho
 refine nd_load ho ?_
 refine wpAny_bind (wpAny_pure ?_)
 refine (?_:wpAny _ _ (checkBoundCall id ⟨.ref a::pos,[]⟩ >>= fun _=>again (.builtin id ⟨.ref a::pos,[]⟩)) _ _ _)
 refine wpAny_bind (hc _ _ _ ?_)
 exact wpAny_pure ⟨plainId_quiet hq _,h⟩
theorem jW {id T:String} {as:List Value} {sig:Manifest.Signature} {Q:Unit->Shared->Prop} (hs:Manifest.signature? id=some sig) (hk:builtinKind id=some .method) (hv:Manifest.varargsMethods.contains id=false) (hT:s.TypeIs (.ref a) T) (hm:isSubtype (.type T) (.type "module")=pure false)
  (hi:∀ A E (Q:Bool->Shared->Prop),Q false s->wpAny (model prog w) A (isType (.ref a)) Q E s) (ha:∀ x,x=s!"{Bind.lastOf T}.{Bind.lastOf id}"->Bind.checkArgs id { sig with full:=x } ⟨.ref a::as,[]⟩=pure ()) (hQ:Q () s):wpAny (model prog w) A (checkBoundCall id ⟨.ref a::as,[]⟩) Q E s:=by
 delta checkBoundCall
 refine sr hs (sr hk ?_)
 refine wpAny_bind (wpAny_isInstance hT hm ?_)
 refine (?_:wpAny _ _ (if (Manifest.varargsMethods.contains id || false)=true then _ else _) _ _ _)
 refine sr hv (wpAny_bind (hi _ _ _ ?_))
 refine (?_:wpAny _ _ (typeOf (.ref a) >>= _) _ _ _)
 exact wpAny_bind (wpAny_typeOf hT (wpAny_of_eq (ha _ rfl) hQ))
theorem He {es:Array DictEntry} {n:Nat} {c:Value} (hx:s.heap.get? a=some { cls:=c,dict:=none,data:=.dict es n,slots:=#[] }) (A:Around) (E:Value->Shared->Prop) (Q:Bool->Shared->Prop) (q:Q false s):wpAny (model prog w) A (isType (.ref a)) Q E s:=by
 obtain ⟨hh,g,dr,t,os⟩:=s
 exact wpAny_bind (wpAny_loadPart hx (wpAny_pure q))
theorem Hf {es:_} {n:_} {z:_} {c:Value} (hx:s.heap.get? a=some { cls:=c,dict:=none,data:=.set es n z,slots:=#[] }) (A:Around) (E:Value->Shared->Prop) (Q:Bool->Shared->Prop) (q:Q false s):wpAny (model prog w) A (isType (.ref a)) Q E s:=by
 obtain ⟨hh,g,dr,t,os⟩:=s
 exact wpAny_bind (wpAny_loadPart hx (wpAny_pure q))
theorem KG {k dflt:Value} {Q:Unit->Shared->Prop} {es:Array DictEntry} {n:Nat} (hx:s.heap.get? a=some { cls:=.type "dict",dict:=none,data:=.dict es n,slots:=#[] }) (hQ:Q () s):wpAny (model prog w) A (checkBoundCall "dict.get" ⟨[.ref a,k,dflt],[]⟩) Q E s:=
 jW (T:="dict") Hc V4 y5 ⟨_,hx,rfl⟩ jV (He hx) (fun x e=>V5 _ _ _ x (e.trans (by kernel_rfl))) hQ
set_option maxHeartbeats 0 in
theorem KH {k:Value} {Q:Unit->Shared->Prop} {es:_} {n:_} {z:_} (hx:s.heap.get? a=some { cls:=.type "set",dict:=none,data:=.set es n z,slots:=#[] }) (hQ:Q () s):wpAny (model prog w) A (checkBoundCall "set.__contains__" ⟨[.ref a,k],[]⟩) Q E s:=
 jW (T:="set") (as:=[k]) Hd V6 y6 ⟨_,hx,rfl⟩ Jo (Hf hx) (fun x e=>V7 (.ref a) k x (e.trans (by kernel_rfl))) hQ
end
theorem VR.scannable {l:List Nat} {u:Value} (z:VR (.str l) u):u.scannable=true:=by cases z;rfl
theorem OR.xy {prog:Program} {w:World} {o:Obj} (h:OR prog w .eset o):∃ b,o={ cls:=.type "set",dict:=none,data:=.set #[] 0 (.fresh 0 0 b),slots:=#[] }:=by
 cases h with
 | eset b=>exact ⟨b,rfl⟩
theorem OR.ZX {prog:Program} {w:World} {o o':Obj} (h:OR prog w (.raw o) o'):o'=o:=by cases h;rfl
theorem XY {M:Model} {h:Heap} {q:Addr} {id:String} {d:Addr} (ho:h.get? q=some (zX id d)):∃ k,(k=Keeper.frame\/k=Keeper.machine\/k=Keeper.boundFrame)/\Looks M h (keeperOf (.ref q)) k:=
 ⟨.machine,.inr (.inl rfl),(Looks.ld (part:=none) ho).andThen .now⟩
section
variable {W:Wd} {lv:Nat} {σ σ':Led} {Q:V->Led->Prop}
theorem V8 {d:Addr} {es:List (Int×V)} (m:(d,O.idict es)∈σ) (h:∀ q,Q (.ref q) ((q,.raw (zX "dict.get" d))::σ)):Op W lv (.attr "get") [.ref d] σ Q:=.sh fun c ρ Φ s C r=>by
 obtain ⟨o,g,zo⟩:=r.get m
 obtain ⟨kvs,hK,eS,ep,hx,hdat,hr⟩:=zo.Ql
 obtain ⟨c1,c2,c3⟩:=hx
 obtain ⟨oc,od,odt,osl⟩:=o
 dsimp only at c1 c2 c3 hdat
 subst c1 c2 c3 hdat
 obtain ⟨hh,gg,dr,t,os⟩:=s
 refine xw (es:=eS) (n:=ep) g ?_
 exact ⟨_,_,.ref _,r.newO (x:=.raw (zX "dict.get" d)) (t:=t+1) (.raw _) rfl,h _⟩
theorem V9 {d:Addr} (m:(d,O.eset)∈σ) (h:∀ q,Q (.ref q) ((q,.raw (zX "set.__contains__" d))::σ)):Op W lv (.attr "__contains__") [.ref d] σ Q:=.sh fun c ρ Φ s C r=>by
 obtain ⟨o,g,zo⟩:=r.get m
 refine e11 zo.xy fun b w0=>?_;subst w0
 obtain ⟨hh,gg,dr,t,os⟩:=s
 refine QO g ?_
 exact ⟨_,_,.ref _,r.newO (x:=.raw (zX "set.__contains__" d)) (t:=t+1) (.raw _) rfl,h _⟩
theorem jX {q d:Addr} {id:String} {args:List V} (mq:(q,O.raw (zX id d))∈σ) (hp:plainId id=true)
  (hc:∀ (c:Cx) (ρ:List (Option V)) (Φ:List (Addr×Obj)) (s:Shared) (us:List Value),CxOk W lv c->VRs args us->R0 W.prog W.w c.F ρ σ Φ s->∀ A E (Q:Unit->Shared->Prop),Q () s->wpAny W.M A (checkBoundCall id ⟨.ref d::us,[]⟩) Q E s)
  (h:∀ (c:Cx) (ρ:List (Option V)) (Φ:List (Addr×Obj)) (s:Shared) (us:List Value),CxOk W lv c->VRs args us->R0 W.prog W.w c.F ρ σ Φ s->codeAny W.M c.A (.builtin id ⟨.ref d::us,[]⟩) (wants (Post W c ρ Φ Q) NoE) s):zm W lv (.ref q) args σ Q:=by
 refine ⟨fun c ρ Φ s fv C hf r=>?_,fun c ρ Φ s fv us C hf v r=>?_⟩
 ·refine VR.ZQ hf ?_
  obtain ⟨o,g,zo⟩:=r.get mq
  cases zo.ZX
  exact XY g
 ·refine VR.ZQ hf ?_
  obtain ⟨o,g,zo⟩:=r.get mq
  cases zo.ZX
  exact wpAny_call (KD g hp (hc c ρ Φ s us C v r) (h c ρ Φ s us C v r))
theorem ua {q d:Addr} {es:List (Int×V)} {j:Int} {x:V} (hm:(W.K.lookup sysModules).isSome=true) (mq:(q,O.raw (zX "dict.get" d))∈σ) (m:(d,O.idict es)∈σ) (h:Q ((Zo es j).getD x) σ):zm W lv (.ref q) [.int j,x] σ Q:=by
 refine jX mq (by decide +kernel) (fun c ρ Φ s us C v r A E Q' hq=>?_) (fun c ρ Φ s us C v r=>?_)
 ·refine e23 v.two fun u1 u2 w0 z1 z2=>?_;refine sr w0 ?_
  obtain ⟨o,g,zo⟩:=r.get m
  obtain ⟨kvs,hK,eS,ep,hx,hdat,hr⟩:=zo.Ql
  refine e03 hx fun c1 c2 c3=>?_
  obtain ⟨oc,od,odt,osl⟩:=o
  dsimp only at c1 c2 c3 hdat
  subst c1 c2 c3 hdat
  exact KG g hq
 ·refine e23 v.two fun u1 u2 w0 z1 z2=>?_;refine sr w0 ?_
  have lo:=r.y3 C.kin hm m
  have hk:=int_is W.prog W.w z1
  obtain ⟨m',os,o,FF,N,mo,zo⟩:=r.atN m
  refine e12 zo.Ql fun kvs hK hd=>?_
  have hD:=kda_dict N mo hd
  have qq:=hK.look j
  refine codeAny_builtin PySem.F.entry_dict_get ?_
  rw [Around.under_plainId (by decide +kernel)]
  refine meets_dict_get_default (PySem.intKind W.prog W.w) d hk lo u2 c.A (wants (Post W c ρ Φ Q) NoE) s ⟨_,hD.mapOf,?_⟩
  cases e:Zo es j with
  | some y=>
   rw [e] at qq h
   refine e12 qq fun v' hv zv=>?_
   refine sr hv ?_
   exact ⟨y,σ,zv,r.toks _,h⟩
  | none=>
   rw [e] at qq h
   refine sr qq ?_
   exact ⟨x,σ,z2,r.toks _,h⟩
theorem qB {q d:Addr} {l:List Nat} (mq:(q,O.raw (zX "set.__contains__" d))∈σ) (m:(d,O.eset)∈σ) (h:Q (.bool false) σ):zm W lv (.ref q) [.str l] σ Q:=by
 refine jX mq (by decide +kernel) (fun c ρ Φ s us C v r A E Q' hq=>?_) (fun c ρ Φ s us C v r=>?_)
 ·refine e12 v.one fun u1 w0 z1=>?_;refine sr w0 ?_
  obtain ⟨o,g,zo⟩:=r.get m
  refine e11 zo.xy fun b w0=>?_;subst w0
  exact KH g hq
 ·refine e12 v.one fun u1 w0 z1=>?_;refine sr w0 ?_
  obtain ⟨o,g,zo⟩:=r.get m
  refine e11 zo.xy fun b w0=>?_;subst w0
  have hk:=str_is W.prog W.w z1
  have hS:s.heap.SetOf (PySem.strKind W.prog W.w) d (fun _=>false) 0:=⟨_,#[],0,.fresh 0 0 b,g,⟨rfl,rfl,rfl⟩,rfl,(fun e he=>by simp at he),(fun k=>by simp),by decide,by cases b <;> decide,rfl⟩
  refine codeAny_builtin entry_set_contains ?_
  rw [Around.under_plainId (by decide +kernel)]
  unfold Builtin.«frozenset.__contains__» Builtin.Frozenset.oneOther
  simp only [List.isEmpty_nil,bind_assoc]
  unfold Builtin.Frozenset.addrOf Builtin.Frozenset.withSetAsKey setContains
  refine wpAny_bind (wpAny_pure ?_)
  try dsimp only
  refine wpAny_bind (wpAny_pure ?_)
  try dsimp only
  refine wpAny_bind (wpAny_tryCatch ?_)
  refine wpAny_holding ?_
  refine wpAny_bind ((PySem.strKind W.prog W.w).pyHash hk ?_)
  refine wpAny_bind (wpAny_setFind_of (s:={ s with toks:=s.toks+1 }) hk z1.scannable hS fun r' hr=>?_)
  refine wpAny_pure ?_
  show wpAny _ _ (ret (Value.bool r'.isSome)) _ _ _
  refine sr hr ?_
  exact wpAny_pure ⟨_,σ,.bool false,r.toks _,h⟩
theorem kn (h:∀ a,Q (.ref a) ((a,.eset)::σ)):zm W lv (.ty "set") [] σ Q:=z7 fun c ρ Φ s C r=>by
 exact call_set_0 fun led=>⟨_,_,.ref _,r.newO (x:=.eset) (t:=s.toks) (.eset led) rfl,h _⟩
end
end
section
structure TsOk (K:Frag) (C f sm:Addr):Prop where
 obj:∃ oc od cd sl,K.lookup C=some ⟨oc,od,.cls cd,sl⟩/\cd.hasDel=false/\cd.bases=[.type "tuple"]/\sl.toList[4]?=some (some .none)/\cd.mro=[.ref C,.type "tuple",.type "object"]
 iter:findIn K (.ref C) "__iter__" = some (some (.builtin "tuple.__iter__"))
 len:findIn K (.ref C) "__len__" = some (some (.builtin "tuple.__len__"))
 init:findIn K (.ref C) "__init__" = some (some (.builtin "object.__init__"))
 lt:findIn K (.ref C) "__lt__" = some (some (.builtin "tuple.__lt__"))
 call:specialIn K (.ref C) "__call__" = some (some (.builtin "type.__call__"))
 typ:instIn K (.ref C) (.type "type")=some true
 typ2:typeIn K (.ref C)=some (.type "type")
 reads:readsIn K C (.type "type")=true
 new:findCls K (.ref C) (.type "type") "__new__" = some (.get (.builtin "staticmethod.__get__") (.ref sm) .none (.ref C))
 sm:recIn K sm "staticmethod" = some [.ref f]
 keep:keepIn K (.ref C)=true
theorem KI:Builtin.Slots.bestBase [.type "tuple"]=pure (.type "tuple"):=by kernel_rfl
structure TsAt (M:Model) (h:Heap) (C:Addr):Prop where
 obj:∃ oc od cd sl,h.get? C=some ⟨oc,od,.cls cd,sl⟩/\cd.hasDel=false/\cd.mro.isEmpty=false
 mro:Looks M h (mroOf (.ref C)) [.ref C,.type "tuple",.type "object"]
 made:Looks M h (Bind.madeBy (.ref C)) none
 base:Looks M h (Bind.staticBase (.ref C)) (.type "tuple")
 sub:Looks M h (isSubtype (.ref C) (.type "tuple")) true
 self:Looks M h (isSubtype (.ref C) (.ref C)) true
 iter:Looks M h (typeLookup (.ref C) "__iter__") (some (.builtin "tuple.__iter__"))
 len:Looks M h (typeLookup (.ref C) "__len__") (some (.builtin "tuple.__len__"))
 init:Looks M h (typeLookup (.ref C) "__init__") (some (.builtin "object.__init__"))
 lt:Looks M h (typeLookup (.ref C) "__lt__") (some (.builtin "tuple.__lt__"))
 call:Looks M h (specialOf (.ref C) "__call__") (some (.builtin "type.__call__"))
 typ:Looks M h (isInstance (.ref C) (.type "type")) true
theorem KJ {K:Frag} {M:Model} {h:Heap} {C f sm:Addr} (X:K.In h) (k:TsOk K C f sm):TsAt M h C:=by
 refine e45 k.obj fun oc od cd sl ho e1 e2 e3 e4=>?_
 have hc:clsIn K C=some cd:=by unfold clsIn;exact sr ho rfl
 have hm:Looks M h (mroOf (.ref C)) cd.mro:=(looks_clsIn X hc).andThen .now
 have made:Looks M h (Bind.madeBy (.ref C)) none:=by
  intro A Q E s k q
  refine wpAny_bind (hm A _ E s k ?_)
  rw [e4,List.forIn_cons]
  refine wpAny_bind (wpAny_bind (wpAny_bind (wpAny_bind (wpAny_loadPart (k _ _ (X _ _ ho)) (wpAny_pure ?_)))))
  rw [← Array.getElem?_toList,e3]
  exact wpAny_pure (wpAny_pure (wpAny_pure q))
 have hb:Looks M h (classData C) cd:=looks_clsIn X hc
 refine ⟨⟨oc,od,cd,sl,X _ _ ho,e1,by refine sr e4 ?_;rfl⟩,e4 ▸ hm,made,?_,looks_mroIn X ?_,looks_mroIn X ?_,looks_findIn X k.iter,looks_findIn X k.len,looks_findIn X k.init,looks_findIn X k.lt,looks_specialIn X k.call,looks_instIn X k.typ⟩
 ·intro A Q E s k q
  refine wpAny_bind (hm A _ E s k ?_)
  rw [e4,List.forIn_cons]
  refine wpAny_bind (wpAny_bind (wpAny_bind (made A _ E s k ?_)))
  simp only [Option.isSome_none,Bool.false_eq_true,if_false]
  refine wpAny_bind (hb A _ E s k ?_)
  refine sr e2 (sr KI ?_)
  refine wpAny_pure ?_
  dsimp only
  rw [List.forIn_cons]
  refine wpAny_bind (wpAny_bind ?_)
  rw [PySem.F.called_tuple.made]
  exact wpAny_pure (wpAny_pure (wpAny_pure (wpAny_pure q)))
 ·unfold mroIn;rw [hc,Option.bind_some,if_neg (by rw [e4];simp),e4];simp
 ·unfold mroIn;rw [hc,Option.bind_some,if_neg (by rw [e4];simp),e4];simp
theorem G7:builtinKind "tuple.__new__" = some .builtinFn:=by decide +kernel
theorem Hg:splitId "tuple.__new__" = some ("tuple","__new__"):=by decide +kernel
theorem zbw:Manifest.signature? "tuple.__new__" = some ⟨.constructor,"tuple","tuple",.cls,[⟨"iterable",.posOnly,false⟩]⟩:=by kernel_rfl
theorem G8 (C a:Value):Bind.checkArgs "tuple.__new__" ⟨.constructor,"tuple","tuple",.cls,[⟨"iterable",.posOnly,false⟩]⟩ ⟨[C,a],[]⟩=pure ():=by kernel_rfl
section
variable {prog:Program} {w:World} {A:Around} {C:Addr} {R:Result->Shared->Prop} {h:Heap} {g:Array GenState} {d:Drawn} {t:Nat} {os:OsState}
theorem iteN {α:Type} {M:Model} {A:Around} {E:Value->Shared->Prop} {s:Shared} {Q:α->Shared->Prop} {c:Prop} [Decidable c] {x y:Sem α} (h:¬ c) (q:wpAny M A y Q E s):wpAny M A (if c then x else y) Q E s:=by refine sr (if_neg h) ?_;exact q
theorem KL {α β:Type} {M:Model} {A:Around} {E:Value->Shared->Prop} {s:Shared} {Q:β->Shared->Prop} {c:Prop} [Decidable c] {x y:Sem α} {k:α->Sem β} (h:¬ c) (q:wpAny M A (y >>= k) Q E s):wpAny M A ((if c then x else y) >>= k) Q E s:=by refine sr (if_neg h) ?_;exact q
theorem XZ {prog:Program} {w:World} {A:Around} {E:Value->Shared->Prop} {s:Shared} {id owner b:String} {sig:Manifest.Signature} {C:Addr} {as:List Value} {Q:Unit->Shared->Prop} (hk:builtinKind id=some .builtinFn) (hs:splitId id=some (owner,"__new__")) (hr:Manifest.signature? id=some sig) (ha:Bind.checkArgs id sig ⟨.ref C::as,[]⟩=pure ())
  {oc:Value} {od:Option Addr} {cd:ClassData} {sl:Array (Option Value)} (hC:s.heap.get? C=some ⟨oc,od,.cls cd,sl⟩) (sub:Looks (model prog w) s.heap (isSubtype (.ref C) (.type owner)) true) (base:Looks (model prog w) s.heap (Bind.staticBase (.ref C)) (.type b)) (made:Looks (model prog w) s.heap (Bind.madeBy (.type b)) (some id)) (q:Q () s) :
  wpAny (model prog w) A (checkBuiltinCall id ⟨.ref C::as,[]⟩) Q E s:=by
 obtain ⟨h,g,d,t,os⟩:=s
 delta checkBuiltinCall
 refine sr hr (sr hk (sr hs ?_))
 refine wpAny_bind (((Looks.ld hC).andThen .now:Looks (model prog w) h (isType (.ref C)) true).here ?_)
 refine iteN (by decide) (wpAny_bind (sub.here ?_))
 refine iteN (by decide) (wpAny_bind (base.here (wpAny_bind (made.here ?_))))
 refine iteN (ne_true_of_eq_false (bne_self_eq_false (Manifest.canonical id))) ?_
 exact wpAny_of_eq ha q
set_option maxHeartbeats 0 in
theorem ub {tp:Addr} {o:Obj} {items:Array Value} {n:Nat} (Y:TsAt (model prog w) h C) (ht:h.get? tp=some o) (hc:o.cls=.type "tuple") (hd:o.data=.seq items n) (hsz:items.size<=1000)
  (hq:∀ h':Heap,(∀ b o',h.get? b=some o'->h'.get? b=some o')->R (.ok (.ret (.ref (h'.push emptyDict).objs.size))) ⟨(h'.push emptyDict).push { cls:=.ref C,dict:=some h'.objs.size,data:=.seq items },g,d,t,os⟩) :
  codeAny (model prog w) A (.call (.builtin "tuple.__new__") ⟨[.ref C,.ref tp],[]⟩) R ⟨h,g,d,t,os⟩:=by
 obtain ⟨⟨oc,od,cd,sl,hC,e1,e2⟩,mro,made,base,sub,self,iter,len,init,lt,call,typ⟩:=Y
 refine codeAny_call_builtin_code (Code.quiet_builtin _ (by decide +kernel)) ?_
 refine XZ (s:=⟨h,g,d,t,os⟩) G7 Hg zbw (G8 (.ref C) (.ref tp)) hC sub base (Looks.of_pure PySem.F.called_tuple.made) ?_
 have mt:Looks (model prog w) h (Bind.madeBy (.type "tuple")) (some "tuple.__new__"):=Looks.of_pure PySem.F.called_tuple.made
 have here:Looks (model prog w) h (Bind.madeHere "tuple.__new__" (.ref C)) ():=base.andThen (mt.andThen (Looks.of_pure (by simp only [Option.map_some,bne_self_eq_false,Bool.false_eq_true,if_false])))
 refine codeAny_builtin PySem.F.entry_tuple_new ?_
 rw [Around.under_plainId (by decide +kernel)]
 delta Builtin.«tuple.__new__»
 have hz:items.size<=sizeLine:=by refine sr sizeLine_eq ?_;exact okc hsz (by decide)
 repeat (first | with_reducible refine wpAny_collect_seq (hsz:=hz) tp (.inr rfl) ht hc hd (fun h' k=>?_) | (with_reducible refine iteN ?_ ?_;· decide) | (with_reducible refine KL ?_ ?_;· decide) | lk)
 have hC':((h'.push emptyDict).push { cls:=.ref C,dict:=some h'.objs.size,data:=.seq items.toList.toArray }).get? C=some ⟨oc,od,.cls cd,sl⟩:=Heap.get?_push_of_some _ (Heap.get?_push_of_some _ (k _ _ hC))
 have et:items.toList.toArray=items:=by simp
 rw [et] at hC' ⊢
 refine sr (if_neg (Nat.not_lt.mpr hz)) ?_
 delta newObjAsIs classHasDel
 refine wpAny_bind (wpAny_alloc (wpAny_bind (wpAny_bind (wpAny_load hC' (wpAny_pure ?_)))))
 refine sr e1 ?_
 refine wpAny_pure (wpAny_pure ?_)
 exact hq h' k
end
theorem Hh (l:List Value) (h:l.length<=4):argsOk "object.__init__" ⟨l,[]⟩:=by
 rcases l with _ | ⟨a,_ | ⟨b,_ | ⟨c,_ | ⟨d,_ | ⟨e,r⟩⟩⟩⟩⟩
 ·kernel_rfl
 ·kernel_rfl
 ·kernel_rfl
 ·kernel_rfl
 ·kernel_rfl
 ·exact absurd h (Nat.not_le_of_lt (Nat.le_add_left 5 r.length))
theorem OR.jh {prog:Program} {w:World} {C:Addr} {xs:List V} {o:Obj} (h:OR prog w (.tsub C xs) o):∃ vs n dx,VRs xs vs/\xs.length<=16777216/\o={ cls:=.ref C,dict:=some dx,data:=.seq vs.toArray n,slots:=#[] }:=by
 cases h with
 | tsub n dx h k=>exact ⟨_,n,dx,h,k,rfl⟩
section
variable {W:Wd} {lv:Nat} {σ σ':Led} {Q:V->Led->Prop}
theorem G9 {M:Model} {A:Around} {E:Value->Shared->Prop} {C x:Addr} {rest:List Value} {s:Shared} {Q:PySem.Fin->Shared->Prop} (Y:TsAt M s.heap C) (t:Looks M s.heap (typeOf (.ref x)) (.ref C)) (h:Q (.done (.ret .none)) s) :
  wpAny M A (Builtin.«object.__init__» ⟨.ref x::rest,[]⟩) Q E s:=by
 obtain ⟨hh,g,d,tk,os⟩:=s
 obtain ⟨obj,mro,made,base,sub,self,iter,len,init,lt,call,typ⟩:=Y
 dsimp only at *
 cases rest with
 | nil=>exact wpAny_pure h
 | cons a r=>
  repeat (first | (with_reducible refine iteN ?_ ?_;· decide) | (with_reducible refine KL ?_ ?_;· decide) | lk)
  exact h
theorem uc {C f sm:Addr} {args:List V} (k:TsOk W.K C f sm) (ha:args.length<=3) (h:Q9 W (lv+1) f (.ref C::args) σ fun v σ'=>∃ x xs,v=.ref x/\(x,.tsub C xs)∈σ'/\Q (.ref x) σ'):zm W lv (.ref C) args σ Q:=by
 refine ⟨fun c ρ Φ s fv Cx hf r=>?_,fun c ρ Φ s fv us Cx hf v r=>?_⟩
 ·refine VR.ZQ hf ?_
  exact keeps_K (M:=W.M) k.keep s.heap (Cx.kin.keeps fun b o e=>r.old e)
 ·refine VR.ZQ hf ?_
  have X:=Cx.kin.keeps (fun b o e=>r.old e)
  have Y:=KJ (M:=W.M) X k
  obtain ⟨_,_,⟨m,os,FF,_⟩,_,_⟩:=id r.ex
  have run:=h.run { c with A:=c.A.under (.builtin "type.__call__" ⟨.ref C::us,[]⟩) } ρ Φ { s with toks:=s.toks+1 } (.ref C::us)
  have hul:=v.length
  obtain ⟨hh,g,d,t,os⟩:=s
  have Y':=Y
  obtain ⟨⟨oc,od,cd,sl,hC,e1,e4⟩,mro,made,base,sub,self,iter,len,init,lt,call,typ⟩:=Y
  refine wpAny_call (codeAny_of_tree ?_)
  refine (?_:wpAny _ _ (callAny (.ref C) _) _ _ _)
  refine nd_load hC ?_
  refine (?_:wpAny _ _ (callAny.viaDunder (.ref C) _) _ _ _)
  delta callAny.viaDunder
  refine wpAny_bind (call.at ?_)
  dsimp only
  rw [tc_bind]
  refine wpAny_bind (wpAny_pure (wpAny_bind (wpAny_pure ?_)))
  refine wpAny_pure (a:=Fin.again (.call (.builtin "type.__call__") ⟨.ref C::us,[]⟩)) (And.intro rfl ?_)
  refine codeAny_call_builtin_at (Code.quiet_builtin _ (by decide +kernel)) entry_typeCall (check_slot tc_kind tc_split typ (tc_args _ _ _) ?_)
  delta Builtin.«type.__call__»
  repeat (first | with_reducible refine cls_sm (K:=W.K) FF Cx.kin k.typ2 k.reads k.new k.sm rfl ?_ | with_reducible refine wpAny_call (run _ (Cx.under rfl (tc_w _ _ _) (tc_u _ _ _)) (.cons (.ref C) v) (r.toks _) ?_) | (with_reducible refine iteN ?_ ?_;· decide) | (with_reducible refine KL ?_ ?_;· decide) | lk)
  intro v' s' hp
  obtain ⟨x',σ',z,r',x,xs,rfl,mx,hq⟩:=hp
  refine VR.ZQ z ?_
  have X2:=Cx.kin.keeps (fun b o e=>r'.old e)
  have Y2:=KJ (M:=W.M) X2 k
  obtain ⟨o,gx,zx⟩:=r'.get mx
  refine e33 zx.jh fun vs n dx hvs _ w0=>?_;subst w0
  obtain ⟨hh',g',d',t',os'⟩:=s'
  have t1:Looks W.M hh' (typeOf (.ref x)) (.ref C):=(Looks.ld gx).andThen .now
  have Y3:=Y2
  obtain ⟨obj2,mro2,made2,base2,sub2,self2,iter2,len2,init2,lt2,call2,typ2⟩:=Y2
  have b2:bindSpecial (.builtin "object.__init__") (.ref x)=pure (.builtin "object.__init__",[.ref x]):=oi_bind _
  have ot:Looks W.M hh' (isSubtype (.ref C) (.type "object")) true:=looks_mroIn X2 (by
   refine e45 k.obj fun _ _ cd2 _ ho2 _ _ _ e5=>?_
   delta mroIn clsIn
   refine sr ho2 ?_
   refine (?_:(if cd2.mro.isEmpty=true then _ else _)=_)
   refine sr (if_neg (by rw [e5];simp)) (sr e5 ?_);simp)
  have i2:Looks W.M hh' (isInstance (.ref x) (.type "object")) true:=t1.andThen ot
  refine (?_:wpAny _ _ (isInstance (.ref x) (.ref C) >>= _) _ _ _)
  delta isInstance
  repeat (first | with_reducible refine wpAny_call ?_ | (with_reducible refine iteN ?_ ?_;· decide) | (with_reducible refine KL ?_ ?_;· decide) | lk)
  have hl4:(Value.ref x::us).length<=4:=by simp;exact okY ha hul.symm
  refine codeAny_call_builtin oi_plain entry_oi (@check_slot W.M _ _ _ "object.__init__" "object" "__init__" (.ref x) us [] _ oi_kind oi_split i2 (Hh _ hl4) ?_)
  refine G9 (s:=⟨hh',g',d',t',os'⟩) Y3 t1 ?_
  exact wpAny_pure (wpAny_pure ⟨_,σ',.ref x,r',hq⟩)
end
end
end Mine
end
section
open PySem PySem.W PySem.Calls PyProof.Rows
open AutoSeq1 (wpAny_loadPart')
namespace Mine
set_option linter.unusedVariables false
set_option maxRecDepth 100000
theorem xA:Slot "map" "__init__" "object.__init__":=.of (owner:="object") (n:="__init__") (by rw [typeLookup_type,builtinLookup_eq_fast];kernel_rfl) (by decide +kernel) (by decide +kernel) (by decide +kernel)
  (by first | exact .inl (by decide +kernel) | exact .inr (by decide +kernel)) (by rw [isSubtype_type];kernel_rfl)
theorem Qp:Slot "map" "__iter__" "map.__iter__":=.of (owner:="map") (n:="__iter__") (by rw [typeLookup_type,builtinLookup_eq_fast];kernel_rfl) (by decide +kernel) (by decide +kernel) (by decide +kernel)
  (by first | exact .inl (by decide +kernel) | exact .inr (by decide +kernel)) (by rw [isSubtype_type];kernel_rfl)
theorem z8:Slot "map" "__next__" "map.__next__":=.of (owner:="map") (n:="__next__") (by rw [typeLookup_type,builtinLookup_eq_fast];kernel_rfl) (by decide +kernel) (by decide +kernel) (by decide +kernel)
  (by first | exact .inl (by decide +kernel) | exact .inr (by decide +kernel)) (by rw [isSubtype_type];kernel_rfl)
theorem Jp:entryFor table "map.__iter__" = some Builtin.«dict_keyiterator.__iter__»:=
 entryFor_alias (id':="dict_keyiterator.__iter__") (by kernel_rfl) (by first | rfl | decide +kernel) (by decide +kernel) (by kernel_rfl)
theorem qL:entryFor table "map.__next__" = some Builtin.«map.__next__»:=entryFor_of_tree (by kernel_rfl)
theorem xB:entryFor table "map.__new__" = some Builtin.«map.__new__»:=entryFor_of_tree (by kernel_rfl)
theorem xC (a:Value):argsOk "map.__iter__" ⟨[a],[]⟩:=by kernel_rfl
theorem Qq (a:Value):argsOk "map.__next__" ⟨[a],[]⟩:=by kernel_rfl
theorem ud:mroOf (.type "map")=pure [.type "map",.type "object"]:=by rw [mroOf_type];kernel_rfl
theorem Jq:typeLookup (.type "map") "__new__" = pure (some (.builtin "map.__new__")):=by rw [typeLookup_type,builtinLookup_eq_fast];kernel_rfl
theorem KN:TypeCalled "map" "map.__new__" "object.__init__":=
 ⟨by decide +kernel,by decide +kernel,⟨_,_,ud⟩,madeBy_type ud Jq (by decide +kernel),by decide +kernel,by rw [isSubtype_type];kernel_rfl,xA⟩
theorem X0 (a b:Value):checkTypeCall "map" ⟨[a,b],[]⟩=pure ():=by kernel_rfl
theorem y7 (a b:Value):checkBuiltinCall "map.__new__" ⟨[.type "map",a,b],[]⟩=pure ():=by kernel_rfl
theorem Hi (a b c:Value):argsOk "object.__init__" ⟨[a,b,c],[]⟩:=by kernel_rfl
theorem zaa:isSubtype (.type "map") (.type "map")=pure true:=by rw [isSubtype_type];kernel_rfl
theorem ue:typeLookup (.type "map") "__len__" = pure none:=by rw [typeLookup_type,builtinLookup_eq_fast];kernel_rfl
theorem KO:typeLookup (.type "map") "__length_hint__" = pure none:=by rw [typeLookup_type,builtinLookup_eq_fast];kernel_rfl
noncomputable abbrev liO (l:Addr):Obj:={ cls:=.type "list_iterator",data:=.fields #[.ref l,.int 0 0] }
noncomputable abbrev tupO (vs:List Value):Obj:={ cls:=.type "tuple",data:=.seq vs.toArray }
noncomputable abbrev mapO (t:Addr) (f:Value):Obj:={ cls:=.type "map",data:=.fields #[.ref t,f] }
theorem xD (f:Value) (l:Addr) (items:Array Value) (n:Nat) :
  Meets (Builtin.«map.__new__» ⟨[.type "map",f,.ref l],[]⟩) (fun _ R s=>s.heap.get? l=some { cls:=.type "list",dict:=none,data:=.seq items n,slots:=#[] }/\
   R (.ok (.ret (.ref ((s.heap.push (liO l)).push (tupO [.ref s.heap.objs.size])).objs.size)))
    { s with heap:=((s.heap.push (liO l)).push (tupO [.ref s.heap.objs.size])).push (mapO (s.heap.push (liO l)).objs.size f) }):=
 .of_wp fun prog w A R s h=>by
  obtain ⟨hp,g,d,tk,os⟩:=s;refine e02 h fun hl h=>?_
  have hsub:=zaa
  have hL:Heap.IsList (Shared.heap ⟨hp,g,d,tk,os⟩) l items:=⟨_,hl,rfl,n,rfl⟩
  wp_walk using wpAny_loadPart' hl,wpAny_pyIter_list hL
  exact ⟨_,rfl,h⟩
section
variable {prog:Program} {w:World} {A:Around} {E:Value->Shared->Prop} {s:Shared}
theorem Hj {f:Value} {l:Addr} {items:Array Value} {n:Nat} {Q:Value->Shared->Prop} (hl:s.heap.get? l=some { cls:=.type "list",dict:=none,data:=.seq items n,slots:=#[] })
  (h:Q (.ref ((s.heap.push (liO l)).push (tupO [.ref s.heap.objs.size])).objs.size) { s with heap:=((s.heap.push (liO l)).push (tupO [.ref s.heap.objs.size])).push (mapO (s.heap.push (liO l)).objs.size f) }) :
  wpAny (model prog w) A (call (.type "map") [f,.ref l]) Q E s:=
 callType_new KN (by decide) (X0 _ _) (y7 _ _) (fun obj=>Hi obj _ _) xB (xD f l items n) ⟨hl,⟨_,Heap.get?_push_size _ rfl,rfl⟩,h⟩
theorem Hk {mp:Addr} {t:Addr} {f:Value} {Q:Value->Shared->Prop} (hm:s.heap.get? mp=some (mapO t f)) (h:Q (.ref mp) s):wpAny (model prog w) A (pyIter (.ref mp)) Q E s:=by
 have hT:s.TypeIs (.ref mp) "map":=⟨_,hm,rfl⟩
 refine wpAny_pyIter_slot hT Qp (wpAny_call_entry Qp hT Jp ?_ (xC _))
 refine (?_:wpAny _ _ (ret (.ref mp)) _ _ s)
 exact wpAny_pure ⟨_,rfl,"map",_,hT,z8.lookup,h⟩
theorem xE {mp t J l:Addr} {i:Nat} {f x:Value} {items:Array Value} {Q:Option Value->Shared->Prop} (hm:s.heap.get? mp=some (mapO t f)) (ht:s.heap.get? t=some (tupO [.ref J])) (hmJ:mp≠J) (hit:s.heap.IsListIter J l i) (hl:s.heap.IsList l items) (hx:items[i]?=some x)
  (h:∀ h',h'.IsListIter J l (i+1)->Heap.SameBut J s.heap h'->wpAny (model prog w) A.in1 (call f [x]) (fun r s'=>Q (some r) s') E { s with heap:=h' }) (hE:∀ e s',¬ E e s'):wpAny (model prog w) A (pyNext (.ref mp)) Q E s:=by
 have hT:s.TypeIs (.ref mp) "map":=⟨_,hm,rfl⟩
 refine wpAny_bind (wpAny_attempt (wpAny_callSpecial?_slot (name:=Str.ofString "__next__") hT z8 (wpAny_call_entry z8 hT qL ?_ (Qq _))))
 refine (?_:wpAny _ _ (field (.ref mp) 0 >>= _) _ _ _)
 refine wpAny_bind (wpAny_field hm rfl (x:=.ref t) rfl ?_)
 refine (?_:wpAny _ _ (seqItems? (.ref t) >>= _) _ _ s)
 refine wpAny_bind (wpAny_seqItems ht rfl ?_)
 dsimp only
 refine sr (show (forIn ([Value.ref J].toArray) (#[]:Array Value) fun it __s=>(do let v ← holding __s.toList (Builtin.SmallTypes.nextOf it);pure (ForInStep.yield (__s.push v)):Sem _))=(forIn [Value.ref J] (#[]:Array Value) fun it __s=>(do let v ← holding __s.toList (Builtin.SmallTypes.nextOf it);pure (ForInStep.yield (__s.push v)):Sem _)) from by simp) ?_
 rw [List.forIn_cons]
 refine wpAny_bind (wpAny_bind (wpAny_bind (wpAny_holding (wpAny_nextOf_list_item hit hl hx fun h' hit' sb=>?_))))
 refine wpAny_pure ?_
 dsimp only
 refine sr List.forIn_nil ?_
 refine wpAny_pure ?_
 have hm':h'.get? mp=some (mapO t f):=(sb.2 mp hmJ).trans hm
 refine wpAny_bind (wpAny_field (s:={ s with heap:=h' }) hm' rfl (x:=f) rfl ?_)
 refine wpAny_bind (wpAny_holding ?_)
 refine wpAny_mono (h h' hit' sb) (fun r s' hq=>?_) (fun e s' he=>absurd he (hE e s'))
 refine wpAny_bind (wpAny_letGo ?_)
 exact wpAny_pure ⟨r,rfl,wpAny_pure hq⟩
theorem X3 {mp t J l:Addr} {i:Nat} {f:Value} {items:Array Value} {Q:Option Value->Shared->Prop} (hh:A.handled=none) (hm:s.heap.get? mp=some (mapO t f)) (ht:s.heap.get? t=some (tupO [.ref J])) (hit:s.heap.IsListIter J l i) (hl:s.heap.IsList l items) (hx:items[i]?=none)
  (h:∀ h',Heap.ExtBut J s.heap h'->Q none { s with heap:=h' }):wpAny (model prog w) A (pyNext (.ref mp)) Q E s:=by
 have hT:s.TypeIs (.ref mp) "map":=⟨_,hm,rfl⟩
 refine wpAny_bind (wpAny_attempt (wpAny_callSpecial?_slot (name:=Str.ofString "__next__") hT z8 (wpAny_call_entry z8 hT qL ?_ (Qq _))))
 refine (?_:wpAny _ _ (field (.ref mp) 0 >>= _) _ _ _)
 refine wpAny_bind (wpAny_field hm rfl (x:=.ref t) rfl ?_)
 refine (?_:wpAny _ _ (seqItems? (.ref t) >>= _) _ _ s)
 refine wpAny_bind (wpAny_seqItems ht rfl ?_)
 dsimp only
 refine sr (show (forIn ([Value.ref J].toArray) (#[]:Array Value) fun it __s=>(do let v ← holding __s.toList (Builtin.SmallTypes.nextOf it);pure (ForInStep.yield (__s.push v)):Sem _))=(forIn [Value.ref J] (#[]:Array Value) fun it __s=>(do let v ← holding __s.toList (Builtin.SmallTypes.nextOf it);pure (ForInStep.yield (__s.push v)):Sem _)) from by simp) ?_
 rw [List.forIn_cons]
 refine wpAny_bind (wpAny_bind (wpAny_bind (wpAny_holding (wpAny_nextOf_list_end (by first | exact hh) hit hl hx fun h' x he' hx'=>?_))))
 refine e12 hx' fun o ho hc=>?_
 refine wpAny_bind (wpAny_isInstance (T:="StopIteration") (b:=true) ⟨o,ho,hc⟩ isSubtype_stop ?_)
 exact wpAny_pure (h _ he')
end
end Mine
end
section
open PySem PySem.W PySem.Calls PyProof.Rows PySem.Spec
set_option maxRecDepth 100000
namespace Mine
end Mine
end
section
open PySem PySem.W PyProof.Rows
namespace Mine
set_option linter.unusedVariables false
noncomputable def sat {α:Type} (lt:Nat->Nat->Bool) (n:Nat):KasT α->(α->Prop)->Prop
 | .ret a,Q=>Q a
 | .ask i j k,Q=>i<n/\j<n/\sat lt n (k (lt i j)) Q
theorem qC {α β:Type} {lt:Nat->Nat->Bool} {n:Nat} {f:α->KasT β} {Q:β->Prop}:∀ {t:KasT α},sat lt n t (fun a=>sat lt n (f a) Q)->sat lt n (t.bind f) Q
 | .ret a,h=>h
 | .ask i j k,h=>⟨h.1,h.2.1,qC h.2.2⟩
theorem ZA {α:Type} {lt:Nat->Nat->Bool} {n:Nat} {Q Q':α->Prop} (hq:∀ a,Q a->Q' a):∀ {t:KasT α},sat lt n t Q->sat lt n t Q'
 | .ret a,h=>hq a h
 | .ask i j k,h=>⟨h.1,h.2.1,ZA hq h.2.2⟩
theorem gI {α:Type} {lt:Nat->Nat->Bool} {n:Nat} {cmp:Nat->Nat->(Bool->Shared->Prop)->Shared->Prop} {Inv:Shared->Prop} {P:α->Prop} {Q:α->Shared->Prop}
  (hc:∀ i j C s,i<n->j<n->Inv s->(∀ s',Inv s'->C (lt i j) s')->cmp i j C s) (hq:∀ a s,Inv s->P a->Q a s):∀ {t:KasT α} {s:Shared},sat lt n t P->Inv s->t.kasWp cmp Q s
 | .ret a,s,h,i=>hq a s i h
 | .ask x y k,s,h,i=>hc x y _ s h.1 h.2.1 i fun s' i'=>gI hc hq h.2.2 i'
section
variable {lt:Nat->Nat->Bool} {n:Nat}
structure Ord (lt:Nat->Nat->Bool) (n:Nat):Prop where
 irr:∀ i,lt i i=false
 trans:∀ i j k,lt i j=true->lt j k=true->lt i k=true
 tot:∀ i j,i<n->j<n->i≠j->lt i j=true\/lt j i=true
noncomputable abbrev gt (p:Array Nat) (i:Nat):Nat:=p.getD i 0
noncomputable def PI (n:Nat) (p:Array Nat):Prop:=p.toList.Perm (List.range n)
theorem PI.size {p:Array Nat} (h:PI n p):p.size=n:=by have:=h.length_eq;simpa using this
theorem uf {p:Array Nat} {i:Nat} (h:i<p.size):p[i]?=some (gt p i):=by simp [gt,Array.getD,h]
theorem PI.bnd {p:Array Nat} (h:PI n p) {i:Nat} (hi:i<n):gt p i<n:=by
 have hs:i<p.size:=by rw [h.size];exact hi
 have e:=uf hs
 have:gt p i∈p.toList:=by rw [Array.mem_toList_iff];exact Array.mem_of_getElem? e
 exact List.mem_range.mp (h.mem_iff.mp this)
theorem PI.ne {p:Array Nat} (h:PI n p) {i j:Nat} (hi:i<n) (hj:j<n) (hij:i≠j):gt p i≠gt p j:=by
 have nd:p.toList.Nodup:=(h.nodup_iff).mpr List.nodup_range
 have hsi:i<p.toList.length:=by refine sr Array.length_toList (sr h.size ?_);exact hi
 have hsj:j<p.toList.length:=by refine sr Array.length_toList (sr h.size ?_);exact hj
 have pw:=List.pairwise_iff_getElem.mp nd
 have e1:gt p i=p.toList[i]:=by have:=uf (p:=p) (i:=i) (by simpa using hsi);rw [← Array.getElem?_toList,List.getElem?_eq_getElem hsi] at this;exact (Option.some.inj this).symm
 have e2:gt p j=p.toList[j]:=by have:=uf (p:=p) (i:=j) (by simpa using hsj);rw [← Array.getElem?_toList,List.getElem?_eq_getElem hsj] at this;exact (Option.some.inj this).symm
 refine sr e1 (sr e2 ?_)
 rcases Nat.lt_or_gt_of_ne hij with q | q
 ·exact pw i j hsi hsj q
 ·exact fun e=>pw j i hsj hsi q e.symm
theorem PI.tot {p:Array Nat} (O:Ord lt n) (h:PI n p) {i j:Nat} (hi:i<n) (hj:j<n) (hij:i≠j):lt (gt p i) (gt p j)=true\/lt (gt p j) (gt p i)=true:=
 O.tot _ _ (h.bnd hi) (h.bnd hj) (h.ne hi hj hij)
noncomputable def Up (lt:Nat->Nat->Bool) (p:Array Nat) (b:Nat):Prop:=∀ i j,i<j->j<b->lt (gt p i) (gt p j)=true
noncomputable def Dn (lt:Nat->Nat->Bool) (p:Array Nat) (b:Nat):Prop:=∀ i j,i<j->j<b->lt (gt p j) (gt p i)=true
theorem Up.snoc {p:Array Nat} {b:Nat} (O:Ord lt n) (h:Up lt p b) (hl:lt (gt p (b-1)) (gt p b)=true):Up lt p (b+1):=by
 intro i j hij hj
 by_cases e:j=b
 ·subst e
  by_cases e2:i=j-1
  ·refine sr e2 ?_;exact hl
  ·exact O.trans _ _ _ (h i (j-1) (Nat.lt_of_le_of_ne (okT hij) e2) (okO hij)) hl
 ·exact h i j hij (okL hj e)
theorem Dn.snoc {p:Array Nat} {b:Nat} (O:Ord lt n) (h:Dn lt p b) (hl:lt (gt p b) (gt p (b-1))=true):Dn lt p (b+1):=by
 intro i j hij hj
 by_cases e:j=b
 ·subst e
  by_cases e2:i=j-1
  ·refine sr e2 ?_;exact hl
  ·exact O.trans _ _ _ hl (h i (j-1) (Nat.lt_of_le_of_ne (okT hij) e2) (okO hij))
 ·exact h i j hij (okL hj e)
theorem y8 (O:Ord lt n) {p:Array Nat} (hp:PI n p):∀ (f m:Nat),1<=m->m+f<=n->Up lt p m->sat lt n (kas_asc p f m) fun m'=>Up lt p m'/\m<=m'/\m'<=m+f/\(m'=m+f\/lt (gt p m') (gt p (m'-1))=true)
 | 0,m,h1,h2,h=>⟨h,Nat.le_refl _,Nat.le_refl _,.inl rfl⟩
 | f+1,m,h1,h2,h=>by
  refine ⟨hp.bnd (okt h2),hp.bnd (okJ h2),?_⟩
  show sat lt n (if lt (gt p m) (gt p (m-1))=true then KasT.ret m else kas_asc p f (m+1)) _
  cases e:lt (gt p m) (gt p (m-1)) with
  | true=>exact ⟨h,Nat.le_refl _,Nat.le_add_right _ _,.inr e⟩
  | false=>
   simp only [Bool.false_eq_true,if_false]
   have q:=(hp.tot O (i:=m) (j:=m-1) (okt h2) (okJ h2) (Nat.ne_of_gt (okO h1))).resolve_left (by rw [e];simp)
   refine ZA (fun m' hm=>?_) (y8 O hp f (m+1) (Nat.le_add_left _ _) (okB h2) (h.snoc O q))
   refine e04 hm fun a b c d=>?_
   exact ⟨a,okd b,okc c (oke (Nat.add_right_comm _ _ _)),d.imp (fun e=>by lia) id⟩
theorem kq (O:Ord lt n) {p:Array Nat} (hp:PI n p):∀ (f m:Nat),1<=m->m+f<=n->Dn lt p m->sat lt n (kas_desc f p m 0) fun r=>r.1=p/\r.2.2=0/\Dn lt p r.2.1/\m<=r.2.1/\r.2.1<=m+f
 | 0,m,h1,h2,h=>⟨rfl,rfl,h,Nat.le_refl _,Nat.le_refl _⟩
 | f+1,m,h1,h2,h=>by
  refine ⟨hp.bnd (okt h2),hp.bnd (okJ h2),?_⟩
  refine (?_:sat lt n (if lt (gt p m) (gt p (m-1))=true then (if 0 > 0 then _ else kas_desc f p (m+1) 0) else KasT.ask (gt p (m-1)) (gt p m) fun d=>if d=true then KasT.ret (p,m,0) else _) _)
  cases e:lt (gt p m) (gt p (m-1)) with
  | true=>
   simp only [if_true,Nat.lt_irrefl,if_false,gt_iff_lt]
   refine ZA (fun r hm=>?_) (kq O hp f (m+1) (Nat.le_add_left _ _) (okB h2) (h.snoc O e))
   refine e05 hm fun a b c d g=>?_
   exact ⟨a,b,c,okd d,okc g (oke (Nat.add_right_comm _ _ _))⟩
  | false=>
   simp only [Bool.false_eq_true,if_false]
   refine ⟨hp.bnd (okJ h2),hp.bnd (okt h2),?_⟩
   have q:=(hp.tot O (i:=m) (j:=m-1) (okt h2) (okJ h2) (Nat.ne_of_gt (okO h1))).resolve_left (by refine sr e ?_;simp)
   refine sr q ?_
   exact ⟨rfl,rfl,h,Nat.le_refl _,by refine (?_:m<=m+(f+1));exact Nat.le_add_right _ _⟩
theorem PI.rev {p:Array Nat} (hp:PI n p) (i j:Nat):PI n (kas_rev p i j):=by
 have h:=mirror_perm p i j ((j-i) / 2)
 exact (Array.perm_iff_toList_perm.mp h).trans hp
theorem PI.bub {p:Array Nat} (hp:PI n p) (i j:Nat):PI n (bubble p i j):=(Array.perm_iff_toList_perm.mp (bubble_perm p i j)).trans hp
theorem gJ {p:Array Nat} {m:Nat} (hm:m<=p.size) (k:Nat):gt (kas_rev p 0 m) k=if k<m then gt p (m-1-k) else gt p k:=by
 have e:=getElem?_mirror_all (xs:=p) (i:=0) (j:=m) hm k
 have e2:gt (kas_rev p 0 m) k=((mirror p 0 m ((m-0) / 2))[k]?).getD 0:=by simp [gt,kas_rev,Array.getD_eq_getD_getElem?]
 refine sr e2 (sr e ?_)
 by_cases h:k<m
 ·refine sr (if_pos ⟨Nat.zero_le _,h⟩) (sr (if_pos h) ?_);simp [gt,Array.getD_eq_getD_getElem?]
 ·refine sr (if_neg (fun q=>h q.2)) (sr (if_neg h) ?_);simp [gt,Array.getD_eq_getD_getElem?]
theorem Dn.up {p:Array Nat} {m:Nat} (h:Dn lt p m) (hm:m<=p.size):Up lt (kas_rev p 0 m) m:=by
 intro i j hij hj
 rw [gJ hm,gJ hm,if_pos (oka hij (okd hj)),if_pos hj]
 exact h _ _ (by omega) (by omega)
theorem ug (O:Ord lt n) {p:Array Nat} (hp:PI n p) {m:Nat} (h1:1<=m) (h2:m<=n) (h:Dn lt p m):sat lt n (kas_tail3 m n p) fun r=>PI n r.2/\Up lt r.2 r.1/\1<=r.1/\r.1<=n:=by
 unfold kas_tail3
 refine qC (ZA (fun m' hm=>?_) (y8 O (hp.rev 0 m) (n-m) m h1 (oke (Nat.add_sub_of_le h2)) (h.up (by refine sr hp.size ?_;exact h2))))
 exact ⟨hp.rev 0 m,hm.1,oka h1 hm.2.1,okc hm.2.2.1 (oke (Nat.add_sub_of_le h2))⟩
theorem X4 (O:Ord lt n) {p:Array Nat} (hp:PI n p) (h2:2<=n) (hl:lt (gt p 1) (gt p 0)=true):sat lt n (kas_descPart 1 n p) fun r=>PI n r.2/\Up lt r.2 r.1/\1<=r.1/\r.1<=n:=by
 unfold kas_descPart
 refine qC (ZA (fun r hr=>?_) (kq O hp (n-(1+1)) (1+1) (by decide) (oke (Nat.add_sub_of_le h2)) (fun i j hij hj=>?_)))
 ·obtain ⟨p',m,q⟩:=r
  refine e05 hr fun w0 w1 hd hm1 hm2=>?_;refine sr w0 ?_;refine sr w1 ?_
  dsimp only at *
  refine sr (if_neg (by decide)) ?_
  exact ug O hp (okd hm1) (okc hm2 (oke (Nat.add_sub_of_le h2))) hd
 ·have:i=0/\j=1:=by lia
  refine sr this.1 (sr this.2 ?_);exact hl
theorem uh (O:Ord lt n) {p:Array Nat} (hp:PI n p) (h2:2<=n):sat lt n (kas_count n p) fun r=>PI n r.2/\Up lt r.2 r.1/\1<=r.1/\r.1<=n:=by
 unfold kas_count
 refine qC (ZA (fun m hm=>?_) (y8 O hp (n-1) 1 (Nat.le_refl _) (oke (Nat.add_sub_of_le (okd h2))) (fun i j hij hj=>by omega)))
 refine e04 hm fun hu h1 hm2 hm3=>?_
 by_cases e:(m==n)=true
 ·refine sr (if_pos e) ?_;exact ⟨hp,hu,h1,by lia⟩
 ·refine sr (if_neg e) ?_
  have hne:m≠n:=fun q=>e (by refine sr q ?_;exact beq_self_eq_true _)
  by_cases e2:m > 1
  ·refine sr (if_pos e2) ?_
   refine ⟨hp.bnd (okd h2),hp.bnd (by omega),?_⟩
   refine sr (hu 0 (m-1) (okT e2) (okO h1)) ?_
   exact ⟨hp,hu,h1,by omega⟩
  ·refine sr (if_neg e2) ?_
   have:m=1:=Nat.le_antisymm (okh e2) h1
   subst this
   exact X4 O hp h2 (hm3.resolve_left (by omega))
theorem jY (O:Ord lt n) {p:Array Nat} (hp:PI n p) {k:Nat} (hk:k<n) (hu:Up lt p k):∀ (f l r:Nat),l<=r->r<=k->r-l<=f->(∀ i,i<l->lt (gt p i) (gt p k)=true)->(∀ i,r<=i->i<k->lt (gt p k) (gt p i)=true)->
  sat lt n (kas_place p k f l r) fun m=>m<=k/\(∀ i,i<m->lt (gt p i) (gt p k)=true)/\∀ i,m<=i->i<k->lt (gt p k) (gt p i)=true
 | 0,l,r,h1,h2,h3,ha,hb=>⟨okc h1 h2,ha,fun i hi hk'=>hb i (by omega) hk'⟩
 | f+1,l,r,h1,h2,h3,ha,hb=>by
  unfold kas_place
  by_cases e:l≥r
  ·refine sr (if_pos e) ?_;exact ⟨okc h1 h2,ha,fun i hi hk'=>hb i (okc e hi) hk'⟩
  ·refine sr (if_neg e) ?_
   have hm1:(l+r) / 2<r:=by omega
   have hm2:l<=(l+r) / 2:=by lia
   refine ⟨hp.bnd hk,hp.bnd (by omega),?_⟩
   show sat lt n (if lt (gt p k) (gt p ((l+r) / 2))=true then kas_place p k f l ((l+r) / 2) else kas_place p k f ((l+r) / 2+1) r) _
   cases q:lt (gt p k) (gt p ((l+r) / 2)) with
   | true=>
    simp only [if_true]
    refine jY O hp hk hu f l _ hm2 (by lia) (by omega) ha (fun i hi hk'=>?_)
    by_cases e2:i=(l+r) / 2
    ·refine sr e2 ?_;exact q
    ·exact O.trans _ _ _ q (hu _ _ (Nat.lt_of_le_of_ne hi (Ne.symm e2)) hk')
   | false=>
    simp only [Bool.false_eq_true,if_false]
    have q2:=(hp.tot O (i:=k) (j:=(l+r) / 2) hk (by omega) (by lia)).resolve_left (by refine sr q ?_;simp)
    refine jY O hp hk hu f _ r (by lia) h2 (by omega) (fun i hi=>?_) hb
    by_cases e2:i=(l+r) / 2
    ·refine sr e2 ?_;exact q2
    ·exact O.trans _ _ _ (hu i ((l+r) / 2) (okL hi e2) (by omega)) q2
theorem gN {p:Array Nat} {k l:Nat} (hk:k<p.size) (hl:l<=k) (i:Nat):gt (bubble p k (k-l)) i=if i=l then gt p k else if l<i/\i<=k then gt p (i-1) else gt p i:=by
 have e:=getElem?_bubble (xs:=p) hk (k-l) (Nat.sub_le _ _) i
 rw [show k-(k-l)=l by omega] at e
 have e2:gt (bubble p k (k-l)) i=((bubble p k (k-l))[i]?).getD 0:=by simp [gt,Array.getD_eq_getD_getElem?]
 refine sr e2 (sr e ?_)
 by_cases h:i=l
 ·refine sr (if_pos h) (sr (if_pos h) ?_);simp [gt,Array.getD_eq_getD_getElem?]
 ·refine sr (if_neg h) (sr (if_neg h) ?_)
  by_cases h2:l<i/\i<=k
  ·refine sr (if_pos h2) (sr (if_pos h2) ?_);simp [gt,Array.getD_eq_getD_getElem?]
  ·refine sr (if_neg h2) (sr (if_neg h2) ?_);simp [gt,Array.getD_eq_getD_getElem?]
theorem ui (O:Ord lt n):∀ (f:Nat) (p:Array Nat) (k:Nat),PI n p->k+f=n->Up lt p k->sat lt n (kas_bin f p k) fun p'=>PI n p'/\Up lt p' n
 | 0,p,k,hp,hk,hu=>⟨hp,by refine sq hk ?_;exact hu⟩
 | f+1,p,k,hp,hk,hu=>by
  refine qC (ZA (fun l hl=>?_) (jY O hp (oku hk) hu k 0 k (Nat.zero_le _) (Nat.le_refl _) (Nat.le_refl _) (fun i hi=>absurd hi (Nat.not_lt_of_le (Nat.zero_le _))) (fun i hi hk'=>absurd hi (Nat.not_le_of_lt hk'))))
  obtain ⟨h1,h2,h3⟩:=hl
  refine ui O f _ (k+1) (hp.bub _ _) (okv hk) ?_
  have hks:k<p.size:=by refine sr hp.size ?_;exact oku hk
  intro i j hij hj
  rw [gN hks h1,gN hks h1]
  by_cases e1:i=l
  ·refine sr (if_pos e1) (sr (if_neg (Nat.ne_of_gt (okZ hij e1.symm))) (sr (if_pos (by lia)) ?_))
   exact h3 _ (okT (okZ hij e1.symm)) (okN hij hj)
  ·refine sr (if_neg e1) ?_
   by_cases e2:l<i/\i<=k
   ·refine sr (if_pos e2) (sr (if_neg (Nat.ne_of_gt (oka e2.1 (okd hij)))) (sr (if_pos (by lia)) ?_))
    exact hu _ _ (okT (okU e2.1 hij)) (okN hij hj)
   ·refine sr (if_neg e2) ?_
    by_cases e3:j=l
    ·refine sr (if_pos e3) ?_;exact h2 _ (by omega)
    ·refine sr (if_neg e3) ?_
     by_cases e4:l<j/\j<=k
     ·refine sr (if_pos e4) ?_
      exact hu _ _ (by omega) (okN hij hj)
     ·refine sr (if_neg e4) ?_
      exact hu _ _ hij (by lia)
theorem Hl (O:Ord lt n) (h2:2<=n):sat lt n (kas_sort n) fun p=>PI n p/\Up lt p n:=by
 unfold kas_sort
 have hp:PI n (List.toArray (List.range n)):=by show List.Perm _ _;simp
 refine qC (ZA (fun r hr=>?_) (uh O hp h2))
 refine e04 hr fun h1 hu h3 h4=>?_
 by_cases e:r.1<n
 ·refine sr (if_pos e) (sr (Nat.max_eq_left h3) ?_)
  exact ui O _ _ _ h1 (Nat.add_sub_of_le h4) hu
 ·refine sr (if_neg e) ?_
  have:r.1=n:=Nat.le_antisymm h4 (okh e)
  exact ⟨h1,this ▸ hu⟩
end
end Mine
end
section
open PySem PySem.W PySem.Calls PyProof.Rows PySem.Spec
set_option maxRecDepth 100000
namespace Mine
section
theorem Hm (K:Frag):findCls K (.type "tuple") (.type "type") "__new__" = some (.val (.builtin "tuple.__new__")):=by kernel_rfl
theorem ty_tuple:typeOf (.type "tuple")=pure (.type "type"):=by kernel_rfl
theorem y9:Manifest.isStub "tuple" = false:=by decide +kernel
theorem Yb:handedIn (.builtin "tuple.__new__")=true:=by decide +kernel
section
variable {W:Wd} {lv:Nat} {σ σ':Led} {Q:V->Led->Prop}
theorem QP {Q:V->List V->Led->Prop} (h:Q (.bi "tuple.__new__") [] σ):qP W lv (.ty "tuple") "__new__" σ Q:=.sh fun c ρ Φ s im C r=>by
 obtain ⟨_,_,⟨m',os,FF,_⟩,_,_⟩:=id r.ex
 have e:=Hm W.K
 refine method_type (prog:=W.prog) (w:=W.w) (A:=c.A) (s:=s) (K:=W.K) (h₀:=c.F.h₀) (L:=c.F.L) (m:=m') (name:="__new__") (T:="tuple") (v:=.builtin "tuple.__new__") FF C.kin ty_tuple y9 e Yb ?_
 exact ⟨.bi "tuple.__new__",[],σ,.bi "tuple.__new__",.nil,r.toks _,h⟩
set_option backward.match.sparseCases true in
theorem jZ {C f sm tp:Addr} {xs:List V} (k:TsOk W.K C f sm) (m:(tp,O.tup xs)∈σ) (hl:xs.length<=1000) (h:∀ x,Q (.ref x) ((x,.tsub C xs)::σ)):zm W lv (.bi "tuple.__new__") [.ref C,.ref tp] σ Q:=zQ fun c ρ Φ s Cx r=>by
 refine e23 (r.isT m) fun vs n hv hk g=>?_
 have X:=Cx.kin.keeps (fun b o e=>r.old e)
 have Y:=KJ (M:=W.M) X k
 have hlen:=hv.length
 obtain ⟨hh,gg,d,t,os⟩:=s
 have hsz:vs.toArray.size<=1000:=by refine sr List.size_toArray ?_;exact okY hl hlen.symm
 have core:=ub (prog:=W.prog) (w:=W.w) (A:=c.A) (g:=gg) (d:=d) (t:=t) (os:=os) (R:=fun r s'=>match r with | .ok (.ret v)=>Post W c ρ Φ Q v s' | .ok _=>False | .error e=>NoE e s') Y g rfl rfl hsz
 refine wpAny_call (core fun h' keep=>?_)
 have r1:R0 W.prog W.w c.F ρ σ Φ ⟨h',gg,d,t,os⟩:=R0.keeps (t:=t) r keep
 have r2:R0 W.prog W.w c.F ρ σ Φ ⟨h'.push emptyDict,gg,d,t,os⟩:=R0.keeps (t:=t) r1 fun b o e=>Heap.get?_push_of_some _ e
 have zo:OR W.prog W.w (.tsub C xs) { cls:=.ref C,dict:=some h'.objs.size,data:=.seq vs.toArray }:=.tsub 0 h'.objs.size hv hk
 have r3:=R0.newO (t:=t) r2 zo rfl
 exact ⟨.ref (h'.push emptyDict).objs.size,(((h'.push emptyDict).objs.size,.tsub C xs)::σ),.ref _,r3,h _⟩
theorem KP {C f sm:Addr} {a b d:V} (k:TsOk W.K C f sm) (hf:zt W.K f=some qO) (hlv:lv+1<90) (h:∀ t x,Q (.ref x) ((x,.tsub C [a,b,d])::(t,.tup [a,b,d])::σ)):zm W lv (.ref C) [a,b,d] σ Q:=by
 refine uc k (by simp) (ZU hf (oka hlv (by decide)) (Nat.le_refl 4) (Nat.le_refl 4) ?_)
 refine za (p:=.pass) ?_
 refine za (QP (zK (by simp) fun t=>jZ k (.head _) (by simp) fun x=>?_))
 exact ⟨_,Sub.refl _,x,_,rfl,.head _,h t x⟩
theorem Zi {M:Model} {h:Heap} {C x dx:Addr} {vs:Array Value} {n:Nat} (Y:TsAt M h C) (g:h.get? x=some { cls:=.ref C,dict:=some dx,data:=.seq vs n,slots:=#[] }):Looks M h (typeOf (.ref x)) (.ref C)/\Looks M h (isInstance (.ref x) (.type "tuple")) true:=
 have t1:Looks M h (typeOf (.ref x)) (.ref C):=(Looks.ld g).andThen .now
 ⟨t1,t1.andThen Y.sub⟩
theorem KQ:builtinKind "tuple.__iter__" = some .slot:=by decide +kernel
theorem Yc:splitId "tuple.__iter__" = some ("tuple","__iter__"):=by decide +kernel
theorem KS (self:Value):bindSpecial (.builtin "tuple.__iter__") self=pure (.builtin "tuple.__iter__",[self]):=PySem.F.slot_tuple_iter.bind self
section
variable {prog:Program} {w:World} {A:Around} {E:Value->Shared->Prop} {s:Shared} {C x dx:Addr} {vs:Array Value} {n:Nat}
theorem zab {Q:Value->Shared->Prop} (Y:TsAt (model prog w) s.heap C) (g:s.heap.get? x=some { cls:=.ref C,dict:=some dx,data:=.seq vs n,slots:=#[] })
  (hQ:Q (.ref s.heap.objs.size) { s with heap:=s.heap.push { cls:=.type "tuple_iterator",data:=.fields #[.ref x,.int 0 0] } }):wpAny (model prog w) A (pyIter (.ref x)) Q E s:=by
 obtain ⟨t1,i1⟩:=Zi Y g
 have hit:=Y.iter
 refine wpAny_bind (wpAny_bind (t1.here (hit.here ?_)))
 refine (?_:wpAny _ _ (callSpecialIfBoundUnlessNone? (.ref x) "__iter__" _ >>= _) Q E s)
 have cal:wpAny (model prog w) A (call (.builtin "tuple.__iter__") [.ref x]) (fun it s'=>it=.ref s.heap.objs.size/\s'={ s with heap:=s.heap.push { cls:=.type "tuple_iterator",data:=.fields #[.ref x,.int 0 0] } }) E s:=by
  refine wpAny_call (codeAny_call_builtin PySem.F.slot_tuple_iter.plain PySem.F.entry_tuple_iter (@check_slot (model prog w) _ _ s "tuple.__iter__" "tuple" "__iter__" (.ref x) [] [] _ KQ Yc i1 (PySem.F.args_tuple_iter_1 _) ?_))
  refine (?_:wpAny _ _ (do ret (← newFields "tuple_iterator" [.ref x,rawInt 0])) _ _ s)
  exact wpAny_bind (wpAny_newObj_type (wpAny_pure ⟨rfl,rfl⟩))
 have fin:wpAny (model prog w) A (call (.builtin "tuple.__iter__") [.ref x] >>= fun v=>pure (some v)) (fun r s'=>r=some (.ref s.heap.objs.size)/\s'={ s with heap:=s.heap.push { cls:=.type "tuple_iterator",data:=.fields #[.ref x,.int 0 0] } }) E s:=
  wpAny_bind (wpAny_mono cal (fun v s' h'=>wpAny_pure ⟨by exact sr h'.1 rfl,h'.2⟩) fun _ _ e=>e)
 refine wpAny_bind (wpAny_mono (Q:=fun r s'=>r=some (.ref s.heap.objs.size)/\s'={ s with heap:=s.heap.push { cls:=.type "tuple_iterator",data:=.fields #[.ref x,.int 0 0] } }) ?_ (fun r s' h'=>?_) fun _ _ e=>e)
 ·simp only [callSpecialIfBoundUnlessNone?,bindSpecialIfBound?,specialOf]
  refine wpAny_holding (wpAny_bind (wpAny_bind (wpAny_bind (t1.here (hit.here ?_)))))
  simp only [KS]
  refine wpAny_bind (wpAny_askSetting (wpAny_ite ?_))
  split
  ·exact wpAny_bind (wpAny_pure (wpAny_pure fin))
  ·exact wpAny_tryCatch (wpAny_bind (wpAny_pure (wpAny_pure fin)))
 ·obtain ⟨rfl,rfl⟩:=h'
  exact wpAny_bind (wpAny_specialOf (T:="tuple_iterator") ⟨_,Heap.get?_push_size _ rfl,rfl⟩ PySem.F.slot_tuple_iterator_next.lookup (wpAny_pure hQ))
end
end
end
section
section
variable {prog:Program} {w:World} {A:Around} {E:Value->Shared->Prop} {s:Shared}
theorem zac {it t:Addr} {i:Nat} {ol:Obj} {items:Array Value} {nl:Nat} {x:Value} {Q:Option Value->Shared->Prop} (hit:s.heap.IsTupleIter it t i) (hol:s.heap.get? t=some ol) (hdl:ol.data=.seq items nl) (hx:items[i]?=some x)
  (hQ:∀ h',h'.IsTupleIter it t (i+1)->Heap.SameBut it s.heap h'->Q (some x) { s with heap:=h' }):wpAny (model prog w) A (pyNext (.ref it)) Q E s:=by
 refine e13 (id hit) fun o ho hc hd=>?_
 refine wpAny_bind (wpAny_attempt (wpAny_callSpecial?_slot (name:=Str.ofString "__next__") hit.typeIs PySem.F.slot_tuple_iterator_next (wpAny_call_entry PySem.F.slot_tuple_iterator_next hit.typeIs PySem.F.entry_tuple_iterator_next ?_ (PySem.F.args_tuple_iterator_next_1 _))))
 refine (?_:wpAny _ _ (field (.ref it) 0 >>= _) _ _ s)
 refine wpAny_bind (wpAny_field ho hd (x:=.ref t) rfl ?_)
 refine (?_:wpAny _ _ (if (Value.ref t==Value.none)=true then _ else _) _ _ s)
 refine sr (if_neg (show ¬ ((Value.ref t==Value.none)=true) from Bool.false_ne_true)) ?_
 refine (?_:wpAny _ _ (field (.ref it) 1 >>= _) _ _ s)
 refine wpAny_bind (wpAny_field ho hd (x:=.int i 0) rfl ?_)
 refine (?_:wpAny _ _ (seqItems? (.ref t) >>= _) _ _ s)
 refine wpAny_bind (wpAny_seqItems hol hdl ?_)
 simp only [Int.toNat_natCast,hx]
 refine wpAny_bind (wpAny_setField ho hd (by simp) (wpAny_pure ⟨x,rfl,wpAny_pure (hQ _ ?_ (Heap.SameBut.update ..))⟩))
 exact ⟨_,Heap.get?_update_self _ ho (Obj.isFreed_of_fields (Obj.data_mapFields hd _)),(Obj.cls_mapFields ..).trans hc,by rw [Obj.data_mapFields hd];simp [rawInt]⟩
theorem zbx {it t:Addr} {i:Nat} {ol:Obj} {items:Array Value} {nl:Nat} {Q:Option Value->Shared->Prop} (hh:A.handled=none) (hit:s.heap.IsTupleIter it t i) (hol:s.heap.get? t=some ol) (hdl:ol.data=.seq items nl) (hx:items[i]?=none)
  (hQ:∀ h',Heap.ExtBut it s.heap h'->Q none { s with heap:=h' }):wpAny (model prog w) A (pyNext (.ref it)) Q E s:=by
 refine e13 (id hit) fun o ho hc hd=>?_
 refine wpAny_bind (wpAny_attempt (wpAny_callSpecial?_slot (name:=Str.ofString "__next__") hit.typeIs PySem.F.slot_tuple_iterator_next (wpAny_call_entry PySem.F.slot_tuple_iterator_next hit.typeIs PySem.F.entry_tuple_iterator_next ?_ (PySem.F.args_tuple_iterator_next_1 _))))
 refine (?_:wpAny _ _ (field (.ref it) 0 >>= _) _ _ s)
 refine wpAny_bind (wpAny_field ho hd (x:=.ref t) rfl ?_)
 refine (?_:wpAny _ _ (if (Value.ref t==Value.none)=true then _ else _) _ _ s)
 refine sr (if_neg (show ¬ ((Value.ref t==Value.none)=true) from Bool.false_ne_true)) ?_
 refine (?_:wpAny _ _ (field (.ref it) 1 >>= _) _ _ s)
 refine wpAny_bind (wpAny_field ho hd (x:=.int i 0) rfl ?_)
 refine (?_:wpAny _ _ (seqItems? (.ref t) >>= _) _ _ s)
 refine wpAny_bind (wpAny_seqItems hol hdl ?_)
 simp only [Int.toNat_natCast,hx]
 refine wpAny_bind (wpAny_rule (wpAny_bind (wpAny_setField ho hd (by simp) ?_)))
 refine (?_:wpAny _ _ (newExc (.type "StopIteration") [] >>= _) _ _ _)
 refine wpAny_bind ?_
 simp only [newExc,newTuple]
 refine wpAny_bind (wpAny_newObj_type ?_ (by size_fits))
 refine wpAny_bind (m:=firstArgMember _ _) (wpAny_of_eq (a:=Value.none) (by first | rfl | (simp only [firstArgMember];rfl)) ?_)
 refine wpAny_newObj_type ?_ (by size_fits)
 simp only [raiseNew]
 refine wpAny_bind (wpAny_handled ?_)
 first | refine sr (show A.in1.handled=none from hh) ?_ | rw [hh]
 refine wpAny_bind (wpAny_pure (wpAny_throw ?_))
 refine wpAny_bind (wpAny_isInstance (T:="StopIteration") (b:=true) ⟨_,Heap.get?_push_size _ rfl,rfl⟩ isSubtype_stop ?_)
 exact wpAny_pure (hQ _ (((Heap.SameBut.update ..).extBut.push _).push _))
theorem uk {it t:Addr} {ol:Obj} {items:Array Value} {nl:Nat} (hdl:ol.data=.seq items nl) (hne:t≠it):∀ (n i:Nat) (s:Shared) (Q:List Value->Shared->Prop),s.heap.IsTupleIter it t i->s.heap.get? t=some ol->i+n<=items.size->
  (∀ h',h'.IsTupleIter it t (i+n)->Heap.SameBut it s.heap h'->Q ((items.toList.drop i).take n) { s with heap:=h' })->wpAny (model prog w) A (draw (.ref it) n) Q E s
 | 0,i,s,Q,hit,_,_,hQ=>by
  refine (?_:wpAny _ _ (pure []) Q E s)
  exact wpAny_pure (by simpa using hQ s.heap hit (Heap.SameBut.refl ..))
 | n+1,i,s,Q,hit,ht,hle,hQ=>by
  have hlt:i<items.size:=by exact okt hle
  refine (?_:wpAny _ _ (pyNext (.ref it) >>= _) Q E s)
  refine wpAny_bind (zac hit ht hdl (x:=items[i]) (by simp [hlt]) fun h₁ hit₁ hs₁=>?_)
  refine wpAny_bind (wpAny_holding (uk hdl hne n (i+1) _ _ hit₁ ((hs₁.2 t hne).trans ht) (okB hle) fun h₂ hit₂ hs₂=>wpAny_pure ?_))
  have hd:items.toList.drop i=items[i]::items.toList.drop (i+1):=by simp [List.drop_eq_getElem_cons,hlt]
  have:=hQ h₂ (by refine sr (show i+(n+1)=i+1+n by exact Eq.symm (Nat.add_right_comm _ _ _)) ?_;exact hit₂) (hs₁.trans hs₂)
  rw [hd,List.take_succ_cons] at this
  exact this
theorem Jr {x C dx:Addr} {items:Array Value} {n:Nat} {Q:List Value->Shared->Prop} (hh:A.handled=none) (Y:TsAt (model prog w) s.heap C) (g:s.heap.get? x=some { cls:=.ref C,dict:=some dx,data:=.seq items n,slots:=#[] })
  (hQ:∀ h',Heap.ExtBut s.heap.objs.size s.heap h'->Q items.toList { s with heap:=h' }):wpAny (model prog w) A (unpackItems (.ref x) items.size none) Q E s:=by
 have hlt:x≠s.heap.objs.size:=Nat.ne_of_lt (Heap.lt_size g)
 refine e02 (Zi Y g) fun t1 i1=>?_
 refine wpAny_bind ?_
 refine wpAny_bind (wpAny_bind (t1.here (Y.iter.here ?_)))
 refine wpAny_pure ?_
 simp only [Bool.false_eq_true,if_false]
 refine wpAny_bind (wpAny_holding (zab Y g ?_))
 have g1:(s.heap.push { cls:=.type "tuple_iterator",data:=.fields #[.ref x,.int 0 0] }).get? x=some { cls:=.ref C,dict:=some dx,data:=.seq items n,slots:=#[] }:=Heap.get?_push_of_some _ g
 refine wpAny_bind (wpAny_holding (uk (ol:={ cls:=.ref C,dict:=some dx,data:=.seq items n,slots:=#[] }) rfl hlt items.size 0 _ _ ⟨_,Heap.get?_push_size _ rfl,rfl,rfl⟩ g1 (oke (Nat.add_comm _ _)) fun h₁ hit₁ hs₁=>?_))
 have hall:List.take items.size (List.drop 0 items.toList)=items.toList:=by
  refine sr List.drop_zero ?_;exact List.take_of_length_le (by simp)
 refine sr hall ?_
 refine sr (if_neg (by simp)) ?_
 have ht₁:h₁.get? x=some { cls:=.ref C,dict:=some dx,data:=.seq items n,slots:=#[] }:=(hs₁.2 x hlt).trans g1
 refine wpAny_bind (wpAny_holding (zbx hh hit₁ ht₁ rfl (by simp) fun h₂ he₂=>?_))
 simp only [Option.isSome_none,Bool.false_eq_true,if_false]
 refine wpAny_pure (hQ h₂ fun b o hb e=>?_)
 exact he₂ b o hb ((hs₁.2 b hb).trans (Heap.get?_push_of_some _ e))
end
section
variable {W:Wd} {lv:Nat} {σ σ':Led} {Q:V->Led->Prop}
theorem Qr {C f sm x:Addr} {xs:List V} {n:Nat} {Q:List V->Led->Prop} (k:TsOk W.K C f sm) (m:(x,O.tsub C xs)∈σ) (hn:xs.length=n) (h:Q xs σ):qQ W lv (.ref x) n σ Q:=.sh fun c ρ Φ s Cx r=>by
 obtain ⟨o,g,zo⟩:=r.get m
 refine e33 zo.jh fun vs k' dx hv hk w0=>?_;subst w0
 have Y:=KJ (M:=W.M) (Cx.kin.keeps (fun b o e=>r.old e)) k
 have hlen:=hv.length
 have e:n=vs.toArray.size:=by simp;exact Eq.trans hn.symm hlen
 refine sr e ?_
 refine Jr Cx.handled Y g fun h' he=>⟨xs,σ,by simpa using hv,Eq.trans hn e,?_,h⟩
 have r1:=R0.pushΦ (o:=({ cls:=.type "list",data:=.seq #[] }:Obj)) r rfl
 refine R0.keeps (t:=s.toks) r fun b o eb=>he b o (Nat.ne_of_lt (Heap.lt_size eb)) eb
end
end
section
section
variable (W:Wd) (lv:Nat)
structure KU (I:Addr) (σ:Led) (Q:Option V->Led->Prop):Prop where
 run:∀ (c:Cx) (ρ:List (Option V)) (Φ:List (Addr×Obj)) (s:Shared),CxOk W lv c->R0 W.prog W.w c.F ρ σ Φ s->
  wpAny W.M c.A (pyNext (.ref I)) (fun r s'=>match r with
   | none=>vM W c ρ Φ (Q none) () s'
   | some v=>Post W c ρ Φ (fun x=>Q (some x)) v s') NoE s
structure AIt (I:Addr) (σ:Led):Prop where
 ty:∀ (c:Cx) (ρ:List (Option V)) (Φ:List (Addr×Obj)) (s:Shared),CxOk W lv c->R0 W.prog W.w c.F ρ σ Φ s->∃ tv,Looks W.M s.heap (typeOf (.ref I)) tv/\(tv==.type "list")=false/\(tv==.type "tuple")=false/\
  Looks W.M s.heap (typeLookup tv "__len__") none/\Looks W.M s.heap (typeLookup tv "__length_hint__") none
 iter:∀ (c:Cx) (ρ:List (Option V)) (Φ:List (Addr×Obj)) (s:Shared),CxOk W lv c->R0 W.prog W.w c.F ρ σ Φ s->wpAny W.M c.A (pyIter (.ref I)) (fun r s'=>r=.ref I/\R0 W.prog W.w c.F ρ σ Φ s') NoE s
noncomputable def Js (I D:Addr) (K:List V->Led->Prop):Nat->List V->Led->Prop
 | 0,_,_=>False
 | n+1,xs,σ=>KU W lv I σ fun r σ'=>match r with
  | none=>K xs σ'
  | some x=>(D,O.list xs)∈σ'/\xs.length<10000/\∃ σ'',Put D (.list (xs++[x])) σ' σ''/\Js I D K n (xs++[x]) σ''
end
section
variable {W:Wd} {lv:Nat} {σ σ':Led} {Q:V->Led->Prop}
theorem X5 {I D:Addr} {K:List V->Led->Prop} {c:Cx} {ρ:List (Option V)} {Φ:List (Addr×Obj)} {A:Around} {R:Result->Shared->Prop} (C:CxOk W lv { c with A:=A.in1 })
  (hR:∀ xs σ' s',K xs σ'->R0 W.prog W.w c.F ρ σ' Φ s'->R (.ok (.ret .none)) s'):∀ (n:Nat) (xs:List V) (σ:Led) (s:Shared),Js W lv I D K n xs σ->R0 W.prog W.w c.F ρ σ Φ s->
  codeAny W.M A (.builtin "list.extend.loop" ⟨[.ref D,.ref I,.none],[]⟩) R s
 | 0,_,_,_,h,_=>h.elim
 | n+1,xs,σ,s,h,r=>by
  refine codeAny_builtin PySem.F.entry_extend_loop ?_
  rw [Around.under_plainId PySem.F.plain_extend_loop]
  refine wpAny_bind (wpAny_mono (h.run { c with A:=A.in1 } ρ Φ s C r) (fun q s' hq=>?_) (fun _ _ x=>x.elim))
  cases q with
  | none=>
   obtain ⟨σ',r',hk⟩:=hq
   exact wpAny_pure (hR _ _ _ hk r')
  | some v=>
   obtain ⟨x,σ',z,r',mD,hl,σ'',P,hk⟩:=hq
   obtain ⟨vs,k,hv,hk',ia⟩:=r'.isL mD
   have hlen:=hv.length
   refine wpAny_bind (listUpdate_at ia rfl ?_ (by refine sr List.size_toArray (sr sizeLine_eq ?_);omega) (by rw [Array.size_push,List.size_toArray,sizeLine_eq];lia))
   refine wpAny_pure ⟨plainId_quiet PySem.F.plain_extend_loop _,?_⟩
   have g:=ia.update (fun x=>x.push v)
   have e:vs.toArray.push v=(vs++[v]).toArray:=by simp
   rw [e] at g
   exact X5 C hR n (xs++[x]) σ'' _ hk (r'.upd (t:=s'.toks) P (.list _ (hv.append (.cons z .nil)) (by simp;lia)) (Heap.SameBut.update ..) g)
theorem j0 {I:Addr} (hI:∀ D,AIt W (lv+1) I ((D,.list [])::σ)) (h:∀ D,∃ n,Js W (lv+1) I D (fun xs σ'=>Q (.ref D) σ') n [] ((D,.list [])::σ)) (hm:∃ x,(I,x)∈σ):zm W lv (.ty "list") [.ref I] σ Q:=z7 fun c ρ Φ s C r=>by
 obtain ⟨D,hD⟩:∃ D,D=s.heap.objs.size:=⟨_,rfl⟩
 refine e11 (h D) fun n hn=>?_
 have r0:=r.newO (x:=.list []) (t:=s.toks) (.list (vs:=[]) 0 .nil (by simp)) rfl
 rw [← hD] at r0
 have hne:(I==D)=false:=beq_false_of_ne fun e=>by
  refine e11 hm fun x mx=>?_
  have:=r.fresh
  rw [← hD,← e] at this
  exact this (List.mem_map.mpr ⟨_,mx,rfl⟩)
 refine callType_codes (Q₁:=fun obj s₁=>obj=.ref s.heap.objs.size/\s₁={ s with heap:=s.heap.push { cls:=.type "list",data:=.seq #[] } }) PySem.F.called_list (PySem.F.typeCall_list_1 _) PySem.F.entry_list_init (code_list_new _ ⟨rfl,rfl⟩) fun obj s₁ h₁=>?_
 refine e02 h₁ fun w0 w1=>?_;refine sr w0 ?_;refine sr w1 ?_
 have hS:(s.heap.push { cls:=.type "list",data:=.seq #[] }).get? s.heap.objs.size=some { cls:=.type "list",data:=.seq #[] }:=Heap.get?_push_size _ rfl
 refine ⟨⟨_,hS,rfl⟩,PySem.F.args_list_init_2 _ _,?_⟩
 rw [← hD] at hS ⊢
 show wpAny W.M c.A.in1.in1 (do
  let old ← Builtin.List.listItems (.ref D)
  Builtin.List.listUpdate (.ref D) fun _=>#[]
  letGo old.toList.reverse
  Builtin.List.listExtendWith (.ref D) (.ref I) .none) _ _ _
 have C2:CxOk W (lv+1) { c with A:=c.A.in1.in1 }:=⟨C.outs,C.kin,C.top,C.frames,C.frame,C.kind,C.glob,C.blt,by have:=C.depth;refine (?_:c.A.depth<=_);exact okc this (Nat.add_le_add_left (Nat.le_add_right _ _) _),by have:=C.units;refine (?_:c.A.units+1+1<=_);lia,C.handled,C.names⟩
 have g0:IsL (s.heap.push { cls:=.type "list",data:=.seq #[] }) D #[] 0:=hS
 refine wpAny_bind (listItems_at hS rfl ?_)
 refine wpAny_bind (listUpdate_at hS rfl ?_ (by simp) (by simp))
 have g1:=g0.update (fun _=>(#[]:Array Value))
 have r1:=r0.upd (t:=s.toks) (.here _ _) (.list (vs:=[]) _ .nil (by simp)) (Heap.SameBut.update _ D (Obj.mapSeq fun _=>(#[]:Array Value))) g1
 refine wpAny_bind (wpAny_letGo ?_)
 refine e15 ((hI D).ty { c with A:=c.A.in1.in1 } ρ Φ _ C2 r1) fun tv L1 n1 n2 L2 L3=>?_
 have h1:Builtin.List.listSameRef (.ref D) (.ref I)=false:=by
  refine (?_:(D==I)=false)
  exact beq_false_of_ne fun e=>by rw [e] at hne;simp at hne
 refine wpAny_bind (L1.here ?_)
 simp only [h1,n1,n2,Bool.or_false,Bool.false_eq_true,if_false]
 refine wpAny_bind (wpAny_mono ((hI D).iter { c with A:=c.A.in1.in1 } ρ Φ _ C2 r1) (fun it s2 hit=>?_) fun _ _ x=>x.elim)
 refine e02 hit fun w0 r2=>?_;refine sr w0 ?_
 refine e15 ((hI D).ty { c with A:=c.A.in1.in1 } ρ Φ _ C2 r2) fun tv2 M1 _ _ M2 M3=>?_
 refine wpAny_bind (wpAny_holding ?_)
 refine wpAny_bind (wpAny_bind (M1.here (M2.here ?_)))
 refine (?_:wpAny _ _ ((typeOf (.ref I) >>= fun t=>typeLookup t "__length_hint__") >>= _) _ _ _)
 refine wpAny_bind (wpAny_bind (M1.here (M3.here ?_)))
 refine wpAny_pure ?_
 refine (?_:wpAny _ _ (rule "list.extend.makes-room" >>= fun _=>Builtin.List.listTouch (.ref D) >>= fun _=>again (.builtin "list.extend.loop" ⟨[.ref D,.ref I,.none],[]⟩)) _ _ _)
 refine wpAny_bind (wpAny_rule ?_)
 refine wpAny_bind ?_
 obtain ⟨vs2,k2,hv2,_,ia2⟩:=r2.isL (.head _)
 cases hv2
 refine (?_:wpAny _ _ (Builtin.List.listUpdate (.ref D) (·.push .none) >>= fun _=>Builtin.List.listUpdate (.ref D) (·.pop)) _ _ _)
 refine wpAny_bind (listUpdate_at ia2 rfl ?_ (by simp) (by simp [sizeLine_eq]))
 have g3:=ia2.update (fun x=>x.push Value.none)
 have r3:=r2.upd (t:=s2.toks) (.here _ _) (.list (vs:=[Value.none]) (xs:=[V.none]) _ (.cons .none .nil) (by simp)) (Heap.SameBut.update _ D (Obj.mapSeq fun x=>x.push Value.none)) g3
 have g3':IsL (s2.heap.update D (Obj.mapSeq fun x=>x.push Value.none)) D (#[].push Value.none) _:=g3
 refine listUpdate_at g3' rfl ?_ (by simp [sizeLine_eq]) (by simp [sizeLine_eq])
 have g4:=g3'.update (fun x=>x.pop)
 have r4:=r3.upd (t:=s2.toks) (.here _ _) (.list (vs:=[]) (xs:=[]) _ .nil (by simp)) (Heap.SameBut.update _ D (Obj.mapSeq fun x=>x.pop)) g4
 refine wpAny_pure ⟨plainId_quiet PySem.F.plain_extend_loop _,?_⟩
 exact X5 (K:=fun xs σ'=>Q (.ref D) σ') C2 (fun xs σ' s' hk r'=>⟨rfl,_,σ',.ref D,r',hk⟩) n [] _ _ hn r4
end
end
section
noncomputable abbrev T3:=Nat×Nat×Nat
noncomputable def tlt (a b:T3):Bool:=decide (a.1<b.1) || (decide (a.1=b.1)&&(decide (a.2.1<b.2.1) || (decide (a.2.1=b.2.1)&&decide (a.2.2<b.2.2))))
noncomputable abbrev v3 (k:T3):List V:=[.int k.1,.int k.2.1,.int k.2.2]
section
variable {prog:Program} {w:World} {A:Around} {E:Value->Shared->Prop} {s:Shared}
theorem zad {x y C dx dy:Addr} {n m:Nat} {a b:T3} {t1 t2 t3 u1 u2 u3:Tok} {Q:PySem.Fin->Shared->Prop} (Y:TsAt (model prog w) s.heap C)
  (gx:s.heap.get? x=some { cls:=.ref C,dict:=some dx,data:=.seq #[.int a.1 t1,.int a.2.1 t2,.int a.2.2 t3] n,slots:=#[] })
  (gy:s.heap.get? y=some { cls:=.ref C,dict:=some dy,data:=.seq #[.int b.1 u1,.int b.2.1 u2,.int b.2.2 u3] m,slots:=#[] })
  (h:Q (.done (.ret (.bool (tlt a b)))) s):wpAny (model prog w) A (Builtin.«tuple.__lt__» ⟨[.ref x,.ref y],[]⟩) Q E s:=by
 obtain ⟨_,iy⟩:=Zi Y gy
 unfold Builtin.«tuple.__lt__»
 refine wpAny_bind (wpAny_pure ?_)
 dsimp only
 refine wpAny_bind (iy.here ?_)
 refine (?_:wpAny _ _ (Builtin.Tuple.tupleItemsOf (.ref x) >>= _) _ _ _)
 unfold Builtin.Tuple.tupleItemsOf
 refine wpAny_bind (wpAny_bind (wpAny_seqItems gx rfl (wpAny_pure (wpAny_bind (wpAny_bind (wpAny_seqItems gy rfl (wpAny_pure ?_)))))))
 refine wpAny_bind ?_
 have eqb:∀ p q:Nat,((p:Int)==(q:Int))=decide (p=q):=fun p q=>by
  by_cases e:p=q
  ·simp [e]
  ·simp [e];exact oko e
 have ltb:∀ p q:Nat,decide ((p:Int)<(q:Int))=decide (p<q):=fun p q=>by simp
 refine (?_:wpAny _ _ (forIn [(Value.int a.1 t1,Value.int b.1 u1),(Value.int a.2.1 t2,Value.int b.2.1 u2),(Value.int a.2.2 t3,Value.int b.2.2 u3)] (none,()) _) _ _ _)
 rw [List.forIn_cons]
 refine wpAny_bind (wpAny_bind (wpAny_eqBool_int ?_))
 rw [eqb]
 by_cases e1:a.1=b.1
 ·simp only [e1,decide_true,Bool.not_true,Bool.false_eq_true,if_false]
  refine wpAny_pure ?_
  dsimp only
  rw [List.forIn_cons]
  refine wpAny_bind (wpAny_bind (wpAny_eqBool_int ?_))
  rw [eqb]
  by_cases e2:a.2.1=b.2.1
  ·simp only [e2,decide_true,Bool.not_true,Bool.false_eq_true,if_false]
   refine wpAny_pure ?_
   dsimp only
   rw [List.forIn_cons]
   refine wpAny_bind (wpAny_bind (wpAny_eqBool_int ?_))
   rw [eqb]
   by_cases e3:a.2.2=b.2.2
   ·simp only [e3,decide_true,Bool.not_true,Bool.false_eq_true,if_false]
    refine wpAny_pure ?_
    dsimp only
    refine sr List.forIn_nil ?_
    refine wpAny_pure ?_
    have:tlt a b=false:=by unfold tlt;simp [e1,e2,e3]
    rw [this] at h
    exact wpAny_pure h
   ·simp only [e3,decide_false,Bool.not_false,if_true]
    refine wpAny_bind (wpAny_rule (wpAny_bind (wpAny_lt_int ?_)))
    rw [ltb]
    refine wpAny_bind (wpAny_pure (wpAny_pure ?_))
    have:tlt a b=decide (a.2.2<b.2.2):=by unfold tlt;simp [e1,e2]
    rw [this] at h
    exact wpAny_pure (wpAny_pure h)
  ·simp only [e2,decide_false,Bool.not_false,if_true]
   refine wpAny_bind (wpAny_rule (wpAny_bind (wpAny_lt_int ?_)))
   rw [ltb]
   refine wpAny_bind (wpAny_pure (wpAny_pure ?_))
   have:tlt a b=decide (a.2.1<b.2.1):=by unfold tlt;simp [e1,e2]
   rw [this] at h
   exact wpAny_pure (wpAny_pure h)
 ·simp only [e1,decide_false,Bool.not_false,if_true]
  refine wpAny_bind (wpAny_rule (wpAny_bind (wpAny_lt_int ?_)))
  rw [ltb]
  refine wpAny_bind (wpAny_pure (wpAny_pure ?_))
  have:tlt a b=decide (a.1<b.1):=by unfold tlt;simp [e1]
  rw [this] at h
  exact wpAny_pure (wpAny_pure h)
theorem Hn:builtinKind "tuple.__lt__" = some .slot:=by decide +kernel
theorem um:splitId "tuple.__lt__" = some ("tuple","__lt__"):=by decide +kernel
theorem Ho (self:Value):bindSpecial (.builtin "tuple.__lt__") self=pure (.builtin "tuple.__lt__",[self]):=PySem.F.slot_tuple_lt.bind self
theorem zcz {x y C dx dy:Addr} {n m:Nat} {a b:T3} {t1 t2 t3 u1 u2 u3:Tok} {Q:Bool->Shared->Prop} (hu:A.units<cLine) (Y:TsAt (model prog w) s.heap C)
  (gx:s.heap.get? x=some { cls:=.ref C,dict:=some dx,data:=.seq #[.int a.1 t1,.int a.2.1 t2,.int a.2.2 t3] n,slots:=#[] })
  (gy:s.heap.get? y=some { cls:=.ref C,dict:=some dy,data:=.seq #[.int b.1 u1,.int b.2.1 u2,.int b.2.2 u3] m,slots:=#[] })
  (h:Q (tlt a b) s):wpAny (model prog w) A (keyLt' oneType' (.ref x) (.ref y)) Q E s:=by
 obtain ⟨tx,ix⟩:=Zi Y gx
 have hl:=Y.lt
 rw [keyLt'_oneType,oneLt'_eq]
 simp only [if_true]
 refine wpAny_bind (wpAny_cRoomFor hu ?_)
 have cal:wpAny (model prog w) A (call (.builtin "tuple.__lt__") ([.ref x]++[.ref y])) (fun r s'=>r=.bool (tlt a b)/\s'=s) E s:=
  wpAny_call (codeAny_call_builtin PySem.F.slot_tuple_lt.plain PySem.F.entry_tuple_lt (@check_slot (model prog w) _ _ s "tuple.__lt__" "tuple" "__lt__" (.ref x) [.ref y] [] _ Hn um ix (PySem.F.args_tuple_lt_2 _ _) (zad Y gx gy ⟨rfl,rfl⟩)))
 have fin:wpAny (model prog w) A (call (.builtin "tuple.__lt__") ([.ref x]++[.ref y]) >>= fun v=>pure (some v)) (fun r s'=>r=some (.bool (tlt a b))/\s'=s) E s:=
  wpAny_bind (wpAny_mono cal (fun v s' h'=>wpAny_pure ⟨by exact sr h'.1 rfl,h'.2⟩) fun _ _ e=>e)
 refine wpAny_bind (wpAny_mono (Q:=fun r s'=>r=some (.bool (tlt a b))/\s'=s) ?_ (fun r s' h'=>?_) fun _ _ e=>e)
 ·simp only [callSpecialIfBound?,bindSpecialIfBound?,specialOf]
  refine wpAny_holding (wpAny_bind (wpAny_bind (wpAny_bind (tx.here (hl.here ?_)))))
  simp only [Ho]
  refine wpAny_bind (wpAny_askSetting (wpAny_ite ?_))
  split
  ·exact wpAny_bind (wpAny_pure (wpAny_pure fin))
  ·exact wpAny_tryCatch (wpAny_bind (wpAny_pure (wpAny_pure fin)))
 ·obtain ⟨rfl,rfl⟩:=h'
  exact wpAny_bind (wpAny_truthy_bool (wpAny_pure h))
end
theorem zae (a:T3):tlt a a=false:=by unfold tlt;simp
theorem QQ (a b:T3):tlt a b=true↔(a.1<b.1\/(a.1=b.1/\(a.2.1<b.2.1\/(a.2.1=b.2.1/\a.2.2<b.2.2)))):=by unfold tlt;simp
theorem kr {a b c:Nat} {X Y Z:Prop} (h1:a<b\/a=b/\X) (h2:b<c\/b=c/\Y) (k:X->Y->Z):a<c\/a=c/\Z:=
 h1.elim (fun h1=>.inl (h2.elim (Nat.lt_trans h1) fun z=>z.1 ▸ h1)) fun x=>h2.elim (fun h2=>.inl (x.1 ▸ h2)) fun y=>.inr ⟨x.1.trans y.1,k x.2 y.2⟩
theorem gO {a b:Nat} {X Y:Prop} (h:a=b->X\/Y):(a<b\/a=b/\X)\/(b<a\/b=a/\Y):=
 (Nat.lt_trichotomy a b).elim (fun h=>.inl (.inl h)) fun e=>e.elim (fun e=>(h e).elim (fun x=>.inl (.inr ⟨e,x⟩)) fun y=>.inr (.inr ⟨e.symm,y⟩)) fun h=>.inr (.inl h)
theorem uo {a b c:T3} (h1:tlt a b=true) (h2:tlt b c=true):tlt a c=true:=(QQ a c).mpr (kr ((QQ a b).mp h1) ((QQ b c).mp h2) fun x y=>kr x y Nat.lt_trans)
theorem zaf {a b:T3} (h:a≠b):tlt a b=true\/tlt b a=true:=by
 rw [QQ,QQ]
 refine gO fun e1=>gO fun e2=>(Nat.lt_trichotomy a.2.2 b.2.2).elim .inl fun q=>q.elim (fun e3=>absurd (Prod.ext e1 (Prod.ext e2 e3)) h) .inr
theorem Put.ex {a:Addr} {x:O} (y:O):∀ {σ:Led},(a,x)∈σ->∃ σ',Put a y σ σ'
 | _::σ,.head _=>⟨_,.here _ _⟩
 | p::σ,.tail _ m=>let ⟨σ',P⟩:=Put.ex y m;⟨p::σ',.there p P⟩
theorem Put.other {a b:Addr} {y o:O} {σ σ':Led} (P:Put a y σ σ') (m:(b,o)∈σ) (h:b≠a):(b,o)∈σ':=by
 induction P with
 | here x σ=>
  refine mo m (fun e=>?_) fun m=>?_
  ·cases e;exact absurd rfl h
  ·exact .tail _ m
 | there p P ih=>
  refine mo m (fun e=>?_) fun m=>?_
  ·refine sr e ?_;exact .head _
  ·exact .tail _ (ih m)
theorem Put.self {a:Addr} {y:O} {σ σ':Led} (P:Put a y σ σ'):(a,y)∈σ':=by
 induction P with
 | here x σ=>exact .head _
 | there p P ih=>exact .tail _ ih
theorem Put.re {a:Addr} {y z:O} {σ σ0:Led} (P:Put a y σ σ0):∀ {σ1:Led},Put a z σ σ1->(σ.map (·.1)).Nodup->Put a z σ0 σ1:=by
 induction P with
 | here x σ=>
  intro σ1 P1 nd
  cases P1 with
  | here=>exact .here _ _
  | there _ P1=>
   rw [List.map_cons,List.nodup_cons] at nd
   refine e11 P1.mem fun x' m=>?_
   exact absurd (List.mem_map.mpr ⟨_,m,rfl⟩) nd.1
 | there p P ih=>
  intro σ1 P1 nd
  rw [List.map_cons,List.nodup_cons] at nd
  cases P1 with
  | here x=>
   refine e11 P.mem fun x' m=>?_
   exact absurd (List.mem_map.mpr ⟨_,m,rfl⟩) nd.1
  | there _ P1=>exact .there _ (ih P1 nd.2)
theorem UpdF.again {d:Addr} {o o':Obj} {l:List (Addr×Obj)} {g:Obj->List (Addr×Obj)} (U:UpdF d o l g):UpdF d o' (g o') g:=by
 induction U with
 | head h=>exact .head h
 | tail h _ ih=>exact .tail h ih
section
variable {prog:Program} {w:World} {F:Fm} {ρ:List (Option V)} {σ σ':Led} {Φ:List (Addr×Obj)} {s:Shared}
theorem R1.nd (r:R1 prog w F ρ σ Φ s):(σ.map (·.1)).Nodup:=by
 obtain ⟨m',os,FF,lo,l,N,nd⟩:=r.ex
 refine sr l.keys ?_
 rw [List.map_append] at nd
 exact (List.nodup_append.mp nd).1
theorem R0.nd (r:R0 prog w F ρ σ Φ s):(σ.map (·.1)).Nodup:=let ⟨_,_,r⟩:=r.ex;r.nd
theorem Yd {σ:Led} (nd:(σ.map (·.1)).Nodup) {a:Addr} {x y:O} (m1:(a,x)∈σ) (m2:(a,y)∈σ):x=y:=by
 induction σ with
 | nil=>exact nn9 m1
 | cons p σ ih=>
  rw [List.map_cons,List.nodup_cons] at nd
  refine mo m1 (fun e1=>?_) fun m1=>?_
  ·refine mo m2 (fun e2=>?_) fun m2=>?_
   ·rw [← e1] at e2;exact (Prod.mk.inj e2).2.symm
   ·exact absurd (List.mem_map.mpr ⟨_,m2,rfl⟩) (by rw [← e1] at nd;exact nd.1)
  ·refine mo m2 (fun e2=>?_) fun m2=>?_
   ·exact absurd (List.mem_map.mpr ⟨_,m1,rfl⟩) (by rw [← e2] at nd;exact nd.1)
   ·exact ih nd.2 m1 m2
theorem R1.Ye (r:R1 prog w F ρ σ Φ s) {a:Addr} {x:O} (m:(a,x)∈σ):∃ m' os o g,Fr F.h₀ F.L s.heap m'/\News F.h₀ F.L s.heap (os++Φ)/\(a,o)∈os++Φ/\OR prog w x o/\UpdF a o (os++Φ) g/\
  ∀ y σ' h' o' tk,Put a y σ σ'->Fr F.h₀ F.L h' m'->News F.h₀ F.L h' (g o')->OR prog w y o'->R1 prog w F ρ σ' Φ { s with heap:=h',toks:=tk }:=by
 obtain ⟨m',os,FF,lo,l,N,nd⟩:=r.ex
 obtain ⟨o,mo,zo⟩:=l.mem m
 have nd1:(os.map (·.1)).Nodup:=by rw [List.map_append] at nd;exact (List.nodup_append.mp nd).1
 obtain ⟨g,U,hg⟩:=UpdF.kf (List.mem_append_left Φ mo) nd
 have ne:∀ p∈Φ,p.1≠a:=fun p hp e=>by
  rw [List.map_append] at nd
  exact (List.nodup_append.mp nd).2.2 a (List.mem_map.mpr ⟨_,mo,rfl⟩) p.1 (List.mem_map.mpr ⟨p,hp,rfl⟩) e.symm
 refine ⟨m',os,o,g,FF,N,List.mem_append_left _ mo,zo,U,fun y σ' h' o' tk P F' N' z=>?_⟩
 obtain ⟨os',l',keys,mm⟩:=l.put P z nd1
 refine ⟨⟨m',os',F',lo,l',fun p hp=>N' p ?_,by refine sr List.map_append (sr keys (sq List.map_append ?_));exact nd⟩,r.gens,r.os⟩
 refine ma hp (fun hp=>?_) fun hp=>?_
 ·rcases mm p hp with rfl | ⟨hp,hne⟩
  ·exact (hg o').1
  ·exact (hg o').2 p (List.mem_append_left _ hp) hne
 ·exact (hg o').2 p (List.mem_append_right _ hp) (ne p hp)
theorem R0.Ye (r:R0 prog w F ρ σ Φ s) {a:Addr} {x:O} (m:(a,x)∈σ):∃ m' N₀ o g,Fr F.h₀ F.L s.heap m'/\News F.h₀ F.L s.heap N₀/\(a,o)∈N₀/\OR prog w x o/\UpdF a o N₀ g/\
  ∀ y σ' h' o' tk,Put a y σ σ'->Fr F.h₀ F.L h' m'->News F.h₀ F.L h' (g o')->OR prog w y o'->R0 prog w F ρ σ' Φ { s with heap:=h',toks:=tk }:=by
 obtain ⟨fr,up,r⟩:=r.ex
 refine e46 (r.Ye m) fun m' os o g FF N mo zo U back=>?_
 exact ⟨m',_,o,g,FF,N,mo,zo,U,fun y σ' h' o' tk P F' N' z=>⟨fr,up,back y σ' h' o' tk P F' N' z⟩⟩
end
section
variable {W:Wd} {lv:Nat} {σ σ':Led} {Q:V->Led->Prop}
theorem R0.ts3 {F:Fm} {ρ:List (Option V)} {Φ:List (Addr×Obj)} {s:Shared} (r:R0 W.prog W.w F ρ σ Φ s) {x C:Addr} {k:T3} (m:(x,O.tsub C (v3 k))∈σ) :
  ∃ dx n t1 t2 t3,s.heap.get? x=some { cls:=.ref C,dict:=some dx,data:=.seq #[.int k.1 t1,.int k.2.1 t2,.int k.2.2 t3] n,slots:=#[] }:=by
 obtain ⟨o,g,zo⟩:=r.get m
 refine e33 zo.jh fun vs n dx hv _ w0=>?_;subst w0
 refine e34 hv.three fun u1 u2 u3 w0 z1 z2 z3=>?_;subst w0
 refine e11 z1.int_inv fun t1 w0=>?_;subst w0
 refine e11 z2.int_inv fun t2 w0=>?_;subst w0
 refine e11 z3.int_inv fun t3 w0=>?_;subst w0
 exact ⟨dx,n,t1,t2,t3,g⟩
theorem KV {C f sm D:Addr} {bs:List (Addr×T3)} (k:TsOk W.K C f sm) (hlv:lv<=100) (m:(D,O.list (bs.map fun b=>V.ref b.1))∈σ) (hb:∀ b∈bs,(b.1,O.tsub C (v3 b.2))∈σ) (nd:(bs.map (·.2)).Nodup) (h2:2<=bs.length) (h64:bs.length<64)
  (h:∀ ys:List (Addr×T3),ys.Perm bs->ys.Pairwise (fun a b=>tlt a.2 b.2=true)->∃ σ',Put D (.list (ys.map fun b=>V.ref b.1)) σ σ'/\Q .none σ'):zm W lv (.bi "list.sort") [.ref D] σ Q:=zQ fun c ρ Φ s Cx r=>by
 refine e46 (r.Ye m) fun m' os o g FF N mo zo U back=>?_
 refine e23 zo.jf fun vs n hv hk w0=>?_;subst w0
 have hlen:bs.length=vs.length:=by have:=hv.length;rwa [List.length_map] at this
 have hvs:∀ i b,bs[i]?=some b->vs.getD i Value.none=.ref b.1:=fun i b e=>by
  obtain ⟨u,hu,z⟩:=hv.get (i:=i) (x:=V.ref b.1) (by rw [List.getElem?_map,e];rfl)
  cases z
  rw [List.getD_eq_getElem?_getD,hu];rfl
 refine kat_lsort (vs:=vs) FF N U (by simp) (okV h2 hlen) (okZ h64 hlen.symm) fun e1 h' F' N'=>?_
 refine e11 (Put.ex (.list []) m) fun σ0 P0=>?_
 have r0:R0 W.prog W.w c.F ρ σ0 Φ { s with heap:=h' }:=back _ σ0 h' _ s.toks P0 F' N' (.list (vs:=[]) e1 .nil (by simp))
 have ne:∀ b∈bs,b.1≠D:=fun b hbm e=>by
  have:=hb b hbm
  rw [e] at this
  cases Yd r.nd m this
 have hb0:∀ b∈bs,(b.1,O.tsub C (v3 b.2))∈σ0:=fun b hbm=>P0.other (hb b hbm) (ne b hbm)
 have Y:=KJ (M:=W.M) (Cx.kin.keeps (fun b o e=>r0.old e)) k
 have hu:c.A.in1.units<cLine:=by have:=Cx.units;refine (?_:c.A.units+1<9900);lia
 refine kas_kind (T:=.ref C) (okV h2 hlen) (fun v hvm=>?_) rfl (by simp) ?_
 ·obtain ⟨i,hi,e⟩:=List.mem_iff_getElem.mp hvm
  have hib:i<bs.length:=okV hi hlen.symm
  have e2:=hvs i bs[i] (List.getElem?_eq_getElem hib)
  rw [List.getD_eq_getElem?_getD,List.getElem?_eq_getElem hi] at e2
  have e3:v=.ref bs[i].1:=by refine sq e ?_;exact e2
  refine e51 (r0.ts3 (hb0 _ (List.getElem_mem hib))) fun dx n' t1 t2 t3 gx=>?_
  refine sr e3 ?_
  exact (Zi Y gx).1
 let key:Nat->T3:=fun i=>(bs.getD i (0,(0,0,0))).2
 have hkey:∀ i (hi:i<bs.length),key i=bs[i].2:=fun i hi=>by refine (?_:(bs.getD i _).2=_);rw [List.getD_eq_getElem?_getD,List.getElem?_eq_getElem hi];rfl
 have Ord0:Ord (fun i j=>tlt (key i) (key j)) bs.length:=⟨fun i=>zae _,fun i j k'=>uo,fun i j hi hj hij=>zaf (by
  refine sr (hkey i hi) (sr (hkey j hj) ?_)
  have pw:=List.pairwise_iff_getElem.mp nd
  have li:i<(bs.map (·.2)).length:=by simpa using hi
  have lj:j<(bs.map (·.2)).length:=by simpa using hj
  rcases Nat.lt_or_gt_of_ne hij with q | q
  ·have:=pw i j li lj q;simpa using this
  ·have:=pw j i lj li q;exact fun e=>this (by simpa using e.symm))⟩
 refine sq hlen ?_
 refine gI (lt:=fun i j=>tlt (key i) (key j)) (n:=bs.length) (Inv:=fun s'=>s'={ s with heap:=h' }) (P:=fun p=>PI bs.length p/\Up (fun i j=>tlt (key i) (key j)) p bs.length) (fun i j Cc s' hi hj e hC=>?_) (fun p s' e hp=>?_) (Hl Ord0 h2) rfl
 ·subst e
  refine (?_:wpAny W.M c.A.in1 (keyLt' oneType' (vs.getD i Value.none) (vs.getD j Value.none)) Cc (fun _ _=>False) _)
  rw [hvs i bs[i] (List.getElem?_eq_getElem hi),hvs j bs[j] (List.getElem?_eq_getElem hj)]
  refine e51 (r0.ts3 (hb0 _ (List.getElem_mem hi))) fun dx n1 t1 t2 t3 gx=>?_
  refine e51 (r0.ts3 (hb0 _ (List.getElem_mem hj))) fun dy n2 u1 u2 u3 gy=>?_
  refine zcz hu Y gx gy ?_
  have:=hC _ rfl
  rwa [hkey i hi,hkey j hj] at this
 ·subst e
  refine e02 hp fun hp hup=>?_
  have hsz:=hp.size
  obtain ⟨σ2,P2,hq⟩:=h (p.toList.map fun i=>bs.getD i (0,(0,0,0))) (by
   have e1:(p.toList.map fun i=>bs.getD i (0,(0,0,0))).Perm ((List.range bs.length).map fun i=>bs.getD i (0,(0,0,0))):=List.Perm.map _ hp
   have e2:((List.range bs.length).map fun i=>bs.getD i (0,(0,0,0)))=bs:=by
    apply List.ext_getElem (by simp)
    intro i h1 h2
    simp [List.getD_eq_getElem?_getD,List.getElem?_eq_getElem h2]
   rwa [e2] at e1) (by
   rw [List.pairwise_map]
   refine List.pairwise_iff_getElem.mpr fun i j hi hj hij=>?_
   rw [Array.length_toList] at hi hj
   have:=hup i j hij (okV hj hsz)
   have gi:gt p i=p.toList[i]:=by have:=uf hi;rw [← Array.getElem?_toList,List.getElem?_eq_getElem (by simpa using hi)] at this;exact (Option.some.inj this).symm
   have gj:gt p j=p.toList[j]:=by have:=uf hj;rw [← Array.getElem?_toList,List.getElem?_eq_getElem (by simpa using hj)] at this;exact (Option.some.inj this).symm
   refine sq gi (sq gj ?_)
   exact this)
  refine KasFin.intro F' N' (UpdF.again U) fun h'' c2 F'' N''=>?_
  refine ⟨.none,σ2,.none,?_,hq⟩
  have hout:VRs ((p.toList.map fun i=>bs.getD i (0,(0,0,0))).map fun b=>V.ref b.1) (p.toList.map fun i=>vs.getD i Value.none):=by
   have:∀ l:List Nat,(∀ i∈l,i<bs.length)->VRs ((l.map fun i=>bs.getD i (0,(0,0,0))).map fun b=>V.ref b.1) (l.map fun i=>vs.getD i Value.none):=by
    intro l
    induction l with
    | nil=>intro _;exact .nil
    | cons i l ih=>
     intro hl
     have hi:=hl i (.head _)
     refine .cons ?_ (ih fun j hj=>hl j (.tail _ hj))
     refine (?_:VR (V.ref (bs.getD i (0,(0,0,0))).1) (vs.getD i Value.none))
     rw [hvs i bs[i] (List.getElem?_eq_getElem hi)]
     have:bs.getD i (0,(0,0,0))=bs[i]:=by rw [List.getD_eq_getElem?_getD,List.getElem?_eq_getElem hi];rfl
     refine sr this ?_
     exact .ref _
   exact this _ fun i hi=>List.mem_range.mp (hp.mem_iff.mp hi)
  exact back _ σ2 h'' _ s.toks P2 F'' N'' (.list c2 hout (by simp;lia))
theorem KW {D:Addr} {xs:List V} (m:(D,O.list xs)∈σ) (h2:xs.length<2) (P:Put D (.list xs) σ σ') (h:Q .none σ'):zm W lv (.bi "list.sort") [.ref D] σ Q:=zQ fun c ρ Φ s Cx r=>by
 obtain ⟨vs,n,hv,hk,ia⟩:=r.isL m
 have hlen:=hv.length
 obtain ⟨σ0,P0⟩:=Put.ex (.list []) m
 have g1:=ia.update (fun _=>(#[]:Array Value))
 have r1:=r.upd (t:=s.toks) P0 (.list (vs:=[]) _ .nil (by simp)) (Heap.SameBut.update _ D (Obj.mapSeq fun _=>(#[]:Array Value))) g1
 have k2:∀ b o,(s.heap.update D (Obj.mapSeq fun _=>(#[]:Array Value))).get? b=some o->(((s.heap.update D (Obj.mapSeq fun _=>(#[]:Array Value))).push (seqObj "tuple" vs.toArray 0)).push (seqObj "list" #[] 0)).get? b=some o:=fun b o e=>Heap.get?_push_of_some _ (Heap.get?_push_of_some _ e)
 have r2:=R0.keeps (t:=s.toks) r1 k2
 have g2:=k2 _ _ g1
 refine wpAny_call_entry PySem.F.slot_list_sort ⟨_,ia,rfl⟩ PySem.F.entry_list_sort ?_ (PySem.F.args_list_sort_1 _)
 rw [list_sort_plain]
 refine wpAny_bind (listItems_at ia rfl ?_)
 refine wpAny_bind (listUpdate_at ia rfl ?_ (by refine sr List.size_toArray (sr sizeLine_eq ?_);omega) (Nat.zero_le _))
 refine wpAny_bind (seqEpoch_at g1 rfl ?_)
 refine wpAny_bind (wpAny_newTuple ?_ (by refine (?_:vs.length<=_);refine sr sizeLine_eq ?_;omega))
 refine wpAny_bind (wpAny_newList ?_ (Nat.zero_le _))
 refine wpAny_holding ?_
 refine (?_:wpAny _ _ _ _ _ { s with heap:=((s.heap.update D (Obj.mapSeq fun _=>(#[]:Array Value))).push (seqObj "tuple" vs.toArray 0)).push (seqObj "list" #[] 0) })
 dsimp only
 have hn2:vs.toArray.size<2:=by refine sr List.size_toArray ?_;exact okZ h2 hlen.symm
 refine sr (if_pos hn2) (sr (if_pos hn2) ?_)
 refine wpAny_bind (wpAny_pure ?_)
 rw [StateT.run_pure]
 refine wpAny_bind (wpAny_pure ?_)
 dsimp only
 refine wpAny_bind (seqEpoch_at g2 rfl ?_)
 have hz:(arrOf (SortSt.mk' general' (vs.toArray.zip vs.toArray) #[] 7 none)).map (·.2)=vs.toArray:=by
  refine (?_:(vs.toArray.zip vs.toArray).map (·.2)=vs.toArray)
  apply Array.ext'
  simp [List.map_snd_zip]
 refine sr hz ?_
 refine wpAny_bind (listUpdate_at g2 rfl ?_ (Nat.zero_le _) (by refine sr List.size_toArray (sr sizeLine_eq ?_);lia))
 simp only [bne_self_eq_false,Bool.false_eq_true,if_false]
 refine wpAny_pure ⟨.none,rfl,.none,σ',.none,?_,h⟩
 have g2':IsL (((s.heap.update D (Obj.mapSeq fun _=>(#[]:Array Value))).push (seqObj "tuple" vs.toArray 0)).push (seqObj "list" #[] 0)) D #[] _:=g2
 have g3:=g2'.update (fun _=>vs.toArray)
 exact r2.upd (t:=s.toks) (P0.re P r.nd) (.list _ hv hk) (Heap.SameBut.update _ D (Obj.mapSeq fun _=>vs.toArray)) g3
theorem KX {a:Addr} {xs:List V} {Q:V->List V->Led->Prop} (m:(a,O.list xs)∈σ) (h:Q (.bi "list.sort") [.ref a] σ):qP W lv (.ref a) "sort" σ Q:=QK PySem.F.slot_list_sort PySem.F.type_list_sort m h
theorem uq {C f sm D:Addr} {bs:List (Addr×T3)} (k:TsOk W.K C f sm) (hlv:lv<=100) (m:(D,O.list (bs.map fun b=>V.ref b.1))∈σ) (hb:∀ b∈bs,(b.1,O.tsub C (v3 b.2))∈σ) (nd:(bs.map (·.2)).Nodup) (h64:bs.length<64)
  (h:∀ ys:List (Addr×T3),ys.Perm bs->ys.Pairwise (fun a b=>tlt a.2 b.2=true)->∃ σ',Put D (.list (ys.map fun b=>V.ref b.1)) σ σ'/\Q .none σ'):zm W lv (.bi "list.sort") [.ref D] σ Q:=by
 by_cases h2:2<=bs.length
 ·exact KV k hlv m hb nd h2 h64 h
 ·have hp:bs.Pairwise (fun a b=>tlt a.2 b.2=true):=by
   match bs,h2 with
   | [],_=>exact .nil
   | [b],_=>simp
   | a::b::r,h2=>simp at h2
  refine e12 (h bs (List.Perm.refl _) hp) fun σ' P hq=>?_
  exact KW m (by simp;exact oki h2) P hq
end
end
section
theorem ur:builtinKind "tuple.__len__" = some .slot:=by decide +kernel
theorem KY:splitId "tuple.__len__" = some ("tuple","__len__"):=by decide +kernel
theorem uu (self:Value):bindSpecial (.builtin "tuple.__len__") self=pure (.builtin "tuple.__len__",[self]):=PySem.F.slot_tuple_len.bind self
section
variable {prog:Program} {w:World} {A:Around} {E:Value->Shared->Prop} {s:Shared}
theorem zby {x C dx:Addr} {vs:Array Value} {n:Nat} {Q:Value->Shared->Prop} (Y:TsAt (model prog w) s.heap C) (g:s.heap.get? x=some { cls:=.ref C,dict:=some dx,data:=.seq vs n,slots:=#[] }) (hfit:(vs.size:Int)<2 ^ 63)
  (h:Q (.int vs.size (s.toks+1)) { s with toks:=s.toks+1+1 }):wpAny (model prog w) A (call (.builtin "len") [.ref x]) Q E s:=by
 obtain ⟨t1,i1⟩:=Zi Y g
 have hl:=Y.len
 refine Calls.call_function_entry kind_len plain_len entry_len (args_len1 _) ?_
 refine wpAny_bind (m:=oneArg "len" _) (wpAny_pure ?_)
 have cal:wpAny (model prog w) A.in1 (call (.builtin "tuple.__len__") ([.ref x]++[])) (fun r s'=>r=.int vs.size s.toks/\s'={ s with toks:=s.toks+1 }) E s:=by
  refine wpAny_call (codeAny_call_builtin PySem.F.slot_tuple_len.plain PySem.F.entry_tuple_len (@check_slot (model prog w) _ _ s "tuple.__len__" "tuple" "__len__" (.ref x) [] [] _ ur KY i1 (PySem.F.args_tuple_len_1 _) ?_))
  refine (?_:wpAny _ _ (do retInt (← Builtin.Tuple.tupleItemsOf (.ref x)).size) _ _ s)
  refine wpAny_bind (wpAny_bind (wpAny_seqItems g rfl (wpAny_pure ?_)))
  exact wpAny_bind (wpAny_mkInt (wpAny_pure ⟨rfl,rfl⟩))
 refine wpAny_bind (wpAny_mono (Q:=fun r s'=>r=some (.int vs.size s.toks)/\s'={ s with toks:=s.toks+1 }) ?_ (fun r s' h'=>?_) fun _ _ e=>e)
 ·simp only [callSpecial?,specialOf]
  refine wpAny_bind (wpAny_bind (t1.here (hl.here ?_)))
  refine wpAny_holding ?_
  rw [uu]
  refine wpAny_bind (wpAny_pure (wpAny_bind (wpAny_mono cal (fun v s' h'=>wpAny_pure ⟨by exact sr h'.1 rfl,h'.2⟩) fun _ _ e=>e)))
 ·obtain ⟨rfl,rfl⟩:=h'
  refine wpAny_bind (wpAny_holding (wpAny_pure ?_))
  refine wpAny_bind (wpAny_letGo ?_)
  refine (?_:wpAny _ _ (if ((vs.size:Nat):Int)<0 then _ else _) _ _ _)
  refine sr (if_neg okK) ?_
  refine (?_:wpAny _ _ (if ((vs.size:Nat):Int)≥2 ^ 63 then _ else _) _ _ _)
  refine sr (if_neg (by omega)) ?_
  exact wpAny_bind (wpAny_mkInt (wpAny_pure ⟨_,rfl,h⟩))
end
section
variable {W:Wd} {lv:Nat} {σ σ':Led} {Q:V->Led->Prop}
theorem Yg {C f sm x:Addr} {xs:List V} (k:TsOk W.K C f sm) (m:(x,O.tsub C xs)∈σ) (hl:xs.length<=1000) (h:Q (.int xs.length) σ):zm W lv (.bi "len") [.ref x] σ Q:=zQ fun c ρ Φ s Cx r=>by
 obtain ⟨o,g,zo⟩:=r.get m
 refine e33 zo.jh fun vs k' dx hv hk w0=>?_;subst w0
 have Y:=KJ (M:=W.M) (Cx.kin.keeps (fun b o e=>r.old e)) k
 have hlen:=hv.length
 refine zby Y g (by simp;omega) ⟨.int xs.length,σ,?_,r.toks _,h⟩
 have e:(vs.toArray.size:Int)=(xs.length:Int):=by simp;exact okl hlen.symm
 refine sr e ?_
 exact .int _ _
structure MmOk (K:Frag) (C p f:Addr):Prop where
 find:findCls K (.ref C) (.type "type") "_make" = some (.get (.builtin "classmethod.__get__") (.ref p) .none (.ref C))
 recd:recIn K p "classmethod" = some [.ref f,.bool false]
 view:zt K f=some Zu
theorem uw {C f sm fm p t:Addr} {a b d:V} (k:TsOk W.K C f sm) (km:MmOk W.K C p fm) (hlv:lv<90) (m:(t,O.tup [a,b,d])∈σ) (h:∀ x,Q (.ref x) ((x,.tsub C [a,b,d])::σ)):Q9 W lv fm [.ref C,.ref t] σ Q:=by
 refine ZU km.view (oka hlv (by decide)) (Nat.le_refl 2) (Nat.le_refl 2) ?_
 refine za (p:=.pass) ?_
 refine za (QP (jZ k m (by simp) fun x=>?_))
 refine za (Yg k (.head _) (by simp) (gw ?_))
 exact za ⟨_,Sub.refl _,h x⟩
theorem ux {C f sm fm p:Addr} (k:TsOk W.K C f sm) (km:MmOk W.K C p fm) (h:∀ q,Q (.ref q) ((q,.raw (methodObj (.ref fm) (.ref C)))::σ)):Op W lv (.attr "_make") [.ref C] σ Q:=.sh fun c ρ Φ s Cx r=>by
 obtain ⟨fr,up,r⟩:=r.ex
 obtain ⟨m,os,FF,lo,l,N,nd⟩:=r.ex
 refine cls_cm (K:=W.K) FF Cx.kin N k.typ2 k.reads km.find km.recd fun q h' F' N' lt=>?_
 refine ⟨.ref q,_,.ref q,⟨fr,up,⟨⟨m,(q,methodObj (.ref fm) (.ref C))::os,F',lo,.cons (.raw _) l,N',?_⟩,r.gens,r.os⟩⟩,h q⟩
 rw [List.cons_append,List.map_cons,List.nodup_cons]
 refine ⟨fun e=>?_,nd⟩
 refine e12 (List.mem_map.mp e) fun p' hp e=>?_
 have:=lt p' hp
 rw [e] at this
 exact Nat.lt_irrefl _ this
theorem R1.hide {F:Fm} {ρ:List (Option V)} {Φ:List (Addr×Obj)} {s:Shared} {a:Addr} {x:O} (r:R1 W.prog W.w F ρ ((a,x)::σ) Φ s):∃ o,OR W.prog W.w x o/\R1 W.prog W.w F ρ σ ((a,o)::Φ) s:=by
 obtain ⟨m',os,FF,lo,l,N,nd⟩:=r.ex
 cases l with
 | @cons _ _ o _ os' z l=>
  have pm:((a,o)::os'++Φ).Perm (os'++(a,o)::Φ):=List.perm_middle.symm
  exact ⟨o,z,⟨⟨m',os',FF,lo,l,fun p hp=>N p (pm.mem_iff.mpr hp),((pm.map (·.1)).nodup_iff).mp nd⟩,r.gens,r.os⟩⟩
theorem R0.hide {F:Fm} {ρ:List (Option V)} {Φ:List (Addr×Obj)} {s:Shared} {a:Addr} {x:O} (r:R0 W.prog W.w F ρ ((a,x)::σ) Φ s):∃ o,OR W.prog W.w x o/\R0 W.prog W.w F ρ σ ((a,o)::Φ) s:=by
 obtain ⟨fr,up,r⟩:=r.ex
 refine e12 (R1.hide r) fun o z r=>?_
 exact ⟨o,z,fr,up,r⟩
theorem uy {q l:Addr} {xs:List V} (m:(l,O.list xs)∈σ) (h:∀ mp tt J,Q (.ref mp) ((mp,.raw (mapO tt (.ref q)))::(tt,.raw (tupO [.ref J]))::(J,.liter l 0)::σ)):zm W lv (.ty "map") [.ref q,.ref l] σ Q:=z7 fun c ρ Φ s C r=>by
 obtain ⟨vs,n,hv,hk,ia⟩:=r.isL m
 refine Hj ia ?_
 have r1:=r.newO (x:=.liter l 0) (t:=s.toks) (o:=liO l) (.liter rfl rfl) rfl
 have r2:=r1.newO (x:=.raw (tupO [.ref s.heap.objs.size])) (t:=s.toks) (.raw _) rfl
 have r3:=r2.newO (x:=.raw (mapO (s.heap.push (liO l)).objs.size (.ref q))) (t:=s.toks) (.raw _) rfl
 exact ⟨_,_,.ref _,r3,h _ _ _⟩
end
end
section
section
variable {W:Wd} {lv:Nat} {σ σ':Led} {Q:V->Led->Prop}
theorem step_map {mp tt J q l C fm:Addr} {xs:List V} {i:Nat} {σ1 σe:Led} {Q:Option V->Led->Prop} (m1:(mp,O.raw (mapO tt (.ref q)))∈σ) (m2:(tt,O.raw (tupO [.ref J]))∈σ) (m3:(J,O.liter l i)∈σ) (m4:(l,O.list xs)∈σ) (m5:(q,O.raw (methodObj (.ref fm) (.ref C)))∈σ)
  (P:Put J (.liter l (i+1)) σ σ1) (he:Sub ((J,.liter l i)::σe) σ) (h0:xs[i]?=none->Q none σe) (h1:∀ x,xs[i]?=some x->Q9 W (lv+1) fm [.ref C,x] σ1 fun v σ'=>∃ σ'',Sub σ'' σ'/\Q (some v) σ''):KU W lv mp σ Q:=⟨fun c ρ Φ s Cx r=>by
 obtain ⟨o1,g1,z1⟩:=r.get m1;cases z1.ZX
 obtain ⟨o2,g2,z2⟩:=r.get m2;cases z2.ZX
 obtain ⟨o3,g3,z3⟩:=r.get m3
 obtain ⟨vs,n,hv,hk,ia⟩:=r.isL m4
 have hlen:=hv.length
 have hit:s.heap.IsListIter J l i:=by
  cases z3 with
  | liter hc hd=>exact ⟨o3,g3,hc,hd⟩
 cases e:xs[i]? with
 | none=>
  have e':vs.toArray[i]?=none:=by
   rw [List.getElem?_eq_none_iff] at e
   simp;exact okY e hlen.symm
  refine X3 Cx.handled g1 g2 hit ia.isList e' fun h' ex=>?_
  refine e12 ((r.sub he).hide) fun o zo r'=>?_
  exact ⟨σe,R0.yL (t:=s.toks) r' fun b o hb e=>ex b o hb e,h0 e⟩
 | some x=>
  obtain ⟨u,hu,z⟩:=hv.get e
  have ne:mp≠J:=fun e=>by rw [e] at m1;cases Yd r.nd m1 m3
  refine xE g1 g2 ne hit ia.isList (x:=u) (by simpa using hu) (fun h' hit' sb=>?_) (fun _ _ h=>h)
  refine e13 hit' fun o' ho' hc' hd'=>?_
  have r1:=r.upd (t:=s.toks) P (.liter hc' hd') sb ho'
  obtain ⟨o5,g5,z5⟩:=r1.get (P.other m5 (fun e=>by rw [e] at m5;cases Yd r.nd m5 m3))
  cases z5.ZX
  refine wpAny_call (method_call g5 ?_)
  refine (h1 x e).run { c with A:=c.A.in1 } ρ Φ _ [.ref C,u] _ Cx.in1 (.cons (.ref C) (.cons z .nil)) r1 fun v s' hp=>?_
  obtain ⟨y,σ',zy,r',σ'',hs,hq⟩:=hp
  exact ⟨y,σ'',zy,r'.sub hs,hq⟩⟩
noncomputable abbrev tsE (C:Addr) (bs:List (Addr×T3)):Led:=bs.map fun b=>(b.1,O.tsub C (v3 b.2))
theorem Sub.of_append:∀ {a b:Led},Sub b (a++b)
 | [],b=>Sub.refl b
 | p::a,b=>Sub.skip Sub.of_append
theorem Sub.qV {b:Led}:∀ {a r:Led},(a++r).Perm b->Sub a b
 | [],r,_=>.nil _
 | p::a,r,h=>.cons h (Sub.qV (List.Perm.refl (a++r)))
theorem Sub.mem1 {p:Addr×O} {σ:Led} (m:p∈σ):Sub [p] σ:=by
 refine e21 (List.append_of_mem m) fun a b w0=>?_;refine sr w0 ?_
 exact Sub.qV (a:=[p]) (r:=a++b) (show (p::(a++b)).Perm (a++p::b) from List.perm_middle.symm)
theorem xF {C f sm fm p q mp tt J l:Addr} {ts:List (Addr×T3)} {σ0:Led} (k:TsOk W.K C f sm) (km:MmOk W.K C p fm) (hlv:lv<80) (hl:(l,O.list (ts.map fun b=>V.ref b.1))∈σ0) (ht:∀ b∈ts,(b.1,O.tup (v3 b.2))∈σ0) (hn:ts.length<1000)
  (hσ:σ=(mp,.raw (mapO tt (.ref q)))::(tt,.raw (tupO [.ref J]))::(J,.liter l 0)::(q,.raw (methodObj (.ref fm) (.ref C)))::σ0)
  (h:∀ D bs,bs.map (·.2)=ts.map (·.2)->Q (.ref D) ((D,.list (bs.map fun b=>V.ref b.1))::(tsE C bs++σ0))):zm W lv (.ty "list") [.ref mp] σ Q:=by
 refine j0 (fun D=>⟨fun c ρ Φ s Cx r=>?_,fun c ρ Φ s Cx r=>?_⟩) (fun D=>⟨ts.length+1,?_⟩) ⟨.raw (mapO tt (.ref q)),by refine sr hσ ?_;exact .head _⟩
 ·have m1:(mp,O.raw (mapO tt (.ref q)))∈(D,O.list [])::σ:=by refine sr hσ ?_;exact .tail _ (.head _)
  obtain ⟨o1,g1,z1⟩:=r.get m1;cases z1.ZX
  exact ⟨.type "map",(Looks.ld g1).andThen .now,by decide,by decide,Looks.of_pure ue,Looks.of_pure KO⟩
 ·have m1:(mp,O.raw (mapO tt (.ref q)))∈(D,O.list [])::σ:=by refine sr hσ ?_;exact .tail _ (.head _)
  obtain ⟨o1,g1,z1⟩:=r.get m1;cases z1.ZX
  exact Hk g1 ⟨rfl,r⟩
 ·have key:∀ j i bs,i+j=ts.length->bs.map (·.2)=(ts.take i).map (·.2)->
    Js W (lv+1) mp D (fun xs σ'=>Q (.ref D) σ') (j+1) (bs.map fun b=>V.ref b.1) ((D,.list (bs.map fun b=>V.ref b.1))::(mp,.raw (mapO tt (.ref q)))::(tt,.raw (tupO [.ref J]))::(J,.liter l i)::(q,.raw (methodObj (.ref fm) (.ref C)))::(tsE C bs++σ0)):=by
   intro j
   induction j with
   | zero=>
    intro i bs hi hb
    have hi':i=ts.length:=hi
    subst hi'
    rw [List.take_length] at hb
    have main:=h D bs hb
    refine step_map (.tail _ (.head _)) (.tail _ (.tail _ (.head _))) (.tail _ (.tail _ (.tail _ (.head _)))) (.tail _ (.tail _ (.tail _ (.tail _ (.tail _ (List.mem_append_right _ hl)))))) (.tail _ (.tail _ (.tail _ (.tail _ (.head _)))))
     (.there _ (.there _ (.there _ (.here _ _)))) (σe:=(D,.list (bs.map fun b=>V.ref b.1))::(tsE C bs++σ0)) ?_ (fun _=>main) (fun x hx=>by simp at hx)
    exact Sub.swap (Sub.keep (Sub.skip (Sub.skip (Sub.keep (Sub.skip (Sub.refl _))))))
   | succ j ih=>
    intro i bs hi hb
    have hlt:i<ts.length:=oku hi
    have eb:bs.length=i:=by have:=congrArg List.length hb;simp at this;lia
    refine step_map (.tail _ (.head _)) (.tail _ (.tail _ (.head _))) (.tail _ (.tail _ (.tail _ (.head _)))) (.tail _ (.tail _ (.tail _ (.tail _ (.tail _ (List.mem_append_right _ hl)))))) (.tail _ (.tail _ (.tail _ (.tail _ (.head _)))))
     (.there _ (.there _ (.there _ (.here _ _)))) (σe:=[]) (Sub.mem1 (.tail _ (.tail _ (.tail _ (.head _))))) (fun e=>by simp at e;omega) (fun x hx=>?_)
    rw [List.getElem?_map,List.getElem?_eq_getElem hlt] at hx
    cases hx
    refine uw k km (okg (okb hlv (by decide))) (.tail _ (.tail _ (.tail _ (.tail _ (.tail _ (List.mem_append_right _ (ht _ (List.getElem_mem hlt)))))))) fun x=>?_
    refine ⟨(D,.list (bs.map fun b=>V.ref b.1))::(mp,.raw (mapO tt (.ref q)))::(tt,.raw (tupO [.ref J]))::(J,.liter l (i+1))::(q,.raw (methodObj (.ref fm) (.ref C)))::(tsE C (bs++[(x,ts[i].2)])++σ0),?_,.head _,by simp;omega,_,.here _ _,?_⟩
    ·refine Sub.qV (r:=[]) ?_
     rw [List.append_nil]
     have e:(tsE C (bs++[(x,ts[i].2)])++σ0)=tsE C bs++((x,O.tsub C (v3 ts[i].2))::σ0):=by simp [tsE]
     refine sr e ?_
     exact List.perm_middle (l₁:=(D,.list (bs.map fun b=>V.ref b.1))::(mp,.raw (mapO tt (.ref q)))::(tt,.raw (tupO [.ref J]))::(J,.liter l (i+1))::(q,.raw (methodObj (.ref fm) (.ref C)))::tsE C bs)
    ·have:=ih (i+1) (bs++[(x,ts[i].2)]) (okv hi) (by refine sr List.map_append (sr hb (sr (List.take_succ_eq_append_getElem hlt) (sr List.map_append ?_)));rfl)
     rw [List.map_append] at this
     exact this
  refine sr hσ ?_
  exact key ts.length 0 [] (Nat.add_comm _ _) rfl
end
end
section
structure SmOk (K:Frag):Prop where
 mod:(K.lookup sysModules).isSome=true
 cl:ClOk K 955 vG
 make:MkOk K 955 873
 set_seqs:MeOk K 955 "set_seqs" 880
 set_seq1:MeOk K 955 "set_seq1" 887
 set_seq2:MeOk K 955 "set_seq2" 894
 chain_b:MeOk K 955 "_SequenceMatcher__chain_b" 901
 flm:MeOk K 955 "find_longest_match" 909
 gmb:MeOk K 955 "get_matching_blocks" 916
 opcodes:MeOk K 955 "get_opcodes" 923
 mt:TsOk K 848 795 849
 mm:MmOk K 848 804 802
noncomputable def smK:List Str:=["isjunk","a","b","autojunk"]
noncomputable def smK6:List Str:=(smK++[("matching_blocks" : Str)])++[("opcodes" : Str)]
noncomputable def smK7:List Str:=smK6++[("fullbcount" : Str)]
noncomputable def zag:List Str:=((smK7++[("b2j" : Str)])++[("bjunk" : Str)])++[("bpopular" : Str)]
noncomputable abbrev smL (x dx:Addr) (ks:List Str) (vs:List V) (σ:Led):Led:=(x,.inst 955 dx)::(dx,.fld (ks.zip vs))::σ
section
variable {W:Wd} {lv:Nat} {σ:Led} {Q:V->Led->Prop} {x dx:Addr}
theorem Yh {a:Addr} {ij aj:V} (P:PrOk W.K) (S:SmOk W.K) (hlv:lv<90) (h:Q .none (smL x dx smK6 [ij,.ref a,.none,aj,.none,.none] σ)) :
  zm W lv (.ref 887) [.ref x,.ref a] (smL x dx smK [ij,.none,.none,aj] σ) Q:=by
 refine zA P.h_set_seq1 (oka hlv (by decide)) (Nat.le_refl 2) (Nat.le_refl 2) ?_
 refine za (p:=.pass) ?_
 refine za (zf (i:=1) S.cl (by decide +kernel) (.head _) (.tail _ (.head _)) (by decide +kernel) rfl rfl (zI (b:=false) rfl ?_))
 refine za (zR (i:=1) S.cl (by decide +kernel) (.head _) (.tail _ (.head _)) (by decide +kernel) (by simp) (by decide) (.there _ (.here _ _)) ?_)
 refine za (zg S.cl (by decide +kernel) (.head _) (.tail _ (.head _)) (by decide +kernel) rfl (by decide) (.there _ (.here _ _)) ?_)
 refine zg S.cl (by decide +kernel) (.head _) (.tail _ (.head _)) (by decide +kernel) rfl (by decide) (.there _ (.here _ _)) ?_
 exact ⟨_,Sub.refl _,h⟩
theorem Sub.a1 {p p0:Addr×O} {τ σ:Led} (h:Sub τ (p0::σ)):Sub (p::τ) (p0::p::σ):=.cons (show (p::p0::σ).Perm (p0::p::σ) from (List.perm_middle (l₁:=[p0])).symm) h
theorem Sub.a2 {p p0 p1:Addr×O} {τ σ:Led} (h:Sub τ (p0::p1::σ)):Sub (p::τ) (p0::p1::p::σ):=.cons (show (p::p0::p1::σ).Perm (p0::p1::p::σ) from (List.perm_middle (l₁:=[p0,p1])).symm) h
theorem Sub.a3 {p p0 p1 p2:Addr×O} {τ σ:Led} (h:Sub τ (p0::p1::p2::σ)):Sub (p::τ) (p0::p1::p2::p::σ):=.cons (show (p::p0::p1::p2::σ).Perm (p0::p1::p2::p::σ) from (List.perm_middle (l₁:=[p0,p1,p2])).symm) h
theorem Sub.a4 {p p0 p1 p2 p3:Addr×O} {τ σ:Led} (h:Sub τ (p0::p1::p2::p3::σ)):Sub (p::τ) (p0::p1::p2::p3::p::σ):=.cons (show (p::p0::p1::p2::p3::σ).Perm (p0::p1::p2::p3::p::σ) from (List.perm_middle (l₁:=[p0,p1,p2,p3])).symm) h
noncomputable abbrev DE:=List (Wo×Addr×List Nat)
noncomputable abbrev Z1 (D:DE):List (Str×V):=D.map fun p=>(mkS p.1,V.ref p.2.1)
noncomputable abbrev jsV (js:List Nat):List V:=js.map fun (j:Nat)=>V.int (j:Int)
noncomputable abbrev dLed (D:DE):Led:=D.map fun p=>(p.2.1,O.list (jsV p.2.2))
theorem zah {a b:Wo} (h:mkS a=mkS b):a=b:=by
 have:=congrArg (fun s:Str=>s.cps.toList) h
 simpa using this
theorem uz:∀ {D:DE} {w:Wo} {y:V},Zo (Z1 D) (mkS w)=some y->∃ D1 a js D2,D=D1++(w,a,js)::D2/\y=.ref a
 | [],w,y,h=>by exact nn1 h
 | p::D,w,y,h=>by
  unfold Zo at h
  rw [show Z1 (p::D)=(mkS p.1,V.ref p.2.1)::Z1 D from rfl,List.find?_cons] at h
  by_cases e:mkS p.1=mkS w
  ·simp only [e,decide_true] at h
   cases h
   have:=zah e
   exact ⟨[],p.2.1,p.2.2,D,by refine sq this ?_;rfl,rfl⟩
  ·simp only [e,decide_false] at h
   refine e42 (uz (D:=D) (w:=w) (y:=y) h) fun D1 a js D2 h1 h2=>?_
   exact ⟨p::D1,a,js,D2,by refine sr h1 ?_;rfl,h2⟩
theorem uA {es:List (Str×V)} {k:Str} {v:V} (h:Zo es k=none):ZK es k v=es++[(k,v)]:=by
 unfold Zo at h
 unfold ZK
 have:es.any (fun kv=>kv.1=k)=false:=by
  rw [Option.map_eq_none_iff,List.find?_eq_none] at h
  rw [List.any_eq_false]
  exact h
 exact sr this (sr (if_neg Bool.false_ne_true) rfl)
theorem Put.app {a:Addr} {y:O} {σ σ' τ:Led} (P:Put a y σ σ'):Put a y (σ++τ) (σ'++τ):=by
 induction P with
 | here x σ=>exact .here _ _
 | there p _ ih=>exact .there _ ih
theorem Put.mid {a:Addr} {x y:O} {l2:Led}:∀ {l1:Led},Put a y (l1++(a,x)::l2) (l1++(a,y)::l2)
 | []=>.here _ _
 | p::l1=>.there p Put.mid
theorem ku {cl:List V} {ρ:List (Option V)} {σ:Led} {K:AFl->List (Option V)->Led->Prop} {store:V->List (Option V)->Led->(List (Option V)->Led->Prop)->Prop} {body:List (Option V)->Led->(AFl->List (Option V)->Led->Prop)->Prop} {a:Addr}
  (n:Nat) (I:Nat->List V->List (Option V)->Led->Prop) (mem:∀ i xs ρ σ,I i xs ρ σ->xs.length=n/\(a,O.list xs)∈σ)
  (step:∀ i xs x t ρ σ (R:AFl->List (Option V)->Led->Prop),xs[i]?=some x->I i xs ρ σ->(∀ fl ρ' σ',(fl=.next\/fl=.cont)->(∃ σ'' xs',Sub σ'' σ'/\I (i+1) xs' ρ' σ'')->R fl ρ' σ')->(∀ fl ρ' σ',(match fl with | .brk=>K .next ρ' σ' | .ret v=>K (.ret v) ρ' σ' | _=>False)->R fl ρ' σ')->
   store (.ref t) ρ ((t,.tup [.int i,x])::σ) fun ρ σ=>body ρ σ R)
  (done:∀ xs ρ σ,I n xs ρ σ->K .next ρ σ) (h:∃ xs,I 0 xs ρ σ):∃ m,afor W lv true store body (.enum a) m 0 ρ σ K:=by
 refine ⟨n+1,?_⟩
 refine e11 h fun xs0 h=>?_
 suffices ∀ k i xs ρ σ,i+k=n->I i xs ρ σ->afor W lv true store body (.enum a) (k+1) i ρ σ K from this n 0 xs0 ρ σ (Nat.add_comm _ _) h
 intro k
 induction k with
 | zero=>
  intro i xs ρ σ hi h
  refine e02 (mem i xs ρ σ h) fun hx m=>?_
  refine Xx m (fun _=>?_) (fun x e=>by rw [List.getElem?_eq_none_iff.mpr (by lia)] at e;exact nn1 e)
  have:i=n:=hi
  subst this
  exact done xs ρ σ h
 | succ k ih=>
  intro i xs ρ σ hi h
  refine e02 (mem i xs ρ σ h) fun hx m=>?_
  refine Xx m (fun e=>by rw [List.getElem?_eq_none_iff] at e;omega) (fun x e t=>?_)
  refine step i xs x t ρ σ _ e h (fun fl ρ' σ' hf hh=>?_) (fun fl ρ' σ' hh=>?_)
  ·refine e22 hh fun σ'' xs' hs hI=>?_
   rcases hf with rfl | rfl
   ·exact ⟨σ'',hs,ih (i+1) xs' ρ' σ'' (okv hi) hI⟩
   ·exact ⟨σ'',hs,ih (i+1) xs' ρ' σ'' (okv hi) hI⟩
  ·cases fl <;> first | exact hh | exact hh.elim
noncomputable def DOk (ws:List Wo) (D:DE):Prop:=∀ p∈D,(∀ j∈p.2.2,ws[j]?=some p.1)/\p.2.2.length<=ws.length
theorem ZY {α:Type} {W:Wd} {lv:Nat} {cl:List V} {ρf:α->List (Option V)} {σf:Nat->α->Led} {xf:Nat->List V} {K:AFl->List (Option V)->Led->Prop} {store:V->List (Option V)->Led->(List (Option V)->Led->Prop)->Prop} {body:List (Option V)->Led->(AFl->List (Option V)->Led->Prop)->Prop} {a:Addr}
  (n:Nat) (P:Nat->α->Prop) (mem:∀ i s,(xf i).length=n/\(a,O.list (xf i))∈σf i s)
  (step:∀ i x t (R:AFl->List (Option V)->Led->Prop),(xf i)[i]?=some x->∀ s,P i s->(∀ fl s' τ,(fl=.next\/fl=.cont)->P (i+1) s'->Sub (σf (i+1) s') τ->R fl (ρf s') τ)->store (.ref t) (ρf s) ((t,.tup [.int i,x])::σf i s) fun ρ σ=>body ρ σ R)
  (done:∀ s,P n s->K .next (ρf s) (σf n s)) {s:α} (h:P 0 s):∃ m,afor W lv true store body (.enum a) m 0 (ρf s) (σf 0 s) K:=by
 refine ku (cl:=cl) n (fun i xs ρ σ=>∃ s,P i s/\xs=xf i/\ρ=ρf s/\σ=σf i s) ?_ ?_ ?_ ⟨_,s,h,rfl,rfl,rfl⟩
 ·rintro i xs ρ σ ⟨s,_,rfl,rfl,rfl⟩;exact mem i s
 ·rintro i xs x t ρ σ R hx ⟨s,hp,rfl,rfl,rfl⟩ hR _
  exact step i x t R hx s hp fun fl s' τ hf hp' hs=>hR fl _ _ hf ⟨_,_,hs,s',hp',rfl,rfl,rfl⟩
 ·rintro xs ρ σ ⟨s,hp,rfl,rfl,rfl⟩;exact done s hp
structure CD (ws:List Wo) (i:Nat) (D:DE):Prop where
 l:D.length<=i
 k:∀ p∈D,p.2.2.length<=i
 w:∀ p∈D,∀ j∈p.2.2,ws[j]?=some p.1
variable {ws:List Wo} {D D1 D2:DE} {i:Nat} {w:Wo} {a' l d:Addr} {js:List Nat} {F:List (Str×V)} {τ:Led} {K:AFl->List (Option V)->Led->Prop}
theorem CD.more (h:CD ws i (D1++(w,a',js)::D2)) (hw:ws[i]?=some w):CD ws (i+1) (D1++(w,a',js++[i])::D2) where
 l:=by have:=h.l;rw [List.length_append,List.length_cons] at this ⊢;exact Nat.le_succ_of_le this
 k p hp:=by
  refine ma hp (fun hp=>?_) fun hp=>?_
  ·exact Nat.le_succ_of_le (h.k p (List.mem_append_left _ hp))
  ·refine mo hp (fun e=>?_) fun hp=>?_
   ·refine sr e (sr List.length_append ?_);exact Nat.succ_le_succ (h.k (w,a',js) (List.mem_append_right _ (.head _)))
   ·exact Nat.le_succ_of_le (h.k p (List.mem_append_right _ (.tail _ hp)))
 w p hp j hj:=by
  refine ma hp (fun hp=>?_) fun hp=>?_
  ·exact h.w p (List.mem_append_left _ hp) j hj
  ·refine mo hp (fun e=>?_) fun hp=>?_
   ·rw [e] at hj ⊢
    refine ma hj (fun hj=>?_) fun hj=>?_
    ·exact h.w (w,a',js) (List.mem_append_right _ (.head _)) j hj
    ·refine sr (List.mem_singleton.mp hj) ?_;exact hw
   ·exact h.w p (List.mem_append_right _ (.tail _ hp)) j hj
theorem CD.new (h:CD ws i D) (hw:ws[i]?=some w):CD ws (i+1) (D++[(w,l,[i])]) where
 l:=by refine sr List.length_append ?_;exact Nat.succ_le_succ h.l
 k p hp:=by
  refine ma hp (fun hp=>?_) fun hp=>?_
  ·exact Nat.le_succ_of_le (h.k p hp)
  ·refine sr (List.mem_singleton.mp hp) ?_;exact Nat.succ_le_succ (Nat.zero_le _)
 w p hp j hj:=by
  refine ma hp (fun hp=>?_) fun hp=>?_
  ·exact h.w p hp j hj
  ·rw [List.mem_singleton.mp hp] at hj ⊢
   refine sr (List.mem_singleton.mp hj) ?_;exact hw
noncomputable def cbS (d x dx:Addr) (F:List (Str×V)) (σ:Led) (D:DE):Led:=(d,.sdict (Z1 D))::(x,.inst 955 dx)::(dx,.fld F)::(dLed D++σ)
theorem xG {js:List Nat}:dLed (D1++(w,a',js)::D2)=dLed D1++(a',O.list (jsV js))::dLed D2:=List.map_append
theorem Hp:Put a' (.list (jsV js++[.int i])) (cbS d x dx F σ (D1++(w,a',js)::D2)) (cbS d x dx F σ (D1++(w,a',js++[i])::D2)):=by
 have e:Z1 (D1++(w,a',js++[i])::D2)=Z1 (D1++(w,a',js)::D2):=by rw [Z1,List.map_append,Z1,List.map_append];rfl
 rw [cbS,cbS,e,xG,xG,show jsV (js++[i])=jsV js++[.int i] from List.map_append]
 exact .there _ (.there _ (.there _ (Put.app Put.mid)))
theorem uB {js:List Nat}:(a',O.list (jsV js))∈cbS d x dx F σ (D1++(w,a',js)::D2):=.tail _ (.tail _ (.tail _ (List.mem_append_left _ (by refine sr xG ?_;exact List.mem_append_right _ (.head _)))))
theorem zai:Sub (cbS d x dx F σ (D++[(w,l,[i])])) ((l,.list [.int i])::(d,.sdict (Z1 D++[(mkS w,.ref l)]))::(x,.inst 955 dx)::(dx,.fld F)::(dLed D++σ)):=by
 refine Sub.qV (r:=[]) ?_
 have e:dLed (D++[(w,l,[i])])++σ=dLed D++((l,O.list [.int i])::σ):=by rw [dLed,List.map_append,List.append_assoc];rfl
 have e2:Z1 (D++[(w,l,[i])])=Z1 D++[(mkS w,V.ref l)]:=List.map_append
 rw [List.append_nil,cbS,e,e2]
 exact List.perm_middle (l₁:=(d,.sdict (Z1 D++[(mkS w,V.ref l)]))::(x,.inst 955 dx)::(dx,.fld F)::dLed D)
noncomputable abbrev cbB:List PS:=(jl.body.getD 2 .pass).blk
theorem zaj {b:Addr} {r5:Option V} (S:SmOk W.K) (hi:i<1000) (hw:ws[i]?=some w) (hD:CD ws i D) (h:∀ D r τ,CD ws (i+1) D->Sub (cbS d x dx F σ D) τ->K .next [some (.ref x),some (.ref b),some (.ref d),some (.int i),some (.str w),r,none,none,none,none,none,none] τ) :
  aexs W lv [] cbB [some (.ref x),some (.ref b),some (.ref d),some (.int i),some (.str w),r5,none,none,none,none,none,none] (cbS d x dx F σ D) K:=by
 refine za (ja (.head _) (zC (Nat.zero_le _) fun l=>jS S.mod (.tail _ (.head _)) (by rw [List.length_map];exact okc hD.l (okd hi)) (fun y hy=>?_) (fun hy=>?_)))
 ·refine e42 (uz hy) fun D1 a' js D2 w0 w1=>?_;subst w0;refine sr w1 ?_
  refine ze ((Sub.refl _).skip) (zk (xs:=jsV js) uB (zq (xs:=jsV js) uB (by rw [List.length_map];exact okb (hD.k (w,a',js) (List.mem_append_right _ (.head _))) (oka hi (by decide))) Hp ?_))
  exact h _ _ _ (hD.more hw) (Sub.refl _)
 ·refine ⟨_,.there _ (.here _ _),?_⟩
  refine sr (uA hy) ?_
  refine za (zk (.head _) (zq (.head _) (Nat.zero_lt_succ _) (.here _ _) ?_))
  exact h _ _ _ (hD.new hw) zai
theorem KZ {b:Addr} {a:V} (P:PrOk W.K) (S:SmOk W.K) (hlv:lv<88) (mb:(b,O.list (ws.map V.str))∈σ) (hn:ws.length<200)
  (h:∀ d e e' (D:DE),DOk ws D->Q .none (smL x dx zag [.none,a,.ref b,.bool true,.none,.none,.none,.ref d,.ref e,.ref e'] ((d,.sdict (Z1 D))::(e,.eset)::(e',.eset)::(dLed D++σ)))) :
  zm W lv (.ref 901) [.ref x] (smL x dx smK7 [.none,a,.ref b,.bool true,.none,.none,.none] σ) Q:=by
 refine zA P.h_chain_b (oka hlv (by decide)) (Nat.le_refl 1) (Nat.le_refl 1) ?_
 refine za (zf (i:=2) S.cl (by decide +kernel) (.head _) (.tail _ (.head _)) (by decide +kernel) rfl rfl ?_)
 refine za (Hb fun d=>?_)
 refine zg S.cl (by decide +kernel) (.tail _ (.head _)) (.tail _ (.tail _ (.head _))) (by decide +kernel) rfl (by decide) (.there _ (.there _ (.here _ _))) ?_
 refine za (qb (.tail _ (.tail _ (.tail _ mb))) ?_)
 refine ZY (α:=DE×Option V×Option V×Option V) (cl:=[]) (ρf:=fun s=>[some (.ref x),some (.ref b),some (.ref d),s.2.1,s.2.2.1,s.2.2.2,none,none,none,none,none,none]) (σf:=fun _ s=>cbS d x dx ((smK7++[Str.ofString "b2j"]).zip [V.none,a,.ref b,.bool true,.none,.none,.none,.ref d]) σ s.1) (xf:=fun _=>ws.map V.str)
  (ws.map V.str).length (fun i s=>CD ws i s.1) (fun i s=>⟨rfl,.tail _ (.tail _ (.tail _ (List.mem_append_right _ mb)))⟩) ?_ ?_ (s:=([],none,none,none)) ⟨Nat.le_refl _,fun p hp=>(by exact nn9 hp),fun p hp=>(by exact nn9 hp)⟩
 ·rintro i y t R hy ⟨D,r3,r4,r5⟩ hD hR
  rw [List.getElem?_map,Option.map_eq_some_iff] at hy
  obtain ⟨w,hw,rfl⟩:=hy
  refine zp (.head _) rfl ?_
  refine Sub.aexs (Sub.refl _).skip (zaj S (oka (List.getElem?_eq_some_iff.mp hw).1 (okc (okd hn) (by decide))) hw hD fun D' r τ hD' hs=>?_)
  exact hR _ (D',_,_,r) τ (.inl rfl) hD' hs
 ·rintro ⟨D,r3,r4,r5⟩ hD
  have hD:DOk ws D:=fun p hp=>⟨hD.w p hp,by have:=hD.k p hp;rwa [List.length_map] at this⟩
  refine za (kn fun e=>?_)
  refine zg S.cl (by decide +kernel) (.tail _ (.tail _ (.head _))) (.tail _ (.tail _ (.tail _ (.head _)))) (by decide +kernel) rfl (by decide) (.there _ (.there _ (.there _ (.here _ _)))) ?_
  refine za (zf (i:=0) S.cl (by decide +kernel) (.tail _ (.tail _ (.head _))) (.tail _ (.tail _ (.tail _ (.head _)))) (by decide +kernel) rfl rfl ?_)
  refine za ?_
  refine za (kn fun e'=>?_)
  refine zg S.cl (by decide +kernel) (.tail _ (.tail _ (.tail _ (.head _)))) (.tail _ (.tail _ (.tail _ (.tail _ (.head _))))) (by decide +kernel) rfl (by decide) (.there _ (.there _ (.there _ (.there _ (.here _ _))))) ?_
  refine za (Zy (.tail _ (.tail _ (.tail _ (.tail _ (.tail _ (List.mem_append_right _ mb)))))) ?_)
  refine za (zf (i:=3) S.cl (by decide +kernel) (.tail _ (.tail _ (.tail _ (.head _)))) (.tail _ (.tail _ (.tail _ (.tail _ (.head _))))) (by decide +kernel) rfl rfl (Qh ?_))
  refine sr (show decide ((200:Int)<=((ws.map V.str).length:Int))=false from decide_eq_false (Int.not_le.mpr (by rw [List.length_map];exact okj hn))) ?_
  exact ⟨_,.a3 (.a3 (.a2 (.a1 (.keep (Sub.refl _))))),h d e e' D hD⟩
end
end
section
noncomputable abbrev smM (x dx:Addr) (a b d e e':Addr) (mbv opv:V) (D:DE) (σ:Led):Led:=smL x dx zag [.none,.ref a,.ref b,.bool true,mbv,opv,.none,.ref d,.ref e,.ref e'] ((d,.sdict (Z1 D))::(e,.eset)::(e',.eset)::(dLed D++σ))
section
variable {W:Wd} {lv:Nat} {σ:Led} {Q:V->Led->Prop} {x dx:Addr}
theorem Yi {a b:Addr} {ws:List Wo} (P:PrOk W.K) (S:SmOk W.K) (hlv:lv<87) (mb:(b,O.list (ws.map V.str))∈σ) (hn:ws.length<200)
  (h:∀ d e e' (D:DE),DOk ws D->Q .none (smM x dx a b d e e' .none .none D σ)) :
  zm W lv (.ref 894) [.ref x,.ref b] (smL x dx smK6 [.none,.ref a,.none,.bool true,.none,.none] σ) Q:=by
 refine zA P.h_set_seq2 (oka hlv (by decide)) (Nat.le_refl 2) (Nat.le_refl 2) ?_
 refine za (p:=.pass) ?_
 refine za (zf (i:=2) S.cl (by decide +kernel) (.head _) (.tail _ (.head _)) (by decide +kernel) rfl rfl (zI (b:=false) rfl ?_))
 refine za (zR (i:=2) S.cl (by decide +kernel) (.head _) (.tail _ (.head _)) (by decide +kernel) (by simp) (by decide) (.there _ (.here _ _)) ?_)
 refine za (zR (i:=4) S.cl (by decide +kernel) (.head _) (.tail _ (.head _)) (by decide +kernel) (by simp) (by decide) (.there _ (.here _ _)) ?_)
 refine zR (i:=5) S.cl (by decide +kernel) (.head _) (.tail _ (.head _)) (by decide +kernel) (by simp) (by decide) (.there _ (.here _ _)) ?_
 refine za (zg S.cl (by decide +kernel) (.head _) (.tail _ (.head _)) (by decide +kernel) rfl (by decide) (.there _ (.here _ _)) ?_)
 refine za (zN S.chain_b (.head _) (.tail _ (.head _)) (by decide +kernel) (KZ P S (okg hlv) mb hn fun d e e' D hD=>?_))
 exact ⟨_,Sub.refl _,h d e e' D hD⟩
theorem Yj {a b:Addr} {ws:List Wo} (P:PrOk W.K) (S:SmOk W.K) (hlv:lv<86) (mb:(b,O.list (ws.map V.str))∈σ) (hn:ws.length<200)
  (h:∀ d e e' (D:DE),DOk ws D->Q .none (smM x dx a b d e e' .none .none D σ)) :
  zm W lv (.ref 880) [.ref x,.ref a,.ref b] (smL x dx smK [.none,.none,.none,.bool true] σ) Q:=by
 refine zA P.h_set_seqs (oka hlv (by decide)) (Nat.le_refl 3) (Nat.le_refl 3) ?_
 refine za (p:=.pass) ?_
 refine za (zN S.set_seq1 (.head _) (.tail _ (.head _)) (by decide +kernel) (Yh P S (okb hlv (by decide)) ?_))
 refine za (zN S.set_seq2 (.head _) (.tail _ (.head _)) (by decide +kernel) (Yi P S (okg hlv) mb hn fun d e e' D hD=>?_))
 exact ⟨_,Sub.refl _,h d e e' D hD⟩
theorem K0 {a b:Addr} {ws:List Wo} (P:PrOk W.K) (S:SmOk W.K) (hlv:lv<85) (mb:(b,O.list (ws.map V.str))∈σ) (hn:ws.length<200)
  (h:∀ d e e' (D:DE),DOk ws D->Q .none (smM x dx a b d e e' .none .none D σ)) :
  Q9 W lv 873 [.ref x,.none,.ref a,.ref b] ((x,.inst 955 dx)::(dx,.fld [])::σ) Q:=by
 refine ZU P.h_sm_init (oka hlv (by decide)) (show 4<=5 by decide) (show 5<=4+4 by decide) ?_
 refine za (p:=.pass) ?_
 refine za (zg (ks:=[]) (vs:=[]) S.cl (by decide +kernel) (.head _) (.tail _ (.head _)) (by decide +kernel) rfl (by decide) (.there _ (.here _ _)) ?_)
 refine za (zg S.cl (by decide +kernel) (.head _) (.tail _ (.head _)) (by decide +kernel) rfl (by decide) (.there _ (.here _ _)) ?_)
 refine zg S.cl (by decide +kernel) (.head _) (.tail _ (.head _)) (by decide +kernel) rfl (by decide) (.there _ (.here _ _)) ?_
 refine za (zg S.cl (by decide +kernel) (.head _) (.tail _ (.head _)) (by decide +kernel) rfl (by decide) (.there _ (.here _ _)) ?_)
 refine za (zN S.set_seqs (.head _) (.tail _ (.head _)) (by decide +kernel) (Yj P S (okg hlv) mb hn fun d e e' D hD=>?_))
 exact ⟨_,Sub.refl _,h d e e' D hD⟩
theorem zak {a b:Addr} {ws:List Wo} (P:PrOk W.K) (S:SmOk W.K) (hlv:lv<84) (mb:(b,O.list (ws.map V.str))∈σ) (hn:ws.length<200)
  (h:∀ x dx d e e' (D:DE),DOk ws D->Q (.ref x) (smM x dx a b d e e' .none .none D σ)) :
  zm W lv (.ref 955) [.none,.ref a,.ref b] σ Q:=
 VZ S.make fun x dx=>K0 P S (okg hlv) mb hn fun d e e' D hD=>⟨rfl,h x dx d e e' D hD⟩
end
end
section
section
variable {W:Wd} {lv:Nat} {cl:List V} {ρ:List (Option V)} {σ:Led} {K:AFl->List (Option V)->Led->Prop}
theorem j3 {store:V->List (Option V)->Led->(List (Option V)->Led->Prop)->Prop} {body:List (Option V)->Led->(AFl->List (Option V)->Led->Prop)->Prop} {lo:Int} {n:Nat}
  (I:Nat->List (Option V)->Led->Prop)
  (step:∀ i ρ σ (R:AFl->List (Option V)->Led->Prop),i<n->I i ρ σ->(∀ fl ρ' σ',(fl=.next\/fl=.cont)->(∃ σ'',Sub σ'' σ'/\I (i+1) ρ' σ'')->R fl ρ' σ')->(∀ fl ρ' σ',(match fl with | .brk=>K .next ρ' σ' | .ret v=>K (.ret v) ρ' σ' | _=>False)->R fl ρ' σ')->
   store (.int (lo+i)) ρ σ fun ρ σ=>body ρ σ R)
  (done:∀ ρ σ,I n ρ σ->K .next ρ σ) (h:I 0 ρ σ):∃ m,afor W lv false store body (.range lo n) m 0 ρ σ K:=by
 refine ⟨n+1,?_⟩
 suffices ∀ k i ρ σ,i+k=n->I i ρ σ->afor W lv false store body (.range lo n) (k+1) i ρ σ K from this n 0 ρ σ (Nat.add_comm _ _) h
 intro k
 induction k with
 | zero=>
  intro i ρ σ hi h
  refine qw ?_ (oke hi)
  refine sr (if_neg (by exact Nat.not_lt_of_le (oke hi.symm))) ?_
  have:i=n:=hi
  subst this
  exact done ρ σ h
 | succ k ih=>
  intro i ρ σ hi h
  refine qw ?_ (okd (oku hi))
  refine sr (if_pos (oku hi)) ?_
  refine step i ρ σ _ (oku hi) h (fun fl ρ' σ' hf hh=>?_) (fun fl ρ' σ' hh=>?_)
  ·refine e12 hh fun σ'' hs hI=>?_
   rcases hf with rfl | rfl
   ·exact ⟨σ'',hs,ih (i+1) ρ' σ'' (okv hi) hI⟩
   ·exact ⟨σ'',hs,ih (i+1) ρ' σ'' (okv hi) hI⟩
  ·cases fl <;> first | exact hh | exact hh.elim
end
theorem X6 {ρ:List (Option V)} {σ:Led} {K:AFl->List (Option V)->Led->Prop} {test:List (Option V)->Led->(Bool->Led->Prop)->Prop} {body:List (Option V)->Led->(AFl->List (Option V)->Led->Prop)->Prop}
  (I:Nat->List (Option V)->Led->Prop)
  (step:∀ n ρ σ (T:Bool->Led->Prop),I n ρ σ->(∀ σ',K .next ρ σ'->T false σ')->(∀ σ',(∀ R:AFl->List (Option V)->Led->Prop,(∀ fl ρ' σ'',(fl=.next\/fl=.cont)->(∃ m σ3,m<n/\Sub σ3 σ''/\I m ρ' σ3)->R fl ρ' σ'')->(∀ fl ρ' σ'',(match fl with | .brk=>K .next ρ' σ'' | .ret v=>K (.ret v) ρ' σ'' | _=>False)->R fl ρ' σ'')->body ρ σ' R)->T true σ')->test ρ σ T)
  {n:Nat} (h:I n ρ σ):∃ m,QZ test body m ρ σ K:=by
 refine ⟨n+1,?_⟩
 suffices ∀ f n ρ σ,n<f->I n ρ σ->QZ test body f ρ σ K from this (n+1) n ρ σ (Nat.lt_succ_self _) h
 intro f
 induction f with
 | zero=>intro n ρ σ h;exact absurd h (Nat.not_lt_of_le (Nat.zero_le _))
 | succ f ih=>
  intro n ρ σ hn h
  refine step n ρ σ _ h (fun σ' hk=>hk) (fun σ' hb=>?_)
  refine hb _ (fun fl ρ' σ'' hf hh=>?_) (fun fl ρ' σ'' hh=>?_)
  ·refine e23 hh fun m σ3 hm hs hI=>?_
   rcases hf with rfl | rfl
   ·exact ⟨σ3,hs,ih m ρ' σ3 (oka hm (Nat.le_of_lt_succ hn)) hI⟩
   ·exact ⟨σ3,hs,ih m ρ' σ3 (oka hm (Nat.le_of_lt_succ hn)) hI⟩
  ·cases fl <;> first | exact hh | exact hh.elim
theorem ji {α:Type} {ρf:α->List (Option V)} {B:Led} {K:AFl->List (Option V)->Led->Prop} {test:List (Option V)->Led->(Bool->Led->Prop)->Prop} {body:List (Option V)->Led->(AFl->List (Option V)->Led->Prop)->Prop} (μ:α->Nat) (P:α->Prop)
  (step:∀ s (T:Bool->Led->Prop),P s->(∀ τ,Sub B τ->T false τ)->(∀ τ,(∀ R:AFl->List (Option V)->Led->Prop,(∀ s' τ',P s'->μ s'<μ s->Sub B τ'->R .next (ρf s') τ')->body (ρf s) τ R)->T true τ)->test (ρf s) B T)
  (done:∀ s τ,P s->Sub B τ->K .next (ρf s) τ) {s:α} (h:P s):∃ m,QZ test body m (ρf s) B K:=by
 refine X6 (fun n ρ σ=>∃ s,n=μ s/\P s/\ρ=ρf s/\σ=B) ?_ ⟨s,rfl,h,rfl,rfl⟩
 rintro n ρ σ T ⟨s,rfl,hp,rfl,rfl⟩ hF hT
 exact step s T hp (fun τ hs=>hF τ (done s τ hp hs)) fun τ hb=>hT τ fun R hR _=>hb R fun s' τ' hp' hm hs=>hR _ _ _ (.inl rfl) ⟨_,_,hm,hs,s',rfl,hp',rfl,rfl⟩
theorem X7 {W:Wd} {lv:Nat} {α:Type} {ρf:α->List (Option V)} {σf:α->Led} {K:AFl->List (Option V)->Led->Prop} {store:V->List (Option V)->Led->(List (Option V)->Led->Prop)->Prop} {body:List (Option V)->Led->(AFl->List (Option V)->Led->Prop)->Prop} {lo:Int} {n:Nat}
  (P:Nat->α->Prop) (step:∀ i (R:AFl->List (Option V)->Led->Prop),i<n->∀ s,P i s->(∀ fl s' τ,(fl=.next\/fl=.cont)->P (i+1) s'->Sub (σf s') τ->R fl (ρf s') τ)->store (.int (lo+i)) (ρf s) (σf s) fun ρ σ=>body ρ σ R)
  (done:∀ s,P n s->K .next (ρf s) (σf s)) {s:α} (h:P 0 s):∃ m,afor W lv false store body (.range lo n) m 0 (ρf s) (σf s) K:=by
 refine j3 (fun i ρ σ=>∃ s,P i s/\ρ=ρf s/\σ=σf s) ?_ ?_ ⟨s,h,rfl,rfl⟩
 ·rintro i ρ σ R hi ⟨s,hp,rfl,rfl⟩ hR _
  exact step i R hi s hp fun fl s' τ hf hp' hs=>hR fl _ _ hf ⟨_,hs,s',hp',rfl,rfl⟩
 ·rintro ρ σ ⟨s,hp,rfl,rfl⟩;exact done s hp
theorem j4 {α:Type} {ρf:α->List (Option V)} {σf:α->Led} {K:AFl->List (Option V)->Led->Prop} {test:List (Option V)->Led->(Bool->Led->Prop)->Prop} {body:List (Option V)->Led->(AFl->List (Option V)->Led->Prop)->Prop} (μ:α->Nat) (P:α->Prop)
  (step:∀ s,P s->∀ T:Bool->Led->Prop,(∀ τ,K .next (ρf s) τ->T false τ)->(∀ τ,(∀ R:AFl->List (Option V)->Led->Prop,(∀ fl s' τ',(fl=.next\/fl=.cont)->P s'->μ s'<μ s->Sub (σf s') τ'->R fl (ρf s') τ')->(∀ ρ τ,K .next ρ τ->R .brk ρ τ)->body (ρf s) τ R)->T true τ)->test (ρf s) (σf s) T)
  {s:α} (h:P s):∃ m,QZ test body m (ρf s) (σf s) K:=by
 refine X6 (fun n ρ σ=>∃ s,n=μ s/\P s/\ρ=ρf s/\σ=σf s) ?_ ⟨s,rfl,h,rfl,rfl⟩
 rintro n ρ σ T ⟨s,rfl,hp,rfl,rfl⟩ hF hT
 exact step s hp T hF fun τ hb=>hT τ fun R hR hB=>hb R (fun fl s' τ' hf hp' hm hs=>hR _ _ _ hf ⟨_,_,hm,hs,s',rfl,hp',rfl,rfl⟩) fun ρ τ q=>hB .brk ρ τ q
noncomputable def Mt (A B:List Wo) (i j k:Nat):Prop:=∀ t,t<k->∃ w,A[i+t]?=some w/\B[j+t]?=some w
structure Best (A B:List Wo) (alo ahi blo bhi i j k:Nat):Prop where
 ha:alo<=i
 ha2:i+k<=ahi
 hb:blo<=j
 hb2:j+k<=bhi
 mt:Mt A B i j k
noncomputable def J2 (A B:List Wo) (alo blo bhi i:Nat) (es:List (Int×V)):Prop:=∀ j v,Zo es j=some v->∃ jn k:Nat,j=jn/\v=.int k/\1<=k/\k+alo<=i/\k+blo<=jn+1/\jn<bhi/\Mt A B (i-k) (jn+1-k) k
theorem K1 {es:List (Int×V)} {j j':Int} {v:V}:Zo (ZK es j v) j'=if j'=j then some v else Zo es j':=by
 unfold Zo ZK
 by_cases hany:es.any (fun kv=>kv.1=j)=true
 ·rw [if_pos hany]
  induction es with
  | nil=>simp at hany
  | cons p es ih=>
   rw [List.map_cons,List.find?_cons,List.find?_cons]
   by_cases e:p.1=j
   ·simp only [e,if_true]
    by_cases e2:j'=j
    ·simp [e2]
    ·have e3:¬ j=j':=fun q=>e2 q.symm
     simp only [e3,decide_false,e2,if_false]
     by_cases h2:es.any (fun kv=>kv.1=j)=true
     ·have:=ih h2;simp only [e2,if_false] at this;exact this
     ·have:(es.map fun kv=>if kv.1=j then (kv.1,v) else kv)=es:=by
       conv=>rhs;rw [← List.map_id es]
       apply List.map_congr_left
       intro kv hkv
       rw [if_neg];rfl
       intro q
       exact h2 (List.any_eq_true.mpr ⟨kv,hkv,by simpa using q⟩)
      rw [this]
   ·simp only [e,if_false]
    by_cases e2:p.1=j'
    ·have e3:¬ j'=j:=fun q=>e (e2.trans q)
     simp [e2,e3]
    ·simp only [e2,decide_false]
     refine ih ?_
     simpa [e] using hany
 ·rw [if_neg hany]
  rw [List.find?_append]
  by_cases e2:j'=j
  ·have:es.find? (fun kv=>kv.1=j')=none:=by
    rw [List.find?_eq_none]
    intro kv hkv q
    exact hany (List.any_eq_true.mpr ⟨kv,hkv,by rw [e2] at q;exact q⟩)
   rw [this];simp [e2]
  ·have:¬ j=j':=fun q=>e2 q.symm
   simp [this,e2]
theorem Mt.snoc {A B:List Wo} {i j k:Nat} {w:Wo} (h:Mt A B i j k) (ha:A[i+k]?=some w) (hb:B[j+k]?=some w):Mt A B i j (k+1):=by
 intro t ht
 by_cases e:t=k
 ·refine sr e ?_;exact ⟨w,ha,hb⟩
 ·exact h t (okL ht e)
theorem Mt.cons {A B:List Wo} {i j k:Nat} {w:Wo} (h:Mt A B (i+1) (j+1) k) (ha:A[i]?=some w) (hb:B[j]?=some w):Mt A B i j (k+1):=by
 intro t ht
 cases t with
 | zero=>exact ⟨w,ha,hb⟩
 | succ t=>
  refine e12 (h t (Nat.le_of_lt_succ ht)) fun w' h1 h2=>?_
  exact ⟨w',by refine sr (show i+(t+1)=i+1+t by exact Eq.symm (Nat.add_right_comm _ _ _)) ?_;exact h1,by refine sr (show j+(t+1)=j+1+t by exact Eq.symm (Nat.add_right_comm _ _ _)) ?_;exact h2⟩
theorem J2.next {A B:List Wo} {alo blo bhi i j:Nat} {es:List (Int×V)} {w:Wo} (h:J2 A B alo blo bhi i es) (hi:alo<=i) (hj:blo<=j) (ha:A[i]?=some w) (hb:B[j]?=some w) :
  ∃ k:Nat,(Zo es ((j:Int)-1)).getD (.int 0)=.int (k:Int)/\k+alo<=i/\k+blo<=j/\Mt A B (i-k) (j-k) (k+1):=by
 cases e:Zo es ((j:Int)-1) with
 | none=>
  refine ⟨0,rfl,okY hi (Nat.add_comm _ _),okY hj (Nat.add_comm _ _),?_⟩
  intro t ht
  have:t=0:=Nat.le_antisymm (Nat.le_of_lt_succ ht) (Nat.zero_le _)
  refine sr this ?_
  exact ⟨w,ha,hb⟩
 | some v=>
  obtain ⟨jn,k,h1,h2,h3,h4,h5,h6,h7⟩:=h _ _ e
  have hjn:jn+1=j:=by lia
  refine ⟨k,by refine sr h2 ?_;rfl,h4,by omega,?_⟩
  rw [hjn] at h7
  exact h7.snoc (by refine sr (show i-k+k=i by exact Nat.sub_add_cancel (oks h4)) ?_;exact ha) (by refine sr (show j-k+k=j by omega) ?_;exact hb)
theorem J2.nil {A B:List Wo} {alo blo bhi i:Nat}:J2 A B alo blo bhi i []:=fun j v hh=>by exact nn1 hh
theorem J2.put {A B:List Wo} {alo blo bhi i j k:Nat} {es:List (Int×V)} (h:J2 A B alo blo bhi i es) (h1:1<=k) (h2:k+alo<=i) (h3:k+blo<=j+1) (h4:j<bhi) (h5:Mt A B (i-k) (j+1-k) k):J2 A B alo blo bhi i (ZK es (j:Int) (.int (k:Int))):=by
 intro j' v hh
 rw [K1] at hh
 split at hh
 ·rename_i e
  cases hh
  exact ⟨j,k,e,rfl,h1,h2,h3,h4,h5⟩
 ·exact h j' v hh
theorem K2 {es:List (Int×V)} {j:Int} {v:V}:(ZK es j v).length<=es.length+1:=by
 unfold ZK
 split <;> simp
end
section
noncomputable abbrev iv (n:Nat):Option V:=some (.int (n:Int))
theorem getS {A:List Wo} {i:Nat} {w:Wo} (h:A[i]?=some w):atIdx (A.map V.str) (i:Int)=some (.str w):=by
 unfold atIdx
 refine sr (if_neg okK) ?_
 simp [h]
theorem Mt.back {A B:List Wo} {i j k:Nat} {w:Wo} (h:Mt A B i j k) (hi:0<i) (hj:0<j) (ha:A[i-1]?=some w) (hb:B[j-1]?=some w):Mt A B (i-1) (j-1) (k+1):=by
 refine Mt.cons ?_ ha hb
 refine sr (okP hi) (sr (okP hj) ?_);exact h
structure Tl where
 a:Option V
 b:Option V
 c:Option V
 d:Option V
 e:Option V
structure FC where
 x:Addr
 dx:Addr
 a:Addr
 b:Addr
 d:Addr
 e:Addr
 e':Addr
 q:Addr
 nl:Addr
 mbv:V
 opv:V
 D:DE
 A:List Wo
 B:List Wo
 alo:Nat
 ahi:Nat
 blo:Nat
 bhi:Nat
noncomputable def fcR (Y:FC) (bi bj bs:Nat) (j2:Addr) (z:Tl):List (Option V):=[some (.ref Y.x),iv Y.alo,iv Y.ahi,iv Y.blo,iv Y.bhi,some (.ref Y.a),some (.ref Y.b),some (.ref Y.d),some (.ref Y.q),iv bi,iv bj,iv bs,some (.ref j2),some (.ref Y.nl),z.a,z.b,z.c,z.d,z.e]
noncomputable def fcM (Y:FC) (σ:Led):Led:=smM Y.x Y.dx Y.a Y.b Y.d Y.e Y.e' Y.mbv Y.opv Y.D σ
noncomputable def fcB (Y:FC) (σ:Led):Led:=(Y.q,.raw (zX "set.__contains__" Y.e))::fcM Y σ
noncomputable def jc (Y:FC) (i j k:Nat):Prop:=Best Y.A Y.B Y.alo Y.ahi Y.blo Y.bhi i j k
structure FOk (W:Wd) (lv:Nat) (Y:FC) (σ:Led):Prop where
 P:PrOk W.K
 S:SmOk W.K
 hlv:lv<80
 ma:(Y.a,O.list (Y.A.map V.str))∈σ
 mb:(Y.b,O.list (Y.B.map V.str))∈σ
 hD:DOk Y.B Y.D
 h1:Y.alo<=Y.ahi
 h2:Y.blo<=Y.bhi
 hA:Y.ahi<=Y.A.length
 hB:Y.bhi<=Y.B.length
 hA2:Y.A.length<200
 hB2:Y.B.length<200
noncomputable def fW (i:Nat):PS:=vC.body[i]?.getD .bad
section
variable {W:Wd} {lv:Nat} {σ:Led} {Y:FC} {z:Tl} {j2:Addr} {K:AFl->List (Option V)->Led->Prop}
theorem FOk.mA (F:FOk W lv Y σ):(Y.a,O.list (Y.A.map V.str))∈fcB Y σ:=.tail _ (.tail _ (.tail _ (.tail _ (.tail _ (.tail _ (List.mem_append_right _ F.ma))))))
theorem FOk.mB (F:FOk W lv Y σ):(Y.b,O.list (Y.B.map V.str))∈fcB Y σ:=.tail _ (.tail _ (.tail _ (.tail _ (.tail _ (.tail _ (List.mem_append_right _ F.mb))))))
theorem fmE:(Y.e,O.eset)∈fcB Y σ:=.tail _ (.tail _ (.tail _ (.tail _ (.head _))))
theorem FOk.gA (F:FOk W lv Y σ) {i:Nat} (h:i<Y.ahi):∃ w,Y.A[i]?=some w:=⟨_,List.getElem?_eq_getElem (oka h F.hA)⟩
theorem FOk.gB (F:FOk W lv Y σ) {i:Nat} (h:i<Y.bhi):∃ w,Y.B[i]?=some w:=⟨_,List.getElem?_eq_getElem (oka h F.hB)⟩
theorem zbz (F:FOk W lv Y σ) (done:∀ bi bj bs τ,jc Y bi bj bs->Sub (fcB Y σ) τ->K .next (fcR Y bi bj bs j2 z) τ) {bi bj bs:Nat} (h:jc Y bi bj bs):aex W (lv+1) [] (fW 8) (fcR Y bi bj bs j2 z) (fcB Y σ) K:=by
 refine ji (ρf:=fun s:Nat×Nat×Nat=>fcR Y s.1 s.2.1 s.2.2 j2 z) (fun s=>s.1) (fun s=>jc Y s.1 s.2.1 s.2.2) ?_ (fun s τ h hs=>done _ _ _ τ h hs) (s:=(bi,bj,bs)) h
 rintro ⟨bi,bj,bs⟩ T hb hF hT
 have no:=hF _ (Sub.refl _)
 refine jK (fun c1=>jK (fun c2=>?_) fun _=>no) fun _=>no
 obtain ⟨wa,hwa⟩:=F.gA (okM c1 hb.ha2)
 obtain ⟨wb,hwb⟩:=F.gB (okM c2 hb.hb2)
 refine qz (ok0 c2) (item_list F.mB (getS hwb) (qB (.head _) fmE ?_))
 refine qz (ok0 c1) (item_list F.mA (getS hwa) (qz (ok0 c2) (item_list F.mB (getS hwb) (jg (fun c3=>?_) fun _=>no))))
 subst c3
 refine hT _ fun R hR=>zc ⟨rfl,qz (ok0 c1) (qz (ok0 c2) (zJ (zK (by simp) fun t2=>zp (.head _) rfl ?_)))⟩
 exact hR (bi-1,bj-1,bs+1) _ ⟨okT c1,okU c1 hb.ha2,okT c2,okU c2 hb.hb2,hb.mt.back (ok0 c1) (ok0 c2) hwa hwb⟩ (okO c1) (Sub.refl _).skip
theorem zbA (F:FOk W lv Y σ) {bi bj:Nat} (done:∀ bs τ,jc Y bi bj bs->Sub (fcB Y σ) τ->K .next (fcR Y bi bj bs j2 z) τ) {bs:Nat} (h:jc Y bi bj bs):aex W (lv+1) [] (fW 9) (fcR Y bi bj bs j2 z) (fcB Y σ) K:=by
 refine ji (ρf:=fun bs=>fcR Y bi bj bs j2 z) (fun bs=>Y.ahi-bs) (fun bs=>jc Y bi bj bs) ?_ (fun bs τ h hs=>done bs τ h hs) h
 intro bs T hb hF hT
 have no:=hF _ (Sub.refl _)
 refine zJ (zV (fun c1=>zJ (zV (fun c2=>?_) fun _=>no)) fun _=>no)
 obtain ⟨wa,hwa⟩:=F.gA c1
 obtain ⟨wb,hwb⟩:=F.gB c2
 refine zJ (item_list F.mB (getS hwb) (qB (.head _) fmE ?_))
 refine zJ (item_list F.mA (getS hwa) (zJ (item_list F.mB (getS hwb) (jg (fun c3=>?_) fun _=>no))))
 subst c3
 exact hT _ fun R hR=>zc (XH (hR (bs+1) _ ⟨hb.ha,c1,hb.hb,c2,hb.mt.snoc hwa hwb⟩ (Nat.sub_lt_sub_left (okb (Nat.le_add_left _ _) c1) (Nat.lt_succ_self _)) (Sub.refl _)))
theorem zbB (F:FOk W lv Y σ) {bi bj bs:Nat} (done:∀ τ,Sub (fcB Y σ) τ->K .next (fcR Y bi bj bs j2 z) τ) (h:jc Y bi bj bs):aex W (lv+1) [] (fW 10) (fcR Y bi bj bs j2 z) (fcB Y σ) K:=by
 refine ji (ρf:=fun _:Unit=>fcR Y bi bj bs j2 z) (fun _=>0) (fun _=>True) ?_ (fun _ τ _ hs=>done τ hs) (s:=()) trivial
 intro _ T _ hF _
 have no:=hF _ (Sub.refl _)
 refine jK (fun c1=>jK (fun c2=>?_) fun _=>no) fun _=>no
 obtain ⟨wb,hwb⟩:=F.gB (okM c2 h.hb2)
 exact qz (ok0 c2) (item_list F.mB (getS hwb) (qB (.head _) fmE no))
theorem zbC (F:FOk W lv Y σ) {bi bj bs:Nat} (done:∀ τ,Sub (fcB Y σ) τ->K .next (fcR Y bi bj bs j2 z) τ):aex W (lv+1) [] (fW 11) (fcR Y bi bj bs j2 z) (fcB Y σ) K:=by
 refine ji (ρf:=fun _:Unit=>fcR Y bi bj bs j2 z) (fun _=>0) (fun _=>True) ?_ (fun _ τ _ hs=>done τ hs) (s:=()) trivial
 intro _ T _ hF _
 have no:=hF _ (Sub.refl _)
 refine zJ (zV (fun c1=>zJ (zV (fun c2=>?_) fun _=>no)) fun _=>no)
 obtain ⟨wb,hwb⟩:=F.gB c2
 exact zJ (item_list F.mB (getS hwb) (qB (.head _) fmE no))
theorem Hq (F:FOk W lv Y σ) (fin:∀ bi bj bs t ρ τ,jc Y bi bj bs->Sub ((t,.tsub 848 (v3 (bi,bj,bs)))::fcB Y σ) τ->K (.ret (.ref t)) ρ τ) {bi bj bs:Nat} {τ:Led} (h:jc Y bi bj bs) (hs:Sub (fcB Y σ) τ) :
  aexs W (lv+1) [] (vC.body.drop 8) (fcR Y bi bj bs j2 z) τ K:=by
 refine ze hs (zbz F (fun bi bj bs τ h hs=>?_) h)
 refine ze hs (zbA F (fun bs τ h hs=>?_) h)
 refine ze hs (zbB F (fun τ hs=>?_) h)
 refine ze hs (zbC F fun τ hs=>?_)
 exact zc (KP F.S.mt F.P.h_match_new (okb (Nat.succ_le_succ F.hlv) (by decide)) fun t t'=>fin _ _ _ _ _ _ h (.keep (Sub.skip hs)))
theorem okd' {a k b:Nat} (h:k<=a) (h2:a<b):a-k+(k+1)<=b:=by
 rw [← Nat.add_assoc,Nat.sub_add_cancel h];exact h2
structure FS where
 j2:Addr
 es:List (Int×V)
 bi:Nat
 bj:Nat
 bs:Nat
 z:Tl
noncomputable def fcL (Y:FC) (σ:Led) (j2:Addr) (es:List (Int×V)):Led:=(j2,.idict es)::(Y.nl,.list [])::fcB Y σ
structure FI (Y:FC) (i:Nat) (s:FS):Prop where
 best:jc Y s.bi s.bj s.bs
 J:J2 Y.A Y.B Y.alo Y.blo Y.bhi (Y.alo+i) s.es
 len:s.es.length<=300
structure FT where
 es:List (Int×V)
 bi:Nat
 bj:Nat
 bs:Nat
 u:Option V
 v:Option V
structure FJ (Y:FC) (i:Nat) (js:List Nat) (n:Nat) (s:FT):Prop where
 best:jc Y s.bi s.bj s.bs
 J:J2 Y.A Y.B Y.alo Y.blo Y.bhi (Y.alo+(i+1)) s.es
 len:s.es.length<=n
 n:n<=js.length
noncomputable def fcN (Y:FC) (σ:Led) (nj q2 j2:Addr) (es es':List (Int×V)):Led:=(nj,.idict es')::(q2,.raw (zX "dict.get" j2))::fcL Y σ j2 es
noncomputable def fcZ (i:Nat) (q2 nj:Addr) (u v:Option V):Tl:=⟨iv i,some (.ref q2),some (.ref nj),u,v⟩
theorem X8 {Q:V->Led->Prop} {q d:Addr} {es:List (Int×V)} {j:Int} {x y:V} (hm:(W.K.lookup sysModules).isSome=true) (mq:(q,O.raw (zX "dict.get" d))∈σ) (m:(d,O.idict es)∈σ) (e:(Zo es j).getD x=y) (h:Q y σ):zm W lv (.ref q) [.int j,x] σ Q:=ua hm mq m (e.symm ▸ h)
theorem gP {a k:Nat} (h:k<=a):(a:Int)-((k+1:Nat):Int)+1=((a-k:Nat):Int):=by omega
theorem JR {Q:V->Led->Prop} {a b c:Int} (e:a+b=c) (h:Q (.int c) σ):Op W lv (.bin .Add) [.int a,.int b] σ Q:=Zl (e.symm ▸ h)
theorem FI.J' {i:Nat} {w:Wo} {j k:Nat} {es es':List (Int×V)} (hJ':J2 Y.A Y.B Y.alo Y.blo Y.bhi (Y.alo+(i+1)) es') (c2:j<Y.bhi) (hk2:k+Y.alo<=Y.alo+i) (hk3:k+Y.blo<=j) (hk4:Mt Y.A Y.B (Y.alo+i-k) (j-k) (k+1)) :
  J2 Y.A Y.B Y.alo Y.blo Y.bhi (Y.alo+(i+1)) (ZK es' (j:Int) (.int ((k+1:Nat):Int))):=by
 refine hJ'.put (Nat.succ_pos _) ?_ ?_ c2 ?_
 ·rw [Nat.succ_add];exact Nat.succ_le_succ hk2
 ·rw [Nat.succ_add];exact Nat.succ_le_succ hk3
 ·rw [← Nat.add_assoc,Nat.add_sub_add_right,Nat.add_sub_add_right];exact hk4
theorem zbD (F:FOk W lv Y σ) {i n:Nat} {w:Wo} {q2 nj:Addr} {es0:List (Int×V)} {js:List Nat} {R':AFl->List (Option V)->Led->Prop} {j:Nat} (hi:Y.alo+i<Y.ahi) (hw:Y.A[Y.alo+i]?=some w) (hJ:J2 Y.A Y.B Y.alo Y.blo Y.bhi (Y.alo+i) es0) (hjl:js.length<=200) (hn:n<js.length) (hjw:Y.B[j]?=some w)
  {s:FT} (hs:FJ Y i js n s) (hR:∀ fl (s':FT) τ,(fl=.next\/fl=.cont)->FJ Y i js (n+1) s'->Sub (fcN Y σ nj q2 j2 es0 s'.es) τ->R' fl (fcR Y s'.bi s'.bj s'.bs j2 (fcZ (Y.alo+i) q2 nj s'.u s'.v)) τ)
  (hB:∀ τ,Sub (fcN Y σ nj q2 j2 es0 s.es) τ->R' .brk (fcR Y s.bi s.bj s.bs j2 (fcZ (Y.alo+i) q2 nj (iv j) s.v)) τ) :
  aexs W (lv+1) [] (match fW 7 with | .forr _ _ [_,_,.forr _ _ b,_]=>b | _=>[]) (fcR Y s.bi s.bj s.bs j2 (fcZ (Y.alo+i) q2 nj (iv j) s.v)) (fcN Y σ nj q2 j2 es0 s.es) R':=by
 obtain ⟨es,bi,bj,bs,u,v⟩:=s
 obtain ⟨hb,hJ',hes,hnj⟩:=hs
 dsimp only at hb hJ' hes
 have hes3:es.length<=n+1:=Nat.le_succ_of_le hes
 refine za (zV (fun c1=>zc (hR .cont ⟨es,bi,bj,bs,iv j,v⟩ _ (.inr rfl) ⟨hb,hJ',hes3,hn⟩ (Sub.refl _))) fun c1=>?_)
 refine za (GO (fun c2=>zc (hB _ (Sub.refl _))) fun c2=>?_)
 refine e14 (hJ.next (Nat.le_add_right _ _) c1 hw hjw) fun k hk1 hk2 hk3 hk4=>?_
 have hl:es.length<=1000:=okc hes (okc hnj (okc hjl (by decide)))
 have hJ2:=FI.J' (w:=w) (es:=es0) hJ' c2 hk2 hk3 hk4
 have hk2':k<=Y.alo+i:=oks hk2
 have hk3':k<=j:=oks hk3
 refine za (qi (X8 F.S.mod (.tail _ (.head _)) (.tail _ (.tail _ (.head _))) hk1 (zJ (V3 (.head _) hl (.here _ _) ?_))))
 have hl2:(ZK es (j:Int) (.int ((k+1:Nat):Int))).length<=n+1:=okc K2 (Nat.succ_le_succ hes)
 refine zc (jK (fun c3=>?_) fun c3=>?_)
 ·refine zc ⟨rfl,qi (JR (gP hk2') (qi (JR (gP hk3') (zK (by simp) fun t2=>zp (.head _) rfl ?_))))⟩
  exact hR .next ⟨_,Y.alo+i-k,j-k,k+1,iv j,iv (k+1)⟩ _ (.inl rfl) ⟨⟨Nat.le_sub_of_add_le (Nat.add_comm _ _ ▸ hk2),okd' hk2' hi,Nat.le_sub_of_add_le (Nat.add_comm _ _ ▸ hk3),okd' hk3' c2,hk4⟩,hJ2,hl2,hn⟩ (Sub.refl _).skip
 ·exact hR .next ⟨_,bi,bj,bs,iv j,iv (k+1)⟩ _ (.inl rfl) ⟨hb,hJ2,hl2,hn⟩ (Sub.refl _)
theorem fmD:(Y.d,O.sdict (Z1 Y.D))∈fcB Y σ:=.tail _ (.tail _ (.tail _ (.head _)))
theorem FOk.look (F:FOk W lv Y σ) (w:Wo):∃ la js,(Zo (Z1 Y.D) (mkS w)).getD (.ref Y.nl)=.ref la/\(∀ j∈js,Y.B[j]?=some w)/\js.length<=200/\∀ nj q2 j2 es es',(la,O.list (jsV js))∈fcN Y σ nj q2 j2 es es':=by
 cases hy:Zo (Z1 Y.D) (mkS w) with
 | none=>exact ⟨Y.nl,[],rfl,fun _ h=>absurd h (List.not_mem_nil),Nat.zero_le _,fun _ _ _ _ _=>.tail _ (.tail _ (.tail _ (.head _)))⟩
 | some y=>
  refine e42 (uz hy) fun D1 a' js D2 hd w0=>?_;refine sr w0 ?_
  have hm:(w,a',js)∈Y.D:=hd ▸ List.mem_append_right _ (.head _)
  have:=F.hD _ hm
  exact ⟨a',js,rfl,this.1,okd (okb this.2 F.hB2),fun _ _ _ _ _=>.tail _ (.tail _ (.tail _ (.tail _ (.tail _ (.tail _ (.tail _ (.tail _ (.tail _ (.tail _ (List.mem_append_left _ (List.mem_map.mpr ⟨_,hm,rfl⟩))))))))))) ⟩
theorem X9 {Q:V->Led->Prop} {d:Addr} {es:List (Str×V)} {l:List Nat} {x y:V} (hm:(W.K.lookup sysModules).isSome=true) (m:(d,O.sdict es)∈σ) (e:(Zo es (mkS l)).getD x=y) (h:Q y σ):zm W lv (.bi "dict.get") [.ref d,.str l,x] σ Q:=V2 hm m (e.symm ▸ h)
noncomputable def fO:List PS:=match fW 7 with
 | .forr _ _ b=>b
 | _=>[]
theorem zal (F:FOk W lv Y σ) {i:Nat} {R:AFl->List (Option V)->Led->Prop} (hi:Y.alo+i<Y.ahi) {s:FS} (hs:FI Y i s) (hR:∀ fl (s':FS) τ,(fl=.next\/fl=.cont)->FI Y (i+1) s'->Sub (fcL Y σ s'.j2 s'.es) τ->R fl (fcR Y s'.bi s'.bj s'.bs s'.j2 s'.z) τ) :
  aexs W (lv+1) [] fO (fcR Y s.bi s.bj s.bs s.j2 ⟨iv (Y.alo+i),s.z.b,s.z.c,s.z.d,s.z.e⟩) (fcL Y σ s.j2 s.es) R:=by
 obtain ⟨j2,es,bi,bj,bs,z⟩:=s
 obtain ⟨hb,hJ,hl⟩:=hs
 refine e11 (F.gA hi) fun w hw=>?_
 refine e24 (F.look w) fun la js hla hjs hjl hm=>?_
 refine za (V8 (.head _) fun q2=>?_)
 refine za (kh fun nj=>?_)
 refine za (KC (.tail _ (.tail _ (.tail _ (.tail _ fmD)))) (item_list (.tail _ (.tail _ (.tail _ (.tail _ F.mA)))) (getS hw) (X9 F.S.mod (.tail _ (.tail _ (.tail _ (.tail _ fmD)))) hla (zB (hm ..) ?_))))
 have last:∀ (s:FT) τ,FJ Y i js js.length s->Sub (fcN Y σ nj q2 j2 es s.es) τ->aexs W (lv+1) [] [.assign [.loc 12] (.loc 16)] (fcR Y s.bi s.bj s.bs j2 (fcZ (Y.alo+i) q2 nj s.u s.v)) τ R:=fun s τ h hs=>
  ze hs (G0 rfl (hR .next ⟨nj,s.es,s.bi,s.bj,s.bs,fcZ (Y.alo+i) q2 nj s.u s.v⟩ _ (.inl rfl) ⟨h.best,h.J,okc h.len (okc hjl (by decide))⟩ (.keep (Sub.refl _).skip.skip)))
 refine zL (ρf:=fun s:FT=>fcR Y s.bi s.bj s.bs j2 (fcZ (Y.alo+i) q2 nj s.u s.v)) (σf:=fun s=>fcN Y σ nj q2 j2 es s.es) (.inl rfl) (FJ Y i js) (fun s=>hm ..) ?_ (fun s h=>?_) (s:=⟨[],bi,bj,bs,z.d,z.e⟩) ⟨hb,J2.nil,Nat.zero_le _,Nat.zero_le _⟩
 ·intro n y R' hy s hs hn hbrk _
  refine e12 (Option.map_eq_some_iff.mp (List.getElem?_map .. ▸ hy)) fun j hj w0=>?_;subst w0
  exact zbD F hi hw hJ hjl (List.getElem?_eq_some_iff.mp hj).1 (hjs j (List.mem_of_getElem? hj)) hs hn fun τ h=>hbrk _ _ (last ⟨s.es,s.bi,s.bj,s.bs,iv j,s.v⟩ τ ⟨hs.best,hs.J,okc hs.len hs.n,Nat.le_refl _⟩ h)
 ·exact last s _ ((List.length_map ..).symm ▸ h) (Sub.refl _)
theorem zam (F:FOk W lv Y σ) {Q:V->Led->Prop} (hQ:∀ i j k t,jc Y i j k->Q (.ref t) ((t,.tsub 848 (v3 (i,j,k)))::fcM Y σ)) {z:Tl} :
  aexs W (lv+1) [] (vC.body.drop 7) (fcR Y Y.alo Y.blo 0 j2 z) (fcL Y σ j2 []) fun fl _ σ'=>∃ σ'',Sub σ'' σ'/\match fl with
   | .next=>Q .none σ''
   | .ret v=>Q v σ''
   | _=>False:=by
 have ha:Y.ahi<2 ^ 62:=okb F.hA (oka F.hA2 (by decide))
 refine za (qR (okG _) (okH (okb F.h1 ha)) (okG _) (okH ha) ?_)
 refine X7 (ρf:=fun s:FS=>fcR Y s.bi s.bj s.bs s.j2 s.z) (σf:=fun s=>fcL Y σ s.j2 s.es) (FI Y) (fun i R hi s hs hR=>zal F ?_ hs hR) (fun s hs=>Hq F (fun bi bj bs t ρ τ h hs=>⟨_,Sub.trans (.keep (Sub.refl _).skip) hs,hQ _ _ _ _ h⟩) hs.best (Sub.refl _).skip.skip)
  (s:=⟨j2,[],Y.alo,Y.blo,0,z⟩) ⟨⟨Nat.le_refl _,F.h1,Nat.le_refl _,F.h2,fun t ht=>absurd ht (Nat.not_lt_zero _)⟩,J2.nil,Nat.zero_le _⟩
 exact Nat.add_comm _ _ ▸ Nat.add_lt_of_lt_sub (by rw [← Int.ofNat_sub F.h1] at hi;exact hi)
end
section
variable {W:Wd} {lv:Nat} {σ:Led} {Q:V->Led->Prop} {x dx:Addr}
theorem zbE {a b d e e':Addr} {mbv opv:V} {D:DE} {A B:List Wo} {alo ahi blo bhi:Nat} (P:PrOk W.K) (S:SmOk W.K) (hlv:lv<80) (ma:(a,O.list (A.map V.str))∈σ) (mb:(b,O.list (B.map V.str))∈σ) (hD:DOk B D)
  (h1:alo<=ahi) (h2:blo<=bhi) (hA:ahi<=A.length) (hB:bhi<=B.length) (hA2:A.length<200) (hB2:B.length<200)
  (h:∀ i j k t,Best A B alo ahi blo bhi i j k->Q (.ref t) ((t,.tsub 848 (v3 (i,j,k)))::smM x dx a b d e e' mbv opv D σ)) :
  zm W lv (.ref 909) [.ref x,.int alo,.int ahi,.int blo,.int bhi] (smM x dx a b d e e' mbv opv D σ) Q:=by
 refine zA P.h_flm (oka hlv (by decide)) (Nat.le_refl 5) (Nat.le_add_right 5 4) ?_
 refine za (p:=.pass) ?_
 refine za (zf (i:=1) S.cl (by decide +kernel) (.head _) (.tail _ (.head _)) (by decide +kernel) rfl rfl ?_)
 refine zf (i:=2) S.cl (by decide +kernel) (.head _) (.tail _ (.head _)) (by decide +kernel) rfl rfl ?_
 refine zf (i:=7) S.cl (by decide +kernel) (.head _) (.tail _ (.head _)) (by decide +kernel) rfl rfl ?_
 refine zf (i:=8) S.cl (by decide +kernel) (.head _) (.tail _ (.head _)) (by decide +kernel) rfl rfl ?_
 refine V9 (.tail _ (.tail _ (.tail _ (.head _)))) fun q=>zK (by simp) fun t0=>zp (.head _) rfl ?_
 refine za (zI (b:=false) rfl ?_)
 refine za (zI (b:=false) rfl ?_)
 refine za ⟨rfl,zK (by simp) fun t1=>zp (.head _) rfl ?_⟩
 refine ze ((Sub.refl _).skip.skip) (kh fun j2=>?_)
 refine za (zC (by simp) fun nl=>?_)
 exact Sub.aexs (.a1 (.keep (Sub.refl _))) (zam (Y:=⟨x,dx,a,b,d,e,e',q,nl,mbv,opv,D,A,B,alo,ahi,blo,bhi⟩) (z:=⟨none,none,none,none,none⟩) ⟨P,S,hlv,ma,mb,hD,h1,h2,hA,hB,hA2,hB2⟩ h)
end
end
section
noncomputable abbrev R4:=Nat×Nat×Nat×Nat
noncomputable abbrev v4 (r:R4):List V:=[.int r.1,.int r.2.1,.int r.2.2.1,.int r.2.2.2]
noncomputable abbrev qE (R:List (Addr×R4)):Led:=R.map fun p=>(p.1,O.tup (v4 p.2))
noncomputable def prec (r s:R4):Prop:=r.2.1<=s.1/\r.2.2.2<=s.2.2.1
noncomputable def Cmp (r s:R4):Prop:=prec r s\/prec s r
theorem Cmp.symm {r s:R4} (h:Cmp r s):Cmp s r:=Or.symm h
noncomputable def inR (s r:R4):Prop:=r.1<=s.1/\s.2.1<=r.2.1/\r.2.2.1<=s.2.2.1/\s.2.2.2<=r.2.2.2
theorem Cmp.sub {r s q:R4} (h:Cmp r q) (k:inR s r):Cmp s q:=by
 refine e04 k fun k1 k2 k3 k4=>?_
 rcases h with ⟨h1,h2⟩ | ⟨h1,h2⟩
 ·exact .inl ⟨Nat.le_trans k2 h1,Nat.le_trans k4 h2⟩
 ·exact .inr ⟨Nat.le_trans h1 k1,Nat.le_trans h2 k3⟩
noncomputable abbrev bR (b:T3):R4:=(b.1,b.1+b.2.2,b.2.1,b.2.1+b.2.2)
noncomputable def wid (R:List (Addr×R4)):Nat:=(R.map fun p=>p.2.2.1-p.2.1).sum
noncomputable def msr (R:List (Addr×R4)):Nat:=(R.map fun p=>2*(p.2.2.1-p.2.1)+1).sum
structure QI (A B:List Wo) (R:List (Addr×R4)) (bs:List (Addr×T3)):Prop where
 wf:∀ p∈R,p.2.1<=p.2.2.1/\p.2.2.1<=A.length/\p.2.2.2.1<=p.2.2.2.2/\p.2.2.2.2<=B.length
 bk:∀ p∈bs,1<=p.2.2.2/\Mt A B p.2.1 p.2.2.1 p.2.2.2/\p.2.1+p.2.2.2<=A.length/\p.2.2.1+p.2.2.2<=B.length
 cmp:(R.map (·.2)++bs.map fun p=>bR p.2).Pairwise Cmp
 cnt:bs.length+wid R<=A.length
theorem uC:∀ R:List (Addr×R4),R.length<=msr R
 | []=>Nat.le_refl _
 | p::R=>by
  have:=uC R
  refine (?_:R.length+1<=(2*(p.2.2.1-p.2.1)+1)+msr R)
  lia
theorem xH (R S:List (Addr×R4)):wid (R++S)=wid R+wid S:=by unfold wid;simp
theorem xI (R S:List (Addr×R4)):msr (R++S)=msr R+msr S:=by unfold msr;simp
theorem zan (t:Addr) (r:R4):wid [(t,r)]=r.2.1-r.1:=by unfold wid;simp
theorem uD (t:Addr) (r:R4):msr [(t,r)]=2*(r.2.1-r.1)+1:=by unfold msr;simp
theorem QI.split {A B:List Wo} {R' X Y:List (Addr×R4)} {bs:List (Addr×T3)} {t tx:Addr} {al ah bl bh i j k:Nat} (h:QI A B (R'++[(t,(al,ah,bl,bh))]) bs) (hb:Best A B al ah bl bh i j k) (hk:1<=k)
  (hX:X=[]\/∃ a,X=[(a,(al,i,bl,j))]) (hY:Y=[]\/∃ a,Y=[(a,(i+k,ah,j+k,bh))]):QI A B (R'++X++Y) (bs++[(tx,(i,j,k))])/\msr (R'++X++Y)<msr (R'++[(t,(al,ah,bl,bh))]):=by
 obtain ⟨b1,b2,b3,b4,b5⟩:=hb
 have w0:=h.wf (t,(al,ah,bl,bh)) (by simp)
 dsimp only at w0
 have pw:((al,ah,bl,bh)::(R'.map (·.2)++bs.map fun p=>bR p.2)).Pairwise Cmp:=by
  refine (List.Perm.pairwise_iff (fun {a b}=>Cmp.symm) ?_).mp h.cmp
  rw [List.map_append,List.append_assoc]
  exact List.perm_middle
 rw [List.pairwise_cons] at pw
 refine e02 pw fun pc pr=>?_
 have hm:inR (bR (i,j,k)) (al,ah,bl,bh):=⟨b1,b2,b3,b4⟩
 have hX':∀ p∈X,p.2=(al,i,bl,j):=by rcases hX with rfl | ⟨a,rfl⟩ <;> simp
 have hY':∀ p∈Y,p.2=(i+k,ah,j+k,bh):=by rcases hY with rfl | ⟨a,rfl⟩ <;> simp
 have iX:inR (al,i,bl,j) (al,ah,bl,bh):=⟨Nat.le_refl _,by refine (?_:i<=ah);exact oks b2,Nat.le_refl _,by refine (?_:j<=bh);exact oks b4⟩
 have iY:inR (i+k,ah,j+k,bh) (al,ah,bl,bh):=⟨by refine (?_:al<=i+k);exact okC b1,Nat.le_refl _,by refine (?_:bl<=j+k);exact okC b3,Nat.le_refl _⟩
 refine ⟨⟨fun p hp=>?_,fun p hp=>?_,?_,?_⟩,?_⟩
 ·refine ma hp (fun hp=>?_) fun hp=>?_
  ·refine ma hp (fun hp=>?_) fun hp=>?_
   ·exact h.wf p (List.mem_append_left _ hp)
   ·refine sr (hX' p hp) ?_;exact ⟨b1,okc (oks b2) w0.2.1,b3,okc (oks b4) w0.2.2.2⟩
  ·refine sr (hY' p hp) ?_;exact ⟨b2,w0.2.1,b4,w0.2.2.2⟩
 ·refine ma hp (fun hp=>?_) fun hp=>?_
  ·exact h.bk p hp
  ·have:p=(tx,(i,j,k)):=by simpa using hp
   refine sr this ?_;skip
   exact ⟨hk,b5,okc b2 w0.2.1,okc b4 w0.2.2.2⟩
 ·have key:(bR (i,j,k)::(X.map (·.2)++Y.map (·.2)++(R'.map (·.2)++bs.map fun p=>bR p.2))).Pairwise Cmp:=by
   have cX:∀ s∈X.map (·.2),s=(al,i,bl,j):=fun s hs=>by refine e12 (List.mem_map.mp hs) fun p hp w0=>?_;subst w0;exact hX' p hp
   have cY:∀ s∈Y.map (·.2),s=(i+k,ah,j+k,bh):=fun s hs=>by refine e12 (List.mem_map.mp hs) fun p hp w0=>?_;subst w0;exact hY' p hp
   rw [List.pairwise_cons]
   refine ⟨fun s hs=>?_,?_⟩
   ·refine ma hs (fun hs=>?_) fun hs=>?_
    ·refine ma hs (fun hs=>?_) fun hs=>?_
     ·refine sr (cX s hs) ?_;exact .inr ⟨Nat.le_refl _,Nat.le_refl _⟩
     ·refine sr (cY s hs) ?_;exact .inl ⟨Nat.le_refl _,Nat.le_refl _⟩
    ·exact (pc s hs).sub hm
   ·rw [List.pairwise_append]
    refine ⟨?_,pr,fun s hs q hq=>?_⟩
    ·rw [List.pairwise_append]
     refine ⟨?_,?_,fun s hs q hq=>?_⟩
     ·rcases hX with rfl | ⟨a,rfl⟩ <;> simp
     ·rcases hY with rfl | ⟨a,rfl⟩ <;> simp
     ·refine sr (cX s hs) (sr (cY q hq) ?_);exact .inl ⟨by refine (?_:i<=i+k);exact Nat.le_add_right _ _,by refine (?_:j<=j+k);exact Nat.le_add_right _ _⟩
    ·refine ma hs (fun hs=>?_) fun hs=>?_
     ·refine sr (cX s hs) ?_;exact (pc q hq).sub iX
     ·refine sr (cY s hs) ?_;exact (pc q hq).sub iY
  refine (List.Perm.pairwise_iff (fun {a b}=>Cmp.symm) ?_).mp key
  simp only [List.map_append,List.map_cons,List.map_nil]
  refine (List.perm_append_singleton (bR (i,j,k)) _).symm.trans ?_
  refine ((List.perm_append_comm_assoc (X.map (·.2)++Y.map (·.2)) (R'.map (·.2)) (bs.map fun p=>bR p.2)).append_right [bR (i,j,k)]).trans ?_
  simp only [List.append_assoc]
  exact List.Perm.refl _
 ·have:=h.cnt
  rw [xH,zan] at this
  have wX:wid X<=i-al:=by rcases hX with rfl | ⟨a,rfl⟩ <;> simp [wid]
  have wY:wid Y<=ah-(i+k):=by rcases hY with rfl | ⟨a,rfl⟩ <;> simp [wid]
  rw [xH,xH]
  simp only [List.length_append,List.length_singleton]
  dsimp only at this
  omega
 ·have wX:msr X<=2*(i-al)+1:=by rcases hX with rfl | ⟨a,rfl⟩ <;> simp [msr]
  have wY:msr Y<=2*(ah-(i+k))+1:=by rcases hY with rfl | ⟨a,rfl⟩ <;> simp [msr]
  rw [xI,xI,xI,uD]
  dsimp only
  omega
theorem QI.drop {A B:List Wo} {R':List (Addr×R4)} {bs:List (Addr×T3)} {p:Addr×R4} (h:QI A B (R'++[p]) bs):QI A B R' bs/\msr R'<msr (R'++[p]):=by
 refine ⟨⟨fun q hq=>h.wf q (List.mem_append_left _ hq),h.bk,?_,?_⟩,?_⟩
 ·refine h.cmp.sublist ?_
  rw [List.map_append,List.append_assoc]
  exact List.Sublist.append_left (List.sublist_append_right _ _) _
 ·have:=h.cnt
  rw [xH] at this
  omega
 ·rw [xI]
  have:0<msr [p]:=by simp [msr]
  exact Nat.le_of_lt_succ (Nat.succ_le_succ (Nat.add_le_add_left this _))
structure Ch (A B:List Wo) (bs:List T3):Prop where
 bk:∀ p∈bs,1<=p.2.2/\Mt A B p.1 p.2.1 p.2.2/\p.1+p.2.2<=A.length/\p.2.1+p.2.2<=B.length
 up:bs.Pairwise fun p q=>p.1+p.2.2<=q.1/\p.2.1+p.2.2<=q.2.1
theorem QI.nodup {A B:List Wo} {bs:List (Addr×T3)} (h:QI A B [] bs):(bs.map (·.2)).Nodup:=by
 have:=h.cmp
 simp only [List.map_nil,List.nil_append] at this
 rw [List.pairwise_map] at this
 rw [List.nodup_iff_pairwise_ne,List.pairwise_map]
 refine List.Pairwise.imp_of_mem ?_ this
 intro p q hp hq hc e
 have h1:=(h.bk p hp).1
 have h2:=(h.bk q hq).1
 rcases hc with ⟨a,_⟩ | ⟨a,_⟩
 ·dsimp only at a;rw [e] at a;omega
 ·dsimp only at a;rw [e] at a;omega
theorem QI.chain {A B:List Wo} {bs ys:List (Addr×T3)} (h:QI A B [] bs) (p:ys.Perm bs) (hs:ys.Pairwise fun a b=>tlt a.2 b.2=true):Ch A B (ys.map (·.2)):=by
 refine ⟨fun q hq=>?_,?_⟩
 ·refine e12 (List.mem_map.mp hq) fun y hy w0=>?_;subst w0
  exact h.bk y (p.mem_iff.mp hy)
 ·rw [List.pairwise_map]
  have hc:=h.cmp
  simp only [List.map_nil,List.nil_append] at hc
  rw [List.pairwise_map] at hc
  have hc':ys.Pairwise fun a b=>Cmp (bR a.2) (bR b.2):=(List.Perm.pairwise_iff (R:=fun (a b:Addr×T3)=>Cmp (bR a.2) (bR b.2)) (fun {a b}=>Cmp.symm) p).mpr hc
  refine List.Pairwise.imp_of_mem ?_ (List.Pairwise.and hc' hs)
  rintro a b ha hb ⟨hc,ht⟩
  have h1:=(h.bk a (p.mem_iff.mp ha)).1
  have h2:=(h.bk b (p.mem_iff.mp hb)).1
  rcases hc with ⟨u,v⟩ | ⟨u,v⟩
  ·exact ⟨u,v⟩
  ·rw [QQ] at ht
   dsimp only at u v
   omega
noncomputable def Wp (A B:List Wo):Nat->Nat->List T3->Nat->Nat->Prop
 | i,j,[],p,q=>i=p/\j=q
 | i,j,b::r,p,q=>i<=b.1/\j<=b.2.1/\Mt A B b.1 b.2.1 b.2.2/\b.1+b.2.2<=A.length/\b.2.1+b.2.2<=B.length/\Wp A B (b.1+b.2.2) (b.2.1+b.2.2) r p q
theorem Wp.snoc {A B:List Wo} {b:T3}:∀ {ms:List T3} {i j p q:Nat},Wp A B i j ms p q->p<=b.1->q<=b.2.1->Mt A B b.1 b.2.1 b.2.2->b.1+b.2.2<=A.length->b.2.1+b.2.2<=B.length->Wp A B i j (ms++[b]) (b.1+b.2.2) (b.2.1+b.2.2)
 | [],i,j,p,q,h,h1,h2,h3,h4,h5=>by
  refine e02 h fun w0 w1=>?_;refine sr w0 ?_;refine sr w1 ?_
  exact ⟨h1,h2,h3,h4,h5,rfl,rfl⟩
 | c::ms,i,j,p,q,h,h1,h2,h3,h4,h5=>by
  refine e06 h fun g1 g2 g3 g4 g5 g6=>?_
  exact ⟨g1,g2,g3,g4,g5,Wp.snoc g6 h1 h2 h3 h4 h5⟩
structure Cur (A B:List Wo) (ts:List T3) (i j k:Nat) (rest:List T3):Prop where
 w:∃ p q,Wp A B 0 0 ts p q/\p<=i/\q<=j
 mt:Mt A B i j k
 ha:i+k<=A.length
 hb:j+k<=B.length
 fol:∀ y∈rest,i+k<=y.1/\j+k<=y.2.1
theorem Mt.app {A B:List Wo} {i j k l:Nat} (h:Mt A B i j k) (h2:Mt A B (i+k) (j+k) l):Mt A B i j (k+l):=by
 intro t ht
 by_cases e:t<k
 ·exact h t e
 ·refine e12 (h2 (t-k) (Nat.sub_lt_left_of_lt_add (okh e) ht)) fun w a b=>?_
  exact ⟨w,by refine sr (show i+t=i+k+(t-k) by omega) ?_;exact a,by refine sr (show j+t=j+k+(t-k) by omega) ?_;exact b⟩
theorem Cur.join {A B:List Wo} {ts rest:List T3} {i j k l:Nat} (h:Cur A B ts i j k ((i+k,j+k,l)::rest)) (hl:Mt A B (i+k) (j+k) l) (h1:i+k+l<=A.length) (h2:j+k+l<=B.length)
  (hf:∀ y∈rest,i+k+l<=y.1/\j+k+l<=y.2.1):Cur A B ts i j (k+l) rest:=
 ⟨h.w,h.mt.app hl,okY h1 (Eq.symm (Nat.add_assoc _ _ _)),okY h2 (Eq.symm (Nat.add_assoc _ _ _)),fun y hy=>by have:=hf y hy;lia⟩
theorem Cur.step {A B:List Wo} {ts rest:List T3} {i j k:Nat} {y:T3} (h:Cur A B ts i j k (y::rest)) (hl:Mt A B y.1 y.2.1 y.2.2) (h1:y.1+y.2.2<=A.length) (h2:y.2.1+y.2.2<=B.length)
  (hf:∀ z∈rest,y.1+y.2.2<=z.1/\y.2.1+y.2.2<=z.2.1):(k=0->Cur A B ts y.1 y.2.1 y.2.2 rest)/\Cur A B (ts++[(i,j,k)]) y.1 y.2.1 y.2.2 rest:=by
 refine e23 h.w fun p q hw hp hq=>?_
 have f:=h.fol y (.head _)
 exact ⟨fun hk=>⟨⟨p,q,hw,okc hp (oks f.1),okc hq (oks f.2)⟩,hl,h1,h2,hf⟩,⟨⟨_,_,hw.snoc hp hq h.mt h.ha h.hb,f.1,f.2⟩,hl,h1,h2,hf⟩⟩
noncomputable def qM (A B:List Wo) (ms:List T3):Prop:=Wp A B 0 0 ms A.length B.length
theorem Cur.done {A B:List Wo} {ts:List T3} {i j k:Nat} (h:Cur A B ts i j k []):(k=0->qM A B (ts++[(A.length,B.length,0)]))/\qM A B (ts++[(i,j,k)]++[(A.length,B.length,0)]):=by
 refine e23 h.w fun p q hw hp hq=>?_
 have m0:Mt A B A.length B.length 0:=fun t ht=>absurd ht (Nat.not_lt_of_le (Nat.zero_le _))
 have ha:=h.ha
 have hb:=h.hb
 refine ⟨fun hk=>?_,?_⟩
 ·have:=hw.snoc (b:=(A.length,B.length,0)) (by refine (?_:p<=A.length);exact okc hp (oks ha)) (by refine (?_:q<=B.length);exact okc hq (oks hb)) m0 (Nat.le_refl _) (Nat.le_refl _)
  exact this
 ·have:=(hw.snoc (b:=(i,j,k)) hp hq h.mt ha hb).snoc (b:=(A.length,B.length,0)) ha hb m0 (Nat.le_refl _) (Nat.le_refl _)
  exact this
end
section
noncomputable def fl:List Led->Led
 | []=>[]
 | [s]=>s
 | s::t::r=>s++fl (t::r)
theorem zao:∀ L:List Led,fl L=L.flatten
 | []=>rfl
 | [s]=>by simp [fl]
 | s::t::r=>by refine (?_:s++fl (t::r)=_);refine sr (zao (t::r)) ?_;simp
theorem Sub.idx (S:List Led) (is js r:List Nat) (h:(is++r).Perm js):Sub (fl (is.map fun i=>S.getD i [])) (fl (js.map fun i=>S.getD i [])):=by
 rw [zao,zao]
 refine Sub.qV (r:=(r.map fun i=>S.getD i []).flatten) ?_
 refine sq List.flatten_append (sq List.map_append ?_)
 exact (h.map _).flatten
theorem Sub.mem {a b:Led} (h:Sub a b) {p:Addr×O} (m:p∈a):p∈b:=by
 induction h with
 | nil=>exact nn9 m
 | cons q _ ih=>
  refine mc m ?_ fun m=>?_
  ·exact q.mem_iff.mp (.head _)
  ·exact q.mem_iff.mp (.tail _ (ih m))
theorem Sub.app {a b:Led}:∀ {P:Led},Sub a b->Sub (P++a) (P++b)
 | [],h=>h
 | p::P,h=>.keep (Sub.app (P:=P) h)
theorem Put.appr {a:Addr} {y:O} {σ σ':Led}:∀ {P:Led},Put a y σ σ'->Put a y (P++σ) (P++σ')
 | [],h=>h
 | p::P,h=>.there p (Put.appr (P:=P) h)
theorem Sub.uE {F P σ:Led}:Sub (P++(F++σ)) (F++(P++σ)):=by
 refine Sub.qV (r:=[]) ?_
 rw [List.append_nil]
 exact List.perm_append_comm_assoc _ _ _
section
variable {x dx a b d e e':Addr} {mbv opv:V} {D:DE} {σ σ':Led}
noncomputable abbrev smP (x dx a b d e e':Addr) (mbv opv:V) (D:DE):Led:=(x,.inst 955 dx)::(dx,.fld (zag.zip [.none,.ref a,.ref b,.bool true,mbv,opv,.none,.ref d,.ref e,.ref e']))::(d,.sdict (Z1 D))::(e,.eset)::(e',.eset)::dLed D
theorem inM {p:Addr×O} (h:p∈σ):p∈smM x dx a b d e e' mbv opv D σ:=.tail _ (.tail _ (.tail _ (.tail _ (.tail _ (List.mem_append_right _ h)))))
theorem putM {q:Addr} {y:O} (P:Put q y σ σ'):Put q y (smM x dx a b d e e' mbv opv D σ) (smM x dx a b d e e' mbv opv D σ'):=Put.appr (P:=smP x dx a b d e e' mbv opv D) P
theorem subM (h:Sub σ σ'):Sub (smM x dx a b d e e' mbv opv D σ) (smM x dx a b d e e' mbv opv D σ'):=Sub.app (P:=smP x dx a b d e e' mbv opv D) h
theorem Hr (F:Led):Sub (smM x dx a b d e e' mbv opv D (F++σ)) (F++smM x dx a b d e e' mbv opv D σ):=Sub.uE (F:=F) (P:=smP x dx a b d e e' mbv opv D)
end
theorem xJ {W:Wd} {lv:Nat} {cl:List V} {ρ:List (Option V)} {σ:Led} {K:AFl->List (Option V)->Led->Prop} {i:Nat} {v:V} {A B:List PS} (hv:ρ[i]?=some (some v)) (h:ATr v σ fun b=>match b with
  | true=>aexs W lv cl A ρ σ K
  | false=>aexs W lv cl B ρ σ K):aex W lv cl (.ite (.loc i) A B) ρ σ K:=by
 show (match ρ[i]? with
  | some (some v)=>ATr v σ fun b=>match b with
   | true=>aexs W lv cl A ρ σ K
   | false=>aexs W lv cl B ρ σ K
  | _=>False)
 refine sr hv ?_;exact h
theorem Yk {W:Wd} {lv:Nat} {cl:List V} {ρ:List (Option V)} {σ:Led} {K:AFl->List (Option V)->Led->Prop} {i:Nat} {n:Nat} {A B:List PS} (hv:ρ[i]?=some (some (.int n))) (h0:n=0->aexs W lv cl B ρ σ K) (h:0<n->aexs W lv cl A ρ σ K):aex W lv cl (.ite (.loc i) A B) ρ σ K:=
 xJ hv (dec2 (p:=(n:Int)≠0) (F:=fun b=>match b with
  | true=>aexs W lv cl A ρ σ K
  | false=>aexs W lv cl B ρ σ K) (fun q=>h (Nat.pos_of_ne_zero fun e=>q (okl e))) fun q=>h0 (Classical.byContradiction fun e=>q (oko e)))
theorem ite_int {W:Wd} {lv:Nat} {cl:List V} {ρ:List (Option V)} {σ:Led} {K:AFl->List (Option V)->Led->Prop} {i:Nat} {n:Int} {A B:List PS} (hv:ρ[i]?=some (some (.int n))) (hb:n≠0) (h:aexs W lv cl A ρ σ K):aex W lv cl (.ite (.loc i) A B) ρ σ K:=by
 refine xJ hv ?_
 show (match decide (n≠0) with | true=>aexs W lv cl A ρ σ K | false=>aexs W lv cl B ρ σ K)
 refine sr (decide_eq_true hb) ?_
 exact h
theorem Hs {W:Wd} {lv:Nat} {cl:List V} {ρ:List (Option V)} {σ:Led} {K:AFl->List (Option V)->Led->Prop} {i:Nat} {n:Int} {A B:List PS} (hv:ρ[i]?=some (some (.int n))) (hb:n=0) (h:aexs W lv cl B ρ σ K):aex W lv cl (.ite (.loc i) A B) ρ σ K:=by
 refine xJ hv ?_
 refine (?_:(match decide (n≠0) with | true=>aexs W lv cl A ρ σ K | false=>aexs W lv cl B ρ σ K))
 refine sr (decide_eq_false (by simpa using hb)) ?_
 exact h
noncomputable abbrev gL (qa mA:Addr) (R:List (Addr×R4)) (bs:List (Addr×T3)) (σ:Led):Led:=(qa,.list (R.map fun p=>V.ref p.1))::(mA,.list (bs.map fun b=>V.ref b.1))::(qE R++(tsE 848 bs++σ))
structure T8 where
 a:Option V
 b:Option V
 c:Option V
 d:Option V
 e:Option V
 f:Option V
 g:Option V
 h:Option V
noncomputable def gR (Y:FC) (z:T8) (w:List (Option V)):List (Option V):=some (.ref Y.x)::iv Y.A.length::iv Y.B.length::some (.ref Y.q)::some (.ref Y.nl)::z.a::z.b::z.c::z.d::z.e::z.f::z.g::z.h::w
noncomputable abbrev n7:List (Option V):=[none,none,none,none,none,none,none]
structure GOk (W:Wd) (lv:Nat) (Y:FC) (σ:Led):Prop where
 P:PrOk W.K
 S:SmOk W.K
 hlv:lv<70
 ma:(Y.a,O.list (Y.A.map V.str))∈σ
 mb:(Y.b,O.list (Y.B.map V.str))∈σ
 hD:DOk Y.B Y.D
 hA2:Y.A.length<60
 hB2:Y.B.length<200
noncomputable def gS (i:Nat):PS:=k0.body[i]?.getD .bad
noncomputable def zbF:List PS:=match gS 5 with
 | .whil _ b=>b
 | _=>[]
noncomputable def gIte:List PS:=match zbF with
 | [_,_,.ite _ a _]=>a
 | _=>[]
structure GT where
 R:List (Addr×R4)
 bs:List (Addr×T3)
 t:Addr
 u:Addr
 al:Nat
 ah:Nat
 bl:Nat
 bh:Nat
 i:Nat
 j:Nat
 k:Nat
noncomputable def GT.z (G:GT):T8:=⟨iv G.al,iv G.ah,iv G.bl,iv G.bh,iv G.i,iv G.j,iv G.k,some (.ref G.u)⟩
noncomputable def GT.old (G:GT):List (Addr×R4):=G.R++[(G.t,(G.al,G.ah,G.bl,G.bh))]
noncomputable def GT.nb (G:GT):List (Addr×T3):=G.bs++[(G.u,(G.i,G.j,G.k))]
noncomputable abbrev rf {α:Type} (L:List (Addr×α)):List V:=L.map fun p=>V.ref p.1
theorem j5 {α:Type} (L:List (Addr×α)) (a:Addr) (x:α):rf (L++[(a,x)])=rf L++[V.ref a]:=by simp
noncomputable def gM (Y:FC) (R:List (Addr×R4)) (bs:List (Addr×T3)) (σ:Led):Led:=fcM Y (gL Y.q Y.nl R bs σ)
noncomputable def gX (Y:FC) (G:GT) (X:List (Addr×R4)) (σ:Led):Led:=fcM Y ((G.u,O.tsub 848 (v3 (G.i,G.j,G.k)))::(Y.q,.list (rf (G.R++X)))::(Y.nl,.list (rf G.nb))::(qE G.R++(qE X++((G.t,.tup (v4 (G.al,G.ah,G.bl,G.bh)))::(tsE 848 G.bs++σ)))))
structure GTk (Y:FC) (σ:Led) (G:GT) (K:AFl->List (Option V)->Led->Prop):Prop where
 hQ:QI Y.A Y.B G.old G.bs
 best:Best Y.A Y.B G.al G.ah G.bl G.bh G.i G.j G.k
 hk:0<G.k
 go:∀ R2 bs2 z τ,QI Y.A Y.B R2 bs2->msr R2<msr G.old->Sub (gM Y R2 bs2 σ) τ->K .next (gR Y z n7) τ
 len:G.R.length<=1000
section
variable {W:Wd} {lv:Nat} {σ:Led} {Y:FC} {G:GT} {K:AFl->List (Option V)->Led->Prop}
theorem inF {p:Addr×O} (h:p∈σ):p∈fcM Y σ:=inM h
theorem subF {σ':Led} (h:Sub σ σ'):Sub (fcM Y σ) (fcM Y σ'):=subM h
theorem uF (F:Led):Sub (fcM Y (F++σ)) (F++fcM Y σ):=Hr F
theorem putF {σ':Led} {q:Addr} {y:O} (P:Put q y σ σ'):Put q y (fcM Y σ) (fcM Y σ'):=putM P
theorem zbG (k:GTk Y σ G K) {X Z:List (Addr×R4)} {τ:Led} (hX:X=[]\/∃ a,X=[(a,(G.al,G.i,G.bl,G.j))]) (hZ:Z=[]\/∃ a,Z=[(a,(G.i+G.k,G.ah,G.j+G.k,G.bh))])
  (hs:Sub (qE Z++fcM Y ((G.u,O.tsub 848 (v3 (G.i,G.j,G.k)))::(Y.q,.list (rf (G.R++X++Z)))::(Y.nl,.list (rf G.nb))::(qE G.R++(qE X++((G.t,.tup (v4 (G.al,G.ah,G.bl,G.bh)))::(tsE 848 G.bs++σ)))))) τ):K .next (gR Y G.z n7) τ:=by
 refine e02 (k.hQ.split (tx:=G.u) k.best k.hk hX hZ) fun q1 q2=>?_
 refine k.go (G.R++X++Z) G.nb _ _ q1 q2 (Sub.trans (Sub.trans (subF ?_) (uF (qE Z))) hs)
 have e1:gL Y.q Y.nl (G.R++X++Z) G.nb σ=(Y.q,.list (rf (G.R++X++Z)))::(Y.nl,.list (rf G.nb))::(qE G.R++(qE X++(qE Z++(tsE 848 G.bs++((G.u,O.tsub 848 (v3 (G.i,G.j,G.k)))::σ))))):=by simp [gL,qE,tsE,GT.nb]
 refine sr e1 ?_
 exact Sub.idx [qE Z,[(G.u,O.tsub 848 (v3 (G.i,G.j,G.k)))],[(Y.q,.list (rf (G.R++X++Z)))],[(Y.nl,.list (rf G.nb))],qE G.R,qE X,[(G.t,.tup (v4 (G.al,G.ah,G.bl,G.bh)))],tsE 848 G.bs,σ] [2,3,4,5,0,7,1,8] [0,1,2,3,4,5,6,7,8] [6] (by decide)
theorem uG (k:GTk Y σ G K) {X:List (Addr×R4)} {τ:Led} (hX:X=[]\/∃ a,X=[(a,(G.al,G.i,G.bl,G.j))]) (hs:Sub (gX Y G X σ) τ):aexs W (lv+1) [] (gIte.drop 2) (gR Y G.z n7) τ K:=by
 have no:K .next (gR Y G.z n7) (gX Y G X σ):=zbG k hX (.inl rfl) (by rw [List.append_nil];exact Sub.refl _)
 have hl:(rf (G.R++X)).length<16777216:=by
  rw [List.length_map,List.length_append]
  have:X.length<=1:=by rcases hX with rfl | ⟨a,rfl⟩ <;> first | exact Nat.zero_le _ | exact Nat.le_refl 1
  exact okb (Nat.add_le_add k.len this) (by decide)
 refine Sub.aexs hs (zc (zJ (zV (fun c1=>zJ (zV (fun c2=>?_) fun _=>no)) fun _=>no)))
 refine zc (zk (inF (.tail _ (.head _))) (zJ (zJ (zK (by simp) fun t2=>zq (.tail _ (inF (.tail _ (.head _)))) hl (.there _ (putF (.there _ (.here _ _)))) ?_))))
 exact zbG k (Z:=[(t2,(G.i+G.k,G.ah,G.j+G.k,G.bh))]) hX (.inr ⟨t2,rfl⟩) (by rw [j5];exact Sub.refl _)
theorem zap (k:GTk Y σ G K) {τ:Led} (hs:Sub (gX Y G [] σ) τ):aexs W (lv+1) [] (gIte.drop 1) (gR Y G.z n7) τ K:=by
 have no:aexs W (lv+1) [] (gIte.drop 2) (gR Y G.z n7) (gX Y G [] σ) K:=uG k (.inl rfl) (Sub.refl _)
 refine Sub.aexs hs (za (zV (fun c1=>zV (fun c2=>?_) fun _=>no) fun _=>no))
 refine zc (zk (inF (.tail _ (.head _))) (zK (by simp) fun t2=>zq (.tail _ (inF (.tail _ (.head _)))) (by rw [List.append_nil,List.length_map];exact okb k.len (by decide)) (.there _ (putF (.there _ (.here _ _)))) ?_))
 refine uG k (X:=[(t2,(G.al,G.i,G.bl,G.j))]) (.inr ⟨t2,rfl⟩) (Sub.trans (subF ?_) (uF [(t2,.tup (v4 (G.al,G.i,G.bl,G.j)))]))
 rw [j5,List.append_nil]
 exact Sub.idx [[(t2,.tup (v4 (G.al,G.i,G.bl,G.j)))],[(G.u,O.tsub 848 (v3 (G.i,G.j,G.k)))],[(Y.q,.list (rf G.R++[V.ref t2]))],[(Y.nl,.list (rf G.nb))],qE G.R,[(G.t,.tup (v4 (G.al,G.ah,G.bl,G.bh)))],tsE 848 G.bs++σ] [1,2,3,4,0,5,6] [0,1,2,3,4,5,6] [] (by decide)
theorem Ht (F:GOk W lv Y σ) {R0:List (Addr×R4)} {bs:List (Addr×T3)} {z:T8} (hne:R0≠[]) (hQ:QI Y.A Y.B R0 bs) (hlt:msr R0<1000)
  (go:∀ R2 bs2 z τ,QI Y.A Y.B R2 bs2->msr R2<msr R0->Sub (gM Y R2 bs2 σ) τ->K .next (gR Y z n7) τ):aexs W (lv+1) [] zbF (gR Y z n7) (gM Y R0 bs σ) K:=by
 obtain ⟨R,⟨t,al,ah,bl,bh⟩,rfl⟩:∃ R p,R0=R++[p]:=⟨R0.dropLast,R0.getLast hne,(List.dropLast_concat_getLast hne).symm⟩
 have w0:=hQ.wf (t,(al,ah,bl,bh)) (List.mem_append_right _ (.head _))
 have eg:gM Y (R++[(t,(al,ah,bl,bh))]) bs σ=fcM Y ((Y.q,.list (rf R++[.ref t]))::(Y.nl,.list (rf bs))::(qE R++((t,.tup (v4 (al,ah,bl,bh)))::(tsE 848 bs++σ)))):=by simp [gM,gL,qE]
 refine sr eg ?_
 refine za (XN (inF (.head _)) (Y6 (inF (.head _)) (putF (.here _ _)) ?_))
 refine zp (inF (.tail _ (.tail _ (List.mem_append_right _ (.head _))))) rfl ?_
 refine za (zN F.S.flm (.head _) (.tail _ (.head _)) (by decide +kernel) (zbE F.P F.S (okb F.hlv (by decide)) (.tail _ (.tail _ (List.mem_append_right _ (.tail _ (List.mem_append_right _ F.ma))))) (.tail _ (.tail _ (List.mem_append_right _ (.tail _ (List.mem_append_right _ F.mb))))) F.hD
  w0.1 w0.2.2.1 w0.2.1 w0.2.2.2 (oka F.hA2 (by decide)) F.hB2 fun i j k u hb=>?_))
 refine Qr F.S.mt (.head _) rfl ?_
 refine Sub.aexs (uF [_]) (zc (Yk (n:=k) rfl (fun hk=>?_) fun hk=>?_))
 ·refine e02 hQ.drop fun q1 q2=>?_
  refine go R bs ⟨iv al,iv ah,iv bl,iv bh,iv i,iv j,iv k,some (.ref u)⟩ _ q1 q2 (subF (Sub.idx [[(u,O.tsub 848 (v3 (i,j,k)))],[(Y.q,.list (rf R))],[(Y.nl,.list (rf bs))],qE R,[(t,.tup (v4 (al,ah,bl,bh)))],tsE 848 bs++σ] [1,2,3,5] [0,1,2,3,4,5] [0,4] (by decide)))
 ·have hbl:bs.length<=60:=okc (okc (Nat.le_add_right _ _) hQ.cnt) (okd F.hA2)
  have hRl:R.length<=1000:=by
   have:=uC (R++[(t,(al,ah,bl,bh))])
   rw [List.length_append] at this
   exact okd (okb (oks this) hlt)
  refine za (zk (inF (.tail _ (.tail _ (.head _)))) (zq (inF (.tail _ (.tail _ (.head _)))) (by rw [List.length_map];exact okb hbl (by decide)) (putF (.there _ (.there _ (.here _ _)))) ?_))
  refine zap (G:=⟨R,bs,t,u,al,ah,bl,bh,i,j,k⟩) ⟨hQ,hb,hk,go,hRl⟩ ?_
  refine (?_:Sub (fcM Y (_::_::(_,.list (rf (bs++[(u,(i,j,k))])))::_)) _)
  rw [j5,List.append_nil]
  exact Sub.refl _
structure G2 where
 na:Addr
 ys:List (Addr×T3)
 bs:List (Addr×T3)
 z:T8
structure GU where
 ts:List (Addr×T3)
 i:Nat
 j:Nat
 k:Nat
 u:Option V
 v:Option V
 w:Option V
noncomputable def tE (ts:List (Addr×T3)):Led:=ts.map fun b=>(b.1,O.tup (v3 b.2))
noncomputable def g2E (Y:FC) (g:G2) (σ:Led):Led:=(Y.q,.list [])::(Y.nl,.list (rf g.ys))::(tsE 848 g.bs++σ)
noncomputable def g2M (Y:FC) (g:G2) (ts:List (Addr×T3)) (σ:Led):Led:=fcM Y ((g.na,.list (rf ts))::(tE ts++g2E Y g σ))
noncomputable def g2R (Y:FC) (g:G2) (s:GU):List (Option V):=gR Y g.z [iv s.i,iv s.j,iv s.k,some (.ref g.na),s.u,s.v,s.w]
structure GI (Y:FC) (g:G2) (n:Nat) (s:GU):Prop where
 cur:Cur Y.A Y.B (s.ts.map (·.2)) s.i s.j s.k ((g.ys.map (·.2)).drop n)
 len:s.ts.length<=n
 n:n<=g.ys.length
noncomputable def g2B:List PS:=match gS 9 with
 | .forr _ _ b=>b
 | _=>[]
noncomputable def g2B2:List PS:=match g2B with
 | [.ite _ _ b]=>b
 | _=>[]
theorem zbH {g:G2} {ts:List (Addr×T3)} {t2:Addr} {x:T3}:Sub (g2M Y g (ts++[(t2,x)]) σ) ((t2,.tup (v3 x))::fcM Y ((g.na,.list (rf ts++[.ref t2]))::(tE ts++g2E Y g σ))):=by
 refine Sub.trans (subF ?_) (uF [(t2,.tup (v3 x))])
 have e2:tE (ts++[(t2,x)])++g2E Y g σ=tE ts++((t2,O.tup (v3 x))::g2E Y g σ):=by simp [tE]
 rw [j5,e2]
 exact Sub.idx [[(t2,O.tup (v3 x))],[(g.na,.list (rf ts++[V.ref t2]))],tE ts,g2E Y g σ] [1,2,0,3] [0,1,2,3] [] (by decide)
theorem kx {g:G2} {ts:List (Addr×T3)} {u v w:Option V} {i j k:Nat} (hl:ts.length<=100) (h:∀ t2 τ,Sub (g2M Y g (ts++[(t2,(i,j,k))]) σ) τ->K .next (g2R Y g ⟨ts,i,j,k,u,v,w⟩) τ) :
  aexs W (lv+1) [] [.expr (.meth (.loc 16) "append" [(.tup [(.loc 13),(.loc 14),(.loc 15)])])] (g2R Y g ⟨ts,i,j,k,u,v,w⟩) (g2M Y g ts σ) K:=by
 refine zc (zk (inF (.head _)) (zK (by simp) fun t2=>zq (.tail _ (inF (.head _))) (by rw [List.length_map];exact okb hl (by decide)) (.there _ (putF (.here _ _))) ?_))
 exact h t2 _ zbH
theorem zaq (F:GOk W lv Y σ) {g:G2} {n:Nat} {s:GU} {R:AFl->List (Option V)->Led->Prop} {ya:Addr} {yi yj yl:Nat} (hlen:g.ys.length<60) (hch:Ch Y.A Y.B (g.ys.map (·.2))) (hy:g.ys[n]?=some (ya,(yi,yj,yl))) (hs:GI Y g n s)
  (hR:∀ fl s' τ,(fl=.next\/fl=.cont)->GI Y g (n+1) s'->Sub (g2M Y g s'.ts σ) τ->R fl (g2R Y g s') τ) :
  aexs W (lv+1) [] g2B (g2R Y g ⟨s.ts,s.i,s.j,s.k,iv yi,iv yj,iv yl⟩) (g2M Y g s.ts σ) R:=by
 obtain ⟨ts,i,j,k,u,v,w⟩:=s
 obtain ⟨hc,htl,hnl⟩:=hs
 dsimp only at hc htl
 have hylt:n<g.ys.length:=(List.getElem?_eq_some_iff.mp hy).1
 have hdr:(g.ys.map (·.2)).drop n=(yi,yj,yl)::(g.ys.map (·.2)).drop (n+1):=by
  refine sr (List.drop_eq_getElem_cons (by rw [List.length_map];exact hylt)) ?_
  congr 1
  rw [List.getElem_map,(List.getElem?_eq_some_iff.mp hy).2]
 rw [hdr] at hc
 have hk:=hch.bk (yi,yj,yl) (List.mem_map.mpr ⟨_,List.mem_of_getElem? hy,rfl⟩)
 have hf:∀ z∈(g.ys.map (·.2)).drop (n+1),yi+yl<=z.1/\yj+yl<=z.2.1:=by
  have:=hch.up.sublist (List.drop_sublist n _)
  rw [hdr,List.pairwise_cons] at this
  exact this.1
 have other:aexs W (lv+1) [] g2B2 (g2R Y g ⟨ts,i,j,k,iv yi,iv yj,iv yl⟩) (g2M Y g ts σ) R:=by
  refine e02 (hc.step hk.2.1 hk.2.2.1 hk.2.2.2 hf) fun s1 s2=>?_
  have fin:∀ (ts':List (Addr×T3)) τ,ts'.length<=n+1->Cur Y.A Y.B (ts'.map (·.2)) yi yj yl ((g.ys.map (·.2)).drop (n+1))->Sub (g2M Y g ts' σ) τ->aexs W (lv+1) [] (g2B2.drop 1) (g2R Y g ⟨ts,i,j,k,iv yi,iv yj,iv yl⟩) τ R:=fun ts' τ h1 h2 h3=>
   Sub.aexs h3 (zc ⟨rfl,zK (by simp) fun t2=>zp (.head _) rfl (hR .next ⟨ts',yi,yj,yl,iv yi,iv yj,iv yl⟩ _ (.inl rfl) ⟨h2,h1,hylt⟩ (Sub.refl _).skip)⟩)
  refine za (Yk (n:=k) rfl (fun hk0=>fin ts _ (Nat.le_succ_of_le htl) (s1 hk0) (Sub.refl _)) fun _=>?_)
  exact kx (okc htl (okc hnl (okc (okd hlen) (by decide)))) fun t2 τ hs=>fin _ _ (by rw [List.length_append];exact Nat.succ_le_succ htl) (by rw [List.map_append];exact s2) hs
 refine zc (zJ (Y5 (fun c1=>zJ (Y5 (fun c2=>?_) fun _=>other)) fun _=>other))
 obtain rfl:i+k=yi:=c1
 obtain rfl:j+k=yj:=c2
 exact zc (XH (hR .next ⟨ts,i,j,k+yl,_,_,_⟩ _ (.inl rfl) ⟨hc.join hk.2.1 hk.2.2.1 hk.2.2.2 hf,Nat.le_succ_of_le htl,hylt⟩ (Sub.refl _)))
noncomputable abbrev gK (Q:V->Led->Prop):AFl->List (Option V)->Led->Prop:=fun fl _ σ'=>∃ σ'',Sub σ'' σ'/\match fl with
 | .next=>Q .none σ''
 | .ret v=>Q v σ''
 | _=>False
theorem ky (F:GOk W lv Y σ) {Q:V->Led->Prop} (hQ:∀ D' (bs:List (Addr×T3)),qM Y.A Y.B (bs.map (·.2))->bs.length<100->Q (.ref D') (smM Y.x Y.dx Y.a Y.b Y.d Y.e Y.e' (.ref D') Y.opv Y.D ((D',.list (rf bs))::(tsE 848 bs++σ))))
  {g:G2} {s:GU} {ts:List (Addr×T3)} {τ:Led} (h1:ts.length<=61) (h2:qM Y.A Y.B (ts.map (·.2)++[(Y.A.length,Y.B.length,0)])) (hs:Sub (g2M Y g ts σ) τ):aexs W (lv+1) [] (k0.body.drop 11) (g2R Y g s) τ (gK Q):=by
 refine Sub.aexs hs (za (zk (inF (.head _)) (zK (by simp) fun t2=>zq (.tail _ (inF (.head _))) (by rw [List.length_map];exact okb h1 (by decide)) (.there _ (putF (.here _ _))) ?_)))
 refine za (ux F.S.mt F.S.mm fun q=>uy (.tail _ (.tail _ (inF (.head _)))) fun mp tt J=>?_)
 refine sr (show rf ts++[V.ref t2]=rf (ts++[(t2,((Y.A.length,Y.B.length,0):T3))]) from (j5 ..).symm) ?_
 refine xF (ts:=ts++[(t2,(Y.A.length,Y.B.length,0))]) F.S.mt F.S.mm (okb F.hlv (by decide)) (.tail _ (inF (.head _))) (fun b hb=>?_) (by refine sr List.length_append ?_;exact okb (Nat.add_le_add_right h1 1) (by decide)) rfl fun D' bs' hbs'=>?_
 ·rcases List.mem_append.mp hb with hb | hb
  ·exact .tail _ (inF (.tail _ (List.mem_append_left _ (List.mem_map.mpr ⟨b,hb,rfl⟩))))
  ·refine sr (List.mem_singleton.mp hb) ?_;exact .head _
 refine zR (i:=4) F.S.cl (by decide +kernel) (.tail _ (List.mem_append_right _ (.tail _ (.head _)))) (.tail _ (List.mem_append_right _ (.tail _ (.tail _ (.head _))))) (by decide +kernel) (by simp) (by decide) (.there _ (Put.appr (.there _ (.there _ (.here _ _))))) ?_
 refine zc (zf (i:=4) F.S.cl (by decide +kernel) (.tail _ (List.mem_append_right _ (.tail _ (.head _)))) (.tail _ (List.mem_append_right _ (.tail _ (.tail _ (.head _))))) (by decide +kernel) rfl rfl ?_)
 have hm:bs'.map (·.2)=ts.map (·.2)++[(Y.A.length,Y.B.length,0)]:=by refine sr hbs' (sr List.map_append ?_);rfl
 have hl:bs'.length=ts.length+1:=by have:=congrArg List.length hm;simp at this;exact this
 refine ⟨_,?_,hQ D' bs' (hm ▸ h2) (hl ▸ okb (Nat.succ_le_succ h1) (by decide))⟩
 refine Sub.trans (subM (σ':=((D',.list (rf bs'))::tsE 848 bs')++((g.na,.list (rf (ts++[(t2,((Y.A.length,Y.B.length,0):T3))])))::(tE ts++g2E Y g σ))) (Sub.app (P:=(D',.list (rf bs'))::tsE 848 bs') (Sub.skip (Sub.trans (Sub.skip (Sub.skip Sub.of_append)) Sub.of_append)))) ?_
 exact Sub.trans (Hr ((D',.list (rf bs'))::tsE 848 bs')) (Sub.app (P:=(D',.list (rf bs'))::tsE 848 bs') (Sub.skip (Sub.refl _)))
theorem Hu (F:GOk W lv Y σ) {Q:V->Led->Prop} (hQ:∀ D' (bs:List (Addr×T3)),qM Y.A Y.B (bs.map (·.2))->bs.length<100->Q (.ref D') (smM Y.x Y.dx Y.a Y.b Y.d Y.e Y.e' (.ref D') Y.opv Y.D ((D',.list (rf bs))::(tsE 848 bs++σ))))
  {z:T8} {R:List (Addr×R4)} {bs:List (Addr×T3)} (e:R=[]) (h:QI Y.A Y.B R bs):aexs W (lv+1) [] (k0.body.drop 6) (gR Y z n7) (gM Y R bs σ) (gK Q):=by
 subst e
 have hbl:bs.length<60:=okb (okc (Nat.le_add_right _ _) h.cnt) F.hA2
 refine (?_:aexs W (lv+1) [] _ _ (fcM Y ((Y.q,.list [])::(Y.nl,.list (rf bs))::(tsE 848 bs++σ))) _)
 refine (za (KX (inF (.tail _ (.head _))) (uq F.S.mt (oka F.hlv (by decide)) (inF (.tail _ (.head _))) (fun b hb=>inF (.tail _ (.tail _ (List.mem_append_left _ (List.mem_map.mpr ⟨b,hb,rfl⟩))))) h.nodup (oka hbl (by decide)) fun ys hp hsd=>⟨_,putF (.there _ (.here _ _)),?_⟩)))
 have hyl:ys.length=bs.length:=hp.length_eq
 have hch:=h.chain hp hsd
 refine za ?_
 refine za (zC (by simp) fun na=>?_)
 refine Sub.aexs (uF [_]) (za (zB (inF (.tail _ (.tail _ (.head _)))) ?_))
 refine zL (ρf:=g2R Y ⟨na,ys,bs,z⟩) (σf:=fun s=>g2M Y ⟨na,ys,bs,z⟩ s.ts σ) (xs:=rf ys) (.inr fun i=>?_) (GI Y ⟨na,ys,bs,z⟩) (fun s=>inF (.tail _ (List.mem_append_right _ (.tail _ (.head _))))) ?_ (fun s hc=>?_) (s:=⟨[],0,0,0,none,none,none⟩)
  ⟨⟨⟨0,0,⟨rfl,rfl⟩,Nat.le_refl _,Nat.le_refl _⟩,fun t ht=>absurd ht (Nat.not_lt_of_le (Nat.zero_le _)),Nat.zero_le _,Nat.zero_le _,fun y hy=>⟨Nat.zero_le _,Nat.zero_le _⟩⟩,Nat.zero_le _,Nat.zero_le _⟩
 ·cases hi:(rf ys)[i]? with
  | none=>exact .inl rfl
  | some v=>
   refine e12 (Option.map_eq_some_iff.mp (List.getElem?_map .. ▸ hi)) fun y _ w0=>?_;subst w0
   exact .inr ⟨_,rfl⟩
 ·intro n v R hv s hs hR _ _
  obtain ⟨⟨ya,yi,yj,yl⟩,hy,rfl⟩:=Option.map_eq_some_iff.mp (List.getElem?_map .. ▸ hv)
  have hyb:(ya,(yi,yj,yl))∈bs:=hp.mem_iff.mp (List.mem_of_getElem? hy)
  refine Qr F.S.mt (inF (.tail _ (List.mem_append_right _ (.tail _ (.tail _ (List.mem_append_left _ (List.mem_map.mpr ⟨_,hyb,rfl⟩))))))) rfl ?_
  exact zaq F (g:=⟨na,ys,bs,z⟩) (hyl ▸ hbl) hch hy hs hR
 ·have hl:s.ts.length<=60:=okc hc.len (by rw [List.length_map,hyl];exact okd hbl)
  have hcc:=hc.cur
  rw [List.length_map,show ((G2.ys ⟨na,ys,bs,z⟩).map (·.2)).drop ys.length=[] from List.drop_of_length_le (by rw [List.length_map];exact Nat.le_refl _)] at hcc
  refine e02 hcc.done fun f1 f2=>?_
  refine za (Yk (n:=s.k) rfl (fun hk0=>ky F hQ (okc hl (by decide)) (f1 hk0) (Sub.refl _)) fun _=>?_)
  exact kx (okc hl (by decide)) fun t2 τ hs=>ky F hQ (by refine sr List.length_append ?_;exact Nat.succ_le_succ hl) (by refine sr List.map_append ?_;exact f2) hs
structure GQ where
 R:List (Addr×R4)
 bs:List (Addr×T3)
 z:T8
theorem Hv (F:GOk W lv Y σ) {Q:V->Led->Prop} (hQ:∀ D' (bs:List (Addr×T3)),qM Y.A Y.B (bs.map (·.2))->bs.length<100->Q (.ref D') (smM Y.x Y.dx Y.a Y.b Y.d Y.e Y.e' (.ref D') Y.opv Y.D ((D',.list (rf bs))::(tsE 848 bs++σ))))
  {z:T8} {t1:Addr} (h0:msr [(t1,(0,Y.A.length,0,Y.B.length))]<1000):aexs W (lv+1) [] (k0.body.drop 5) (gR Y z n7) (gM Y [(t1,(0,Y.A.length,0,Y.B.length))] [] σ) (gK Q):=by
 refine za ?_
 refine j4 (ρf:=fun s:GQ=>gR Y s.z n7) (σf:=fun s=>gM Y s.R s.bs σ) (fun s=>msr s.R) (fun s=>QI Y.A Y.B s.R s.bs/\msr s.R<1000) ?_ (s:=⟨[(t1,(0,Y.A.length,0,Y.B.length))],[],z⟩) ⟨⟨by simp,by simp,by simp,by simp [wid]⟩,h0⟩
 intro s hs T hF hT
 refine ⟨_,!s.R.isEmpty,inF (.head _),by cases s.R <;> rfl,?_⟩
 by_cases e:s.R=[]
 ·rw [show (!s.R.isEmpty)=false by rw [e];rfl];exact hF _ (Hu F hQ e hs.1)
 ·rw [show (!s.R.isEmpty)=true by cases q:s.R;exact absurd q e;rfl]
  exact hT _ fun K hK _=>Ht F e hs.1 hs.2 fun R2 bs2 z τ h1 h2 hs2=>hK .next ⟨R2,bs2,z⟩ _ (.inl rfl) ⟨h1,oka h2 (okd hs.2)⟩ h2 hs2
end
section
variable {W:Wd} {lv:Nat} {σ:Led} {Q:V->Led->Prop} {x dx:Addr}
theorem zbI {a b d e e':Addr} {opv:V} {D:DE} {A B:List Wo} (P:PrOk W.K) (S:SmOk W.K) (hlv:lv<70) (ma:(a,O.list (A.map V.str))∈σ) (mb:(b,O.list (B.map V.str))∈σ) (hD:DOk B D) (hA2:A.length<60) (hB2:B.length<200)
  (h:∀ D' (bs:List (Addr×T3)),qM A B (bs.map (·.2))->bs.length<100->Q (.ref D') (smM x dx a b d e e' (.ref D') opv D ((D',.list (bs.map fun b=>V.ref b.1))::(tsE 848 bs++σ)))) :
  zm W lv (.ref 916) [.ref x] (smM x dx a b d e e' .none opv D σ) Q:=by
 refine zA P.h_gmb (oka hlv (by decide)) (Nat.le_refl 1) (Nat.le_refl 1) ?_
 refine za (p:=.pass) ?_
 refine za (zf (i:=4) S.cl (by decide +kernel) (.head _) (.tail _ (.head _)) (by decide +kernel) rfl rfl (zE (b:=false) rfl ?_))
 refine za ⟨rfl,zf (i:=1) S.cl (by decide +kernel) (.head _) (.tail _ (.head _)) (by decide +kernel) rfl rfl (Zy (inM ma) ?_)⟩
 refine zf (i:=2) S.cl (by decide +kernel) (.head _) (.tail _ (.head _)) (by decide +kernel) rfl rfl (Zy (inM mb) ?_)
 refine zK (by simp) fun t0=>zp (.head _) rfl ?_
 refine ze ((Sub.refl _).skip) (zK (by simp) fun t1=>zC (by simp) fun qa=>?_)
 refine za (zC (by simp) fun mA=>?_)
 rw [List.length_map,List.length_map]
 have F:GOk W lv ⟨x,dx,a,b,d,e,e',qa,mA,.none,opv,D,A,B,0,0,0,0⟩ σ:=⟨P,S,hlv,ma,mb,hD,hA2,hB2⟩
 refine Sub.aexs (σ':=gM ⟨x,dx,a,b,d,e,e',qa,mA,.none,opv,D,A,B,0,0,0,0⟩ [(t1,(0,A.length,0,B.length))] [] σ) (Sub.trans (Hr [_,_,_]) (Sub.idx [[(qa,O.list [V.ref t1])],[(mA,O.list [])],[(t1,O.tup (v4 (0,A.length,0,B.length)))],smM x dx a b d e e' .none opv D σ] [0,1,2,3] [1,0,2,3] [] (by decide))) ?_
 refine Hv F h (z:=⟨none,none,none,none,none,none,none,none⟩) ?_
 rw [uD]
 exact okb (Nat.succ_le_succ (Nat.mul_le_mul_left 2 (okd hA2))) (by decide)
end
end
section
noncomputable abbrev OpC:=List Nat×R4
noncomputable abbrev vO (o:OpC):List V:=[.str o.1,.int o.2.1,.int o.2.2.1,.int o.2.2.2.1,.int o.2.2.2.2]
noncomputable abbrev oE (os:List (Addr×OpC)):Led:=os.map fun p=>(p.1,O.tup (vO p.2))
noncomputable def xK:List Nat:=[114,101,112,108,97,99,101]
noncomputable def Yl:List Nat:=[100,101,108,101,116,101]
noncomputable def Ym:List Nat:=[105,110,115,101,114,116]
noncomputable def JS:List Nat:=[101,113,117,97,108]
noncomputable def tagO (i j ai bj:Nat):List Nat:=if i<ai/\j<bj then xK else if i<ai then Yl else if j<bj then Ym else []
noncomputable def op1 (i j ai bj:Nat):List OpC:=if tagO i j ai bj=[] then [] else [(tagO i j ai bj,(i,ai,j,bj))]
noncomputable def op2 (ai bj k:Nat):List OpC:=if k=0 then [] else [(JS,(ai,ai+k,bj,bj+k))]
noncomputable def j6:Nat->Nat->List T3->List OpC
 | _,_,[]=>[]
 | i,j,b::r=>op1 i j b.1 b.2.1++op2 b.1 b.2.1 b.2.2++j6 (b.1+b.2.2) (b.2.1+b.2.2) r
section
variable {W:Wd} {lv:Nat} {cl:List V} {ρ:List (Option V)} {σ:Led} {K:AFl->List (Option V)->Led->Prop}
theorem Yn {α:Type} {ρf:α->List (Option V)} {σf:α->Led} {store:V->List (Option V)->Led->(List (Option V)->Led->Prop)->Prop} {body:List (Option V)->Led->(AFl->List (Option V)->Led->Prop)->Prop} {b:Bool} {a:Addr} {xs:List V}
  (hb:b=false\/∀ i:Nat,xs[i]?=none\/∃ t,xs[i]?=some (.ref t)) (P:Nat->α->Prop) (mem:∀ s,(a,O.list xs)∈σf s)
  (step:∀ i x (R:AFl->List (Option V)->Led->Prop),xs[i]?=some x->∀ s τ,P i s->Sub (σf s) τ->(∀ s' τ,P (i+1) s'->Sub (σf s') τ->R .next (ρf s') τ)->store x (ρf s) τ fun ρ σ=>body ρ σ R)
  (done:∀ s τ,P xs.length s->Sub (σf s) τ->K .next (ρf s) τ) {s:α} (h:P 0 s) (hs:Sub (σf s) σ):∃ n,afor W lv b store body (.list a) n 0 (ρf s) σ K:=by
 refine kc hb (fun i ρ σ=>∃ s,P i s/\ρ=ρf s/\Sub (σf s) σ) ?_ ?_ ?_ ⟨s,h,rfl,hs⟩
 ·rintro i ρ σ ⟨s,_,rfl,hs⟩;exact hs.mem (mem s)
 ·rintro i x ρ σ R hx ⟨s,hp,rfl,hs⟩ hR _
  exact step i x R hx s σ hp hs fun s' τ hp' hs'=>hR _ _ _ (.inl rfl) ⟨_,Sub.refl _,s',hp',rfl,hs'⟩
 ·rintro ρ σ ⟨s,hp,rfl,hs⟩;exact done s σ hp hs
end
section
variable {W:Wd} {lv:Nat} {σ:Led} {Q:V->Led->Prop} {x dx:Addr}
theorem ite_str {cl:List V} {ρ:List (Option V)} {σ:Led} {K:AFl->List (Option V)->Led->Prop} {i:Nat} {l:List Nat} {A B:List PS} (hv:ρ[i]?=some (some (.str l))) (h:l≠[]->aexs W lv cl A ρ σ K) (h0:l=[]->aexs W lv cl B ρ σ K):aex W lv cl (.ite (.loc i) A B) ρ σ K:=by
 refine xJ hv ?_
 refine (?_:(match !l.isEmpty with | true=>aexs W lv cl A ρ σ K | false=>aexs W lv cl B ρ σ K))
 cases l with
 | nil=>exact h0 rfl
 | cons _ _=>exact h (by simp)
noncomputable abbrev oB:List PS:=(jm.body.getD 4 .pass).blk
noncomputable def oR (x D':Addr) (i j:Nat) (y:T3) (tg:List Nat):List (Option V):=[some (.ref x),iv i,iv j,some (.ref D'),iv y.1,iv y.2.1,iv y.2.2,some (.str tg)]
noncomputable def oσ (M D':Addr) (bs:List (Addr×T3)) (σ:Led) (os:List (Addr×OpC)):Led:=(M,.list (bs.map fun b=>V.ref b.1))::(D',.list (os.map fun p=>V.ref p.1))::(oE os++(tsE 848 bs++σ))
variable {M D' t:Addr} {bs:List (Addr×T3)} {os:List (Addr×OpC)} {i j:Nat} {y:T3} {tg:List Nat} {τ:Led} {K:AFl->List (Option V)->Led->Prop} {o:OpC}
theorem oσ_snoc:Sub (oσ M D' bs σ (os++[(t,o)])) ((t,O.tup (vO o))::(M,.list (bs.map fun b=>V.ref b.1))::(D',.list ((os.map fun p=>V.ref p.1)++[.ref t]))::(oE os++(tsE 848 bs++σ))):=by
 have e2:oE (os++[(t,o)])++(tsE 848 bs++σ)=oE os++((t,O.tup (vO o))::(tsE 848 bs++σ)):=by rw [oE,List.map_append,List.append_assoc];rfl
 rw [oσ,List.map_append,e2]
 exact Sub.idx [[(t,O.tup (vO o))],[(M,.list (bs.map fun b=>V.ref b.1))],[(D',.list (os.map (fun p=>V.ref p.1)++[V.ref t]))],oE os,tsE 848 bs++σ] [1,2,3,0,4] [0,1,2,3,4] [] (by decide)
theorem zbJ (h:K .next (oR x D' i j y (tagO i j y.1 y.2.1)) τ):aex W lv [] (oB.getD 1 .pass) (oR x D' i j y []) τ K:=by
 refine zV (fun c1=>?_) fun c1=>?_
 ·refine zV (fun c2=>?_) fun c2=>?_
  ·rw [show tagO i j y.1 y.2.1=xK from if_pos ⟨c1,c2⟩] at h;exact zc h
  ·refine zc ?_
   refine zV (fun _=>?_) fun c=>absurd c1 (Nat.not_lt_of_le c)
   rw [show tagO i j y.1 y.2.1=Yl from (if_neg fun c=>Nat.not_lt_of_le c2 c.2).trans (if_pos c1)] at h;exact zc h
 ·refine zc ?_
  refine zV (fun c=>absurd c (Nat.not_lt_of_le c1)) fun _=>?_
  refine zc ?_
  refine zV (fun c2=>?_) fun c2=>?_
  ·rw [show tagO i j y.1 y.2.1=Ym from (if_neg fun c=>Nat.not_lt_of_le c1 c.1).trans ((if_neg (Nat.not_lt_of_le c1)).trans (if_pos c2))] at h;exact zc h
  ·rw [show tagO i j y.1 y.2.1=[] from (if_neg fun c=>Nat.not_lt_of_le c1 c.1).trans ((if_neg (Nat.not_lt_of_le c1)).trans (if_neg (Nat.not_lt_of_le c2)))] at h;exact h
theorem zar (hl:os.length<=10000) (hs:Sub (oσ M D' bs σ os) τ) (h:∀ os' τ,os'.map (·.2)=os.map (·.2)++op1 i j y.1 y.2.1->os'.length<=os.length+1->Sub (oσ M D' bs σ os') τ->K .next (oR x D' i j y (tagO i j y.1 y.2.1)) τ) :
  aex W lv [] (oB.getD 2 .pass) (oR x D' i j y (tagO i j y.1 y.2.1)) τ K:=by
 refine ite_str (ρ:=oR x D' i j y (tagO i j y.1 y.2.1)) (i:=7) rfl (fun hne=>?_) fun h0=>h os τ (by rw [op1,if_pos h0,List.append_nil]) (Nat.le_add_right _ _) hs
 refine ze hs (zk (.tail _ (.head _)) (zK (show 5<=16777216 by decide) fun t2=>zq (.tail _ (.tail _ (.head _))) (by rw [List.length_map];exact okb hl (by decide)) (.there _ (.there _ (.here _ _))) ?_))
 exact h (os++[(t2,(tagO i j y.1 y.2.1,(i,y.1,j,y.2.1)))]) _ (by rw [List.map_append,op1,if_neg hne];rfl) (by rw [List.length_append];exact Nat.le_refl _) oσ_snoc
theorem zas {i' j':Nat} (hl:os.length<=10000) (hi:i'=y.1+y.2.2) (hj:j'=y.2.1+y.2.2) (hs:Sub (oσ M D' bs σ os) τ) (h:∀ os' τ,os'.map (·.2)=os.map (·.2)++op2 y.1 y.2.1 y.2.2->os'.length<=os.length+1->Sub (oσ M D' bs σ os') τ->K .next (oR x D' i' j' y tg) τ) :
  aex W lv [] (oB.getD 4 .pass) (oR x D' i' j' y tg) τ K:=by
 by_cases hk:y.2.2=0
 ·refine Hs (ρ:=oR x D' i' j' y tg) (i:=6) (n:=(y.2.2:Int)) rfl (okl hk) (h os τ (by rw [op2,if_pos hk,List.append_nil]) (Nat.le_add_right _ _) hs)
 ·refine ite_int (ρ:=oR x D' i' j' y tg) (i:=6) (n:=(y.2.2:Int)) rfl (oko hk) ?_
  refine ze hs (zk (.tail _ (.head _)) (zK (show 5<=16777216 by decide) fun t2=>zq (.tail _ (.tail _ (.head _))) (by rw [List.length_map];exact okb hl (by decide)) (.there _ (.there _ (.here _ _))) ?_))
  exact h (os++[(t2,(JS,(y.1,i',y.2.1,j')))]) _ (by rw [List.map_append,op2,if_neg hk,hi,hj];rfl) (by rw [List.length_append];exact Nat.le_refl _) oσ_snoc
theorem zat (hl:os.length<=9000) (hs:Sub (oσ M D' bs σ os) τ) {r7:Option V} (h:∀ os' τ,os'.map (·.2)=os.map (·.2)++(op1 i j y.1 y.2.1++op2 y.1 y.2.1 y.2.2)->os'.length<=os.length+2->Sub (oσ M D' bs σ os') τ->K .next (oR x D' (y.1+y.2.2) (y.2.1+y.2.2) y (tagO i j y.1 y.2.1)) τ) :
  aexs W lv [] oB [some (.ref x),iv i,iv j,some (.ref D'),iv y.1,iv y.2.1,iv y.2.2,r7] τ K:=by
 refine za ?_
 refine za (zbJ (i:=i) (j:=j) (y:=y) ?_)
 refine za (zar (okc hl (by decide)) hs fun os1 τ1 e1 l1 s1=>?_)
 refine ze s1 ⟨rfl,Zl (Zl (zK (show 2<=16777216 by decide) fun t1=>zp (.head _) rfl ?_))⟩
 refine za (zas (x:=x) (y:=y) (tg:=tagO i j y.1 y.2.1) (okc l1 (okc (Nat.add_le_add_right hl 1) (by decide))) rfl rfl (Sub.refl _).skip fun os2 τ2 e2 l2 s2=>?_)
 exact h os2 τ2 (by rw [e2,e1,List.append_assoc]) (okc l2 (Nat.succ_le_succ l1)) s2
structure OSt where
 os:List (Addr×OpC)
 i:Nat
 j:Nat
 r4:Option V
 r5:Option V
 r6:Option V
 r7:Option V
theorem K3 {a b d e e':Addr} {D:DE} {A B:List Wo} (P:PrOk W.K) (S:SmOk W.K) (hlv:lv<69) (ma:(a,O.list (A.map V.str))∈σ) (mb:(b,O.list (B.map V.str))∈σ) (hD:DOk B D) (hA2:A.length<60) (hB2:B.length<200)
  (h:∀ D' (os:List (Addr×OpC)) ms,qM A B ms->os.map (·.2)=j6 0 0 ms->os.length<=300->Q (.ref D') ((D',.list (os.map fun p=>V.ref p.1))::(oE os++σ))) :
  zm W lv (.ref 923) [.ref x] (smM x dx a b d e e' .none .none D σ) Q:=by
 refine zA P.h_opcodes (oka hlv (by decide)) (show 1<=1 by decide) (show 1<=1 by decide) ?_
 refine za (p:=.pass) ?_
 refine za (zf (i:=5) S.cl (by decide +kernel) (.head _) (.tail _ (.head _)) (by decide +kernel) rfl rfl (zE (b:=false) rfl ?_))
 refine za ?_
 refine za (zC (Nat.zero_le _) fun D'=>?_)
 refine zR (i:=5) S.cl (by decide +kernel) (.tail _ (.head _)) (.tail _ (.tail _ (.head _))) (by decide +kernel) (by simp) (by decide) (.there _ (.there _ (.here _ _))) ?_
 refine ze (σ':=smM x dx a b d e e' .none (.ref D') D ((D',.list [])::σ)) (Hr [(D',.list [])]) (zN S.gmb (.head _) (.tail _ (.head _)) (by decide +kernel) (zbI P S (okg hlv) (.tail _ ma) (.tail _ mb) hD hA2 hB2 fun M bs hB hbl=>?_))
 refine zB (inM (.head _)) ?_
 refine Yn (xs:=bs.map fun b=>V.ref b.1) (ρf:=fun s:OSt=>[some (.ref x),iv s.i,iv s.j,some (.ref D'),s.r4,s.r5,s.r6,s.r7]) (σf:=fun s=>oσ M D' bs σ s.os) (.inr fun i=>?_)
  (fun n s=>s.os.map (·.2)++j6 s.i s.j ((bs.map (·.2)).drop n)=j6 0 0 (bs.map (·.2))/\s.os.length<=2*n) (fun _=>.head _) ?_ ?_ (s:=⟨[],0,0,none,none,none,none⟩) ⟨rfl,Nat.zero_le _⟩
  (Sub.idx [smP x dx a b d e e' (.ref M) (.ref D') D,[(M,.list (bs.map fun b:Addr×T3=>V.ref b.1))],tsE 848 bs,[(D',.list [])],σ] [1,3,2,4] [0,1,2,3,4] [0] (by decide))
 ·rw [List.getElem?_map]
  cases bs[i]? with
  | none=>exact .inl rfl
  | some v=>exact .inr ⟨_,rfl⟩
 ·intro n v R hv s τ ⟨ho,hol⟩ hs hR
  rw [List.getElem?_map,Option.map_eq_some_iff] at hv
  obtain ⟨⟨ya,y⟩,hy,rfl⟩:=hv
  have hn:=(List.getElem?_eq_some_iff.mp hy).1
  have ey:(bs.map (·.2)).drop n=y::(bs.map (·.2)).drop (n+1):=by
   rw [List.drop_eq_getElem_cons (by rw [List.length_map];exact hn),List.getElem_map,(List.getElem?_eq_some_iff.mp hy).2]
  rw [ey] at ho
  refine Qr S.mt (hs.mem (.tail _ (.tail _ (List.mem_append_right _ (List.mem_append_left _ (List.mem_map.mpr ⟨_,List.mem_of_getElem? hy,rfl⟩)))))) rfl ?_
  refine zat (y:=y) (okc hol (okc (Nat.mul_le_mul_left 2 (okc (okd hn) (okd hbl))) (by decide))) hs fun os' τ' e' l' s'=>?_
  exact hR ⟨os',y.1+y.2.2,y.2.1+y.2.2,_,_,_,_⟩ τ' ⟨by rw [e',List.append_assoc];exact ho,okc l' (Nat.add_le_add_right hol 2)⟩ s'
 ·intro s τ ⟨ho,hol⟩ hs
  rw [List.length_map] at ho hol
  rw [List.drop_of_length_le (by rw [List.length_map];exact Nat.le_refl _)] at ho
  refine za ?_
  exact ⟨_,Sub.trans (Sub.skip (.keep (Sub.app (P:=oE s.os) Sub.of_append))) hs,h D' s.os _ hB ((List.append_nil _).symm.trans ho) (okc hol (okc (Nat.mul_le_mul_left 2 (okd hbl)) (by decide)))⟩
end
end
section
noncomputable def tkO (A B:List Wo) (o:OpC):List Tk:=if o.1=JS then [] else .at o.2.1::.eq o.2.2.2.1::(((A.drop o.2.1).take (o.2.2.1-o.2.1)).map Tk.del++((B.drop o.2.2.2.1).take (o.2.2.2.2-o.2.2.2.1)).map Tk.ins)
noncomputable def stepT (A B:List Wo) (ms:List T3):List Tk:=(j6 0 0 ms).flatMap (tkO A B)
theorem kz {A B:List Wo}:∀ {ms:List T3} {i j p q:Nat},i<=A.length->j<=B.length->Wp A B i j ms p q->∀ o∈j6 i j ms,o.2.1<=A.length/\o.2.2.1<=A.length/\o.2.2.2.1<=B.length/\o.2.2.2.2<=B.length
 | [],_,_,_,_,_,_,_,o,ho=>by exact nn9 ho
 | b::r,i,j,p,q,hi,hj,h,o,ho=>by
  refine e06 h fun h1 h2 h3 h4 h5 h6=>?_
  refine ma ho (fun ho=>?_) fun ho=>?_
  ·refine ma ho (fun ho=>?_) fun ho=>?_
   ·unfold op1 at ho
    split at ho
    ·exact nn9 ho
    ·have:o=_:=List.mem_singleton.mp ho
     refine sr this ?_;dsimp only;omega
   ·unfold op2 at ho
    split at ho
    ·exact nn9 ho
    ·have:o=_:=List.mem_singleton.mp ho
     refine sr this ?_;dsimp only;omega
  ·exact kz h4 h5 h6 o ho
theorem zbK {α:Type} (X:List α) (a n:Nat):((X.drop a).take n).length<=X.length:=okc (List.length_take_le' _ _) (by refine sr List.length_drop ?_;exact Nat.sub_le _ _)
theorem zau {A B:List Wo} (o:OpC):(tkO A B o).length<=2+A.length+B.length:=by
 by_cases h:o.1=JS
 ·rw [tkO,if_pos h];exact Nat.zero_le _
 ·rw [tkO,if_neg h,List.length_cons,List.length_cons,List.length_append,List.length_map,List.length_map]
  exact okc (Nat.succ_le_succ (Nat.succ_le_succ (Nat.add_le_add (zbK A _ _) (zbK B _ _)))) (by omega)
theorem kC {A B:List Wo} (hA:A.length<60) (hB:B.length<60):∀ l:List OpC,(l.flatMap (tkO A B)).length<=l.length*122
 | []=>by simp
 | o::l=>by
  refine sr List.flatMap_cons (sr List.length_append (sr List.length_cons ?_))
  have:=zau (A:=A) (B:=B) o
  have:=kC hA hB l
  omega
section
variable {W:Wd} {lv:Nat} {σ:Led} {Q:V->Led->Prop}
theorem yb {test:V->Led->(Bool->Led->Prop)->Prop} {body:V->Led->(V->Led->Prop)->Prop} {a:Addr} {xs:List Wo} {f:Wo->Wo} {K:List V->Led->Prop} (m:(a,O.list (xs.map V.str))∈σ) (hl:xs.length<10000)
  (ht:∀ x σ R,R true σ->test x σ R) (hb:∀ x∈xs,∀ R:V->Led->Prop,R (.str (f x)) σ->body (.str x) σ R) (h:K ((xs.map f).map V.str) σ):∃ n,ZG W lv test body n (.list a) 0 [] σ K:=by
 refine ⟨xs.length+1,?_⟩
 suffices ∀ k i,i+k=xs.length->ZG W lv test body (k+1) (.list a) i (((xs.take i).map f).map V.str) σ K from this xs.length 0 (Nat.add_comm _ _)
 intro k
 induction k with
 | zero=>
  intro i hi
  have hi':i=xs.length:=hi
  subst hi'
  refine zH m ?_ (.inl rfl)
  rw [List.getElem?_eq_none (by simp)]
  refine sr List.take_length ?_;exact h
 | succ k ih=>
  intro i hi
  have hlt:i<xs.length:=oku hi
  refine zH m ?_ (.inl rfl)
  rw [List.getElem?_map,List.getElem?_eq_getElem hlt]
  refine ht _ _ _ ?_
  refine hb _ (List.getElem_mem hlt) _ ⟨by simp;omega,?_⟩
  have:=ih (i+1) (okv hi)
  rw [List.take_succ_eq_append_getElem hlt,List.map_append,List.map_append] at this
  exact this
noncomputable abbrev sB:List PS:=((YI.body.getD 1 .pass).blk.getD 0 .pass).blk
variable {a b tk D':Addr} {A B T:List Wo} {os:List (Addr×OpC)} {τ:Led} {K:AFl->List (Option V)->Led->Prop} {r3:Option V} {i1 i2 j1 j2:Nat}
noncomputable def oS (D' tk:Addr) (os:List (Addr×OpC)) (σ:Led) (T:List Wo):Led:=(D',.list (os.map fun p=>V.ref p.1))::(oE os++((tk,.list (T.map V.str))::σ))
theorem zav:(tk,O.list (T.map V.str))∈oS D' tk os σ T:=.tail _ (List.mem_append_right _ (.head _))
theorem zbL {p:Addr×O} (h:p∈σ):p∈oS D' tk os σ T:=.tail _ (List.mem_append_right _ (.tail _ h))
theorem uH {X:List Wo}:Put tk (.list (T.map V.str++X.map V.str)) (oS D' tk os σ T) (oS D' tk os σ (T++X)):=by
 refine sq List.map_append ?_;exact .there _ (Put.appr (.here _ _))
noncomputable def sρ (a b tk:Addr) (r3:Option V) (i1 i2 j1 j2:Nat):List (Option V):=[some (.ref a),some (.ref b),some (.ref tk),r3,some (.int i1),some (.int i2),some (.int j1),some (.int j2)]
theorem zcA (hi:i1<100) (hj:j1<100) (hT:T.length<=60000) (h:∀ τ,Sub (oS D' tk os σ (T++[Tk.enc (.at i1),Tk.enc (.eq j1)])) τ->K .next (sρ a b tk r3 i1 i2 j1 j2) τ) :
  aex W lv [] (sB.getD 0 .pass) (sρ a b tk r3 i1 i2 j1 j2) (oS D' tk os σ T) K:=by
 have ln:∀ i,i<100->1+(numL i).length<=16777216:=fun i h=>okc (Nat.add_le_add_left (xo i (oka h (by decide))) 1) (by decide)
 refine Y7 (m:=i1) (oka hi (by decide)) (Zw (ln _ hi) (Y7 (m:=j1) (oka hj (by decide)) (Zw (ln _ hj) (zC (show 2<=16777216 by decide) fun t1=>?_))))
 refine ZI (.tail _ zav) (.head _) (by rw [List.length_map];exact okc (Nat.add_le_add_right hT 2) (by decide)) (.there _ (uH (X:=[Tk.enc (.at i1),Tk.enc (.eq j1)]))) ?_
 exact h _ (Sub.refl _).skip
theorem uI {α:Type} {X:List α} {lo hi:Nat} {x:α} (h:x∈zM X (some lo) (some hi)):x∈X:=List.mem_of_mem_drop (List.mem_of_mem_take h)
theorem zbM (ma:(a,O.list (A.map V.str))∈σ) (hA:A.length<60) (hw:∀ w∈A,w.length<=100) (hT:T.length<=60000) (hs:Sub (oS D' tk os σ T) τ) {R:List PS} (h:∀ τ,Sub (oS D' tk os σ (T++(zM A (some i1) (some i2)).map fun w=>45::w)) τ->aexs W lv [] R (sρ a b tk r3 i1 i2 j1 j2) τ K) :
  aexs W lv [] (sB.getD 1 .pass::R) (sρ a b tk r3 i1 i2 j1 j2) τ K:=by
 refine ze hs (slice_list (some i1) (some i2) rfl rfl (zbL ma) fun s1=>zB (.head _) ?_)
 rw [part_map]
 have hl:=zT A (some i1) (some i2)
 refine yb (f:=fun w=>45::w) (.head _) (okb hl (oka hA (by decide))) (fun x σ R h=>h) (fun w hw' R hR'=>Zw (okc (Nat.add_le_add_left (hw w (uI hw')) 1) (by decide)) hR') fun c1=>?_
 refine ZI (.tail _ (.tail _ zav)) (.head _) (by rw [List.length_map,List.length_map,List.length_map];exact okc (Nat.add_le_add hT (okc hl (okd hA))) (by decide)) (.there _ (.there _ uH)) ?_
 exact h _ (Sub.refl _).skip.skip
theorem zbN (mb:(b,O.list (B.map V.str))∈σ) (hB:B.length<60) (hw:∀ w∈B,w.length<=100) (hT:T.length<=60000) (hs:Sub (oS D' tk os σ T) τ) {R:List PS} (h:∀ τ,Sub (oS D' tk os σ (T++(zM B (some j1) (some j2)).map fun w=>43::w)) τ->aexs W lv [] R (sρ a b tk r3 i1 i2 j1 j2) τ K) :
  aexs W lv [] (sB.getD 2 .pass::R) (sρ a b tk r3 i1 i2 j1 j2) τ K:=by
 refine ze hs (slice_list (some j1) (some j2) rfl rfl (zbL mb) fun s1=>zB (.head _) ?_)
 rw [part_map]
 have hl:=zT B (some j1) (some j2)
 refine yb (f:=fun w=>43::w) (.head _) (okb hl (oka hB (by decide))) (fun x σ R h=>h) (fun w hw' R hR'=>Zw (okc (Nat.add_le_add_left (hw w (uI hw')) 1) (by decide)) hR') fun c1=>?_
 refine ZI (.tail _ (.tail _ zav)) (.head _) (by rw [List.length_map,List.length_map,List.length_map];exact okc (Nat.add_le_add hT (okc hl (okd hB))) (by decide)) (.there _ (.there _ uH)) ?_
 exact h _ (Sub.refl _).skip.skip
theorem zaw {tg:List Nat} (ma:(a,O.list (A.map V.str))∈σ) (mb:(b,O.list (B.map V.str))∈σ) (hA:A.length<60) (hB:B.length<60) (hwA:∀ w∈A,w.length<=100) (hwB:∀ w∈B,w.length<=100) (hi:i1<100) (hj:j1<100) (hT:T.length<=50000)
  (h:∀ τ,Sub (oS D' tk os σ (T++(tkO A B (tg,(i1,i2,j1,j2))).map Tk.enc)) τ->K .next (sρ a b tk (some (.str tg)) i1 i2 j1 j2) τ) :
  aexs W lv [] (YI.body.getD 1 .pass).blk (sρ a b tk (some (.str tg)) i1 i2 j1 j2) (oS D' tk os σ T) K:=by
 refine zc ?_
 by_cases ht:tg=JS
 ·refine jJ ?_
  refine sr (show decide (tg≠([101,113,117,97,108]:List Nat))=false from decide_eq_false fun c=>c ht) ?_
  rw [tkO,if_pos ht] at h
  exact h _ (by rw [List.map_nil,List.append_nil];exact Sub.refl _)
 ·refine jJ ?_
  refine sr (show decide (tg≠([101,113,117,97,108]:List Nat))=true from decide_eq_true ht) ?_
  refine za (zcA (i1:=i1) (j1:=j1) (r3:=some (.str tg)) hi hj (okc hT (by decide)) fun τ1 s1=>?_)
  refine zbM ma hA hwA (by refine sr List.length_append ?_;exact okc (Nat.add_le_add_right hT 2) (by decide)) s1 fun τ2 s2=>?_
  refine zbN mb hB hwB (by rw [List.length_append,List.length_append,List.length_map];exact okc (Nat.add_le_add (Nat.add_le_add_right hT 2) (okc (zT A _ _) (okd hA))) (by decide)) s2 fun τ3 s3=>?_
  refine h _ ?_
  rw [tkO,if_neg ht,List.map_cons,List.map_cons,List.map_append,List.map_map,List.map_map]
  rw [List.append_assoc,List.append_assoc] at s3
  exact s3
theorem zax (P:PrOk W.K) (S:SmOk W.K) (hlv:lv<60) (ma:(a,O.list (A.map V.str))∈σ) (mb:(b,O.list (B.map V.str))∈σ) (hA2:A.length<60) (hB2:B.length<60) (hwA:∀ w∈A,w.length<=100) (hwB:∀ w∈B,w.length<=100)
  (h:∀ D ms,qM A B ms->(stepT A B ms).length<=100000->Q (.ref D) ((D,.list (((stepT A B ms).map Tk.enc).map V.str))::σ)):zm W lv (.ref 1100) [.ref a,.ref b] σ Q:=by
 refine zA P.h_step (oka hlv (by decide)) (Nat.le_refl 2) (Nat.le_refl 2) ?_
 refine za (zC (Nat.zero_le _) fun tk=>?_)
 refine za (zak P S (okb hlv (by decide)) (.tail _ mb) (oka hB2 (by decide)) fun x dx d e e' D hD=>?_)
 refine zN S.opcodes (.head _) (.tail _ (.head _)) (by decide +kernel) (K3 P S (okb hlv (by decide)) (.tail _ ma) (.tail _ mb) hD hA2 (oka hB2 (by decide)) fun D' os ms hB hos hol=>?_)
 refine zB (.head _) ?_
 have hin:=kz (Nat.zero_le _) (Nat.zero_le _) hB
 have hlen:∀ l:List OpC,l.length<=300->(l.flatMap (tkO A B)).length<=300*122:=fun l hl=>okc (kC hA2 hB2 l) (Nat.mul_le_mul_right 122 hl)
 refine zL (α:=Nat×Option V×Option V×Option V×Option V×Option V) (xs:=os.map fun p=>V.ref p.1) (ρf:=fun s=>[some (.ref a),some (.ref b),some (.ref tk),s.2.1,s.2.2.1,s.2.2.2.1,s.2.2.2.2.1,s.2.2.2.2.2]) (σf:=fun s=>oS D' tk os σ ((((os.take s.1).map (·.2)).flatMap (tkO A B)).map Tk.enc)) (.inr fun i=>?_)
  (fun n s=>s.1=n) (fun _=>.head _) ?_ ?_ (s:=(0,none,none,none,none,none)) rfl
 ·rw [List.getElem?_map]
  cases os[i]? with
  | none=>exact .inl rfl
  | some v=>exact .inr ⟨_,rfl⟩
 ·intro n v R hv s hn hR _ _
  rw [List.getElem?_map,Option.map_eq_some_iff] at hv
  obtain ⟨⟨oa,tg,i1,i2,j1,j2⟩,hy,rfl⟩:=hv
  obtain ⟨m,_,_,_,_,_⟩:=s
  cases hn
  have hlt:=(List.getElem?_eq_some_iff.mp hy).1
  have hb4:=hin (tg,(i1,i2,j1,j2)) (hos ▸ List.mem_map.mpr ⟨_,List.mem_of_getElem? hy,rfl⟩)
  refine zp (.tail _ (List.mem_append_left _ (List.mem_map.mpr ⟨_,List.mem_of_getElem? hy,rfl⟩))) rfl ?_
  refine zaw ma mb hA2 hB2 hwA hwB (okb hb4.1 (oka hA2 (by decide))) (okb hb4.2.2.1 (oka hB2 (by decide))) (by rw [List.length_map];exact okc (hlen _ (by rw [List.length_map,List.length_take];exact okc (Nat.min_le_right _ _) hol)) (by decide)) fun τ hs=>?_
  refine hR _ (m+1,_,_,_,_,_) τ (.inl rfl) rfl ?_
  have htake:(os.take (m+1)).map (·.2)=(os.take m).map (·.2)++[(tg,(i1,i2,j1,j2))]:=by
   rw [List.take_succ_eq_append_getElem hlt,List.map_append,(List.getElem?_eq_some_iff.mp hy).2];rfl
  rw [htake,List.flatMap_append,List.flatMap_singleton,List.map_append]
  exact hs
 ·intro s hn
  obtain ⟨m,_,_,_,_,_⟩:=s
  refine sr hn ?_
  rw [List.length_map,List.take_length,hos]
  exact za ⟨_,Sub.skip Sub.of_append,h tk ms hB (okc (hlen _ (by rw [← hos,List.length_map];exact hol)) (by decide))⟩
end
end
section
noncomputable def dif (X Y:List Wo):List Wo:=Y.foldl List.erase X
theorem Zq (w:Wo):∀ (Y X:List Wo),(dif X Y).count w=X.count w-Y.count w
 | [],X=>by simp [dif]
 | y::Y,X=>by
  refine (?_:(dif (X.erase y) Y).count w=_)
  rw [Zq w Y,List.count_erase,List.count_cons]
  by_cases e:y=w
  ·refine sr e ?_;simp;lia
  ·simp [e]
theorem ZC {X Y Z:List Wo} (h:∀ w,Z.count w=X.count w-Y.count w):Z.Perm (dif X Y):=List.perm_iff_count.mpr fun w=>by rw [h,Zq]
theorem z9 {X Z:List Wo} (h:∀ w,Z.count w<=X.count w):Z.length<=X.length:=by
 have p:∀ (Z X:List Wo),(∀ w,Z.count w<=X.count w)->Z.length<=X.length:=by
  intro Z
  induction Z with
  | nil=>intro X _;simp
  | cons z Z ih=>
   intro X h
   have hz:z∈X:=List.count_pos_iff.mp (by have:=h z;rw [List.count_cons_self] at this;omega)
   have:=ih (X.erase z) fun w=>by
    have:=h w
    rw [List.count_cons] at this
    refine sr List.count_erase ?_
    by_cases e:z=w
    ·subst e;simp at this ⊢;exact okT this
    ·rw [if_neg (by simpa using e)] at this ⊢;exact this
   rw [List.length_erase_of_mem hz] at this
   have:=List.length_pos_of_mem hz
   refine sr List.length_cons ?_;exact okb (by assumption) (okO this)
 exact p Z X h
section
variable {W:Wd} {lv:Nat} {σ:Led} {Q:V->Led->Prop}
structure UO (E A:List Wo) (n:Nat) (M R:List Wo):Prop where
 hn:n<=E.length
 hM:M.length<=E.length
 hm:∀ w,M.count w=(E.drop n).count w-A.count w
 hr:∀ w,R.count w=A.count w-(E.drop n).count w
theorem cnt_cons {x w:Wo} {X Y:List Wo} (h:X=x::Y):X.count w=Y.count w+if x=w then 1 else 0:=by
 refine sr h (sr List.count_cons ?_)
 by_cases e:x=w
 ·exact sr (if_pos e) (sr (if_pos (beq_iff_eq.mpr e)) rfl)
 ·exact sr (if_neg e) (sr (if_neg fun q=>e (beq_iff_eq.mp q)) rfl)
theorem zay {x w:Wo}:[x].count w=if x=w then 1 else 0:=(cnt_cons rfl).trans (Nat.zero_add _)
theorem UO.del {E A M R:List Wo} {n:Nat} {x:Wo} (U:UO E A (n+1) M R) (ed:E.drop n=x::E.drop (n+1)) (hin:x∈R):UO E A n M (R.erase x) where
 hn:=okd U.hn
 hM:=U.hM
 hm w:=by
  have h1:=List.count_pos_iff.mpr hin
  rw [U.hr] at h1
  rw [U.hm,cnt_cons ed]
  by_cases e:x=w
  ·rw [e] at h1
   rw [Nat.sub_eq_zero_of_le (Nat.le_of_lt (Nat.lt_of_sub_pos h1)),if_pos e,Nat.sub_eq_zero_of_le (Nat.lt_of_sub_pos h1)]
  ·rw [if_neg e];rfl
 hr w:=by
  rw [List.count_erase,U.hr,cnt_cons ed]
  by_cases e:x=w
  ·rw [if_pos e,if_pos (beq_iff_eq.mpr e)];exact Nat.sub_sub _ _ _
  ·rw [if_neg e,if_neg fun q=>e (beq_iff_eq.mp q)];rfl
theorem UO.add {E A M R:List Wo} {n:Nat} {x:Wo} (U:UO E A (n+1) M R) (ed:E.drop n=x::E.drop (n+1)) (hin:x∉R):UO E A n (M++[x]) R:=by
 have h0:=List.count_eq_zero.mpr hin
 rw [U.hr] at h0
 have hle:=Nat.le_of_sub_eq_zero h0
 have hm:∀ w,(M++[x]).count w=(E.drop n).count w-A.count w:=fun w=>by
  rw [List.count_append,U.hm,zay,cnt_cons ed]
  by_cases e:x=w
  ·rw [e] at hle
   rw [if_pos e,Nat.sub_add_comm hle]
  ·rw [if_neg e];rfl
 refine ⟨okd U.hn,?_,hm,fun w=>?_⟩
 ·have:(M++[x]).length<=(E.drop n).length:=z9 fun w=>hm w ▸ Nat.sub_le _ _
  rw [List.length_drop] at this
  exact okc this (Nat.sub_le _ _)
 ·rw [U.hr,cnt_cons ed]
  by_cases e:x=w
  ·rw [e] at hle
   exact sr (if_pos e) (sr (Nat.sub_eq_zero_of_le hle) (sr (Nat.sub_eq_zero_of_le (Nat.le_succ_of_le hle)) rfl))
  ·refine sr (if_neg e) ?_;rfl
structure USt where
 n:Nat
 M:List Wo
 R:List Wo
 x3:Option V
theorem Hw {e a:Addr} {E A:List Wo} (P:PrOk W.K) (hlv:lv<90) (hE:E.length<=100000)
  (h:∀ (t mm:Addr) (M R:List Wo),(∀ w,M.count w=E.count w-A.count w)->(∀ w,R.count w=A.count w-E.count w)->Q (.ref t) ((t,.tup [.ref mm,.ref a])::(mm,.list (M.map V.str))::(a,.list (R.map V.str))::σ)) :
  zm W lv (.ref 1009) [.ref e,.ref a] ((a,O.list (A.map V.str))::(e,O.list (E.map V.str))::σ) Q:=by
 refine zA P.h_unorderable (oka hlv (by decide)) (Nat.le_refl 2) (Nat.le_refl 2) ?_
 refine za (p:=.pass) ?_
 refine za (zC (Nat.zero_le _) fun mm=>?_)
 refine ze (σ':=(mm,.list [])::(a,O.list (A.map V.str))::(e,O.list ((E.take E.length).map V.str))::σ) (by refine sr List.take_length ?_;exact Sub.refl _) ?_
 refine j4 (ρf:=fun s:USt=>[some (.ref e),some (.ref a),some (.ref mm),s.x3]) (σf:=fun s=>(mm,.list (s.M.map V.str))::(a,.list (s.R.map V.str))::(e,.list ((E.take s.n).map V.str))::σ) (fun s=>s.n) (fun s=>UO E A s.n s.M s.R) ?_
  (s:=⟨E.length,[],A,none⟩) ⟨Nat.le_refl _,Nat.zero_le _,fun w=>by refine sr List.drop_length (sr List.count_nil ?_);exact (Nat.zero_sub _).symm,fun w=>by refine sr List.drop_length (sr List.count_nil ?_);rfl⟩
 rintro ⟨n,M,R,x3⟩ U T hF hT
 refine ⟨_,!((E.take n).map V.str).isEmpty,.tail _ (.tail _ (.head _)),rfl,?_⟩
 cases n with
 | zero=>
  refine hF _ ?_
  refine za (zK (show 2<=16777216 by decide) fun t=>?_)
  exact ⟨_,.cons (.refl _) (.cons (.refl _) (.cons (.refl _) (Sub.refl σ).skip)),h t mm M R U.hm U.hr⟩
 | succ n=>
  have hlt:n<E.length:=U.hn
  have et:E.take (n+1)=E.take n++[E[n]]:=List.take_succ_eq_append_getElem hlt
  have ed:E.drop n=E[n]::E.drop (n+1):=List.drop_eq_getElem_cons hlt
  generalize E[n]=x at et ed
  refine sr (show (!((E.take (n+1)).map V.str).isEmpty)=true by rw [et,List.map_append];cases (E.take n).map V.str <;> rfl) ?_
  refine hT _ fun K hK _=>?_
  dsimp only
  rw [et,List.map_append]
  refine za (XN (.tail _ (.tail _ (.head _))) (Y6 (x:=.str x) (.tail _ (.tail _ (.head _))) (.there _ (.there _ (.here _ _))) ?_))
  refine za ⟨_,_,_,rfl,rfl,rfl,a,x,mm,R,M.map V.str,rfl,rfl,rfl,.tail _ (.head _),.head _,fun hin=>⟨_,.there _ (.here _ _),?_⟩,fun hin=>⟨by rw [List.length_map];exact okb U.hM (okb hE (by decide)),_,.here _ _,?_⟩⟩
  ·exact hK _ ⟨n,M,R.erase x,some (.str x)⟩ _ (.inl rfl) (U.del ed hin) (Nat.lt_succ_self _) (Sub.refl _)
  ·exact hK _ ⟨n,M++[x],R,some (.str x)⟩ _ (.inl rfl) (U.add ed hin) (Nat.lt_succ_self _) (by dsimp only;rw [List.map_append];exact Sub.refl _)
theorem uJ {test:V->Led->(Bool->Led->Prop)->Prop} {body:V->Led->(V->Led->Prop)->Prop} {a:Addr} {xs:List Wo} {p:Wo->Bool} {f:Wo->Wo} {K:List V->Led->Prop} (m:(a,O.list (xs.map V.str))∈σ) (hl:xs.length<100000)
  (ht:∀ x∈xs,∀ R:Bool->Led->Prop,R (p x) σ->test (.str x) σ R) (hb:∀ x∈xs,∀ R:V->Led->Prop,R (.str (f x)) σ->body (.str x) σ R) (h:K (((xs.filter p).map f).map V.str) σ):∃ n,ZG W lv test body n (.list a) 0 [] σ K:=by
 refine ⟨xs.length+1,?_⟩
 suffices ∀ k i,i+k=xs.length->ZG W lv test body (k+1) (.list a) i ((((xs.take i).filter p).map f).map V.str) σ K from this xs.length 0 (Nat.add_comm _ _)
 intro k
 induction k with
 | zero=>
  intro i hi
  have hi':i=xs.length:=hi
  subst hi'
  refine zH m ?_ (.inl rfl)
  rw [List.getElem?_eq_none (by simp)]
  refine sr List.take_length ?_;exact h
 | succ k ih=>
  intro i hi
  have hlt:i<xs.length:=oku hi
  refine zH m ?_ (.inl rfl)
  rw [List.getElem?_map,List.getElem?_eq_getElem hlt]
  have key:=ih (i+1) (okv hi)
  rw [List.take_succ_eq_append_getElem hlt,List.filter_append] at key
  refine ht _ (List.getElem_mem hlt) _ ?_
  cases hp:p xs[i] with
  | true=>
   rw [show [xs[i]].filter p=[xs[i]] by simp [hp],List.map_append,List.map_append] at key
   refine hb _ (List.getElem_mem hlt) _ ⟨?_,key⟩
   have:=List.length_filter_le p (xs.take i)
   rw [List.length_map,List.length_map]
   rw [List.length_take] at this
   omega
  | false=>
   rw [show [xs[i]].filter p=[] by simp [hp],List.append_nil] at key
   exact key
noncomputable def marked (k:Nat) (T:List Wo):List Wo:=(T.filter fun t=>decide (t.take 1=[k])).map (·.drop 1)
theorem Qs {α:Type} (x:List α) (n:Nat):zM x none (some n)=x.take n:=by unfold zM;simp
theorem Qt {α:Type} (x:List α) (n:Nat):zM x (some n) none=x.drop n:=by unfold zM;simp
theorem Q6 {a:Addr} {T:List Wo} (P:PrOk W.K) (hlv:lv<60) (m:(a,O.list (T.map V.str))∈σ) (hT:T.length<=10000) (h1:(dif (marked 45 T) (marked 43 T)).length<64) (h2:(dif (marked 43 T) (marked 45 T)).length<64)
  (h:∀ t g c,Q (.ref t) ((t,.tup [.ref g,.ref c])::(c,.list ((srt (dif (marked 43 T) (marked 45 T))).map V.str))::(g,.list ((srt (dif (marked 45 T) (marked 43 T))).map V.str))::σ)):zm W lv (.ref 1124) [.ref a] σ Q:=by
 refine zA P.h_cancelled (oka hlv (by decide)) (Nat.le_refl 1) (Nat.le_refl 1) ?_
 have comp:∀ (k:Nat) (σ:Led) (K:V->Led->Prop) (r1 r2 r3 r4:Option V),(a,O.list (T.map V.str))∈σ->(∀ d,K (.ref d) ((d,.list ((marked k T).map V.str))::σ))->
   aev W (lv+1) [] [some (.ref a),r1,r2,r3,r4] (.comp (.slice (.loc 0) (some (.const (.int 1))) none none) (.loc 0) [(.cmp .Eq (.slice (.loc 0) none (some (.const (.int 1))) none) (.const (.str [k])))]) σ K:=fun k σ K r1 r2 r3 r4 m hK=>by
  refine zB m ?_
  refine uJ (p:=fun t=>decide (t.take 1=[k])) (f:=(·.drop 1)) m (okb hT (by decide)) (fun x hx R hR=>?_) (fun x hx R hR=>?_) hK
  ·refine ql none (some 1) rfl rfl ?_
   rw [Qs]
   refine qS ?_
   show match decide (x.take 1=[k]) with
    | true=>R true σ
    | false=>R false σ
   cases e:decide (x.take 1=[k]) <;> (rw [e] at hR;exact hR)
  ·refine ql (some 1) none rfl rfl ?_
   rw [Qt];exact hR
 refine za (jP ?_)
 refine comp 45 σ _ none none none none m fun d1=>?_
 refine za (jP ?_)
 refine comp 43 _ _ (some (.ref d1)) none none none (.tail _ m) fun d2=>?_
 have ml:∀ k,(marked k T).length<=100000:=fun k=>by
  unfold marked;rw [List.length_map];exact Nat.le_trans (List.length_filter_le _ _) (okc hT (by decide))
 refine za (Hw P (okb hlv (by decide)) (ml 45) fun t mm M R hM hR=>?_)
 refine zp (.head _) rfl ?_
 have pM:=ZC hM
 have pR:=ZC hR
 refine ze ((Sub.refl _).skip) (Zn (.head _) (by refine sr pM.length_eq ?_;exact h1) fun g=>?_)
 refine Zn (.tail _ (.tail _ (.head _))) (by refine sr pR.length_eq ?_;exact h2) fun c=>?_
 refine sr (Zc pM) (sr (Zc pR) ?_)
 refine zK (by simp) fun t=>?_
 exact ⟨_,.cons (.refl _) (.cons (.refl _) (.cons (.refl _) (Sub.refl _).skip.skip)),h t g c⟩
end
end
end Mine
end
section
open PySem PySem.W PySem.Calls PyProof.Rows
open AutoSeq1 (wpAny_loadPart')
namespace Mine
set_option linter.unusedVariables false
set_option maxRecDepth 100000
theorem uK:mroOf (.type "object")=pure [.type "object"]:=by kernel_rfl
theorem Jt:typeLookup (.type "object") "__new__" = pure (some (.builtin "object.__new__")):=by rw [typeLookup_type,builtinLookup_eq_fast];kernel_rfl
theorem xM:Slot "object" "__init__" "object.__init__":=.of (owner:="object") (n:="__init__") (by rw [typeLookup_type,builtinLookup_eq_fast];kernel_rfl) (by decide +kernel) (by decide +kernel) (by decide +kernel)
  (by first | exact .inl (by decide +kernel) | exact .inr (by decide +kernel)) (by rw [isSubtype_type];kernel_rfl)
theorem JT:TypeCalled "object" "object.__new__" "object.__init__":=
 ⟨by decide +kernel,by decide +kernel,⟨_,_,uK⟩,madeBy_type uK Jt (by decide +kernel),by decide +kernel,by rw [isSubtype_type];kernel_rfl,xM⟩
theorem xN:checkBuiltinCall "object.__new__" ⟨[.type "object"],[]⟩=pure ():=by kernel_rfl
theorem Ju:checkTypeCall "object" ⟨[],[]⟩=pure ():=by kernel_rfl
theorem xO:entryFor table "object.__new__" = some Builtin.«object.__new__»:=entryFor_of_tree (by kernel_rfl)
noncomputable abbrev objO:Obj:={ cls:=.type "object",dict:=none,data:=.plain,slots:=#[] }
theorem Yo:Builtin.«object.__new__» ⟨[.type "object"],[]⟩=(do ret (← newObj (.type "object") .plain none)):=by kernel_rfl
theorem xP (a:Value):argsOk "object.__init__" ⟨[a],[]⟩:=by kernel_rfl
noncomputable abbrev dqO:Obj:={ cls:=.type "collections.deque",dict:=none,data:=.fields #[.none,rawInt 0],slots:=#[] }
theorem yc:Slot "collections.deque" "__init__" "collections.deque.__init__":=.of (owner:="collections.deque") (n:="__init__") (by rw [typeLookup_type,builtinLookup_eq_fast];kernel_rfl) (by decide +kernel) (by decide +kernel) (by decide +kernel)
  (by first | exact .inl (by decide +kernel) | exact .inr (by decide +kernel)) (by rw [isSubtype_type];kernel_rfl)
theorem gQ:mroOf (.type "collections.deque")=pure [.type "collections.deque",.type "object"]:=by rw [mroOf_type];kernel_rfl
theorem xQ:typeLookup (.type "collections.deque") "__new__" = pure (some (.builtin "collections.deque.__new__")):=by rw [typeLookup_type,builtinLookup_eq_fast];kernel_rfl
theorem uL:TypeCalled "collections.deque" "collections.deque.__new__" "collections.deque.__init__":=
 ⟨by decide +kernel,by decide +kernel,⟨_,_,gQ⟩,madeBy_type gQ xQ (by decide +kernel),by decide +kernel,by rw [isSubtype_type];kernel_rfl,yc⟩
theorem yd:checkBuiltinCall "collections.deque.__new__" ⟨[.type "collections.deque"],[]⟩=pure ():=by kernel_rfl
theorem xR:checkTypeCall "collections.deque" ⟨[],[]⟩=pure ():=by kernel_rfl
theorem ye:entryFor table "collections.deque.__new__" = some Builtin.«collections.deque.__new__»:=entryFor_of_tree (by kernel_rfl)
theorem xS:entryFor table "collections.deque.__init__" = some Builtin.«collections.deque.__init__»:=entryFor_of_tree (by kernel_rfl)
theorem yf (a:Value):argsOk "collections.deque.__init__" ⟨[a],[]⟩:=by kernel_rfl
theorem K4:Builtin.«collections.deque.__new__» ⟨[.type "collections.deque"],[]⟩=(do ret (← newObj (.type "collections.deque") (.fields #[.none,rawInt 0]) none)):=by kernel_rfl
theorem Yp (a:Value):Builtin.«collections.deque.__init__» ⟨[a],[]⟩=(do setField a 0 .none;Builtin.Deque.clear a;ret .none):=by rfl
section
variable {prog:Program} {w:World} {A:Around} {E:Value->Shared->Prop} {s:Shared}
theorem Yq {Q:Value->Shared->Prop} (h:Q (.ref s.heap.objs.size) { s with heap:=s.heap.push objO }):wpAny (model prog w) A (call (.type "object") []) Q E s:=by
 refine callType_meets JT Ju xN xO PySem.F.entry_object_init (S:=fun _ R s=>R (.ok (.ret (.ref s.heap.objs.size))) { s with heap:=s.heap.push objO }) ?_
  (Q₁:=fun v s'=>v=.ref s.heap.objs.size/\s'={ s with heap:=s.heap.push objO }) ⟨rfl,rfl⟩ fun obj s₁ hq=>?_
 ·refine Meets.of_wp fun prog w A R s hs=>?_
  refine sr Yo ?_
  repeat wp_step
  exact ⟨_,rfl,hs⟩
 ·obtain ⟨rfl,rfl⟩:=hq
  refine ⟨⟨_,Heap.get?_push_size _ rfl,rfl⟩,xP _,fun _ R s=>R (.ok (.ret .none)) s,?_,rfl,h⟩
  exact Meets.of_wp fun prog w A R s hs=>wpAny_pure ⟨_,rfl,hs⟩
theorem K5 {Q:Value->Shared->Prop} (h:∀ h',h'.get? s.heap.objs.size=some dqO->Heap.SameBut s.heap.objs.size (s.heap.push dqO) h'->Q (.ref s.heap.objs.size) { s with heap:=h' }):wpAny (model prog w) A (call (.type "collections.deque") []) Q E s:=by
 refine callType_meets uL xR yd ye xS (S:=fun _ R s=>R (.ok (.ret (.ref s.heap.objs.size))) { s with heap:=s.heap.push dqO }) ?_
  (Q₁:=fun v s'=>v=.ref s.heap.objs.size/\s'={ s with heap:=s.heap.push dqO }) ⟨rfl,rfl⟩ fun obj s₁ hq=>?_
 ·refine Meets.of_wp fun prog w A R s hs=>?_
  refine sr K4 ?_
  unfold newObj
  repeat wp_step
  exact ⟨_,rfl,hs⟩
 ·obtain ⟨rfl,rfl⟩:=hq
  refine ⟨⟨_,Heap.get?_push_size _ rfl,rfl⟩,yf _,fun _ R s₁=>s₁.heap.get? s.heap.objs.size=some dqO/\∀ h',h'.get? s.heap.objs.size=some dqO->Heap.SameBut s.heap.objs.size s₁.heap h'->R (.ok (.ret .none)) { s₁ with heap:=h' },?_,Heap.get?_push_size _ rfl,fun h' h1 h2=>⟨rfl,h h' h1 h2⟩⟩
  refine Meets.of_wp fun prog w A R s₁ hs=>?_
  rw [Yp]
  refine wpAny_bind (wpAny_setField_rec hs.1 (by decide) fun h' h1 h2=>?_)
  unfold Builtin.Deque.clear Builtin.Deque.items
  refine wpAny_bind (wpAny_bind (wpAny_bind (wpAny_fieldsOf h1 rfl (wpAny_pure ?_))))
  refine sr (if_neg (by decide)) ?_
  exact wpAny_pure (wpAny_pure ⟨_,rfl,hs.2 h' h1 h2⟩)
end
end Mine
end
section
open PySem PySem.W PySem.Calls PyProof.Rows PySem.Spec
set_option maxRecDepth 100000
namespace Mine
end Mine
end
section
open PySem PySem.W PySem.Calls PyProof.Rows
open AutoSeq1 (wpAny_loadPart')
namespace Mine
set_option linter.unusedVariables false
set_option maxRecDepth 100000
theorem j7:Slot "object" "__eq__" "object.__eq__":=PySem.F.cmp_object.eq
theorem Yr:isSubtype (.type "str") (.type "object")=pure true:=by rw [isSubtype_type];kernel_rfl
theorem qW (b:Str) (u:Tok) (l:Addr) :
  Meets (Builtin.«str.__eq__» ⟨[.str b u,.ref l],[]⟩) (fun _ R s=>s.heap.get? l=some objO/\R (.ok (.ret .notImplemented)) s):=
 .of_wp fun prog w A R s h=>by obtain ⟨hp,g,d,tk,os⟩:=s;refine e02 h fun hl h=>?_;wp_walk using wpAny_loadPart' hl,wpAny_load hl;exact ⟨_,rfl,h⟩
theorem qX (b:Str) (u:Tok) (l:Addr) :
  Meets (Builtin.«object.__eq__» ⟨[.ref l,.str b u],[]⟩) (fun _ R s=>R (.ok (.ret .notImplemented)) s):=
 .of_wp fun prog w A R s h=>by
  have f:isSame (.ref l) (.str b u)=pure false:=by rfl
  obtain ⟨hp,g,d,tk,os⟩:=s;wp_walk;exact ⟨_,rfl,h⟩
section
variable {prog:Program} {w:World} {A:Around} {E:Value->Shared->Prop} {s:Shared}
theorem K6 {l:Addr} {b:Str} {u:Tok} {Q:Value->Shared->Prop} (hl:s.heap.get? l=some objO) (hu:A.units<cLine) (h:Q (.bool false) s):wpAny (model prog w) A (compareOp .Eq (.ref l) (.str b u)) Q E s:=by
 show wpAny _ _ (richCompare .Eq (.ref l) (.str b u)) _ _ _
 have ha:s.TypeIs (.ref l) "object":=⟨_,hl,rfl⟩
 have hb:s.TypeIs (.str b u) "str":=typeIs_str s b u
 have h1:Slot "object" (cmpInfo .Eq).2.1 "object.__eq__":=j7
 have h2:Slot "str" (cmpInfo .Eq).2.2 "str.__eq__":=PySem.F.slot_str_eq_refl
 rcases hi:cmpInfo CmpOp.Eq with ⟨sym,f,r⟩
 rw [hi] at h1 h2
 simp only [richCompare,hi,ha.oneThing_none]
 try with_reducible refine wpAny_holding ?_
 refine wpAny_bind (wpAny_cRoomFor_or (.inr hu) ?_)
 refine wpAny_bind (wpAny_typeOf ha (wpAny_bind (wpAny_typeOf hb ?_)))
 refine sr (if_pos (by decide)) ?_
 refine wpAny_bind (wpAny_of_eq Yr ?_)
 simp only [if_true,Bool.not_true,Bool.false_eq_true,if_false]
 refine wpAny_bind (m:=tryCompare (.str b u) _ (.ref l)) (wpAny_tryCompare_declines hb h2 (call_meets PySem.F.slot_str_eq_refl hb PySem.F.entry_str_eq (PySem.F.args_str_eq_2 _ _) (qW b u l) ⟨hl,rfl,?_⟩))
 refine wpAny_bind (m:=tryCompare (.ref l) _ (.str b u)) (wpAny_tryCompare_declines ha h1 (call_meets j7 ha PySem.F.cmpEntry_eq (PySem.F.cmpArgs_eq _ _) (qX b u l) ⟨rfl,?_⟩))
 exact wpAny_bind (wpAny_rule (wpAny_bind (wpAny_isSame_plain rfl (wpAny_pure h))))
end
end Mine
end
section
open PySem PySem.W PySem.Calls PyProof.Rows PySem.Spec
set_option maxRecDepth 100000
namespace Mine
section
section
variable {W:Wd} {lv:Nat} {σ σ':Led} {Q:V->Led->Prop}
theorem Hx (h:∀ a,Q (.ref a) ((a,.obj)::σ)):zm W lv (.ty "object") [] σ Q:=z7 fun c ρ Φ s C r=>by
 exact Yq ⟨_,_,.ref _,r.newO (x:=.obj) (t:=s.toks) .obj rfl,h _⟩
theorem uM (h:∀ a,Q (.ref a) ((a,.deq)::σ)):zm W lv (.ty "collections.deque") [] σ Q:=z7 fun c ρ Φ s C r=>by
 refine K5 fun h' g sb=>⟨_,_,.ref _,?_,h _⟩
 have r1:=r.newO (x:=.deq) (o:=dqO) (t:=s.toks) (.deq 0) rfl
 exact R0.upd (t:=s.toks) r1 (.here .deq σ) (.deq 0) sb g
theorem R0.isObj {F:Fm} {ρ:List (Option V)} {Φ:List (Addr×Obj)} {s:Shared} (r:R0 W.prog W.w F ρ σ Φ s) {n:Addr} (m:(n,O.obj)∈σ):s.heap.get? n=some objO:=by
 obtain ⟨o,g,z⟩:=r.get m
 cases z
 exact g
theorem K7 {n:Addr} {x:List Nat} (hlv:lv<100) (m:(n,O.obj)∈σ) (h:Q (.bool false) σ):Op W lv (.cmp .Eq) [.ref n,.str x] σ Q:=.sh fun c ρ Φ s C r=>by
 intro t2 l2
 exact K6 (r.isObj m) (by have:=C.units;unfold cLine;omega) ⟨_,σ,.bool _,r,h⟩
theorem Qu {n:Addr} {x:List Nat} (h:Q (.bool false) σ):Op W lv (.cmp .Is) [.str x,.ref n] σ Q:=.sh fun c ρ Φ s C r=>by
 intro t1 l1
 exact wpAny_is_other rfl (by simp) ⟨_,σ,.bool _,r,h⟩
theorem j8 {n:Addr} (h:Q (.bool true) σ):Op W lv (.cmp .Is) [.ref n,.ref n] σ Q:=.sh fun c ρ Φ s C r=>by
 exact wpAny_is_ref_self ⟨_,σ,.bool _,r,h⟩
theorem kD {C f sm:Addr} {a b d:V} (k:TsOk W.K C f sm) (hf:zt W.K f=some ZF) (hlv:lv+1<90) (h:∀ t x,Q (.ref x) ((x,.tsub C [a,b,d])::(t,.tup [a,b,d])::σ)):zm W lv (.ref C) [a,b,d] σ Q:=by
 refine uc k (by simp) (ZU hf (oka hlv (by decide)) (Nat.le_refl 4) (Nat.le_refl 4) ?_)
 refine za (p:=.pass) ?_
 refine za (QP (zK (by simp) fun t=>jZ k (.head _) (by simp) fun x=>?_))
 exact ⟨_,Sub.refl _,x,_,rfl,.head _,h t x⟩
noncomputable def msk (N:Addr) (D:List Wo) (w:Wo):V:=if w∈D then .ref N else .str w
noncomputable def hlf (N:Addr) (D:List Wo) (x:Wo) (X:List Wo) (j:Nat):List V:=(X.take j).map (msk N (x::D))++(X.drop j).map (msk N D)
theorem gT {N:Addr} {D:List Wo} {x w:Wo} (h:w≠x):msk N (x::D) w=msk N D w:=by unfold msk;simp [h]
theorem zbO {N:Addr} {D:List Wo} {x:Wo}:msk N (x::D) x=.ref N:=by unfold msk;simp
theorem j9 {N:Addr} {D:List Wo} {x:Wo} {X:List Wo} {j:Nat}:(hlf N D x X j).length=X.length:=by unfold hlf;simp;omega
theorem Ys {N:Addr} {D:List Wo} {x w:Wo} {X:List Wo} {j:Nat} (h:X[j]?=some w):(hlf N D x X j)[j]?=some (msk N D w):=by
 have hlt:=(List.getElem?_eq_some_iff.mp h).1
 unfold hlf
 rw [List.getElem?_append_right (by simp;exact Nat.min_le_left _ _),List.getElem?_map,List.getElem?_drop,List.length_map,List.length_take,show j+(j-min j X.length)=j by omega,h]
 rfl
theorem kE {N:Addr} {D:List Wo} {x w:Wo} {X:List Wo} {j:Nat} (h:X[j]?=some w):hlf N D x X (j+1)=(X.take j).map (msk N (x::D))++(msk N (x::D) w::(X.drop (j+1)).map (msk N D)):=by
 unfold hlf
 rw [List.take_add_one,h,List.map_append,List.append_assoc];rfl
theorem kF {N:Addr} {D:List Wo} {x w:Wo} {X:List Wo} {j:Nat} (h:X[j]?=some w):hlf N D x X j=(X.take j).map (msk N (x::D))++(msk N D w::(X.drop (j+1)).map (msk N D)):=by
 have hlt:=(List.getElem?_eq_some_iff.mp h).1
 unfold hlf
 rw [List.drop_eq_getElem_cons hlt,(List.getElem?_eq_some_iff.mp h).2];rfl
theorem uN {N:Addr} {D:List Wo} {x w:Wo} {X:List Wo} {j:Nat} (h:X[j]?=some w) (hw:w≠x):hlf N D x X (j+1)=hlf N D x X j:=by
 exact sr (kE h) (sr (kF h) (sr (gT hw) rfl))
theorem uO {N:Addr} {D:List Wo} {x:Wo} {X:List Wo} {j:Nat} (h:X[j]?=some x):hlf N D x X (j+1)=(hlf N D x X j).set j (.ref N):=by
 have hlt:=(List.getElem?_eq_some_iff.mp h).1
 rw [kE h,kF h,zbO,List.set_append_right _ _ (by simp;exact Nat.min_le_left _ _),List.length_map,List.length_take,show j-min j X.length=0 by omega]
 rfl
theorem Yt {N:Addr} {D:List Wo} {x:Wo} {X:List Wo}:hlf N D x X X.length=X.map (msk N (x::D)):=by unfold hlf;simp
theorem xT {N:Addr} {D:List Wo} {x:Wo} {X:List Wo} {i:Nat} (h:x∉X.take i):hlf N D x X i=X.map (msk N D):=by
 unfold hlf
 rw [show (X.take i).map (msk N (x::D))=(X.take i).map (msk N D) from List.map_congr_left fun w hw=>gT fun e=>h (e ▸ hw),← List.map_append,List.take_append_drop]
theorem QR {x w:Wo} {X:List Wo} {j:Nat} (h:X[j]?=some w):(X.take (j+1)).count x=(X.take j).count x+if w=x then 1 else 0:=by
 refine sr List.take_add_one (sr h (sr List.count_append ?_))
 by_cases e:w=x
 ·subst e;simp
 ·simp [e,List.count_singleton]
theorem qr {α:Type} {xs:List α} {i:Nat} {x:α} (h:xs[i]?=some x):atIdx xs (i:Int)=some x:=by
 unfold atIdx;refine sr (if_neg okK) ?_;simpa using h
theorem Yu {N:Addr} {D:List Wo} {w x:Wo} (hlv:lv<100) (m:(N,O.obj)∈σ) (hx:x∉D) (h:Q (.bool (decide (w=x))) σ):Op W lv (.cmp .Eq) [msk N D w,.str x] σ Q:=by
 unfold msk
 split
 ·rename_i hw
  rw [decide_eq_false (fun e:w=x=>hx (e ▸ hw))] at h
  exact K7 hlv m h
 ·exact qS h
noncomputable abbrev eraS (ls lm lc:Nat):PS:=.forr (.loc 12) (.call (.const (.ty "range")) [(.loc 8),(.loc lm)]) [
    .ite (.cmp .Eq (.item (.loc ls) (.loc 12)) (.loc 9)) [
     .augL lc .Add (.const (.int 1)),
     .assign [(.item (.loc ls) (.loc 12))] (.loc 6)] []]
noncomputable abbrev eraT:PS:=.forr (.tup [12,13]) (.call (.const (.ty "enumerate")) [(.loc 3)]) [
    .ite (.cmp .Eq (.loc 13) (.loc 9)) [
     .augL 11 .Add (.const (.int 1)),
     .assign [(.item (.loc 3) (.loc 12))] (.loc 6)] []]
theorem zcB {v0 v1 v3 v5 v7 r11 r12 r13 r14:Option V} {S N:Addr} {X D:List Wo} {x:Wo} {i:Nat} {τ:Led} {K:AFl->List (Option V)->Led->Prop} (hlv:lv<90) (hX:X.length<100000) (hi:i<=X.length) (hx:x∉D) (hxi:x∉X.take i) (hN:(N,O.obj)∈τ)
  (h:∀ r12,K .next [v0,v1,some (.ref S),v3,some (.int (X.length:Nat)),v5,some (.ref N),v7,some (.int i),some (.str x),some (.int (X.count x:Nat)),r11,r12,r13,r14] ((S,.list (X.map (msk N (x::D))))::τ)) :
  aex W lv [] (eraS 2 4 10) [v0,v1,some (.ref S),v3,some (.int (X.length:Nat)),v5,some (.ref N),v7,some (.int i),some (.str x),some (.int 0),r11,r12,r13,r14] ((S,.list (X.map (msk N D)))::τ) K:=by
 refine qR (by lia) (by omega) (by lia) (by omega) ?_
 refine sr (show ((X.length:Int)-(i:Int)).toNat=X.length-i by omega) ?_
 refine j3 (n:=X.length-i) (lo:=(i:Int)) (fun j ρ τ'=>∃ r12,ρ=[v0,v1,some (.ref S),v3,some (.int (X.length:Nat)),v5,some (.ref N),v7,some (.int i),some (.str x),some (.int ((X.take (i+j)).count x:Nat)),r11,r12,r13,r14]/\τ'=(S,.list (hlf N D x X (i+j)))::τ) ?_ ?_ ?_
 ·rintro j ρ τ' R hj ⟨r12,rfl,rfl⟩ hR _
  have hlt:i+j<X.length:=by omega
  have hg:X[i+j]?=some X[i+j]:=List.getElem?_eq_getElem hlt
  rw [← Int.natCast_add]
  refine za (item_list (.head _) (qr (Ys hg)) (Yu (by omega) (.tail _ hN) hx ?_))
  have hc:=QR (x:=x) hg
  by_cases e:X[i+j]=x
  ·refine sr (decide_eq_true e) ?_
   rw [if_pos e] at hc
   refine za (ZS ?_)
   refine za (set_list (.head _) (by exact Int.natCast_nonneg _) (by refine sr j9 ?_;omega) (.here _ _) ?_)
   refine hR _ _ _ (.inl rfl) ⟨_,Sub.refl _,some (.int ((i+j:Nat):Int)),?_,?_⟩
   ·refine sr (show i+(j+1)=i+j+1 by exact Int.toNat_natCast _) (sr hc ?_);rfl
   ·refine sr (show i+(j+1)=i+j+1 by lia) (sr (uO (e ▸ hg)) ?_);rfl
  ·refine sr (decide_eq_false e) ?_
   rw [if_neg e] at hc
   refine hR _ _ _ (.inl rfl) ⟨_,Sub.refl _,some (.int ((i+j:Nat):Int)),?_,?_⟩
   ·refine sr (show i+(j+1)=i+j+1 by exact Int.toNat_natCast _) (sr hc ?_);rfl
   ·exact sr (show i+(j+1)=i+j+1 by exact Int.toNat_natCast _) (sr (uN hg e) rfl)
 ·rintro ρ τ' ⟨r12,rfl,rfl⟩
  refine sr (show i+(X.length-i)=X.length by exact Nat.add_sub_of_le hi) (sr List.take_length (sr Yt ?_))
  exact h _
 ·refine ⟨r12,?_,?_⟩
  ·rw [Nat.add_zero,List.count_eq_zero.mpr hxi];rfl
  ·rw [Nat.add_zero,xT hxi]
theorem zbP {v0 v1 v2 v4 v7 r10 r12 r13 r14:Option V} {S N:Addr} {X D:List Wo} {x:Wo} {i:Nat} {τ:Led} {K:AFl->List (Option V)->Led->Prop} (hlv:lv<90) (hX:X.length<100000) (hi:i<=X.length) (hx:x∉D) (hxi:x∉X.take i) (hN:(N,O.obj)∈τ)
  (h:∀ r12,K .next [v0,v1,v2,some (.ref S),v4,some (.int (X.length:Nat)),some (.ref N),v7,some (.int i),some (.str x),r10,some (.int (X.count x:Nat)),r12,r13,r14] ((S,.list (X.map (msk N (x::D))))::τ)) :
  aex W lv [] (eraS 3 5 11) [v0,v1,v2,some (.ref S),v4,some (.int (X.length:Nat)),some (.ref N),v7,some (.int i),some (.str x),r10,some (.int 0),r12,r13,r14] ((S,.list (X.map (msk N D)))::τ) K:=by
 refine qR (by lia) (by omega) (by lia) (by omega) ?_
 refine sr (show ((X.length:Int)-(i:Int)).toNat=X.length-i by omega) ?_
 refine j3 (n:=X.length-i) (lo:=(i:Int)) (fun j ρ τ'=>∃ r12,ρ=[v0,v1,v2,some (.ref S),v4,some (.int (X.length:Nat)),some (.ref N),v7,some (.int i),some (.str x),r10,some (.int ((X.take (i+j)).count x:Nat)),r12,r13,r14]/\τ'=(S,.list (hlf N D x X (i+j)))::τ) ?_ ?_ ?_
 ·rintro j ρ τ' R hj ⟨r12,rfl,rfl⟩ hR _
  have hlt:i+j<X.length:=by omega
  have hg:X[i+j]?=some X[i+j]:=List.getElem?_eq_getElem hlt
  rw [← Int.natCast_add]
  refine za (item_list (.head _) (qr (Ys hg)) (Yu (by omega) (.tail _ hN) hx ?_))
  have hc:=QR (x:=x) hg
  by_cases e:X[i+j]=x
  ·refine sr (decide_eq_true e) ?_
   rw [if_pos e] at hc
   refine za (ZS ?_)
   refine za (set_list (.head _) (by exact Int.natCast_nonneg _) (by refine sr j9 ?_;omega) (.here _ _) ?_)
   refine hR _ _ _ (.inl rfl) ⟨_,Sub.refl _,some (.int ((i+j:Nat):Int)),?_,?_⟩
   ·refine sr (show i+(j+1)=i+j+1 by exact Int.toNat_natCast _) (sr hc ?_);rfl
   ·refine sr (show i+(j+1)=i+j+1 by lia) (sr (uO (e ▸ hg)) ?_);rfl
  ·refine sr (decide_eq_false e) ?_
   rw [if_neg e] at hc
   refine hR _ _ _ (.inl rfl) ⟨_,Sub.refl _,some (.int ((i+j:Nat):Int)),?_,?_⟩
   ·refine sr (show i+(j+1)=i+j+1 by exact Int.toNat_natCast _) (sr hc ?_);rfl
   ·exact sr (show i+(j+1)=i+j+1 by exact Int.toNat_natCast _) (sr (uN hg e) rfl)
 ·rintro ρ τ' ⟨r12,rfl,rfl⟩
  refine sr (show i+(X.length-i)=X.length by exact Nat.add_sub_of_le hi) (sr List.take_length (sr Yt ?_))
  exact h _
 ·refine ⟨r12,?_,?_⟩
  ·rw [Nat.add_zero,List.count_eq_zero.mpr hxi];rfl
  ·rw [Nat.add_zero,xT hxi]
theorem zcC {v0 v1 v2 v4 v5 v7 v8 r10 r12 r13 r14:Option V} {T N:Addr} {X D:List Wo} {x:Wo} {τ:Led} {K:AFl->List (Option V)->Led->Prop} (hlv:lv<90) (hX:X.length<100000) (hx:x∉D) (hN:(N,O.obj)∈τ)
  (h:∀ r12 r13,K .next [v0,v1,v2,some (.ref T),v4,v5,some (.ref N),v7,v8,some (.str x),r10,some (.int (X.count x:Nat)),r12,r13,r14] ((T,.list (X.map (msk N (x::D))))::τ)) :
  aex W lv [] eraT [v0,v1,v2,some (.ref T),v4,v5,some (.ref N),v7,v8,some (.str x),r10,some (.int 0),r12,r13,r14] ((T,.list (X.map (msk N D)))::τ) K:=by
 refine qb (.head _) ?_
 refine ku (cl:=[]) X.length (fun j xs ρ τ'=>∃ r12 r13,xs=hlf N D x X j/\ρ=[v0,v1,v2,some (.ref T),v4,v5,some (.ref N),v7,v8,some (.str x),r10,some (.int ((X.take j).count x:Nat)),r12,r13,r14]/\τ'=(T,.list xs)::τ) ?_ ?_ ?_ ?_
 ·rintro j xs ρ τ' ⟨r12,r13,rfl,rfl,rfl⟩
  exact ⟨j9,.head _⟩
 ·rintro j xs y t ρ τ' R hy ⟨r12,r13,rfl,rfl,rfl⟩ hR _
  have hlt:j<X.length:=by have:=(List.getElem?_eq_some_iff.mp hy).1;rwa [j9] at this
  have hg:X[j]?=some X[j]:=List.getElem?_eq_getElem hlt
  have ey:y=msk N D X[j]:=by have:=Ys (N:=N) (D:=D) (x:=x) hg;rw [hy] at this;exact Option.some.inj this
  refine sr ey ?_
  refine zp (.head _) rfl ?_
  refine ze ((Sub.refl _).skip) (Yu (oka hlv (by decide)) (.tail _ hN) hx ?_)
  have hc:=QR (x:=x) hg
  by_cases e:X[j]=x
  ·refine sr (decide_eq_true e) ?_
   rw [if_pos e] at hc
   refine za (ZS ?_)
   refine za (set_list (.head _) (Int.natCast_nonneg _) (by refine sr j9 ?_;exact okj hlt) (.here _ _) ?_)
   refine hR _ _ _ (.inl rfl) ⟨_,_,Sub.refl _,some (.int (j:Nat)),some (msk N D X[j]),?_,?_,rfl⟩
   ·refine sr (uO (e ▸ hg)) ?_;rfl
   ·refine sr hc ?_;rfl
  ·refine sr (decide_eq_false e) ?_
   rw [if_neg e] at hc
   refine hR _ _ _ (.inl rfl) ⟨_,_,Sub.refl _,some (.int (j:Nat)),some (msk N D X[j]),(uN hg e).symm,?_,rfl⟩
   refine sr hc ?_;rfl
 ·rintro xs ρ τ' ⟨r12,r13,rfl,rfl,rfl⟩
  refine sr List.take_length (sr Yt ?_)
  exact h _ _
 ·exact ⟨_,r12,r13,rfl,rfl,by exact sr (xT (by simp)) rfl⟩
end
end
section
noncomputable abbrev MisR:=Nat×Nat×Wo
structure DP (A B D:List Wo) (R:List MisR):Prop where
 nd:(R.map (·.2.2)).Nodup
 ok:∀ p∈R,p.1=A.count p.2.2/\p.2.1=B.count p.2.2/\p.2.2∈D
 all:∀ w∈D,A.count w≠B.count w->w∈R.map (·.2.2)
theorem DP.same {A B D D':List Wo} {R:List MisR} (h:DP A B D R) (e:∀ w,w∈D↔w∈D'):DP A B D' R:=
 ⟨h.nd,fun p hp=>⟨(h.ok p hp).1,(h.ok p hp).2.1,(e _).mp (h.ok p hp).2.2⟩,fun w hw=>h.all w ((e w).mpr hw)⟩
theorem DP.eq {A B D:List Wo} {R:List MisR} {x:Wo} (h:DP A B D R) (e:A.count x=B.count x):DP A B (x::D) R:=
 ⟨h.nd,fun p hp=>⟨(h.ok p hp).1,(h.ok p hp).2.1,.tail _ (h.ok p hp).2.2⟩,fun w hw hne=>by
  rcases List.mem_cons.mp hw with rfl | hw
  ·exact absurd e hne
  ·exact h.all w hw hne⟩
theorem DP.add {A B D:List Wo} {R:List MisR} {x:Wo} (h:DP A B D R) (hx:x∉D):DP A B (x::D) (R++[(A.count x,B.count x,x)]):=by
 refine ⟨?_,fun p hp=>?_,fun w hw hne=>?_⟩
 ·rw [List.map_append,List.nodup_append]
  refine ⟨h.nd,by simp,?_⟩
  rintro w hw v hv rfl
  have:w=x:=by simpa using hv
  subst this
  refine e12 (List.mem_map.mp hw) fun p hp w0=>?_;subst w0
  exact hx (h.ok p hp).2.2
 ·refine ma hp (fun hp=>?_) fun hp=>?_
  ·exact ⟨(h.ok p hp).1,(h.ok p hp).2.1,.tail _ (h.ok p hp).2.2⟩
  ·have:p=(A.count x,B.count x,x):=by simpa using hp
   refine sr this ?_
   exact ⟨rfl,rfl,.head _⟩
 ·refine sr List.map_append ?_
  refine mc hw ?_ fun hw=>?_
  ·exact List.mem_append_right _ (by simp)
  ·exact List.mem_append_left _ (h.all w hw hne)
theorem qs {N:Addr} {D D':List Wo} (e:∀ w,w∈D↔w∈D'):msk N D=msk N D':=by
 funext w
 unfold msk
 by_cases h:w∈D
 ·exact sr (if_pos h) (sr (if_pos ((e w).mp h)) rfl)
 ·exact sr (if_neg h) (sr (if_neg fun k=>h ((e w).mpr k)) rfl)
noncomputable abbrev mE (R:List (Addr×MisR)):Led:=R.map fun p=>(p.1,O.tsub 1080 [.int p.2.1,.int p.2.2.1,.str p.2.2.2])
structure CC where
 a:Addr
 b:Addr
 S:Addr
 T:Addr
 N:Addr
 Rz:Addr
 A:List Wo
 B:List Wo
structure CU where
 R:List (Addr×MisR)
 a:Option V
 b:Option V
 c:Option V
 d:Option V
 e:Option V
 f:Option V
 g:Option V
noncomputable def cdR (Y:CC) (s:CU):List (Option V):=[some (.ref Y.a),some (.ref Y.b),some (.ref Y.S),some (.ref Y.T),some (.int (Y.A.length:Nat)),some (.int (Y.B.length:Nat)),some (.ref Y.N),some (.ref Y.Rz),s.a,s.b,s.c,s.d,s.e,s.f,s.g]
noncomputable def cdT (Y:CC) (R:List (Addr×MisR)) (σ:Led):Led:=(Y.N,.obj)::(Y.Rz,.list (R.map fun p=>V.ref p.1))::(mE R++σ)
noncomputable def cd1 (Y:CC) (σ:Led) (i:Nat) (s:CU):Led:=(Y.S,.list (Y.A.map (msk Y.N (Y.A.take i))))::(Y.T,.list (Y.B.map (msk Y.N (Y.A.take i))))::cdT Y s.R σ
noncomputable def cd2 (Y:CC) (σ:Led) (i:Nat) (s:CU):Led:=(Y.T,.list (Y.B.map (msk Y.N (Y.A++Y.B.take i))))::cdT Y s.R σ
structure CI1 (Y:CC) (i:Nat) (s:CU):Prop where
 dp:DP Y.A Y.B (Y.A.take i) (s.R.map (·.2))
 len:s.R.length<=i
structure CI2 (Y:CC) (i:Nat) (s:CU):Prop where
 dp:DP Y.A Y.B (Y.A++Y.B.take i) (s.R.map (·.2))
 len:s.R.length<=Y.A.length+i
noncomputable def cdB (i:Nat):List PS:=match Z2.body[i]?.getD .bad with
 | .forr _ _ b=>b
 | _=>[]
section
variable {W:Wd} {lv:Nat} {σ σ':Led} {Q:V->Led->Prop} {Y:CC}
theorem gU {R:List (Addr×MisR)} {x:Addr} {m:MisR}:Sub (cdT Y (R++[(x,m)]) σ) ((x,.tsub 1080 [.int m.1,.int m.2.1,.str m.2.2])::(Y.N,.obj)::(Y.Rz,.list (R.map (fun p=>V.ref p.1)++[.ref x]))::(mE R++σ)):=by
 have e2:mE (R++[(x,m)])++σ=mE R++([(x,O.tsub 1080 [.int m.1,.int m.2.1,.str m.2.2])]++σ):=by simp [mE]
 unfold cdT
 refine sr e2 (sr List.map_append ?_)
 exact .a1 (.a1 Sub.uE)
theorem Hy (P:PrOk W.K) (k:TsOk W.K 1080 1027 1081) (hlv:lv<60) (hA:Y.A.length<1000) (hB:Y.B.length<1000) {i:Nat} {s:CU} {y:V} {K:AFl->List (Option V)->Led->Prop} (hy:(Y.A.map (msk Y.N (Y.A.take i)))[i]?=some y) (hs:CI1 Y i s)
  (hR:∀ fl s' τ,(fl=.next\/fl=.cont)->CI1 Y (i+1) s'->Sub (cd1 Y σ (i+1) s') τ->K fl (cdR Y s') τ):aexs W (lv+1) [] (cdB 5) (cdR Y ⟨s.R,some (.int i),some y,s.c,s.d,s.e,s.f,s.g⟩) (cd1 Y σ i s) K:=by
 refine e12 (Option.map_eq_some_iff.mp (List.getElem?_map .. ▸ hy)) fun w hw w0=>?_;subst w0
 have hlt:i<Y.A.length:=(List.getElem?_eq_some_iff.mp hw).1
 have et:Y.A.take (i+1)=Y.A.take i++[w]:=by rw [List.take_add_one,hw];rfl
 by_cases hin:w∈Y.A.take i
 ·have ee:∀ z,z∈Y.A.take i↔z∈Y.A.take (i+1):=fun z=>by
   rw [et,List.mem_append,List.mem_singleton]
   exact ⟨.inl,fun k=>k.elim id fun e=>e ▸ hin⟩
  rw [show msk Y.N (Y.A.take i) w=.ref Y.N from if_pos hin]
  exact za (j8 (zc (hR .cont ⟨s.R,_,_,s.c,s.d,s.e,s.f,s.g⟩ _ (.inr rfl) ⟨hs.dp.same ee,Nat.le_succ_of_le hs.len⟩ (by unfold cd1;rw [← qs ee];exact Sub.refl _))))
 ·have ee:∀ z,z∈w::Y.A.take i↔z∈Y.A.take (i+1):=fun z=>by
   rw [et,List.mem_append,List.mem_singleton,List.mem_cons]
   exact ⟨fun k=>k.elim .inr .inl,fun k=>k.elim .inr .inl⟩
  refine sr (show msk Y.N (Y.A.take i) w=.str w from if_neg hin) ?_
  refine za (Qu (za ?_))
  refine za (zcB (okb hlv (by decide)) (oka hA (by decide)) (okd hlt) hin hin (.tail _ (.head _)) fun r12=>?_)
  refine ze (.swap (Sub.refl _)) (zcC (okb hlv (by decide)) (oka hB (by decide)) hin (.tail _ (.head _)) fun r12 r13=>?_)
  refine zc (U4 (fun hc=>?_) fun hc=>?_)
  ·refine za (kD k P.h_mismatch_new (okg (okb hlv (by decide))) fun t2 x=>?_)
   refine Sub.aexs (.keep (Sub.refl _).skip) (zc (zk (.tail _ (.tail _ (.tail _ (.tail _ (.head _))))) (zq (.tail _ (.tail _ (.tail _ (.tail _ (.head _))))) (by rw [List.length_map];exact okb hs.len (oka hlt (okc (okd hA) (by decide)))) (.there _ (.there _ (.there _ (.there _ (.here _ _))))) ?_)))
   refine hR .next ⟨s.R++[(x,(Y.A.count w,Y.B.count w,w))],some (.int i),some (.str w),some (.int (Y.A.count w:Nat)),some (.int (Y.B.count w:Nat)),r12,r13,some (.ref x)⟩ _ (.inl rfl) ⟨?_,by refine sr List.length_append ?_;exact Nat.succ_le_succ hs.len⟩ ?_
   ·refine sr List.map_append ?_;exact (hs.dp.add hin).same ee
   ·unfold cd1
    refine sq (qs (N:=Y.N) ee) ?_
    exact Sub.trans (.keep (.keep gU)) (.a2 (.a1 (.keep (Sub.refl _))))
  ·exact hR .next ⟨s.R,some (.int i),some (.str w),some (.int (Y.A.count w:Nat)),some (.int (Y.B.count w:Nat)),r12,r13,s.g⟩ _ (.inl rfl) ⟨(hs.dp.eq hc).same ee,Nat.le_succ_of_le hs.len⟩ (by unfold cd1;refine sq (qs ee) ?_;exact .swap (Sub.refl _))
theorem Hz (P:PrOk W.K) (k:TsOk W.K 1080 1027 1081) (hlv:lv<60) (hA:Y.A.length<1000) (hB:Y.B.length<1000) {i:Nat} {s:CU} {y:V} {K:AFl->List (Option V)->Led->Prop} (hy:(Y.B.map (msk Y.N (Y.A++Y.B.take i)))[i]?=some y) (hs:CI2 Y i s)
  (hR:∀ fl s' τ,(fl=.next\/fl=.cont)->CI2 Y (i+1) s'->Sub (cd2 Y σ (i+1) s') τ->K fl (cdR Y s') τ):aexs W (lv+1) [] (cdB 6) (cdR Y ⟨s.R,some (.int i),some y,s.c,s.d,s.e,s.f,s.g⟩) (cd2 Y σ i s) K:=by
 refine e12 (Option.map_eq_some_iff.mp (List.getElem?_map .. ▸ hy)) fun w hw w0=>?_;subst w0
 have hlt:i<Y.B.length:=(List.getElem?_eq_some_iff.mp hw).1
 have et:Y.A++Y.B.take (i+1)=(Y.A++Y.B.take i)++[w]:=by rw [List.take_add_one,hw,List.append_assoc];rfl
 by_cases hin:w∈Y.A++Y.B.take i
 ·have ee:∀ z,z∈Y.A++Y.B.take i↔z∈Y.A++Y.B.take (i+1):=fun z=>by
   rw [et,List.mem_append (s:=Y.A++Y.B.take i),List.mem_singleton]
   exact ⟨.inl,fun k=>k.elim id fun e=>e ▸ hin⟩
  rw [show msk Y.N (Y.A++Y.B.take i) w=.ref Y.N from if_pos hin]
  exact za (j8 (zc (hR .cont ⟨s.R,_,_,s.c,s.d,s.e,s.f,s.g⟩ _ (.inr rfl) ⟨hs.dp.same ee,Nat.le_succ_of_le hs.len⟩ (by unfold cd2;rw [← qs ee];exact Sub.refl _))))
 ·have ee:∀ z,z∈w::(Y.A++Y.B.take i)↔z∈Y.A++Y.B.take (i+1):=fun z=>by
   rw [et,List.mem_append (s:=Y.A++Y.B.take i),List.mem_singleton,List.mem_cons]
   exact ⟨fun k=>k.elim .inr .inl,fun k=>k.elim .inr .inl⟩
  have h0:Y.A.count w=0:=List.count_eq_zero.mpr fun k=>hin (List.mem_append_left _ k)
  refine sr (show msk Y.N (Y.A++Y.B.take i) w=.str w from if_neg hin) ?_
  refine za (Qu (za ?_))
  refine za (zbP (okb hlv (by decide)) (oka hB (by decide)) (okd hlt) hin (fun k=>hin (List.mem_append_right _ k)) (.head _) fun r12=>?_)
  refine za (kD k P.h_mismatch_new (okg (okb hlv (by decide))) fun t2 x=>?_)
  refine Sub.aexs (.keep (Sub.refl _).skip) (zc (zk (.tail _ (.tail _ (.tail _ (.head _)))) (zq (.tail _ (.tail _ (.tail _ (.head _)))) (by rw [List.length_map];exact okb hs.len (okb (Nat.add_le_add (okd hA) (okd (oka hlt (okd hB)))) (by decide))) (.there _ (.there _ (.there _ (.here _ _)))) ?_)))
  refine hR .next ⟨s.R++[(x,(0,Y.B.count w,w))],some (.int i),some (.str w),s.c,some (.int (Y.B.count w:Nat)),r12,s.f,some (.ref x)⟩ _ (.inl rfl) ⟨?_,by refine sr List.length_append ?_;exact Nat.succ_le_succ hs.len⟩ ?_
  ·have:=(hs.dp.add hin).same ee
   rw [h0] at this
   refine sr List.map_append ?_;exact this
  ·unfold cd2
   refine sq (qs (N:=Y.N) ee) ?_
   exact Sub.trans (.keep gU) (.a1 (.keep (Sub.refl _)))
theorem xU {a b:Addr} {A B:List Wo} (P:PrOk W.K) (k:TsOk W.K 1080 1027 1081) (hlv:lv<60) (ma:(a,O.list (A.map V.str))∈σ) (mb:(b,O.list (B.map V.str))∈σ) (hA:A.length<1000) (hB:B.length<1000)
  (h:∀ d (R:List (Addr×MisR)),DP A B (A++B) (R.map (·.2))->R.length<=A.length+B.length->Q (.ref d) ((d,.list (R.map fun p=>V.ref p.1))::(mE R++σ))) :
  zm W lv (.ref 1090) [.ref a,.ref b] σ Q:=by
 refine zA P.h_count_diff (oka hlv (by decide)) (Nat.le_refl 2) (Nat.le_refl 2) ?_
 refine za (p:=.pass) ?_
 refine za ⟨rfl,XQ ma fun S=>XQ (.tail _ mb) fun T=>zK (by simp) fun dt=>zp (.head _) rfl ?_⟩
 refine ze ((Sub.refl _).skip) ⟨rfl,Zy (.tail _ (.head _)) (Zy (.head _) (zK (by simp) fun dt=>zp (.head _) rfl ?_))⟩
 refine ze ((Sub.refl _).skip) (Hx fun N=>?_)
 refine za (zC (by simp) fun Rz=>?_)
 rw [List.length_map,List.length_map]
 have e:∀ X:List Wo,X.map (msk N (A.take 0))=X.map V.str:=fun X=>List.map_congr_left fun w _=>if_neg List.not_mem_nil
 refine Sub.aexs (σ':=cd1 ⟨a,b,S,T,N,Rz,A,B⟩ σ 0 ⟨[],none,none,none,none,none,none,none⟩) (by unfold cd1;rw [e,e];exact .a3 (.a2 (.a1 (.keep (Sub.refl _))))) ?_
 refine za (qb (.head _) ?_)
 refine ZY (cl:=[]) (ρf:=cdR ⟨a,b,S,T,N,Rz,A,B⟩) (σf:=cd1 ⟨a,b,S,T,N,Rz,A,B⟩ σ) (xf:=fun i=>A.map (msk N (A.take i))) A.length (CI1 ⟨a,b,S,T,N,Rz,A,B⟩) (fun i s=>⟨List.length_map ..,.head _⟩) (fun i y t K hy s hs hR=>?_) (fun s hs=>?_) (s:=⟨[],none,none,none,none,none,none,none⟩) ⟨⟨List.nodup_nil,fun p hp=>absurd hp List.not_mem_nil,fun w hw=>absurd hw List.not_mem_nil⟩,Nat.le_refl _⟩
 ·exact zp (.head _) rfl (Sub.aexs (Sub.refl _).skip (Hy P k hlv hA hB hy hs hR))
 have e2:A++B.take 0=A.take A.length:=by rw [List.take_length,List.take_zero,List.append_nil]
 refine Sub.aexs (σ':=cd2 ⟨a,b,S,T,N,Rz,A,B⟩ σ 0 s) (by unfold cd2;dsimp only;refine sr e2 ?_;exact (Sub.refl _).skip) ?_
 refine za (qb (.head _) ?_)
 refine ZY (cl:=[]) (ρf:=cdR ⟨a,b,S,T,N,Rz,A,B⟩) (σf:=cd2 ⟨a,b,S,T,N,Rz,A,B⟩ σ) (xf:=fun i=>B.map (msk N (A++B.take i))) B.length (CI2 ⟨a,b,S,T,N,Rz,A,B⟩) (fun i s=>⟨List.length_map ..,.head _⟩) (fun i y t K hy s hs hR=>?_) (fun s hs=>?_) (s:=s) ⟨by refine sr e2 ?_;exact hs.dp,hs.len⟩
 ·exact zp (.head _) rfl (Sub.aexs (Sub.refl _).skip (Hz P k hlv hA hB hy hs hR))
 have hdp:=hs.dp
 dsimp only at hdp
 rw [List.take_length] at hdp
 exact zc ⟨_,(Sub.refl _).skip.skip,h Rz s.R hdp hs.len⟩
end
end
section
noncomputable def gs (k:MisR->Nat) (R:List MisR):List Wo:=R.flatMap fun p=>List.replicate (k p) p.2.2
theorem xV {k:MisR->Nat} {f:Wo->Nat} (w:Wo):∀ R:List MisR,(R.map (·.2.2)).Nodup->(∀ p∈R,k p=f p.2.2)->(gs k R).count w=if w∈R.map (·.2.2) then f w else 0
 | [],_,_=>by simp [gs]
 | p::R,nd,hk=>by
  rw [List.map_cons,List.nodup_cons] at nd
  have ih:=xV (k:=k) (f:=f) w R nd.2 fun q hq=>hk q (.tail _ hq)
  have hp:=hk p (.head _)
  refine (?_:(List.replicate (k p) p.2.2++gs k R).count w=_)
  rw [List.count_append,ih,List.map_cons,List.count_replicate]
  by_cases e:p.2.2=w
  ·subst e
   rw [if_pos (by simp),if_neg nd.1,if_pos (.head _),hp];exact Int.toNat_natCast _
  ·have e':¬ w=p.2.2:=fun q=>e q.symm
   rw [if_neg (by simpa using e),Nat.zero_add]
   by_cases m:w∈R.map (·.2.2)
   ·rw [if_pos m,if_pos (.tail _ m)]
   ·exact sr (if_neg m) (sr (if_neg fun q=>(List.mem_cons.mp q).elim e' m) rfl)
theorem uP {k:MisR->Nat}:∀ R:List MisR,(∀ p∈R,k p<=1000)->(gs k R).length<=1000*R.length
 | [],_=>by simp [gs]
 | p::R,h=>by
  refine (?_:(List.replicate (k p) p.2.2++gs k R).length<=_)
  refine sr List.length_append (sr List.length_replicate (sr List.length_cons ?_))
  have:=h p (.head _)
  have:=uP (k:=k) R fun q hq=>h q (.tail _ hq)
  lia
theorem uQ {k:MisR->Nat} {R:List MisR} {n:Nat} {p:MisR} (h:R[n]?=some p):gs k (R.take (n+1))=gs k (R.take n)++List.replicate (k p) p.2.2:=by
 unfold gs
 refine sr List.take_add_one (sr h (sr List.flatMap_append ?_))
 simp
theorem DP.dif {A B:List Wo} {R:List MisR} (h:DP A B (A++B) R):(∀ w,(gs (fun p=>p.1-p.2.1) R).count w=A.count w-B.count w)/\∀ w,(gs (fun p=>p.2.1-p.1) R).count w=B.count w-A.count w:=by
 have z:∀ w,w∉R.map (·.2.2)->A.count w=B.count w:=fun w hw=>by
  by_cases e:A.count w=B.count w
  ·exact e
  ·refine absurd (h.all w ?_ e) hw
   by_cases a:w∈A
   ·exact List.mem_append_left _ a
   ·refine List.mem_append_right _ ?_
    rw [List.count_eq_zero.mpr a] at e
    exact List.count_pos_iff.mp (okL (Nat.le_add_left _ _) e)
 refine ⟨fun w=>?_,fun w=>?_⟩
 ·refine sr (xV (f:=fun w=>A.count w-B.count w) w R h.nd fun p hp=>by rw [(h.ok p hp).1,(h.ok p hp).2.1]) ?_
  split
  ·rfl
  ·rename_i hw;rw [z w hw];exact Eq.symm (Nat.sub_self _)
 ·rw [xV (f:=fun w=>B.count w-A.count w) w R h.nd fun p hp=>by rw [(h.ok p hp).1,(h.ok p hp).2.1]]
  split
  ·rfl
  ·rename_i hw;rw [z w hw];exact Eq.symm (Nat.sub_self _)
section
variable {W:Wd} {lv:Nat} {σ σ':Led} {Q:V->Led->Prop}
noncomputable abbrev cB:List PS:=(jk.body.getD 1 .pass).blk
variable {a b C G d:Addr} {A B X Y:List Wo} {R:List (Addr×MisR)} {τ:Led} {K:AFl->List (Option V)->Led->Prop} {p1 p2:Nat} {w:Wo}
noncomputable def cσ (d C G:Addr) (R:List (Addr×MisR)) (σ:Led) (Y X:List Wo):Led:=(d,.list (R.map fun p=>V.ref p.1))::(mE R++((C,.list (X.map V.str))::(G,.list (Y.map V.str))::σ))
noncomputable def cρ (a b C G:Addr) (p1 p2:Nat) (w:Wo):List (Option V):=[some (.ref a),some (.ref b),some (.ref G),some (.ref C),some (.int p1),some (.int p2),some (.str w)]
theorem kG (n m:Nat):(List.replicate ((n:Int)-(m:Int)).toNat [V.str w]).flatten=(List.replicate (n-m) w).map V.str:=by
 rw [List.flatten_replicate_singleton,List.map_replicate,Int.toNat_sub]
theorem gV {X:List Wo} {n m:Nat} (hX:X.length<=1000000) (hn:n<60):(X.map V.str).length+((List.replicate (n-m) w).map V.str).length<=16777216:=by
 rw [List.length_map,List.length_map,List.length_replicate]
 exact okc (Nat.add_le_add hX (okc (Nat.sub_le _ _) (okd hn))) (by decide)
theorem int_lt {n m:Nat} (hn:n<60):(n:Int)-(m:Int)<=1000:=by lia
theorem gW {n m:Nat} (hm:m<60):-1000<=(n:Int)-(m:Int):=by lia
theorem zaz (h1:p1<60) (h2:p2<60) (hX:X.length<=1000000) (hY:Y.length<=1000000) (h:∀ τ,Sub (cσ d C G R σ (Y++List.replicate (p1-p2) w) (X++List.replicate (p2-p1) w)) τ->K .next (cρ a b C G p1 p2 w) τ) :
  aexs W lv [] cB (cρ a b C G p1 p2 w) (cσ d C G R σ Y X) K:=by
 refine za (zC (show 1<=16777216 by decide) fun d1=>qi (Y9 (.head _) (gW h2) (int_lt h1) (show 1<=16000 by decide) fun d2=>?_))
 rw [kG]
 refine ZI (.tail _ (.tail _ (.tail _ (List.mem_append_right _ (.tail _ (.head _)))))) (.head _) (gV hY h1) (.there _ (.there _ (.there _ (Put.appr (.there _ (.here _ _)))))) ?_
 refine ze ((Sub.refl _).skip.skip) (zC (show 1<=16777216 by decide) fun d1=>qi (Y9 (.head _) (gW h1) (int_lt h2) (show 1<=16000 by decide) fun d2=>?_))
 rw [kG]
 refine ZI (.tail _ (.tail _ (.tail _ (List.mem_append_right _ (.head _))))) (.head _) (gV hX h2) (.there _ (.there _ (.there _ (Put.appr (.here _ _))))) ?_
 refine h _ ?_
 rw [cσ,List.map_append,List.map_append]
 exact (Sub.refl _).skip.skip
theorem K8 (P:PrOk W.K) (k:TsOk W.K 1080 1027 1081) (hlv:lv<50) (ma:(a,O.list (A.map V.str))∈σ) (mb:(b,O.list (B.map V.str))∈σ) (hA:A.length<60) (hB:B.length<60)
  (h:∀ t g c,Q (.ref t) ((t,.tup [.ref g,.ref c])::(c,.list ((srt (dif B A)).map V.str))::(g,.list ((srt (dif A B)).map V.str))::σ)):zm W lv (.ref 1131) [.ref a,.ref b] σ Q:=by
 refine zA P.h_counted (oka hlv (by decide)) (Nat.le_refl 2) (Nat.le_refl 2) ?_
 refine za ⟨rfl,zC (Nat.zero_le _) fun G=>zC (Nat.zero_le _) fun C=>zK (show 2<=16777216 by decide) fun dt=>zp (.head _) rfl ?_⟩
 refine ze ((Sub.refl _).skip) (xU P k (okb hlv (by decide)) (.tail _ (.tail _ ma)) (.tail _ (.tail _ mb)) (oka hA (by decide)) (oka hB (by decide)) fun d R hd hl=>?_)
 refine zB (.head _) ?_
 have hk1:∀ p∈R.map (·.2),p.1<60/\p.2.1<60:=fun p hp=>by
  have:=hd.ok p hp
  refine sr this.1 (sr this.2.1 ?_)
  exact ⟨okb List.count_le_length hA,okb List.count_le_length hB⟩
 have lk:∀ (k:MisR->Nat) n,(∀ p,p.1<60/\p.2.1<60->k p<=1000)->(gs k ((R.map (·.2)).take n)).length<=1000000:=fun k n hk=>by
  refine okc (uP (k:=k) _ fun p hp=>hk p (hk1 p (List.mem_of_mem_take hp))) (okc (Nat.mul_le_mul_left 1000 (okc (List.length_take_le' _ _) ?_)) (show 1000*1000<=1000000 by decide))
  rw [List.length_map];exact okc hl (okc (Nat.add_le_add (okd hA) (okd hB)) (by decide))
 refine zL (α:=Nat×Option V×Option V×Option V) (xs:=R.map fun p=>V.ref p.1) (ρf:=fun s=>[some (.ref a),some (.ref b),some (.ref G),some (.ref C),s.2.1,s.2.2.1,s.2.2.2]) (σf:=fun s=>cσ d C G R σ (gs (fun p=>p.1-p.2.1) ((R.map (·.2)).take s.1)) (gs (fun p=>p.2.1-p.1) ((R.map (·.2)).take s.1))) (.inr fun i=>?_)
  (fun n s=>s.1=n) (fun _=>.head _) ?_ ?_ (s:=(0,none,none,none)) rfl
 ·rw [List.getElem?_map]
  cases R[i]? with
  | none=>exact .inl rfl
  | some v=>exact .inr ⟨_,rfl⟩
 ·rintro n v K hv ⟨m,_,_,_⟩ hn hR _ _
  cases hn
  rw [List.getElem?_map,Option.map_eq_some_iff] at hv
  obtain ⟨⟨x,p1,p2,w⟩,hy,rfl⟩:=hv
  have hy2:(R.map (·.2))[m]?=some (p1,p2,w):=by rw [List.getElem?_map,hy];rfl
  have hkp:=hk1 _ (List.mem_of_getElem? hy2)
  refine Qr k (.tail _ ((List.mem_append_left _ (List.mem_map.mpr ⟨_,List.mem_of_getElem? hy,rfl⟩)))) rfl ?_
  refine zaz hkp.1 hkp.2 (lk _ m fun p hp=>okc (Nat.sub_le _ _) (okc (okd hp.2) (by decide))) (lk _ m fun p hp=>okc (Nat.sub_le _ _) (okc (okd hp.1) (by decide))) fun τ hs=>?_
  refine hR _ (m+1,_,_,_) τ (.inl rfl) rfl ?_
  dsimp only
  refine sr (uQ hy2) (sr (uQ hy2) ?_)
  exact hs
 ·rintro ⟨m,_,_,_⟩ hn
  refine sr hn ?_
  dsimp only
  refine sr (List.take_of_length_le (by rw [List.length_map,List.length_map];exact Nat.le_refl _)) ?_
  refine e02 hd.dif fun c1 c2=>?_
  have pM:=ZC c1
  have pR:=ZC c2
  have dl:∀ A B:List Wo,A.length<60->(dif A B).length<64:=fun A B h=>Nat.lt_of_le_of_lt (z9 fun w=>by rw [Zq];exact Nat.sub_le _ _) (oka h (by decide))
  refine za (Zn (.tail _ (List.mem_append_right _ (.tail _ (.head _)))) (by rw [pM.length_eq];exact dl _ _ hA) fun g=>?_)
  refine Zn (.tail _ (.tail _ (List.mem_append_right _ (.head _)))) (by rw [pR.length_eq];exact dl _ _ hB) fun c=>?_
  rw [Zc pM,Zc pR]
  refine zK (show 2<=16777216 by decide) fun t=>?_
  exact ⟨_,.keep (.keep (.keep ((Sub.trans ((Sub.refl σ).skip.skip) Sub.of_append).skip))),h t g c⟩
end
end
section
noncomputable def ChOk (K:Frag) (c:Addr) (b:Value) (m:List Value):Prop:=∃ od cd sl,K.lookup c=some ⟨.type "type",od,.cls cd,sl⟩/\cd.hasDel=false/\cd.abstract=false/\cd.bases=[b]/\cd.slotNames=[]/\sl.toList[4]?=some (some .none)/\cd.mro=m
structure IoOk (K:Frag):Prop where
 o1:ChOk K 587 (.ref 110) [.ref 587,.ref 110,.ref 83,.type "object"]
 o2:ChOk K 110 (.ref 83) [.ref 110,.ref 83,.type "object"]
 o3:ChOk K 83 (.type "object") [.ref 83,.type "object"]
 init:findIn K (.ref 587) "__init__" = some (some (.ref 357))
 initFn:isFn K (.ref 357)=true
 call:specialIn K (.ref 587) "__call__" = some (some (.builtin "type.__call__"))
 typ:instIn K (.ref 587) (.type "type")=some true
 typ2:typeIn K (.ref 587)=some (.type "type")
 reads:readsIn K 587 (.type "type")=true
 new:findCls K (.ref 587) (.type "type") "__new__" = some (.get (.builtin "staticmethod.__get__") (.ref 84) .none (.ref 587))
 sm:recIn K 84 "staticmethod" = some [.ref 80]
 keep:keepIn K (.ref 587)=true
 b340:typeIn K (.ref 340)=some (.type "type")
section
variable {K:Frag} {M:Model} {h:Heap}
theorem ChOk.cdata {c:Addr} {b:Value} {m:List Value} (X:K.In h) (k:ChOk K c b m):∃ cd,Looks M h (classData c) cd/\cd.bases=[b]/\cd.slotNames=[]/\cd.abstract=false:=by
 obtain ⟨od,cd,sl,ho,e1,e2,e3,e4,e5,e6⟩:=k
 exact ⟨cd,looks_clsIn X (by unfold clsIn;rw [ho]),e3,e4,e2⟩
theorem ChOk.mro {c:Addr} {b:Value} {m:List Value} (X:K.In h) (k:ChOk K c b m):Looks M h (mroOf (.ref c)) m:=by
 obtain ⟨od,cd,sl,ho,e1,e2,e3,e4,e5,e6⟩:=k
 have hc:clsIn K c=some cd:=by unfold clsIn;exact sr ho rfl
 rw [← e6]
 exact (looks_clsIn X hc).andThen .now
theorem ChOk.made {c:Addr} {b x:Value} {m:List Value} (X:K.In h) (k:ChOk K c b (x::m)):Looks M h (Bind.madeBy (.ref c)) none:=by
 have hm:=ChOk.mro (M:=M) X k
 obtain ⟨od,cd,sl,ho,e1,e2,e3,e4,e5,e6⟩:=k
 intro A Q E s kk q
 refine wpAny_bind (hm A _ E s kk ?_)
 rw [List.forIn_cons]
 refine wpAny_bind (wpAny_bind (wpAny_bind (wpAny_bind (wpAny_loadPart (kk _ _ (X _ _ ho)) (wpAny_pure ?_)))))
 rw [← Array.getElem?_toList,e5]
 exact wpAny_pure (wpAny_pure (wpAny_pure q))
theorem uR:Builtin.Slots.slotNamesOf (.type "object")=pure []:=by kernel_rfl
theorem ChOk.slots {c:Addr} {b:Value} {m:List Value} (X:K.In h) (k:ChOk K c b m):Looks M h (Builtin.Slots.slotNamesOf (.ref c)) []:=by
 refine e14 (k.cdata (M:=M) X) fun cd hc e1 e2 e3=>?_
 refine sq e2 ?_
 exact hc.andThen .now
theorem ChOk.adds {c:Addr} {b:Value} {m:List Value} (X:K.In h) (k:ChOk K c b m) (hb:Looks M h (Builtin.Slots.slotNamesOf b) []):Looks M h (Builtin.Slots.addsLayout (.ref c)) false:=by
 refine e14 (k.cdata (M:=M) X) fun cd hc e1 e2 e3=>?_
 intro A Q E s kk q
 refine wpAny_bind (hc A _ E s kk ?_)
 refine sr e1 (sr e2 ?_)
 simp only [List.forIn_cons,List.forIn_nil,bind_assoc,pure_bind]
 refine wpAny_bind (hb A _ E s kk ?_)
 exact wpAny_pure q
theorem kH:Builtin.Slots.addsLayout (.type "object")=pure false:=by rfl
theorem uS:(Manifest.find? "object").elim false (·.ownLayout)=true:=by decide +kernel
theorem zaA {c:Value} {c1 c2:Addr} (hm:Looks M h (mroOf c) [.ref c1,.ref c2,.type "object"]) (h1:Looks M h (Builtin.Slots.addsLayout (.ref c1)) false) (h2:Looks M h (Builtin.Slots.addsLayout (.ref c2)) false):Looks M h (Builtin.Slots.solid c) (.type "object"):=by
 intro A Q E s kk q
 refine wpAny_bind (hm A _ E s kk ?_)
 simp only [List.forIn_cons,List.forIn_nil,bind_assoc,pure_bind]
 refine wpAny_bind (h1 A _ E s kk ?_)
 simp only [Bool.false_eq_true,if_false,pure_bind]
 refine wpAny_bind (wpAny_bind (h2 A _ E s kk ?_))
 simp only [Bool.false_eq_true,if_false,if_true,pure_bind,kH,uS]
 exact wpAny_pure (wpAny_pure q)
theorem zaB {c:Value} {c1:Addr} (hm:Looks M h (mroOf c) [.ref c1,.type "object"]) (h1:Looks M h (Builtin.Slots.addsLayout (.ref c1)) false):Looks M h (Builtin.Slots.solid c) (.type "object"):=by
 intro A Q E s kk q
 refine wpAny_bind (hm A _ E s kk ?_)
 simp only [List.forIn_cons,List.forIn_nil,bind_assoc,pure_bind]
 refine wpAny_bind (h1 A _ E s kk ?_)
 simp only [Bool.false_eq_true,if_false,if_true,pure_bind,kH,uS]
 first | exact wpAny_pure q | exact wpAny_pure (wpAny_pure q)
theorem gY {b v:Value} (hs:Looks M h (Builtin.Slots.solid b) v):Looks M h (Builtin.Slots.bestBase [b]) b:=by
 intro A Q E s kk q
 unfold Builtin.Slots.bestBase
 simp only [List.forIn_cons,List.forIn_nil,bind_assoc,pure_bind]
 refine wpAny_bind (hs A _ E s kk ?_)
 exact wpAny_pure q
theorem HA:Builtin.Slots.bestBase [.type "object"]=pure (.type "object"):=by kernel_rfl
theorem kI:Bind.madeBy (.type "object")=pure (some "object.__new__"):=JT.made
structure IoAt (M:Model) (h:Heap):Prop where
 obj:∃ oc od cd sl,h.get? 587=some ⟨oc,od,.cls cd,sl⟩/\cd.abstract=false/\cd.hasDel=false
 mro:Looks M h (mroOf (.ref 587)) [.ref 587,.ref 110,.ref 83,.type "object"]
 made:Looks M h (Bind.madeBy (.ref 587)) none
 base:Looks M h (Bind.staticBase (.ref 587)) (.type "object")
 self:Looks M h (isSubtype (.ref 587) (.ref 587)) true
 top:Looks M h (isSubtype (.ref 587) (.type "object")) true
 init:Looks M h (typeLookup (.ref 587) "__init__") (some (.ref 357))
 call:Looks M h (specialOf (.ref 587) "__call__") (some (.builtin "type.__call__"))
 typ:Looks M h (isInstance (.ref 587) (.type "type")) true
theorem zaC (X:K.In h) (k:IoOk K):IoAt M h:=by
 have d2:=k.o2.adds (M:=M) X (k.o3.slots X)
 have d3:=k.o3.adds (M:=M) X (Looks.of_pure uR)
 have m1:=k.o1.made (M:=M) X
 have m2:=k.o2.made (M:=M) X
 have m3:=k.o3.made (M:=M) X
 have s2:=zaA (k.o2.mro (M:=M) X) d2 d3
 have s3:=zaB (k.o3.mro (M:=M) X) d3
 refine e13 (k.o1.cdata (M:=M) X) fun c1 hc1 b1 _=>?_
 refine e13 (k.o2.cdata (M:=M) X) fun c2 hc2 b2 _=>?_
 refine e13 (k.o3.cdata (M:=M) X) fun c3 hc3 b3 _=>?_
 have t1:=gY s2
 have t2:=gY s3
 have mroI:∀ v,v∈([.ref 587,.ref 110,.ref 83,.type "object"]:List Value)->mroIn K 587 v=some true:=fun v hv=>by
  obtain ⟨od,cd,sl,ho,e1,e2,e3,e4,e5,e6⟩:=k.o1
  unfold mroIn clsIn
  rw [ho,Option.bind_some,if_neg (by rw [e6];simp),e6]
  simpa using hv
 refine ⟨?_,k.o1.mro X,m1,?_,looks_mroIn X (mroI _ (by simp)),looks_mroIn X (mroI _ (by simp)),looks_findIn X k.init,looks_specialIn X k.call,looks_instIn X k.typ⟩
 ·refine e34 k.o1 fun od cd sl ho e1 e2 _=>?_
  exact ⟨_,_,cd,sl,X _ _ ho,e2,e1⟩
 ·intro A Q E s kk q
  refine wpAny_bind (k.o1.mro (M:=M) X A _ E s kk ?_)
  simp only [List.forIn_cons,List.forIn_nil,bind_assoc,pure_bind]
  refine wpAny_bind (m1 A _ E s kk ?_)
  simp only [Option.isSome_none,Bool.false_eq_true,if_false,pure_bind,bind_assoc]
  refine wpAny_bind (hc1 A _ E s kk ?_)
  rw [b1]
  refine wpAny_bind (t1 A _ E s kk ?_)
  refine wpAny_bind (m2 A _ E s kk ?_)
  simp only [Option.isSome_none,Bool.false_eq_true,if_false,pure_bind,bind_assoc]
  refine wpAny_bind (hc2 A _ E s kk ?_)
  rw [b2]
  refine wpAny_bind (t2 A _ E s kk ?_)
  refine wpAny_bind (m3 A _ E s kk ?_)
  simp only [Option.isSome_none,Bool.false_eq_true,if_false,pure_bind,bind_assoc]
  refine wpAny_bind (hc3 A _ E s kk ?_)
  rw [b3]
  simp only [HA,kI,pure_bind,Option.isSome_some,if_true]
  exact wpAny_pure q
end
end
section
theorem uT (K:Frag):findCls K (.type "object") (.type "type") "__new__" = some (.val (.builtin "object.__new__")):=by kernel_rfl
theorem ty_object:typeOf (.type "object")=pure (.type "type"):=by kernel_rfl
theorem yg:Manifest.isStub "object" = false:=by decide +kernel
theorem Yv:handedIn (.builtin "object.__new__")=true:=by decide +kernel
section
variable {prog:Program} {w:World} {A:Around} {R:Result->Shared->Prop} {h:Heap} {g:Array GenState} {d:Drawn} {t:Nat} {os:OsState}
set_option maxHeartbeats 0 in
theorem zbQ (Y:IoAt (model prog w) h) (hq:R (.ok (.ret (.ref (h.objs.size+1)))) ⟨(h.push emptyDict).push (instObj 587 h.objs.size),g,d,t,os⟩) :
  codeAny (model prog w) A (.call (.builtin "object.__new__") ⟨[.ref 587],[]⟩) R ⟨h,g,d,t,os⟩:=by
 obtain ⟨⟨oc,od,cd,sl,hC,e1,e2⟩,mro,made,base,self,top,init,call,typ⟩:=Y
 have F:=PySem.F.objNew
 refine codeAny_call_builtin_code (Code.quiet_builtin _ F.quiet) ?_
 have mo:Looks (model prog w) h (Bind.madeBy (.type "object")) (some "object.__new__"):=Looks.of_pure kI
 have here:Looks (model prog w) h (Bind.madeHere "object.__new__" (.ref 587)) ():=base.andThen (mo.andThen (Looks.of_pure (by simp only [Option.map_some,bne_self_eq_false,Bool.false_eq_true,if_false])))
 have args:Bind.checkArgs "object.__new__" ⟨.hand,"object.__new__","__new__",.cls,[]⟩ ⟨[.ref 587],[]⟩=pure ():=by kernel_rfl
 refine XZ (s:=⟨h,g,d,t,os⟩) F.kind F.split F.row args hC top base mo ?_
 refine codeAny_builtin F.entry ?_
 delta Builtin.«object.__new__»
 have fin:∀ A',wpAny (model prog w) A' (do
   let d ← if typeHasDict (.ref 587) then some <$> alloc { cls:=.type "dict",data:=.dict #[] } else pure none
   ret (← newObj (.ref 587) .plain d)) (fun fin s'=>match fin with | .done f=>R (.ok f) s' | .again c'=>c'.quiet=true/\codeAny (model prog w) A c' R s') (fun e s'=>R (.error e) s') ⟨h,g,d,t,os⟩:=by
  intro A'
  refine (?_:wpAny _ _ ((alloc emptyDict >>= fun x=>pure (some x)) >>= _) _ _ _)
  refine wpAny_bind (wpAny_bind (wpAny_alloc (wpAny_pure (wpAny_bind ?_))))
  refine (?_:wpAny _ _ (newObjAsIs _ _ _) _ _ _)
  refine wpAny_bind (wpAny_alloc (wpAny_bind (wpAny_bind (wpAny_load (Heap.get?_push_of_some _ (Heap.get?_push_of_some _ hC)) (wpAny_pure ?_)))))
  refine sr e2 ?_
  refine wpAny_pure (wpAny_pure ?_)
  refine (?_:R _ _)
  rw [Heap.size_push]
  exact hq
 repeat (first | simp only [e1,Bool.false_eq_true,if_false] | exact fin _ | lk)
end
section
variable {W:Wd} {lv:Nat} {σ σ':Led} {Q:V->Led->Prop}
theorem K9 {Q:V->List V->Led->Prop} (h:Q (.bi "object.__new__") [] σ):qP W lv (.ty "object") "__new__" σ Q:=.sh fun c ρ Φ s im C r=>by
 obtain ⟨_,_,⟨m',os,FF,_⟩,_,_⟩:=id r.ex
 refine method_type (prog:=W.prog) (w:=W.w) (A:=c.A) (s:=s) (K:=W.K) (h₀:=c.F.h₀) (L:=c.F.L) (m:=m') (name:="__new__") (T:="object") (v:=.builtin "object.__new__") FF C.kin ty_object yg (uT W.K) Yv ?_
 exact ⟨.bi "object.__new__",[],σ,.bi "object.__new__",.nil,r.toks _,h⟩
set_option backward.match.sparseCases true in
theorem uU (k:IoOk W.K) (h:∀ x dx,Q (.ref x) ((x,.inst 587 dx)::(dx,.fld [])::σ)):zm W lv (.bi "object.__new__") [.ref 587] σ Q:=zQ fun c ρ Φ s Cx r=>by
 have X:=Cx.kin.keeps (fun b o e=>r.old e)
 have Y:=zaC (M:=W.M) X k
 obtain ⟨hh,gg,d,t,os⟩:=s
 have r1:=R0.newO (t:=t) r (x:=.fld []) (o:=emptyDict) (.fld 0 .nil) rfl
 have r2:=R0.newO (t:=t) r1 (x:=.inst 587 hh.objs.size) (o:=instObj 587 hh.objs.size) (.inst _ _) rfl
 dsimp only at r2
 rw [Heap.size_push] at r2
 refine wpAny_call (zbQ (R:=fun r s'=>match r with | .ok (.ret v)=>Post W c ρ Φ Q v s' | .ok _=>False | .error e=>NoE e s') Y ?_)
 exact ⟨.ref (hh.objs.size+1),_,.ref _,r2,h _ _⟩
theorem Jv {a:Addr} (h:Q (.bool false) σ):Op W lv (.cmp .IsNot) [.ref a,.ref a] σ Q:=.sh fun c ρ Φ s C r=>by
 exact wpAny_isNot_ref_self ⟨_,σ,.bool _,r,h⟩
theorem xW {a b:Addr} (ha:typeIn W.K (.ref a)=some (.type "type")) (hb:typeIn W.K (.ref b)=some (.type "type")) (hne:a≠b) (h:Q (.bool true) σ):Op W lv (.cmp .IsNot) [.ref a,.ref b] σ Q:=.sh fun c ρ Φ s C r=>by
 have X:=C.kin.keeps (fun b o e=>r.old e)
 refine e12 (Option.map_eq_some_iff.mp ha) fun oa ea ca=>?_
 refine e12 (Option.map_eq_some_iff.mp hb) fun ob eb cb=>?_
 exact wpAny_isNot_ref_other hne (X _ _ ea) (X _ _ eb) (by refine sr ca ?_;decide) ⟨_,σ,.bool _,r,h⟩
theorem uV (k:IoOk W.K) {v1 v2:V} {K:AFl->List (Option V)->Led->Prop} (h:∀ x dx,K (.ret (.ref x)) [some (.ref 587),some v1,some v2] ((x,.inst 587 dx)::(dx,.fld [])::σ)):aexs W lv [] ZP [some (.ref 587),some v1,some v2] σ K:=by
 refine za ?_
 refine xW k.typ2 k.b340 (by decide) (Jv ?_)
 refine za (K9 (uU k fun x dx=>h x dx))
inductive gZ (K:Frag) (f:Addr) (ps:List PS):Prop
 | mk (name qual:Str) (scope:Scope) (kV doc pm cdv ct oc:Value) (an od:Option Addr) (osl:Array (Option Value)) (body:List Stmt) (a1 a2 a3:Option PySem.Expr) (p1 p2 p3:Pos) (kd:List (Option PySem.Expr)) (df:List PySem.Expr)
  (ho:K.lookup f=some ⟨oc,od,.func (fnOf name qual ⟨[⟨("cls" : Str),a1,p1⟩],[],some ⟨("args" : Str),a2,p2⟩,[],kd,some ⟨("kwargs" : Str),a3,p3⟩,df⟩ body scope .none kV doc pm an cdv ct),osl⟩) (code:codeIn K cdv qual=true)
  (co:scope.isCoroutine=false) (gen:scope.isGenerator=false) (kind:scope.kind=.function) (loc:∀ x∈[("cls" : Str),"args","kwargs"],scope.names.lookup x=some .local) (cell:∀ x∈scope.names,x.2≠.cell)
  (bd:cSs ⟨scope,[("cls" : Str),"args","kwargs"],[],ZO K⟩ body=ps)
theorem zaD {K:Frag} {f:Addr} {ps:List PS} {name qual:Str} {scope:Scope} {dV kV doc pm cdv ct oc:Value} {an od:Option Addr} {osl:Array (Option Value)} {body:List Stmt} {kd:List (Option PySem.Expr)} {df:List PySem.Expr} {po ar ko:List Arg} {va ka:Option Arg} {globals blt:Addr} {closure:List (Str×Addr)}
  (ho:K.lookup f=some ⟨oc,od,.func ⟨name,qual,⟨po,ar,va,ko,kd,ka,df⟩,.stmts body,scope,globals,closure,dV,kV,doc,pm,an,cdv,ct,blt⟩,osl⟩) (e1:globals=mainGlobals) (e2:blt=builtinsNs) (e5:ko=[]) (e6:ar=[]) (e7:po.map (·.arg)=[("cls" : Str)]) (e8:va.map (·.arg)=some ("args" : Str)) (e9:ka.map (·.arg)=some ("kwargs" : Str))
  (e11:closure=[]) (e17:dV=.none) (code:codeIn K cdv qual=true) (co:scope.isCoroutine=false) (gen:scope.isGenerator=false) (kind:scope.kind=.function) (loc:∀ x∈[("cls" : Str),"args","kwargs"],scope.names.lookup x=some .local) (cell:∀ x∈scope.names,x.2≠.cell)
  (bd:cSs ⟨scope,[("cls" : Str),"args","kwargs"],[],ZO K⟩ body=ps):gZ K f ps:=by
 subst e1 e2 e5 e6 e11 e17
 refine e21 (GZ e7) fun a1 p1 w0=>?_;subst w0
 obtain ⟨⟨_,a2,p2⟩,rfl,rfl⟩:=Option.map_eq_some_iff.mp e8
 obtain ⟨⟨_,a3,p3⟩,rfl,rfl⟩:=Option.map_eq_some_iff.mp e9
 exact .mk name qual scope kV doc pm cdv ct oc an od osl body a1 a2 a3 p1 p2 p3 kd df ho code co gen kind loc cell bd
theorem zaE {K:Frag} {f:Addr} {ps:List PS} (hv:qv K f=some ps):gZ K f ps:=by
 obtain ⟨⟨oc,od,dt,osl⟩,ho,h1⟩:=Option.bind_eq_some_iff.mp hv
 clear hv
 obtain ⟨⟨name,qual,⟨po,ar,va,ko,kd,ka,df⟩,fbody,scope,globals,closure,dV,kV,doc,pm,an,cdv,ct,blt⟩,hd,h2⟩:=Option.bind_eq_some_iff.mp h1
 clear h1
 obtain rfl:=jO hd
 clear hd
 obtain ⟨hc,hbd⟩:=xq h2
 refine zbf hc fun c1 c2 c3 c4 c5 c6 c7 c8 c9 c10 c11 c12 c13 c14 c15 c16 c17=>?_
 clear hc h2
 cases fbody with
 | expr e=>exact nn3 c3
 | stmts body=>
  exact zaD ho (beq_iff_eq.mp c1) (beq_iff_eq.mp c2) (List.isEmpty_iff.mp c5) (List.isEmpty_iff.mp c6) (beq_iff_eq.mp c7) (beq_iff_eq.mp c8) (beq_iff_eq.mp c9) (List.isEmpty_iff.mp c11) (beq_iff_eq.mp c17) c4 (Bool.not_eq_true' _ ▸ c12) (Bool.not_eq_true' _ ▸ c13) (beq_iff_eq.mp c14) (fun x hx=>beq_iff_eq.mp (List.all_eq_true.mp c15 x hx)) (fun x hx=>bne_iff_ne.mp (List.all_eq_true.mp c16 x hx)) hbd
theorem uW {name qual:Str} {scope:Scope} {kV doc pm cdv ct:Value} {an:Option Addr} {body:List Stmt} {a1 a2 a3:Option PySem.Expr} {p1 p2 p3:Pos} {kd:List (Option PySem.Expr)} {df:List PySem.Expr} (u0 u1:Value) :
  bindArgs (fnOf name qual ⟨[⟨("cls" : Str),a1,p1⟩],[],some ⟨("args" : Str),a2,p2⟩,[],kd,some ⟨("kwargs" : Str),a3,p3⟩,df⟩ body scope .none kV doc pm an cdv ct) ⟨[u0,u1],[]⟩ =
   (newTuple [u1] >>= fun t=>alloc { cls:=.type "dict",data:=.dict #[] } >>= fun d=>pure [(("cls" : Str),u0),("args",t),("kwargs",.ref d)]):=by
 kernel_rfl
theorem uX {v1:V} (k:IoOk W.K) (hv:qv W.K 80=some ZP) (hlv:lv<90) (h:∀ x dx t d,Q (.ref x) ((x,.inst 587 dx)::(dx,.fld [])::(d,.sdict [])::(t,.tup [v1])::σ)):Q9 W lv 80 [.ref 587,v1] σ Q:=by
 obtain ⟨name,qual,scope,kV,doc,pm,cdv,ct,oc,an,od,osl,body,a1,a2,a3,p1,p2,p3,kd,df,ho,hcode,hco,hgen,hkind,hloc,hcell,hbd⟩:=zaE hv
 ·refine ⟨⟨_,_,ho,rfl⟩,fun c ρ Φ s vs R C hvs r hR=>?_⟩
  refine e23 hvs.two fun u0 u1 w0 z0 z1=>?_;refine sr w0 ?_
  refine VR.ZQ z0 ?_
  refine xr (ps:=[("cls" : Str),"args","kwargs"]) (rest:=[]) (Q:=Q) (QE:=fun _=>False) (Bq:=fun xs σ₁=>∃ t d,xs=[.ref 587,.ref t,.ref d]/\σ₁=(d,.sdict [])::(t,.tup [v1])::σ) C r hR (fun _ _ _ _ _ h=>h.elim) (oka hlv (by decide)) ho hcode (by decide +kernel) ?_ hloc hco hgen hkind hcell ?_
  ·intro M A E Qb hQ
   rw [uW]
   refine wpAny_bind (wpAny_newTuple (wpAny_bind (wpAny_alloc (wpAny_pure ?_))) (by simp [sizeLine_eq]))
   have r1:=R0.newO (t:=s.toks) r (x:=.tup [v1]) (.tup (vs:=[u1]) 0 (.cons z1 .nil) (by simp)) rfl
   have r2:=R0.newO (t:=s.toks) r1 (x:=.sdict []) (.sdict .nil (qo _)) rfl
   exact hQ _ [.ref 587,.ref _,.ref _] [.ref 587,.ref _,.ref _] _ (.cons (.ref _) (.cons (.ref _) (.cons (.ref _) .nil))) rfl r2 ⟨_,_,rfl,rfl⟩
  ·rintro xs σ₁ ⟨t,d,rfl,rfl⟩ c Φ s C hn he r
   have v:Ve W ⟨scope,[("cls" : Str),"args","kwargs"],[],ZO W.K⟩ c Φ c.env []:=by
    refine ⟨?_,?_,?_,?_,?_,rfl,?_,fun x v hx=>je hx,rfl,fun k x y _ hk=>by simp at hk⟩
    ·exact sr he rfl
    ·refine sr he ?_;exact hkind
    ·exact sr he rfl
    ·exact sr he rfl
    ·exact sr he rfl
    ·refine sr hn ?_;rfl
   have hb:aexs W (lv+1) [] (cSs ⟨scope,[("cls" : Str),"args","kwargs"],[],ZO W.K⟩ body) [some (.ref 587),some (.ref t),some (.ref d)] ((d,.sdict [])::(t,.tup [v1])::σ) fun fl _ σ'=>∃ σ'',Sub σ'' σ'/\match fl with
     | .next=>Q .none σ''
     | .ret v=>Q v σ''
     | _=>False:=by
    refine sr (show cSs ⟨scope,[("cls" : Str),"args","kwargs"],[],ZO W.K⟩ body=ZP from hbd) ?_
    exact uV k fun x dx=>⟨_,Sub.refl _,h x dx t d⟩
   refine wpAny_mono (qh body W (lv+1) c _ _ _ Φ c.env [] s _ C v hb r) ?_ (fun _ _ x=>x.elim)
   rintro fl s' ⟨a,ρ',σ',hfl,r',σ'',hs,hq⟩
   cases hfl with
   | next=>exact ⟨ρ',.none,.none,σ'',rfl,.none,r'.sub hs,hq⟩
   | brk=>exact hq.elim
   | cont=>exact hq.elim
   | ret z=>exact ⟨ρ',_,_,σ'',rfl,z,r'.sub hs,hq⟩
end
end
section
section
variable {W:Wd} {lv:Nat} {σ σ':Led} {Q:V->Led->Prop}
theorem HB {v1:V} (k:IoOk W.K) (hv:qv W.K 80=some ZP) (hlv:lv<80)
  (h:∀ x dx t d,Q9 W (lv+1) 357 [.ref x,v1] ((x,.inst 587 dx)::(dx,.fld [])::(d,.sdict [])::(t,.tup [v1])::σ) fun v σ'=>v=.none/\Q (.ref x) σ'):zm W lv (.ref 587) [v1] σ Q:=by
 refine ⟨fun c ρ Φ s fv Cx hf r=>?_,fun c ρ Φ s fv us Cx hf v r=>?_⟩
 ·refine VR.ZQ hf ?_
  exact keeps_K (M:=W.M) k.keep s.heap (Cx.kin.keeps fun b o e=>r.old e)
 ·refine VR.ZQ hf ?_
  have X:=Cx.kin.keeps (fun b o e=>r.old e)
  have Y:=zaC (M:=W.M) X k
  obtain ⟨_,_,⟨m,os,FF,_⟩,_,_⟩:=id r.ex
  refine e12 v.one fun u1 w0 z1=>?_;subst w0
  have run:=(uX (σ:=σ) (lv:=lv+1) (Q:=fun v' σ₁=>∃ x dx t d,v'=.ref x/\σ₁=(x,.inst 587 dx)::(dx,.fld [])::(d,.sdict [])::(t,.tup [v1])::σ) k hv (okb hlv (by decide)) fun x dx t d=>⟨x,dx,t,d,rfl,rfl⟩).run
   { c with A:=c.A.under (.builtin "type.__call__" ⟨.ref 587::[u1],[]⟩) } ρ Φ { s with toks:=s.toks+1 } (.ref 587::[u1])
  obtain ⟨hh,g,d,t,os⟩:=s
  obtain ⟨⟨oc,od,cd,sl,hC,e1,e2⟩,mro,made,base,self,top,init,call,typ⟩:=Y
  refine wpAny_call (codeAny_of_tree ?_)
  refine (?_:wpAny _ _ (callAny (.ref 587) _) _ _ _)
  refine nd_load hC ?_
  refine (?_:wpAny _ _ (callAny.viaDunder (.ref 587) _) _ _ _)
  refine wpAny_bind (call.at ?_)
  dsimp only
  rw [tc_bind]
  refine wpAny_bind (wpAny_pure (wpAny_bind (wpAny_pure ?_)))
  refine wpAny_pure (a:=Fin.again (.call (.builtin "type.__call__") ⟨.ref 587::[u1],[]⟩)) (And.intro rfl ?_)
  refine codeAny_call_builtin_at (Code.quiet_builtin _ (by decide +kernel)) entry_typeCall (check_slot tc_kind tc_split typ (tc_args _ _ _) ?_)
  unfold Builtin.«type.__call__»
  repeat (first | with_reducible refine cls_sm (K:=W.K) FF Cx.kin k.typ2 k.reads k.new k.sm rfl ?_ | with_reducible refine wpAny_call (run _ (Cx.under rfl (tc_w _ _ _) (tc_u _ _ _)) (.cons (.ref 587) v) (r.toks _) ?_) | (with_reducible refine iteN ?_ ?_;· decide) | (with_reducible refine KL ?_ ?_;· decide) | lk)
  intro v' s' hp
  obtain ⟨x',σ',z,r',x,dx,tt,dd,rfl,rfl⟩:=hp
  refine VR.ZQ z ?_
  have X2:=Cx.kin.keeps (fun b o e=>r'.old e)
  have Y2:=zaC (M:=W.M) X2 k
  obtain ⟨o,gx,zx⟩:=r'.get (.head _)
  obtain rfl:=zx.xt
  have ini:=(h x dx tt dd).run { c with A:=c.A.under (.builtin "type.__call__" ⟨.ref 587::[u1],[]⟩) } ρ Φ s' [.ref x,u1]
  obtain ⟨hh',g',d',t',os'⟩:=s'
  have t1:Looks W.M hh' (typeOf (.ref x)) (.ref 587):=(Looks.ld gx).andThen .now
  obtain ⟨obj2,mro2,made2,base2,self2,top2,init2,call2,typ2⟩:=Y2
  have b2:Looks W.M hh' (bindSpecial (.ref 357) (.ref x)) (.ref 357,[.ref x]):=bind_fn X2 _ (beq_iff_eq.mp k.initFn)
  refine (?_:wpAny _ _ (isInstance (.ref x) (.ref 587) >>= _) _ _ _)
  unfold isInstance callSpecial? specialOf
  repeat (first | with_reducible refine wpAny_call ?_ | (with_reducible refine iteN ?_ ?_;· decide) | (with_reducible refine KL ?_ ?_;· decide) | lk)
  refine codeAny_mono (ini (fun r s'=>match r with | .ok (.ret v)=>v=.none/\∃ σ',R0 W.prog W.w c.F ρ σ' Φ s'/\Q (.ref x) σ' | .ok _=>False | .error e=>NoE e s') (Cx.under rfl (tc_w _ _ _) (tc_u _ _ _)) (.cons (.ref x) v) r' ?_) fun q s' z=>?_
  ·rintro v s' ⟨x',σ',z,r',rfl,hq⟩
   refine VR.QY z ?_
   exact ⟨rfl,σ',r',hq⟩
  ·rcases q with e | (v | _ | _ | _) <;> first | exact z | exact z.elim | skip
   obtain ⟨rfl,σ',r',hq⟩:=z
   exact wpAny_pure (wpAny_pure ⟨.ref x,σ',.ref x,r',hq⟩)
end
end
section
section
variable {W:Wd} {lv:Nat} {σ σ':Led} {Q:V->Led->Prop}
noncomputable def kJ (ps:List Str) (fd:FuncData) (X Y:Option (Array Value)->Sem (List (Str×Value))) (n:Nat) (slots:List (Str×Value)):Sem (List (Str×Value)):=seqItems? fd.defaults >>= fun r=>
   if (decide (n > ps.length)&&(none:Option Arg).isNone)=true then X r
   else if (!(List.filter (fun n=>(List.lookup n slots).isNone) (List.take (ps.length-((r.getD #[]).toList.drop ((r.getD #[]).toList.length-ps.length)).length) ps)).isEmpty)=true then Y r
   else forIn ((ps.drop (ps.length-((r.getD #[]).toList.drop ((r.getD #[]).toList.length-ps.length)).length)).zip ((r.getD #[]).toList.drop ((r.getD #[]).toList.length-ps.length))) slots ZR >>= fun slots=>
    pure ((ps++[]).filterMap fun n=>(slots.lookup n).map (n,·))
noncomputable abbrev KwSt:=List (Str×Value)×List (Str×Value)
inductive KwB (fd:FuncData) (k:Str) (v:Value) (vals:List Value):Prop
 | mk (ps no:List Str) (A B:Sem (ForInStep KwSt)) (L1:ForInStep KwSt->Sem KwSt) (L2:KwSt->Sem (List (Str×Value))) (X Y:List (Str×Value)->Option (Array Value)->Sem (List (Str×Value)))
   (hp:fd.params.posonlyargs.map (·.arg)++fd.params.args.map (·.arg)=ps) (hn:fd.params.args.map (·.arg)=no)
   (hB:bindArgs fd ⟨vals,[(k,v)]⟩=((if (no.contains k || List.contains [] k)=true then (if ((ps.zip vals).lookup k).isSome=true then A else pure (.yield (ps.zip vals++[(k,v)],[]))) else B) >>= L1) >>= L2)
   (h1:∀ b,L1 (.yield b)=pure b) (h2:∀ slots,L2 (slots,[])=kJ ps fd (X slots) (Y slots) vals.length slots)
theorem zaF {fd:FuncData} (hk:fd.params.kwonlyargs=[]) (hv:fd.params.vararg=none) (hkw:fd.params.kwarg=none) (k:Str) (v:Value) (vals:List Value):KwB fd k v vals:=by
 obtain ⟨name,qual,⟨po,ar,va,ko,kd,ka,df⟩,fbody,scope,globals,closure,dV,kV,doc,pm,an,cdv,ct,blt⟩:=fd
 dsimp only at hk hv hkw
 subst hk hv hkw
 exact ⟨_,_,_,_,_,_,_,_,rfl,rfl,rfl,fun _=>rfl,fun _=>rfl⟩
theorem vb (u0 u1 u3 d0 d1 d2 d3:Value) (X Y:Sem (List (Str×Value))):(if (decide (2 > zh.ps.length)&&(none:Option Arg).isNone)=true then X
   else if (!(List.filter (fun n=>(List.lookup n [(("self" : Str),u0),("instream",u1),("posix",u3)]).isNone) (List.take (zh.ps.length-([d0,d1,d2,d3].drop ([d0,d1,d2,d3].length-zh.ps.length)).length) zh.ps)).isEmpty)=true then Y
   else forIn ((zh.ps.drop (zh.ps.length-([d0,d1,d2,d3].drop ([d0,d1,d2,d3].length-zh.ps.length)).length)).zip ([d0,d1,d2,d3].drop ([d0,d1,d2,d3].length-zh.ps.length))) [(("self" : Str),u0),("instream",u1),("posix",u3)] ZR >>= fun slots=>
    pure ((zh.ps++[]).filterMap fun n=>(slots.lookup n).map (n,·)))=pure [(("self" : Str),u0),("instream",u1),("infile",d1),("posix",u3),("punctuation_chars",d3)]:=by
 kernel_rfl
theorem yh {v0 v1 v3:V} (P:PrOk W.K) (h0:YJ W.K 646=true) (hlv:lv<90)
  (h:aexs W (lv+1) [] zh.body [some v0,some v1,some .none,some v3,some (.bool false),none] σ fun fl _ σ'=>∃ σ'',Sub σ'' σ'/\match fl with
   | .next=>Q .none σ''
   | .ret v=>Q v σ''
   | _=>False):VY W lv 646 [v0,v1] ["posix"] [v3] σ Q:=by
 obtain ⟨name,qual,params,body,scope,dV,kV,doc,pm,cdv,ct,oc,an,od,osl,ds,k⟩:=y2 P.h_shlex_init
 refine ⟨fun c ρ Φ s vs ks R C hvs hks r hR=>?_⟩
 refine e23 hvs.two fun u0 u1 w0 z0 z1=>?_;refine sr w0 ?_
 refine e12 hks.one fun u3 w0 z3=>?_;refine sr w0 ?_
 have hpos:params.posonlyargs=[]:=by
  unfold YJ at h0
  rw [k.ho] at h0
  simpa using h0
 have hps:=k.ps
 rw [hpos,List.map_nil,List.nil_append] at hps
 have hdv:=k.hvs
 have hb:=k.body (lv:=lv) (xs:=[v0,v1,.none,v3,.bool false]) (Q:=Q) (σ:=σ) h
 have X:=C.kin.keeps (fun b o e=>r.old e)
 have hd:=fun (M:Model) (A:Around) (E:Value->Shared->Prop) (Q:Option (Array Value)->Shared->Prop) (q:∀ r,(r.getD #[]).toList=ds->Q r s)=>y1 k.dflt s X M A E Q q
 have hds:ds=[.none,.none,.bool false,.bool false]:=Shs.run (xs:=[.none,.none,.bool false,.bool false]) (P:=fun ds=>ds=[.none,.none,.bool false,.bool false]) rfl hdv
 refine xr (ps:=zh.ps) (rest:=zh.rest) (Q:=Q) (QE:=fun _=>False) (Bq:=fun xs σ₁=>xs=[v0,v1,.none,v3,.bool false]/\σ₁=σ) C r hR (fun _ _ _ _ _ h=>h.elim) (oka hlv (by decide)) k.ho k.code k.nd ?_ k.loc k.co k.gen k.kind k.cell ?_
 ·intro M A E Qb hQ
  obtain ⟨ps,no,A',B,L1,L2,X,Y,hp,hn,hB,h1,h2⟩:=zaF (fd:=fnOf name qual params body scope dV kV doc pm an cdv ct) k.kwo k.vararg k.kwarg ("posix" : Str) u3 [u0,u1]
  have hps':params.args.map (·.arg)=[("self" : Str),"instream","infile","posix","punctuation_chars"]:=hps
  obtain rfl:[("self" : Str),"instream","infile","posix","punctuation_chars"]=no:=hps'.symm.trans hn
  obtain rfl:zh.ps=ps:=k.ps.symm.trans hp
  have hB2:bindArgs (fnOf name qual params body scope dV kV doc pm an cdv ct) ⟨[u0,u1],[(("posix" : Str),u3)]⟩=kJ zh.ps (fnOf name qual params body scope dV kV doc pm an cdv ct) (X _) (Y _) 2 [(("self" : Str),u0),("instream",u1),("posix",u3)]:=
   hB.trans (by rw [if_pos (by decide +kernel),if_neg (by simp [zh,List.lookup,show (("posix" : Str) == "self")=false by decide +kernel,show (("posix" : Str) == "instream")=false by decide +kernel]),pure_bind,h1,pure_bind];exact h2 _)
  show wpAny M A (bindArgs _ ⟨[u0,u1],[(("posix" : Str),u3)]⟩) Qb E s
  refine sr hB2 ?_
  refine wpAny_bind (hd _ _ _ _ fun r' hr=>?_)
  refine sr (hr.trans hds) ?_
  refine wpAny_of_eq (vb u0 u1 u3 .none .none (.bool false) (.bool false) _ _) ?_
  exact hQ s _ [u0,u1,.none,u3,.bool false] _ (.cons z0 (.cons z1 (.cons .none (.cons z3 (.cons (.bool false) .nil))))) rfl r ⟨rfl,rfl⟩
 ·rintro xs σ₁ ⟨rfl,rfl⟩ c Φ s C hn he r
  exact wpAny_mono (hb c Φ s C hn he r) (fun _ _ z=>z) fun _ _ z=>z.elim
end
end
section
structure SiOk (K:Frag):Prop where
 cl:ClOk K 587 sioK
 translated:MeOk K 587 "_StringIO__translated" 364
 check:MeOk K 587 "_StringIO__check" 371
 read:MeOk K 587 "read" 533
 io:IoOk K
 star:qv K 80=some ZP
section
variable {W:Wd} {lv:Nat} {σ σ':Led} {Q:V->Led->Prop}
theorem yk {l:List Nat} (h:Q (.bool true) σ):zm W lv (.bi "isinstance") [.str l,.ty "str"] σ Q:=zQ fun c ρ Φ s C r=>by
 intro t1 l1
 exact PySem.IsiPair.str_str ⟨_,σ,.bool _,r,h⟩
theorem Qv {l:List Nat} (h:Q (.ty "str") σ):zm W lv (.ty "type") [.str l] σ Q:=z7 fun c ρ Φ s C r=>by
 intro t1 l1
 exact call_type_of (typeIs_str _ _ _) (by decide) ⟨_,σ,.ty _,r,h⟩
theorem xX {i:Int} (h:Q (.ty "int") σ):zm W lv (.ty "type") [.int i] σ Q:=z7 fun c ρ Φ s C r=>by
 intro t1
 exact call_type_of (typeIs_int _ _ _) (by decide) ⟨_,σ,.ty _,r,h⟩
theorem vc {i:Int} (h:Q (.int i) σ):zm W lv (.ty "int") [.int i] σ Q:=z7 fun c ρ Φ s C r=>by
 intro t1
 exact call_int_int ⟨_,σ,.int _ _,r,h⟩
theorem qt {t:String} (h:Q (.bool false) σ):Op W lv (.cmp .IsNot) [.ty t,.ty t] σ Q:=.sh fun c ρ Φ s C r=>by
 exact wpAny_isNot_self rfl ⟨_,σ,.bool _,r,h⟩
theorem ym (h:Q (.bool true) σ):Op W lv (.cmp .Eq) [.none,.none] σ Q:=.sh fun c ρ Φ s C r=>by
 exact SeqAt.RcAt.none_none _ _ _ _ ⟨_,σ,.bool _,r,h⟩
theorem yn {l:List Nat} (h:Q (.bool false) σ):Op W lv (.cmp .Eq) [.str l,.none] σ Q:=.sh fun c ρ Φ s C r=>by
 intro t1 l1
 exact SeqAt.RcAt.str_none _ _ _ _ _ _ ⟨_,σ,.bool _,r,h⟩
noncomputable abbrev sioL (b db:Addr) (w:List Nat) (p:Nat):Led:=[(b,.inst 587 db),(db,.fld (sioK.zip [.str [10],.str w,.int (p:Nat)]))]
theorem xY {b db:Addr} {w:List Nat} {p:Int} {w0:List Nat} (P:PrOk W.K) (S:SiOk W.K) (hlv:lv<80) (mi:(b,O.inst 587 db)∈σ) (md:(db,O.fld (sioK.zip [.str [10],.str w0,.int p]))∈σ) (h:Q (.str w) σ):zm W lv (.ref 364) [.ref b,.str w] σ Q:=by
 refine zA P.h_translated (oka hlv (by decide)) (Nat.le_refl 2) (Nat.le_refl 2) ?_
 refine za (zf (i:=0) S.cl (by decide +kernel) mi md (by decide +kernel) rfl rfl ?_)
 refine za (zI (b:=false) rfl ?_)
 refine za (qS (qS ?_))
 refine za ?_
 exact ⟨_,Sub.refl _,h⟩
theorem HC {b db:Addr} {w:List Nat} {p:Int} (P:PrOk W.K) (S:SiOk W.K) (hlv:lv<80) (mi:(b,O.inst 587 db)∈σ) (md:(db,O.fld (sioK.zip [.str [10],.str w,.int p]))∈σ) (h:Q .none σ):zm W lv (.ref 371) [.ref b] σ Q:=by
 refine zA P.h_check (oka hlv (by decide)) (Nat.le_refl 1) (Nat.le_refl 1) ?_
 refine za (zf (i:=1) S.cl (by decide +kernel) mi md (by decide +kernel) rfl rfl (zI (b:=false) rfl ?_))
 exact ⟨_,Sub.refl _,h⟩
theorem HD {i:Int} {w:List Nat} (P:PrOk W.K) (hlv:lv<80) (h1:-1000<=i) (h2:i<=1000) (h:Q (.int i) σ):zm W lv (.ref 53) [.int i,.str w] σ Q:=by
 refine zA P.h_index (oka hlv (by decide)) (Nat.le_refl 2) (Nat.le_refl 2) ?_
 refine za (xX (qt ?_))
 refine za (vc ?_)
 refine za (cmp_gt ?_)
 refine sr (decide_eq_false (by omega)) ?_
 refine Qg (Vz ?_)
 refine sr (decide_eq_false (by lia)) ?_
 refine za ?_
 exact ⟨_,Sub.refl _,h⟩
theorem Yw {b db:Addr} {w:List Nat} (P:PrOk W.K) (S:SiOk W.K) (hlv:lv<70) (h:Q .none (sioL b db w 0++σ)):Q9 W lv 357 [.ref b,.str w] ((b,.inst 587 db)::(db,.fld [])::σ) Q:=by
 refine ZU P.h_sio_init (oka hlv (by decide)) (show 2<=3 by decide) (show 3<=2+2 by decide) ?_
 refine za (zE (b:=true) rfl (Qv (qt ?_)))
 refine za (zE (b:=true) rfl (jJ (jJ ?_)))
 refine za (zE (b:=true) rfl (Qv (qt ?_)))
 refine za (zg (ks:=[]) (vs:=[]) S.cl (by decide +kernel) (.head _) (.tail _ (.head _)) (by decide +kernel) rfl (by decide) (.there _ (.here _ _)) ?_)
 refine za (zg S.cl (by decide +kernel) (.head _) (.tail _ (.head _)) (by decide +kernel) rfl (by decide) (.there _ (.here _ _)) ?_)
 refine za (zg S.cl (by decide +kernel) (.head _) (.tail _ (.head _)) (by decide +kernel) rfl (by decide) (.there _ (.here _ _)) ?_)
 refine za (zE (b:=true) rfl ?_)
 refine za (zN (ks:=sioK) (vs:=[.str [10],.str [],.int 0]) S.translated (.head _) (.tail _ (.head _)) (by decide +kernel) (xY P S (okb hlv (by decide)) (.head _) (.tail _ (.head _)) ?_))
 refine zR (i:=1) S.cl (by decide +kernel) (.head _) (.tail _ (.head _)) (by decide +kernel) (by simp) (by decide) (.there _ (.here _ _)) ?_
 exact ⟨_,Sub.refl _,h⟩
theorem zaG {b db:Addr} {w:List Nat} {p:Nat} (P:PrOk W.K) (S:SiOk W.K) (hlv:lv<70) (hw:w.length<16777216) (hp:p<=w.length) (mi:(b,O.inst 587 db)∈σ) (md:(db,O.fld (sioK.zip [.str [10],.str w,.int (p:Nat)]))∈σ)
  (h0:w[p]?=none->Q (.str []) σ) (h1:∀ k,w[p]?=some k->∃ σ',Put db (.fld (sioK.zip [.str [10],.str w,.int ((p+1:Nat):Int)])) σ σ'/\(b,O.inst 587 db)∈σ'/\Q (.str [k]) σ'):zm W lv (.ref 533) [.ref b,.int 1] σ Q:=by
 refine zA P.h_read (oka hlv (by decide)) (show 2<=2 by decide) (show 2<=2+1 by decide) ?_
 refine za (zI (b:=false) rfl ?_)
 refine za (HD P (okb hlv (by decide)) (by decide) (by decide) ?_)
 refine za (zN S.check mi md (by decide +kernel) (HC P S (okb hlv (by decide)) mi md ?_))
 refine za (zf (i:=2) S.cl (by decide +kernel) mi md (by decide +kernel) rfl rfl ?_)
 refine za (zf (i:=1) S.cl (by decide +kernel) mi md (by decide +kernel) rfl rfl (XO ?_))
 refine za (Qh ?_)
 cases e:w[p]? with
 | none=>
  rw [List.getElem?_eq_none_iff] at e
  refine sr (decide_eq_true (okk e)) ?_
  refine za ?_
  exact ⟨_,Sub.refl _,h0 (by rw [List.getElem?_eq_none_iff];exact e)⟩
 | some k=>
  have hlt:=(List.getElem?_eq_some_iff.mp e).1
  refine sr (decide_eq_false (by exact okn (Nat.not_le_of_lt hlt))) ?_
  refine e13 (h1 k e) fun σ' Pu mi' hq=>?_
  have part:zM w (some p) (some (p+1))=[k]:=by
   unfold zM;dsimp only
   rw [show p+1-p=1 by lia,List.drop_eq_getElem_cons hlt,(List.getElem?_eq_some_iff.mp e).2];rfl
  have fin:∀ stop:Int,stop=((p+1:Nat):Int)->aexs W (lv+1) [] [
    .assign [(.attr (.loc 0) "_StringIO__pos")] (.loc 3),
    .ret (.slice (.bin .Add (.slice (.attr (.loc 0) "_StringIO__buf") (some (.loc 2)) (some (.loc 3)) none) (.const (.str [32]))) none (some (.neg (.const (.int 1)))) none)]
    [some (.ref b),some (.int 1),some (.int (p:Nat)),some (.int stop)] σ fun fl _ σ'=>∃ σ'',Sub σ'' σ'/\match fl with
    | .next=>Q .none σ''
    | .ret v=>Q v σ''
    | _=>False:=by
   rintro stop rfl
   refine za (zR (i:=2) S.cl (by decide +kernel) mi md (by decide +kernel) (by simp) (by decide) Pu ?_)
   refine za (zf (i:=1) (vs:=[.str [10],.str w,.int ((p+1:Nat):Int)]) S.cl (by decide +kernel) mi' Pu.self (by decide +kernel) rfl rfl ?_)
   refine ql (some p) (some (p+1)) rfl rfl ?_
   refine sr part ?_
   refine Zw (by simp) (Qg (Kx (by simp) ?_))
   exact ⟨_,Sub.refl _,hq⟩
  refine za (Qh ?_)
  refine sr (decide_eq_true (by decide)) ?_
  refine Zl (Vz ?_)
  by_cases hs:(p:Int)+1<(w.length:Int)
  ·refine sr (decide_eq_true hs) ?_
   refine za (Zl ?_)
   exact fin _ (okl rfl)
  ·refine sr (decide_eq_false hs) ?_
   exact fin _ (by omega)
end
end
section
structure ShOk (K:Frag):Prop where
 cl:ClOk K 722 shK
 make:MkOk K 722 646
 get_token:MeOk K 722 "get_token" 683
 read_token:MeOk K 722 "read_token" 690
 punct:∃ rest,V0 K 722 "punctuation_chars" 654 653 rest
 vpunct:zt K 653=some vH
 pos0:YJ K 646=true
 iter:findIn K (.ref 722) "__iter__" = some (some (.ref 712))
 iterFn:isFn K (.ref 712)=true
 next:findIn K (.ref 722) "__next__" = some (some (.ref 719))
 nextFn:isFn K (.ref 719)=true
 len:findIn K (.ref 722) "__len__" = some none
 hint:findIn K (.ref 722) "__length_hint__" = some none
noncomputable abbrev wcA:List Nat:=[97,98,99,100,102,101,103,104,105,106,107,108,109,110,111,112,113,114,115,116,117,118,119,120,121,122,65,66,67,68,69,70,71,72,73,74,75,76,77,78,79,80,81,82,83,84,85,86,87,88,89,90,48,49,50,51,52,53,54,55,56,57,95]
noncomputable abbrev wcB:List Nat:=[223,224,225,226,227,228,229,230,231,232,233,234,235,236,237,238,239,240,241,242,243,244,245,246,248,249,250,251,252,253,254,255,192,193,194,195,196,197,198,199,200,201,202,203,204,205,206,207,208,209,210,211,212,213,214,216,217,218,219,220,221,222]
noncomputable abbrev shV (b p f:Addr) (cm:List Nat) (ws:Bool) (st:V) (ln:Int) (tok:List Nat):List V:=[.ref b,.none,.bool true,.none,.str cm,.str (wcA++wcB),.str [32,9,13,10],.bool ws,.str [39,34],.str [92],.str [34],st,.ref p,.int ln,.int 0,.str tok,.ref f,.none,.str []]
noncomputable abbrev shL (x dx b db p f:Addr) (w:List Nat) (q:Nat) (cm:List Nat) (ws:Bool) (st:V) (ln:Int) (tok:List Nat) (σ:Led):Led:=
 (x,.inst 722 dx)::(dx,.fld (shK.zip (shV b p f cm ws st ln tok)))::(b,.inst 587 db)::(db,.fld (sioK.zip [.str [10],.str w,.int (q:Nat)]))::(p,.deq)::(f,.deq)::σ
section
variable {W:Wd} {lv:Nat} {σ σ':Led} {Q:V->Led->Prop}
set_option maxHeartbeats 1000000 in
theorem xZ {x dx:Addr} {w:List Nat} (P:PrOk W.K) (I:SiOk W.K) (S:ShOk W.K) (hlv:lv<60) (h:∀ b db p f,Q .none (shL x dx b db p f w 0 [35] false (.str [32]) 1 [] σ)) :
  VY W lv 646 [.ref x,.str w] ["posix"] [.bool true] ((x,.inst 722 dx)::(dx,.fld [])::σ) Q:=by
 refine yh P S.pos0 (oka hlv (by decide)) ?_
 refine za (yk ?_)
 refine za (HB I.io I.star (okb hlv (by decide)) fun b db t d=>Yw P I (okg (okb hlv (by decide))) ⟨rfl,?_⟩)
 refine ze (σ':=(x,.inst 722 dx)::(dx,.fld [])::(sioL b db w 0++σ)) (.a4 (.a4 (.keep (.keep (Sub.refl _).skip.skip)))) (zE (b:=true) rfl ?_)
 refine za (zg (ks:=[]) (vs:=[]) S.cl (by decide +kernel) (.head _) (.tail _ (.head _)) (by decide +kernel) rfl (by decide +kernel) (.there _ (.here _ _)) ?_)
 refine ze (σ':=(x,.inst 722 dx)::(dx,.fld (List.zip [("instream" : Str)] [V.ref b]))::(sioL b db w 0++σ)) (Sub.refl _) (zg (ks:=_) (vs:=_) S.cl (by decide +kernel) (.head _) (.tail _ (.head _)) (by decide +kernel) rfl (by decide +kernel) (.there _ (.here _ _)) ?_)
 refine ze (σ':=(x,.inst 722 dx)::(dx,.fld (List.zip [("instream" : Str),"infile"] [V.ref b,.none]))::(sioL b db w 0++σ)) (Sub.refl _) (zg (ks:=_) (vs:=_) S.cl (by decide +kernel) (.head _) (.tail _ (.head _)) (by decide +kernel) rfl (by decide +kernel) (.there _ (.here _ _)) ?_)
 refine ze (σ':=(x,.inst 722 dx)::(dx,.fld (List.zip [("instream" : Str),"infile","posix"] [V.ref b,.none,.bool true]))::(sioL b db w 0++σ)) (Sub.refl _) ?_
 refine za (zg (ks:=_) (vs:=_) S.cl (by decide +kernel) (.head _) (.tail _ (.head _)) (by decide +kernel) rfl (by decide +kernel) (.there _ (.here _ _)) ?_)
 refine ze (σ':=(x,.inst 722 dx)::(dx,.fld (List.zip [("instream" : Str),"infile","posix","eof"] [V.ref b,.none,.bool true,.none]))::(sioL b db w 0++σ)) (Sub.refl _) (zg (ks:=_) (vs:=_) S.cl (by decide +kernel) (.head _) (.tail _ (.head _)) (by decide +kernel) rfl (by decide +kernel) (.there _ (.here _ _)) ?_)
 refine ze (σ':=(x,.inst 722 dx)::(dx,.fld (List.zip [("instream" : Str),"infile","posix","eof","commenters"] [V.ref b,.none,.bool true,.none,.str [35]]))::(sioL b db w 0++σ)) (Sub.refl _) (zg (ks:=_) (vs:=_) S.cl (by decide +kernel) (.head _) (.tail _ (.head _)) (by decide +kernel) rfl (by decide +kernel) (.there _ (.here _ _)) ?_)
 refine ze (σ':=(x,.inst 722 dx)::(dx,.fld (List.zip [("instream" : Str),"infile","posix","eof","commenters","wordchars"] [V.ref b,.none,.bool true,.none,.str [35],.str wcA]))::(sioL b db w 0++σ)) (Sub.refl _) (zf (i:=2) S.cl (by decide +kernel) (.head _) (.tail _ (.head _)) (by decide +kernel) rfl rfl ?_)
 refine za (zf (i:=5) S.cl (by decide +kernel) (.head _) (.tail _ (.head _)) (by decide +kernel) rfl rfl (jI (by simp) ?_))
 refine zR (i:=5) S.cl (by decide +kernel) (.head _) (.tail _ (.head _)) (by decide +kernel) (by simp) (by decide +kernel) (.there _ (.here _ _)) ?_
 refine ze (σ':=(x,.inst 722 dx)::(dx,.fld (List.zip [("instream" : Str),"infile","posix","eof","commenters","wordchars"] [V.ref b,.none,.bool true,.none,.str [35],.str (wcA++wcB)]))::(sioL b db w 0++σ)) (Sub.refl _) (zg (ks:=_) (vs:=_) S.cl (by decide +kernel) (.head _) (.tail _ (.head _)) (by decide +kernel) rfl (by decide +kernel) (.there _ (.here _ _)) ?_)
 refine ze (σ':=(x,.inst 722 dx)::(dx,.fld (List.zip [("instream" : Str),"infile","posix","eof","commenters","wordchars","whitespace"] [V.ref b,.none,.bool true,.none,.str [35],.str (wcA++wcB),.str [32,9,13,10]]))::(sioL b db w 0++σ)) (Sub.refl _) (zg (ks:=_) (vs:=_) S.cl (by decide +kernel) (.head _) (.tail _ (.head _)) (by decide +kernel) rfl (by decide +kernel) (.there _ (.here _ _)) ?_)
 refine ze (σ':=(x,.inst 722 dx)::(dx,.fld (List.zip [("instream" : Str),"infile","posix","eof","commenters","wordchars","whitespace","whitespace_split"] [V.ref b,.none,.bool true,.none,.str [35],.str (wcA++wcB),.str [32,9,13,10],.bool false]))::(sioL b db w 0++σ)) (Sub.refl _) (zg (ks:=_) (vs:=_) S.cl (by decide +kernel) (.head _) (.tail _ (.head _)) (by decide +kernel) rfl (by decide +kernel) (.there _ (.here _ _)) ?_)
 refine ze (σ':=(x,.inst 722 dx)::(dx,.fld (List.zip [("instream" : Str),"infile","posix","eof","commenters","wordchars","whitespace","whitespace_split","quotes"] [V.ref b,.none,.bool true,.none,.str [35],.str (wcA++wcB),.str [32,9,13,10],.bool false,.str [39,34]]))::(sioL b db w 0++σ)) (Sub.refl _) (zg (ks:=_) (vs:=_) S.cl (by decide +kernel) (.head _) (.tail _ (.head _)) (by decide +kernel) rfl (by decide +kernel) (.there _ (.here _ _)) ?_)
 refine ze (σ':=(x,.inst 722 dx)::(dx,.fld (List.zip [("instream" : Str),"infile","posix","eof","commenters","wordchars","whitespace","whitespace_split","quotes","escape"] [V.ref b,.none,.bool true,.none,.str [35],.str (wcA++wcB),.str [32,9,13,10],.bool false,.str [39,34],.str [92]]))::(sioL b db w 0++σ)) (Sub.refl _) (zg (ks:=_) (vs:=_) S.cl (by decide +kernel) (.head _) (.tail _ (.head _)) (by decide +kernel) rfl (by decide +kernel) (.there _ (.here _ _)) ?_)
 refine ze (σ':=(x,.inst 722 dx)::(dx,.fld (List.zip [("instream" : Str),"infile","posix","eof","commenters","wordchars","whitespace","whitespace_split","quotes","escape","escapedquotes"] [V.ref b,.none,.bool true,.none,.str [35],.str (wcA++wcB),.str [32,9,13,10],.bool false,.str [39,34],.str [92],.str [34]]))::(sioL b db w 0++σ)) (Sub.refl _) (zg (ks:=_) (vs:=_) S.cl (by decide +kernel) (.head _) (.tail _ (.head _)) (by decide +kernel) rfl (by decide +kernel) (.there _ (.here _ _)) ?_)
 refine ze (σ':=(x,.inst 722 dx)::(dx,.fld (List.zip [("instream" : Str),"infile","posix","eof","commenters","wordchars","whitespace","whitespace_split","quotes","escape","escapedquotes","state"] [V.ref b,.none,.bool true,.none,.str [35],.str (wcA++wcB),.str [32,9,13,10],.bool false,.str [39,34],.str [92],.str [34],.str [32]]))::(sioL b db w 0++σ)) (Sub.refl _) (uM fun p=>?_)
 refine zg (ks:=_) (vs:=_) S.cl (by decide +kernel) (.tail _ (.head _)) (.tail _ (.tail _ (.head _))) (by decide +kernel) rfl (by decide +kernel) (.there _ (.there _ (.here _ _))) ?_
 refine ze (σ':=(p,.deq)::(x,.inst 722 dx)::(dx,.fld (List.zip [("instream" : Str),"infile","posix","eof","commenters","wordchars","whitespace","whitespace_split","quotes","escape","escapedquotes","state","pushback"] [V.ref b,.none,.bool true,.none,.str [35],.str (wcA++wcB),.str [32,9,13,10],.bool false,.str [39,34],.str [92],.str [34],.str [32],.ref p]))::(sioL b db w 0++σ)) (Sub.refl _) (zg (ks:=_) (vs:=_) S.cl (by decide +kernel) (.tail _ (.head _)) (.tail _ (.tail _ (.head _))) (by decide +kernel) rfl (by decide +kernel) (.there _ (.there _ (.here _ _))) ?_)
 refine ze (σ':=(p,.deq)::(x,.inst 722 dx)::(dx,.fld (List.zip [("instream" : Str),"infile","posix","eof","commenters","wordchars","whitespace","whitespace_split","quotes","escape","escapedquotes","state","pushback","lineno"] [V.ref b,.none,.bool true,.none,.str [35],.str (wcA++wcB),.str [32,9,13,10],.bool false,.str [39,34],.str [92],.str [34],.str [32],.ref p,.int 1]))::(sioL b db w 0++σ)) (Sub.refl _) (zg (ks:=_) (vs:=_) S.cl (by decide +kernel) (.tail _ (.head _)) (.tail _ (.tail _ (.head _))) (by decide +kernel) rfl (by decide +kernel) (.there _ (.there _ (.here _ _))) ?_)
 refine ze (σ':=(p,.deq)::(x,.inst 722 dx)::(dx,.fld (List.zip [("instream" : Str),"infile","posix","eof","commenters","wordchars","whitespace","whitespace_split","quotes","escape","escapedquotes","state","pushback","lineno","debug"] [V.ref b,.none,.bool true,.none,.str [35],.str (wcA++wcB),.str [32,9,13,10],.bool false,.str [39,34],.str [92],.str [34],.str [32],.ref p,.int 1,.int 0]))::(sioL b db w 0++σ)) (Sub.refl _) (zg (ks:=_) (vs:=_) S.cl (by decide +kernel) (.tail _ (.head _)) (.tail _ (.tail _ (.head _))) (by decide +kernel) rfl (by decide +kernel) (.there _ (.there _ (.here _ _))) ?_)
 refine ze (σ':=(p,.deq)::(x,.inst 722 dx)::(dx,.fld (List.zip [("instream" : Str),"infile","posix","eof","commenters","wordchars","whitespace","whitespace_split","quotes","escape","escapedquotes","state","pushback","lineno","debug","token"] [V.ref b,.none,.bool true,.none,.str [35],.str (wcA++wcB),.str [32,9,13,10],.bool false,.str [39,34],.str [92],.str [34],.str [32],.ref p,.int 1,.int 0,.str []]))::(sioL b db w 0++σ)) (Sub.refl _) (uM fun f=>?_)
 refine zg (ks:=_) (vs:=_) S.cl (by decide +kernel) (.tail _ (.tail _ (.head _))) (.tail _ (.tail _ (.tail _ (.head _)))) (by decide +kernel) rfl (by decide +kernel) (.there _ (.there _ (.there _ (.here _ _)))) ?_
 refine ze (σ':=(f,.deq)::(p,.deq)::(x,.inst 722 dx)::(dx,.fld (List.zip [("instream" : Str),"infile","posix","eof","commenters","wordchars","whitespace","whitespace_split","quotes","escape","escapedquotes","state","pushback","lineno","debug","token","filestack"] [V.ref b,.none,.bool true,.none,.str [35],.str (wcA++wcB),.str [32,9,13,10],.bool false,.str [39,34],.str [92],.str [34],.str [32],.ref p,.int 1,.int 0,.str [],.ref f]))::(sioL b db w 0++σ)) (Sub.refl _) (zg (ks:=_) (vs:=_) S.cl (by decide +kernel) (.tail _ (.tail _ (.head _))) (.tail _ (.tail _ (.tail _ (.head _)))) (by decide +kernel) rfl (by decide +kernel) (.there _ (.there _ (.there _ (.here _ _)))) ?_)
 refine ze (σ':=(f,.deq)::(p,.deq)::(x,.inst 722 dx)::(dx,.fld (List.zip [("instream" : Str),"infile","posix","eof","commenters","wordchars","whitespace","whitespace_split","quotes","escape","escapedquotes","state","pushback","lineno","debug","token","filestack","source"] [V.ref b,.none,.bool true,.none,.str [35],.str (wcA++wcB),.str [32,9,13,10],.bool false,.str [39,34],.str [92],.str [34],.str [32],.ref p,.int 1,.int 0,.str [],.ref f,.none]))::(sioL b db w 0++σ)) (Sub.refl _) ?_
 refine za ?_
 refine za (zg (ks:=_) (vs:=_) S.cl (by decide +kernel) (.tail _ (.tail _ (.head _))) (.tail _ (.tail _ (.tail _ (.head _)))) (by decide +kernel) rfl (by decide +kernel) (.there _ (.there _ (.there _ (.here _ _)))) ?_)
 refine za ?_
 exact ⟨_,.a2 (.a2 (.a2 (.a2 (.a1 (.keep (Sub.refl _)))))),h b db p f⟩
end
end
section
noncomputable abbrev RtR:=List Nat×Option Nat×List Nat×Bool
noncomputable abbrev wsL:List Nat:=[32,9,13,10]
noncomputable def rt:List Nat->Bool->Nat->Option Nat->List Nat->Option RtR
 | [],qd,_,none,_=>some ([],none,[],qd)
 | [],qd,_,some k,t=>if k=32\/k=97 then some ([],none,t,qd) else none
 | _::r,qd,_,none,_=>some (r,none,[],qd)
 | c::r,qd,e,some k,t=>
  if k=32 then
   if c∈wsL then (if t≠[]\/qd=true then some (r,some 32,t,qd) else rt r qd e (some 32) t)
   else if c=92 then rt r qd 97 (some 92) t
   else if c∈[39,34] then rt r qd e (some c) t
   else rt r qd e (some 97) [c]
  else if k∈[39,34] then
   if c=k then rt r true e (some 97) t
   else if c=92/\k=34 then rt r true k (some 92) t
   else rt r true e (some k) (t++[c])
  else if k=92 then
   rt r qd e (some e) (if e∈[39,34]/\c≠92/\c≠e then t++[92]++[c] else t++[c])
  else if k=97 then
   if c∈wsL then (if t≠[]\/qd=true then some (r,some 32,t,qd) else rt r qd e (some 32) t)
   else if c∈[39,34] then rt r qd e (some c) t
   else if c=92 then rt r qd 97 (some 92) t
   else rt r qd e (some 97) (t++[c])
  else none
noncomputable def stV:Option Nat->V
 | none=>.none
 | some k=>.str [k]
theorem zbR:∀ c∈wcA++wcB,c≠39/\c≠34:=by decide +kernel
section
variable {W:Wd} {lv:Nat} {σ σ':Led} {Q:V->Led->Prop} {x dx b db p f:Addr} {w:List Nat} {q:Nat} {cm:List Nat} {ws:Bool} {st:V} {ln:Int} {tok:List Nat}
theorem vd (S:ShOk W.K) (h:Q (.ref b) (shL x dx b db p f w q cm ws st ln tok σ)):Op W lv (.attr "instream") [.ref x] (shL x dx b db p f w q cm ws st ln tok σ) Q:=zf (i:=0) S.cl (by decide +kernel) (.head _) (.tail _ (.head _)) (by decide +kernel) rfl rfl h
theorem QS (S:ShOk W.K) (h:Q (.bool true) (shL x dx b db p f w q cm ws st ln tok σ)):Op W lv (.attr "posix") [.ref x] (shL x dx b db p f w q cm ws st ln tok σ) Q:=zf (i:=2) S.cl (by decide +kernel) (.head _) (.tail _ (.head _)) (by decide +kernel) rfl rfl h
theorem uY (S:ShOk W.K) (h:Q (.none) (shL x dx b db p f w q cm ws st ln tok σ)):Op W lv (.attr "eof") [.ref x] (shL x dx b db p f w q cm ws st ln tok σ) Q:=zf (i:=3) S.cl (by decide +kernel) (.head _) (.tail _ (.head _)) (by decide +kernel) rfl rfl h
theorem yo (S:ShOk W.K) (h:Q (.str cm) (shL x dx b db p f w q cm ws st ln tok σ)):Op W lv (.attr "commenters") [.ref x] (shL x dx b db p f w q cm ws st ln tok σ) Q:=zf (i:=4) S.cl (by decide +kernel) (.head _) (.tail _ (.head _)) (by decide +kernel) rfl rfl h
theorem Ja (S:ShOk W.K) (h:Q (.str (wcA++wcB)) (shL x dx b db p f w q cm ws st ln tok σ)):Op W lv (.attr "wordchars") [.ref x] (shL x dx b db p f w q cm ws st ln tok σ) Q:=zf (i:=5) S.cl (by decide +kernel) (.head _) (.tail _ (.head _)) (by decide +kernel) rfl rfl h
theorem yp (S:ShOk W.K) (h:Q (.str wsL) (shL x dx b db p f w q cm ws st ln tok σ)):Op W lv (.attr "whitespace") [.ref x] (shL x dx b db p f w q cm ws st ln tok σ) Q:=zf (i:=6) S.cl (by decide +kernel) (.head _) (.tail _ (.head _)) (by decide +kernel) rfl rfl h
theorem ZD (S:ShOk W.K) (h:Q (.bool ws) (shL x dx b db p f w q cm ws st ln tok σ)):Op W lv (.attr "whitespace_split") [.ref x] (shL x dx b db p f w q cm ws st ln tok σ) Q:=zf (i:=7) S.cl (by decide +kernel) (.head _) (.tail _ (.head _)) (by decide +kernel) rfl rfl h
theorem Qw (S:ShOk W.K) (h:Q (.str [39,34]) (shL x dx b db p f w q cm ws st ln tok σ)):Op W lv (.attr "quotes") [.ref x] (shL x dx b db p f w q cm ws st ln tok σ) Q:=zf (i:=8) S.cl (by decide +kernel) (.head _) (.tail _ (.head _)) (by decide +kernel) rfl rfl h
theorem x8 (S:ShOk W.K) (h:Q (.str [92]) (shL x dx b db p f w q cm ws st ln tok σ)):Op W lv (.attr "escape") [.ref x] (shL x dx b db p f w q cm ws st ln tok σ) Q:=zf (i:=9) S.cl (by decide +kernel) (.head _) (.tail _ (.head _)) (by decide +kernel) rfl rfl h
theorem Jb (S:ShOk W.K) (h:Q (.str [34]) (shL x dx b db p f w q cm ws st ln tok σ)):Op W lv (.attr "escapedquotes") [.ref x] (shL x dx b db p f w q cm ws st ln tok σ) Q:=zf (i:=10) S.cl (by decide +kernel) (.head _) (.tail _ (.head _)) (by decide +kernel) rfl rfl h
theorem Zr (S:ShOk W.K) (hh:st.handed=true) (h:Q (st) (shL x dx b db p f w q cm ws st ln tok σ)):Op W lv (.attr "state") [.ref x] (shL x dx b db p f w q cm ws st ln tok σ) Q:=zf (i:=11) S.cl (by decide +kernel) (.head _) (.tail _ (.head _)) (by decide +kernel) rfl hh h
theorem vf (S:ShOk W.K) (h:Q (.ref p) (shL x dx b db p f w q cm ws st ln tok σ)):Op W lv (.attr "pushback") [.ref x] (shL x dx b db p f w q cm ws st ln tok σ) Q:=zf (i:=12) S.cl (by decide +kernel) (.head _) (.tail _ (.head _)) (by decide +kernel) rfl rfl h
theorem HE (S:ShOk W.K) (h:Q (.int ln) (shL x dx b db p f w q cm ws st ln tok σ)):Op W lv (.attr "lineno") [.ref x] (shL x dx b db p f w q cm ws st ln tok σ) Q:=zf (i:=13) S.cl (by decide +kernel) (.head _) (.tail _ (.head _)) (by decide +kernel) rfl rfl h
theorem QT (S:ShOk W.K) (h:Q (.int 0) (shL x dx b db p f w q cm ws st ln tok σ)):Op W lv (.attr "debug") [.ref x] (shL x dx b db p f w q cm ws st ln tok σ) Q:=zf (i:=14) S.cl (by decide +kernel) (.head _) (.tail _ (.head _)) (by decide +kernel) rfl rfl h
theorem x9 (S:ShOk W.K) (h:Q (.str tok) (shL x dx b db p f w q cm ws st ln tok σ)):Op W lv (.attr "token") [.ref x] (shL x dx b db p f w q cm ws st ln tok σ) Q:=zf (i:=15) S.cl (by decide +kernel) (.head _) (.tail _ (.head _)) (by decide +kernel) rfl rfl h
theorem Yx (S:ShOk W.K) (h:Q (.ref f) (shL x dx b db p f w q cm ws st ln tok σ)):Op W lv (.attr "filestack") [.ref x] (shL x dx b db p f w q cm ws st ln tok σ) Q:=zf (i:=16) S.cl (by decide +kernel) (.head _) (.tail _ (.head _)) (by decide +kernel) rfl rfl h
theorem HF (S:ShOk W.K) (h:Q (.none) (shL x dx b db p f w q cm ws st ln tok σ)):Op W lv (.attr "source") [.ref x] (shL x dx b db p f w q cm ws st ln tok σ) Q:=zf (i:=17) S.cl (by decide +kernel) (.head _) (.tail _ (.head _)) (by decide +kernel) rfl rfl h
theorem qH (S:ShOk W.K) (h:Q (.str []) (shL x dx b db p f w q cm ws st ln tok σ)):Op W lv (.attr "_punctuation_chars") [.ref x] (shL x dx b db p f w q cm ws st ln tok σ) Q:=zf (i:=18) S.cl (by decide +kernel) (.head _) (.tail _ (.head _)) (by decide +kernel) rfl rfl h
theorem Xa {v:V} {Q:Led->Prop} (S:ShOk W.K) (h:Q (shL x dx b db p f w q cm ws v ln tok σ)):UOp W lv (.setattr "state") [.ref x,v] (shL x dx b db p f w q cm ws st ln tok σ) Q:=zR (i:=11) S.cl (by decide +kernel) (.head _) (.tail _ (.head _)) (by decide +kernel) (show 11<19 by decide) (by decide +kernel) (.there _ (.here _ _)) h
theorem Jc {v:List Nat} {Q:Led->Prop} (S:ShOk W.K) (h:Q (shL x dx b db p f w q cm ws st ln v σ)):UOp W lv (.setattr "token") [.ref x,.str v] (shL x dx b db p f w q cm ws st ln tok σ) Q:=zR (i:=15) S.cl (by decide +kernel) (.head _) (.tail _ (.head _)) (by decide +kernel) (show 15<19 by decide) (by decide +kernel) (.there _ (.here _ _)) h
theorem HG {v:Int} {Q:Led->Prop} (S:ShOk W.K) (h:Q (shL x dx b db p f w q cm ws st v tok σ)):UOp W lv (.setattr "lineno") [.ref x,.int v] (shL x dx b db p f w q cm ws st ln tok σ) Q:=zR (i:=13) S.cl (by decide +kernel) (.head _) (.tail _ (.head _)) (by decide +kernel) (show 13<19 by decide) (by decide +kernel) (.there _ (.here _ _)) h
theorem Qx {v:Bool} {Q:Led->Prop} (S:ShOk W.K) (h:Q (shL x dx b db p f w q cm v st ln tok σ)):UOp W lv (.setattr "whitespace_split") [.ref x,.bool v] (shL x dx b db p f w q cm ws st ln tok σ) Q:=zR (i:=7) S.cl (by decide +kernel) (.head _) (.tail _ (.head _)) (by decide +kernel) (show 7<19 by decide) (by decide +kernel) (.there _ (.here _ _)) h
theorem yq {v:List Nat} {Q:Led->Prop} (S:ShOk W.K) (h:Q (shL x dx b db p f w q v ws st ln tok σ)):UOp W lv (.setattr "commenters") [.ref x,.str v] (shL x dx b db p f w q cm ws st ln tok σ) Q:=zR (i:=4) S.cl (by decide +kernel) (.head _) (.tail _ (.head _)) (by decide +kernel) (show 4<19 by decide) (by decide +kernel) (.there _ (.here _ _)) h
theorem Yy (S:ShOk W.K) (hlv:lv<90) (h:Q (.str []) (shL x dx b db p f w q cm ws st ln tok σ)):Op W lv (.attr "punctuation_chars") [.ref x] (shL x dx b db p f w q cm ws st ln tok σ) Q:=by
 refine e11 S.punct fun rest k=>?_
 refine V1 k (.head _) (.tail _ (.head _)) (ZU S.vpunct (okb hlv (by decide)) (Nat.le_refl 1) (Nat.le_refl 1) ?_)
 refine za (qH S ?_)
 exact ⟨_,Sub.refl _,rfl,h⟩
theorem tst {qd:Bool} {r2 r3 r4:Option V} {T:Bool->Led->Prop} (S:ShOk W.K) (h:T (decide (tok≠[]\/qd=true)) (shL x dx b db p f w q cm ws st ln tok σ)) :
  ait W lv [] [some (.ref x),some (.bool qd),r2,r3,r4] (.bop .Or [(.attr (.loc 0) "token"),(.bop .And [(.attr (.loc 0) "posix"),(.loc 1)])]) (shL x dx b db p f w q cm ws st ln tok σ) T:=by
 refine x9 S ?_
 cases tok with
 | cons a t=>
  have h2:T true (shL x dx b db p f w q cm ws st ln (a::t) σ):=by simpa using h
  exact h2
 | nil=>
  refine QS S ?_
  have h2:T qd (shL x dx b db p f w q cm ws st ln [] σ):=by simpa using h
  cases qd <;> exact h2
theorem zbS {B:PS} {v1 v2 r3:Option V} {R:AFl->List (Option V)->Led->Prop} (P:PrOk W.K) (I:SiOk W.K) (S:ShOk W.K) (hlv:lv<60) (hw:w.length<16777216) (hq:q<=w.length)
  (h0:w[q]?=none->aexs W lv [] [B] [some (.ref x),v1,v2,some (.str []),none] (shL x dx b db p f w q [] ws st ln tok σ) R)
  (h1:∀ c ln',w[q]?=some c->aexs W lv [] [B] [some (.ref x),v1,v2,some (.str [c]),none] (shL x dx b db p f w (q+1) [] ws st ln' tok σ) R) :
  aexs W lv [] [
   .ite (.bop .And [(.attr (.loc 0) "punctuation_chars"),(.attr (.loc 0) "_pushback_chars")]) [
    .assign [(.loc 3)] (.meth (.attr (.loc 0) "_pushback_chars") "pop" [])] [
    .assign [(.loc 3)] (.meth (.attr (.loc 0) "instream") "read" [(.const (.int 1))])],
   .ite (.cmp .Eq (.loc 3) (.const (.str [10]))) [
    .augA (.loc 0) "lineno" .Add (.const (.int 1))] [],
   .ite (.cmp .GtE (.attr (.loc 0) "debug") (.const (.int 3))) [
    .expr (.call (.const (.bi "print")) [.bad])] [],B]
   [some (.ref x),v1,v2,r3,none] (shL x dx b db p f w q [] ws st ln tok σ) R:=by
 refine za (Yy S (oka hlv (by decide)) ?_)
 refine za (vd S (zN I.read (.tail _ (.tail _ (.head _))) (.tail _ (.tail _ (.tail _ (.head _)))) (by decide +kernel) (zaG P I (oka hlv (by decide)) hw hq (.tail _ (.tail _ (.head _))) (.tail _ (.tail _ (.tail _ (.head _)))) (fun hn=>?_) (fun c hc=>⟨_,.there _ (.there _ (.there _ (.here _ _))),.tail _ (.tail _ (.head _)),?_⟩))))
 ·refine za (qS ?_)
  refine za (QT S (Qh ?_))
  refine sr (decide_eq_false (by decide)) ?_
  exact h0 hn
 ·refine za (qS ?_)
  by_cases e:[c]=[10]
  ·refine sr (decide_eq_true e) ?_
   refine za (HE (q:=q+1) S (ZS (HG S ?_)))
   refine za (QT S (Qh ?_))
   refine sr (decide_eq_false (by decide)) ?_
   exact h1 c _ hc
  ·refine sr (decide_eq_false e) ?_
   refine za (QT (q:=q+1) S (Qh ?_))
   refine sr (decide_eq_false (by decide)) ?_
   exact h1 c _ hc
end
end
section
noncomputable def zbT:List PS:=match zS.body with
 | [_,_,.whil _ bd,_,_,_,_,_]=>bd
 | _=>[]
noncomputable def zaH:PS:=match zbT with
 | [_,_,_,b]=>b
 | _=>.bad
noncomputable def brn:PS->Nat->List PS
 | .ite _ a _,0=>a
 | .ite _ _ b,1=>b
 | _,_=>[]
noncomputable def brs:List PS->List Nat->List PS
 | ps,[]=>ps
 | [p],i::r=>brs (brn p i) r
 | _,_=>[]
noncomputable def rtAt (l:List Nat):List PS:=brs [zaH] l
structure ShP where
 x:Addr
 dx:Addr
 b:Addr
 db:Addr
 p:Addr
 f:Addr
 w:List Nat
 q:Nat
 ln:Int
noncomputable def shP (Y:ShP) (st:Option Nat) (tok:List Nat) (σ:Led):Led:=shL Y.x Y.dx Y.b Y.db Y.p Y.f Y.w Y.q [] true (stV st) Y.ln tok σ
noncomputable def rho (Y:ShP) (qd:Bool) (e:Nat) (nc:List Nat):List (Option V):=[some (.ref Y.x),some (.bool qd),some (.str [e]),some (.str nc),none]
section
variable {r:List Nat} {qd:Bool} {e c k:Nat} {t:List Nat}
theorem zbU (h:c∈wsL):rt (c::r) qd e (some 32) t=if t≠[]\/qd=true then some (r,some 32,t,qd) else rt r qd e (some 32) t:=if_pos h
theorem zbV:rt (92::r) qd e (some 32) t=rt r qd 97 (some 92) t:=rfl
theorem zbW (h:c∈[39,34]) (h1:c∉wsL) (h2:c≠92):rt (c::r) qd e (some 32) t=rt r qd e (some c) t:=(if_neg h1).trans ((if_neg h2).trans (if_pos h))
theorem g7 (h:c∉[39,34]) (h1:c∉wsL) (h2:c≠92):rt (c::r) qd e (some 32) t=rt r qd e (some 97) [c]:=(if_neg h1).trans ((if_neg h2).trans (if_neg h))
theorem rt_q (h:k≠32) (hk:k∈[39,34]):rt (c::r) qd e (some k) t=if c=k then rt r true e (some 97) t else if c=92/\k=34 then rt r true k (some 92) t else rt r true e (some k) (t++[c]):=(if_neg h).trans (if_pos hk)
theorem zcD:rt (c::r) qd e (some 92) t=rt r qd e (some e) (if e∈[39,34]/\c≠92/\c≠e then t++[92]++[c] else t++[c]):=rfl
theorem zbX (h:c∈wsL):rt (c::r) qd e (some 97) t=if t≠[]\/qd=true then some (r,some 32,t,qd) else rt r qd e (some 32) t:=if_pos h
theorem zbY (h:c∈[39,34]) (h1:c∉wsL):rt (c::r) qd e (some 97) t=rt r qd e (some c) t:=(if_neg h1).trans (if_pos h)
theorem zbZ:rt (92::r) qd e (some 97) t=rt r qd 97 (some 92) t:=rfl
theorem zb0 (h:c∉[39,34]) (h1:c∉wsL) (h2:c≠92):rt (c::r) qd e (some 97) t=rt r qd e (some 97) (t++[c]):=(if_neg h1).trans ((if_neg h).trans (if_neg h2))
theorem zcE (h:k≠32) (hk:k∉[39,34]) (h2:k≠92) (h3:k≠97):rt (c::r) qd e (some k) t=none:=(if_neg h).trans ((if_neg hk).trans ((if_neg h2).trans (if_neg h3)))
end
section
variable {W:Wd} {lv:Nat} {σ:Led} {Y:ShP} {tok:List Nat} {qd:Bool} {e c k:Nat} {nc:List Nat} {st:Option Nat} {T:Bool->Led->Prop} {K:AFl->List (Option V)->Led->Prop}
theorem uZ (S:ShOk W.K) (h:T true (shP Y none tok σ)):ait W lv [] (rho Y qd e nc) (.cmp .Is (.attr (.loc 0) "state") (.const .none)) (shP Y none tok σ) T:=Zr S rfl (zI (b:=true) rfl h)
theorem u5 (S:ShOk W.K) (h:T false (shP Y (some k) tok σ)):ait W lv [] (rho Y qd e nc) (.cmp .Is (.attr (.loc 0) "state") (.const .none)) (shP Y (some k) tok σ) T:=Zr S rfl (zI (b:=false) rfl h)
theorem t_eq {a:Nat} (S:ShOk W.K) (h1:k=a->T true (shP Y (some k) tok σ)) (h2:k≠a->T false (shP Y (some k) tok σ)):ait W lv [] (rho Y qd e nc) (.cmp .Eq (.attr (.loc 0) "state") (.const (.str [a]))) (shP Y (some k) tok σ) T:=Zr S rfl (xl h1 h2)
theorem t_ws (S:ShOk W.K) (h1:c∈wsL->T true (shP Y st tok σ)) (h2:c∉wsL->T false (shP Y st tok σ)):ait W lv [] (rho Y qd e [c]) (.cmp .In (.loc 3) (.attr (.loc 0) "whitespace")) (shP Y st tok σ) T:=yp S (Zg h1 h2)
theorem u6 (S:ShOk W.K) (h:T false (shP Y st tok σ)):ait W lv [] (rho Y qd e nc) (.cmp .GtE (.attr (.loc 0) "debug") (.const (.int 2))) (shP Y st tok σ) T:=QT S (Qh h)
theorem g8 (S:ShOk W.K) (h:T false (shP Y st tok σ)):ait W lv [] (rho Y qd e [c]) (.cmp .In (.loc 3) (.attr (.loc 0) "commenters")) (shP Y st tok σ) T:=yo S (xi h)
theorem zb1 (S:ShOk W.K) (h1:c=92->T true (shP Y st tok σ)) (h2:c≠92->T false (shP Y st tok σ)):ait W lv [] (rho Y qd e [c]) (.bop .And [(.attr (.loc 0) "posix"),(.cmp .In (.loc 3) (.attr (.loc 0) "escape"))]) (shP Y st tok σ) T:=QS S (x8 S (xk h1 h2))
theorem t_wc (S:ShOk W.K) (h1:c∈wcA++wcB->T true (shP Y st tok σ)) (h2:c∉wcA++wcB->T false (shP Y st tok σ)):ait W lv [] (rho Y qd e [c]) (.cmp .In (.loc 3) (.attr (.loc 0) "wordchars")) (shP Y st tok σ) T:=Ja S (Zg h1 h2)
theorem zaI (S:ShOk W.K) (hlv:lv<80) (h:T false (shP Y st tok σ)):ait W lv [] (rho Y qd e [c]) (.cmp .In (.loc 3) (.attr (.loc 0) "punctuation_chars")) (shP Y st tok σ) T:=Yy S (oka hlv (by decide)) (xi h)
theorem HH (S:ShOk W.K) (h1:c∈[39,34]->T true (shP Y st tok σ)) (h2:c∉[39,34]->T false (shP Y st tok σ)):ait W lv [] (rho Y qd e [c]) (.cmp .In (.loc 3) (.attr (.loc 0) "quotes")) (shP Y st tok σ) T:=Qw S (Zg h1 h2)
theorem u7 (S:ShOk W.K) (h1:c∈[39,34]->T true (shP Y st tok σ)) (h2:c∉[39,34]->T false (shP Y st tok σ)):ait W lv [] (rho Y qd e [c]) (.bop .And [(.attr (.loc 0) "posix"),(.cmp .In (.loc 3) (.attr (.loc 0) "quotes"))]) (shP Y st tok σ) T:=QS S (Qw S (Zg h1 h2))
theorem kK {A B:List PS} (S:ShOk W.K) (h:aexs W lv [] B (rho Y qd e nc) (shP Y st tok σ) K):aex W lv [] (.ite (.not (.attr (.loc 0) "posix")) A B) (rho Y qd e nc) (shP Y st tok σ) K:=QS S h
theorem zcF (S:ShOk W.K) (h:T true (shP Y st tok σ)):ait W lv [] (rho Y qd e nc) (.attr (.loc 0) "whitespace_split") (shP Y st tok σ) T:=ZD S h
theorem yr (S:ShOk W.K) (h1:k∈[39,34]->T true (shP Y (some k) tok σ)) (h2:k∉[39,34]->T false (shP Y (some k) tok σ)):ait W lv [] (rho Y qd e nc) (.cmp .In (.attr (.loc 0) "state") (.attr (.loc 0) "quotes")) (shP Y (some k) tok σ) T:=Zr S rfl (Qw S (Zg h1 h2))
theorem zb2 (S:ShOk W.K) (h1:c=k->T true (shP Y (some k) tok σ)) (h2:c≠k->T false (shP Y (some k) tok σ)):ait W lv [] (rho Y qd e [c]) (.cmp .Eq (.loc 3) (.attr (.loc 0) "state")) (shP Y (some k) tok σ) T:=Zr S rfl (xl h1 h2)
theorem zb3 (S:ShOk W.K) (h1:c=92->k=34->T true (shP Y (some k) tok σ)) (h2:¬ (c=92/\k=34)->T false (shP Y (some k) tok σ)) :
  ait W lv [] (rho Y qd e [c]) (.bop .And [(.attr (.loc 0) "posix"),(.cmp .In (.loc 3) (.attr (.loc 0) "escape")),(.cmp .In (.attr (.loc 0) "state") (.attr (.loc 0) "escapedquotes"))]) (shP Y (some k) tok σ) T:=
 QS S (x8 S (xk (fun a=>Zr S rfl (Jb S (xk (fun b=>h1 a b) fun b=>h2 fun z=>b z.2))) fun a=>h2 fun z=>a z.1))
theorem g9 (S:ShOk W.K) (h1:k=92->T true (shP Y (some k) tok σ)) (h2:k≠92->T false (shP Y (some k) tok σ)):ait W lv [] (rho Y qd e nc) (.cmp .In (.attr (.loc 0) "state") (.attr (.loc 0) "escape")) (shP Y (some k) tok σ) T:=Zr S rfl (x8 S (xk h1 h2))
theorem zcG (S:ShOk W.K) (h1:e∈[39,34]/\c≠92/\c≠e->T true (shP Y (some 92) tok σ)) (h2:¬ (e∈[39,34]/\c≠92/\c≠e)->T false (shP Y (some 92) tok σ)) :
  ait W lv [] (rho Y qd e [c]) (.bop .And [(.cmp .In (.loc 2) (.attr (.loc 0) "quotes")),(.cmp .NotEq (.loc 3) (.attr (.loc 0) "state")),(.cmp .NotEq (.loc 3) (.loc 2))]) (shP Y (some 92) tok σ) T:=
 Qw S (Zg (fun a=>Zr S rfl (VA (fun b=>VA (fun d=>h1 ⟨a,b,d⟩) fun d=>h2 fun z=>z.2.2 d) fun b=>h2 fun z=>z.2.1 b)) fun a=>h2 fun z=>a z.1)
theorem Ga (S:ShOk W.K) (h:∀ τ,Sub (shP Y (some 97) tok σ) τ->T true τ):ait W lv [] (rho Y qd e nc) (.cmp .In (.attr (.loc 0) "state") (.tup [(.const (.str [97])),(.const (.str [99]))])) (shP Y (some 97) tok σ) T:=
 Zr S rfl (zK (by simp) fun t=>Kz (ws:=[[97],[99]]) (.head _) (by refine sr (decide_eq_true (by decide)) ?_;exact h _ (Sub.refl _).skip))
theorem zcH (S:ShOk W.K) (h1:tok≠[]\/qd=true->T true (shP Y st tok σ)) (h2:¬ (tok≠[]\/qd=true)->T false (shP Y st tok σ)):ait W lv [] (rho Y qd e nc) (.bop .Or [(.attr (.loc 0) "token"),(.bop .And [(.attr (.loc 0) "posix"),(.loc 1)])]) (shP Y st tok σ) T:=
 tst S (dec2 (F:=fun b=>T b (shP Y st tok σ)) h1 h2)
theorem Xb {a:Nat} (S:ShOk W.K) (h:K .next (rho Y qd e nc) (shP Y (some a) tok σ)):aex W lv [] (.assign [(.attr (.loc 0) "state")] (.const (.str [a]))) (rho Y qd e nc) (shP Y st tok σ) K:=Xa S h
theorem Xc (S:ShOk W.K) (h:K .next (rho Y qd e nc) (shP Y none tok σ)):aex W lv [] (.assign [(.attr (.loc 0) "state")] (.const .none)) (rho Y qd e nc) (shP Y st tok σ) K:=Xa S h
theorem Qy (S:ShOk W.K) (h:K .next (rho Y qd e [c]) (shP Y (some c) tok σ)):aex W lv [] (.assign [(.attr (.loc 0) "state")] (.loc 3)) (rho Y qd e [c]) (shP Y st tok σ) K:=Xa S h
theorem kL (S:ShOk W.K) (h:K .next (rho Y qd e nc) (shP Y (some e) tok σ)):aex W lv [] (.assign [(.attr (.loc 0) "state")] (.loc 2)) (rho Y qd e nc) (shP Y st tok σ) K:=Xa S h
theorem kM (S:ShOk W.K) (h:K .next (rho Y qd e nc) (shP Y st [] σ)):aex W lv [] (.assign [(.attr (.loc 0) "token")] (.const (.str []))) (rho Y qd e nc) (shP Y st tok σ) K:=Jc S h
theorem kN (S:ShOk W.K) (h:K .next (rho Y qd e nc) (shP Y st nc σ)):aex W lv [] (.assign [(.attr (.loc 0) "token")] (.loc 3)) (rho Y qd e nc) (shP Y st tok σ) K:=Jc S h
theorem HI (S:ShOk W.K) (hl:tok.length<=10000001) (h:K .next (rho Y qd e [c]) (shP Y st (tok++[c]) σ)):aex W lv [] (.augA (.loc 0) "token" .Add (.loc 3)) (rho Y qd e [c]) (shP Y st tok σ) K:=x9 S (jI (by simp;exact okc hl (by decide)) (Jc S h))
theorem zb4 (S:ShOk W.K) (hl:tok.length<=10000001) (h:K .next (rho Y qd e nc) (shP Y (some k) (tok++[k]) σ)):aex W lv [] (.augA (.loc 0) "token" .Add (.attr (.loc 0) "state")) (rho Y qd e nc) (shP Y (some k) tok σ) K:=x9 S (Zr S rfl (jI (by simp;exact okc hl (by decide)) (Jc S h)))
theorem a_e {a:Nat} {τ:Led} (h:K .next (rho Y qd a nc) τ):aex W lv [] (.assign [(.loc 2)] (.const (.str [a]))) (rho Y qd e nc) τ K:=h
theorem a_es (S:ShOk W.K) (h:K .next (rho Y qd k nc) (shP Y (some k) tok σ)):aex W lv [] (.assign [(.loc 2)] (.attr (.loc 0) "state")) (rho Y qd e nc) (shP Y (some k) tok σ) K:=Zr S rfl h
theorem a_qd {τ:Led} (h:K .next (rho Y true e nc) τ):aex W lv [] (.assign [(.loc 1)] (.const (.bool true))) (rho Y qd e nc) τ K:=h
theorem t_nc {A B:List PS} {τ:Led} (h:aexs W lv [] B (rho Y qd e [c]) τ K):aex W lv [] (.ite (.not (.loc 3)) A B) (rho Y qd e [c]) τ K:=h
end
section
variable {W:Wd} {lv:Nat} {σ σ':Led} {Y:ShP} {tok:List Nat}
theorem zaJ {qd:Bool} {e:Nat} {st:Option Nat} {res:RtR} {R:AFl->List (Option V)->Led->Prop} (S:ShOk W.K) (h:rt [] qd e st tok=some res)
  (stop:∀ st' tok',res=([],st',tok',qd)->R .brk (rho Y qd e []) (shP Y st' tok' σ)) :
  aexs W lv [] [zaH] (rho Y qd e []) (shP Y st tok σ) R:=by
 cases st with
 | none=>exact zc (uZ S (za (kM S (zc (stop none [] (Option.some.inj h).symm)))))
 | some k=>
  have hk:k=32\/k=97:=Classical.byContradiction fun q=>by cases (if_neg q).symm.trans h
  have h':=(if_pos hk).symm.trans h
  have last:∀ k' τ,Sub (shP Y (some k') tok σ) τ->aexs W lv [] [.ite (.not (.loc 3)) [.assign [(.attr (.loc 0) "state")] (.const .none),.brk] [.pass]] (rho Y qd e []) τ R:=fun k' τ hs=>
   ze hs (za (Xc S (zc (stop none tok (Option.some.inj h').symm))))
  refine zc (u5 S (zc (t_eq S (fun _=>?_) fun h32=>?_)))
  ·exact zc (za (Xc S (zc (stop none tok (Option.some.inj h').symm))))
  ·obtain rfl:=hk.resolve_left h32
   refine zc (yr S (fun q=>absurd q (by decide)) fun _=>zc (g9 S (fun q=>absurd q (by decide)) fun _=>zc (Ga S fun τ hs=>?_)))
   exact ze hs (za (Xc S (zc (stop none tok (Option.some.inj h').symm))))
structure Turn (res:RtR) (r:List Nat) (qd:Bool) (e c:Nat) (tok:List Nat) (Y:ShP) (σ:Led) (R:AFl->List (Option V)->Led->Prop):Prop where
 go:∀ fl qd' e' st' tok' τ,(fl=.next\/fl=.cont)->rt r qd' e' st' tok'=some res->tok'.length<=tok.length+2->Sub (shP Y st' tok' σ) τ->R fl (rho Y qd' e' [c]) τ
 stop:∀ st' tok' τ,res=(r,st',tok',qd)->Sub (shP Y st' tok' σ) τ->R .brk (rho Y qd e [c]) τ
section
variable {r:List Nat} {res:RtR} {qd:Bool} {e c:Nat} {R:AFl->List (Option V)->Led->Prop}
theorem Turn.next (T:Turn res r qd e c tok Y σ R) {qd':Bool} {e':Nat} {st':Option Nat} {tok':List Nat} (h:rt r qd' e' st' tok'=some res) (hl:tok'.length<=tok.length+2) :
  R .next (rho Y qd' e' [c]) (shP Y st' tok' σ):=T.go .next qd' e' st' tok' _ (.inl rfl) h hl (Sub.refl _)
theorem Xd:(tok++[c]).length<=tok.length+2:=by refine sr List.length_append ?_;exact Nat.le_succ _
theorem yt (S:ShOk W.K) (T:Turn res r qd e c tok Y σ R) {R':AFl->List (Option V)->Led->Prop} (hR:∀ fl ρ τ,(fl=.cont\/fl=.brk)->R fl ρ τ->R' fl ρ τ) (h:(if tok≠[]\/qd=true then some (r,some 32,tok,qd) else rt r qd e (some 32) tok)=some res) :
  aexs W lv [] [.ite (.bop .Or [(.attr (.loc 0) "token"),(.bop .And [(.attr (.loc 0) "posix"),(.loc 1)])]) [.brk] [.cont]] (rho Y qd e [c]) (shP Y (some 32) tok σ) R':=
 zc (zcH S (fun hh=>zc (hR _ _ _ (.inr rfl) (T.stop (some 32) tok _ (Option.some.inj ((if_pos hh).symm.trans h)).symm (Sub.refl _))))
  fun hh=>zc (hR _ _ _ (.inl rfl) (T.go .cont qd e (some 32) tok _ (.inr rfl) ((if_neg hh).symm.trans h) (Nat.le_add_right _ _) (Sub.refl _))))
theorem zb5 (S:ShOk W.K) (hlv:lv<80) (h:rt (c::r) qd e (some 32) tok=some res) (T:Turn res r qd e c tok Y σ R) :
  aexs W lv [] (rtAt [1,0]) (rho Y qd e [c]) (shP Y (some 32) tok σ) R:=by
 refine zc (t_nc (zc (t_ws S (fun hws=>?_) fun hws=>?_)))
 ·exact za (u6 S (yt S T (fun fl ρ τ hf hr=>by rcases hf with rfl | rfl <;> exact hr) ((zbU hws).symm.trans h)))
 refine zc (g8 S (zc (zb1 S (fun h92=>?_) fun h92=>zc (t_wc S (fun hwc=>?_) fun hwc=>zc (zaI S hlv (zc (HH S (fun hq=>?_) fun hq=>?_)))))))
 ·subst h92
  exact za (a_e (zc (Qy S (T.next (zbV.symm.trans h) (Nat.le_add_right _ _)))))
 ·have hq:c∉[39,34]:=by have:=zbR c hwc;simp [this.1,this.2]
  exact za (kN S (zc (Xb S (T.next ((g7 hq hws h92).symm.trans h) (Nat.le_add_left 1 _)))))
 ·exact za (kK S (zc (Qy S (T.next ((zbW hq hws h92).symm.trans h) (Nat.le_add_right _ _)))))
 ·exact zc (zcF S (za (kN S (zc (Xb S (T.next ((g7 hq hws h92).symm.trans h) (Nat.le_add_left 1 _)))))))
theorem zcI {k:Nat} (S:ShOk W.K) (htok:tok.length<=10000000) (h32:k≠32) (hk:k∈[39,34]) (h:rt (c::r) qd e (some k) tok=some res) (T:Turn res r qd e c tok Y σ R) :
  aexs W lv [] (rtAt [1,1,0]) (rho Y qd e [c]) (shP Y (some k) tok σ) R:=by
 have h:=(rt_q h32 hk).symm.trans h
 refine za (a_qd (za (t_nc (zc (zb2 S (fun hck=>?_) fun hck=>?_)))))
 ·exact zc (kK S (zc (Xb S (T.next ((if_pos hck).symm.trans h) (Nat.le_add_right _ _)))))
 ·have h:=(if_neg hck).symm.trans h
  refine zc (zb3 S (fun h92 h34=>?_) fun hn=>?_)
  ·have h2:=(if_pos ⟨h92,h34⟩).symm.trans h
   subst h92
   exact za (a_es S (zc (Qy S (T.next h2 (Nat.le_add_right _ _)))))
  ·exact zc (HI S (okc htok (by decide)) (T.next ((if_neg hn).symm.trans h) Xd))
theorem zb6 (S:ShOk W.K) (htok:tok.length<=10000000) (h:rt (c::r) qd e (some 92) tok=some res) (T:Turn res r qd e c tok Y σ R) :
  aexs W lv [] (rtAt [1,1,1,0]) (rho Y qd e [c]) (shP Y (some 92) tok σ) R:=by
 have h:=zcD.symm.trans h
 refine za (t_nc (za (zcG S (fun hm=>?_) fun hm=>?_)))
 ·rw [if_pos hm] at h
  exact zc (zb4 S (okc htok (by decide)) (za (HI S (by refine sr List.length_append ?_;exact Nat.succ_le_succ htok) (zc (kL S (T.next h (by simp)))))))
 ·rw [if_neg hm] at h
  exact za (HI S (okc htok (by decide)) (zc (kL S (T.next h Xd))))
theorem zb7 (S:ShOk W.K) (hlv:lv<80) (htok:tok.length<=10000000) (h:rt (c::r) qd e (some 97) tok=some res) (T:Turn res r qd e c tok Y σ R) :
  aexs W lv [] (rtAt [1,1,1,1]) (rho Y qd e [c]) (shP Y (some 97) tok σ) R:=by
 refine zc (Ga S fun τ hs=>ze hs (t_nc (zc (t_ws S (fun hws=>?_) fun hws=>?_))))
 ·refine za (u6 S (za (Xb S (yt S T (fun fl ρ τ hf hr=>by rcases hf with rfl | rfl <;> exact hr) ((zbX hws).symm.trans h)))))
 refine zc (g8 S (zc (t_eq S (fun q=>absurd q (by decide)) fun _=>zc (u7 S (fun hq=>?_) fun hq=>zc (zb1 S (fun h92=>?_) fun h92=>?_)))))
 ·exact zc (Qy S (T.go _ _ _ _ _ _ (.inl rfl) ((zbY hq hws).symm.trans h) (Nat.le_add_right _ _) (Sub.refl _)))
 ·subst h92
  exact za (a_e (zc (Qy S (T.next (zbZ.symm.trans h) (Nat.le_add_right _ _)))))
 ·have h:=(zb0 hq hws h92).symm.trans h
  have fin:aex W lv [] (.augA (.loc 0) "token" .Add (.loc 3)) (rho Y qd e [c]) (shP Y (some 97) tok σ) R:=HI S (okc htok (by decide)) (T.next h Xd)
  refine zc (Ja S (Zg (fun hwc=>zc fin) fun hwc=>?_))
  refine Qw S (Zg (fun q=>absurd q hq) fun _=>?_)
  exact ZD S (Yy S (oka hlv (by decide)) (U2 (zc fin)))
theorem zcJ {st:Option Nat} (S:ShOk W.K) (hlv:lv<80) (htok:tok.length<=10000000) (h:rt (c::r) qd e st tok=some res) (T:Turn res r qd e c tok Y σ R) :
  aexs W lv [] [zaH] (rho Y qd e [c]) (shP Y st tok σ) R:=by
 cases st with
 | none=>exact zc (uZ S (za (kM S (zc (T.stop none [] _ (Option.some.inj h).symm (Sub.refl _))))))
 | some k=>
  refine zc (u5 S (zc (t_eq S (fun h32=>?_) fun h32=>zc (yr S (fun hk=>zcI S htok h32 hk h T) fun hk=>zc (g9 S (fun h92=>?_) fun h92=>?_)))))
  ·subst h32;exact zb5 S hlv h T
  ·subst h92;exact zb6 S htok h T
  ·have h97:k=97:=Classical.byContradiction fun q=>by cases (zcE h32 hk h92 q).symm.trans h
   subst h97
   exact zb7 S hlv htok h T
end
end
end
section
noncomputable def resV (t:List Nat) (qd:Bool):V:=if t=[]/\qd=false then .none else .str t
section
variable {W:Wd} {lv:Nat} {σ σ':Led} {Q:V->Led->Prop} {x dx b db p f:Addr} {w:List Nat} {q:Nat} {ln:Int}
theorem Xe {v r1 r2 r3:V} {st:Option Nat} {K:AFl->List (Option V)->Led->Prop} (S:ShOk W.K) (h:K (.ret v) [some (.ref x),some r1,some r2,some r3,some v] (shL x dx b db p f w q [] true (stV st) ln [] σ)) :
  aexs W lv [] (zS.body.drop 6) [some (.ref x),some r1,some r2,some r3,some v] (shL x dx b db p f w q [] true (stV st) ln [] σ) K:=by
 refine za (QT S (cmp_gt ?_))
 refine sr (decide_eq_false (by decide)) ?_
 exact za h
theorem zaK {st:Option Nat} {tok nc:List Nat} {qd:Bool} {e:Nat} {τ:Led} {K:AFl->List (Option V)->Led->Prop} (S:ShOk W.K) (hs:Sub (shL x dx b db p f w q [] true (stV st) ln tok σ) τ)
  (h:K (.ret (resV tok qd)) [some (.ref x),some (.bool qd),some (.str [e]),some (.str nc),some (resV tok qd)] (shL x dx b db p f w q [] true (stV st) ln [] σ)) :
  aexs W lv [] (zS.body.drop 3) [some (.ref x),some (.bool qd),some (.str [e]),some (.str nc),none] τ K:=by
 refine ze hs (x9 S ?_)
 refine za (Jc S ?_)
 refine za (QS S ?_)
 cases qd with
 | true=>
  rw [show resV tok true=.str tok from if_neg fun z=>Bool.noConfusion z.2] at h
  exact Xe S h
 | false=>
  refine jg (fun ht=>?_) fun ht=>?_
  ·rw [show resV tok false=.none from if_pos ⟨ht,rfl⟩] at h
   exact za (Xe S h)
  ·rw [show resV tok false=.str tok from if_neg fun z=>ht z.1] at h
   exact Xe S h
structure RtS where
 q:Nat
 qd:Bool
 e:Nat
 st:Option Nat
 tok:List Nat
 ln:Int
 r3:Option V
structure RtP (w:List Nat) (res:RtR) (s:RtS):Prop where
 hq:s.q<=w.length
 hl:s.tok.length<=2*s.q
 hr:rt (w.drop s.q) s.qd s.e s.st s.tok=some res
theorem HJ {res:RtR} {R K:AFl->List (Option V)->Led->Prop} (P:PrOk W.K) (I:SiOk W.K) (S:ShOk W.K) (hlv:lv<52) (hw:w.length<=4000000) (h:∀ q' ln' ρ,q'<=w.length->w.drop q'=res.1->K (.ret (resV res.2.2.1 res.2.2.2)) ρ (shL x dx b db p f w q' [] true (stV res.2.1) ln' [] σ)) (s:RtS) (hp:RtP w res s)
  (hR:∀ fl s' τ,(fl=.next\/fl=.cont)->RtP w res s'->w.length-s'.q<w.length-s.q->Sub (shL x dx b db p f w s'.q [] true (stV s'.st) s'.ln s'.tok σ) τ->R fl [some (.ref x),some (.bool s'.qd),some (.str [s'.e]),s'.r3,none] τ) (hB:∀ ρ τ,aexs W lv [] (zS.body.drop 3) ρ τ K->R .brk ρ τ) :
  aexs W lv [] (zS.body.getD 2 .pass).blk [some (.ref x),some (.bool s.qd),some (.str [s.e]),s.r3,none] (shL x dx b db p f w s.q [] true (stV s.st) s.ln s.tok σ) R:=by
 obtain ⟨q,qd,e,st,tok,ln,r3⟩:=s
 obtain ⟨hq,htl,hrt⟩:=hp
 dsimp only at hq htl hrt
 have final:∀ q' ln' st' tok' qd' e' nc τ,q'<=w.length->res=(w.drop q',st',tok',qd')->Sub (shL x dx b db p f w q' [] true (stV st') ln' tok' σ) τ->R .brk [some (.ref x),some (.bool qd'),some (.str [e']),some (.str nc),none] τ:=
  fun q' ln' st' tok' qd' e' nc τ hq' hres hs=>hB _ _ (zaK S hs (by have:=h q' ln' [some (.ref x),some (.bool qd'),some (.str [e']),some (.str nc),some (resV tok' qd')] hq' (by exact sr hres rfl);rw [hres] at this;exact this))
 refine zbS P I S (okb (Nat.le_of_lt_succ hlv) (by decide)) (okb hw (by decide)) hq (fun hn=>?_) (fun c ln' hc=>?_)
 ·rw [List.getElem?_eq_none_iff] at hn
  have hd:w.drop q=[]:=List.drop_eq_nil_of_le hn
  rw [hd] at hrt
  exact zaJ (Y:=⟨x,dx,b,db,p,f,w,q,ln⟩) S hrt fun st' tok' hres=>final q ln st' tok' qd e [] _ hq (by refine sr hd ?_;exact hres) (Sub.refl _)
 ·have hlt:=(List.getElem?_eq_some_iff.mp hc).1
  have hd:w.drop q=c::w.drop (q+1):=by rw [List.drop_eq_getElem_cons hlt,(List.getElem?_eq_some_iff.mp hc).2]
  rw [hd] at hrt
  refine zcJ (Y:=⟨x,dx,b,db,p,f,w,q+1,ln'⟩) S (okb (Nat.le_of_lt_succ hlv) (by decide)) (by lia) hrt ⟨fun fl qd' e' st' tok' τ hf hr' hl hs=>?_,fun st' tok' τ hres hs=>?_⟩
  ·exact hR fl ⟨q+1,qd',e',st',tok',ln',_⟩ τ hf ⟨hlt,okc hl (Nat.add_le_add_right htl _),hr'⟩ (Nat.sub_lt_sub_left hlt (Nat.lt_succ_self q)) hs
  ·exact final (q+1) ln' st' tok' qd e [c] τ hlt hres hs
theorem Xf {st:Option Nat} {res:RtR} (P:PrOk W.K) (I:SiOk W.K) (S:ShOk W.K) (hlv:lv<50) (hw:w.length<=4000000) (hq:q<=w.length) (hr:rt (w.drop q) false 32 st []=some res)
  (h:∀ q' ln',q'<=w.length->w.drop q'=res.1->Q (resV res.2.2.1 res.2.2.2) (shL x dx b db p f w q' [] true (stV res.2.1) ln' [] σ)) :
  zm W lv (.ref 690) [.ref x] (shL x dx b db p f w q [] true (stV st) ln [] σ) Q:=by
 refine zA P.h_read_token (oka hlv (by decide)) (Nat.le_refl 1) (Nat.le_refl 1) ?_
 refine za ?_
 refine za ?_
 refine za ?_
 refine j4 (ρf:=fun s:RtS=>[some (.ref x),some (.bool s.qd),some (.str [s.e]),s.r3,none]) (σf:=fun s=>shL x dx b db p f w s.q [] true (stV s.st) s.ln s.tok σ) (fun s=>w.length-s.q) (RtP w res) ?_ (s:=⟨q,false,32,st,[],ln,none⟩) ⟨hq,Nat.zero_le _,hr⟩
 intro s hp T hF hT
 refine hT _ fun R hR hB=>?_
 exact HJ P I S (Nat.succ_lt_succ (Nat.lt_succ_of_lt hlv)) hw (fun q' ln' ρ hq' hd=>⟨_,Sub.refl _,h q' ln' hq' hd⟩) s hp hR hB
theorem yu {st:Option Nat} {res:RtR} (P:PrOk W.K) (I:SiOk W.K) (S:ShOk W.K) (hlv:lv<40) (hw:w.length<=4000000) (hq:q<=w.length) (hr:rt (w.drop q) false 32 st []=some res)
  (h:∀ q' ln',q'<=w.length->w.drop q'=res.1->Q (resV res.2.2.1 res.2.2.2) (shL x dx b db p f w q' [] true (stV res.2.1) ln' [] σ)) :
  zm W lv (.ref 683) [.ref x] (shL x dx b db p f w q [] true (stV st) ln [] σ) Q:=by
 refine zA P.h_get_token (oka hlv (by decide)) (Nat.le_refl 1) (Nat.le_refl 1) ?_
 refine za (p:=.pass) ?_
 refine za (vf S ⟨.deq,false,.tail _ (.tail _ (.tail _ (.tail _ (.head _)))),rfl,?_⟩)
 refine za (zN S.read_token (.head _) (.tail _ (.head _)) (by decide +kernel) (Xf P I S (okb hlv (by decide)) hw hq hr fun q' ln' hq' hd=>?_))
 have hh:=h q' ln' hq' hd
 refine za (HF S (zE (b:=false) rfl ?_))
 refine za ?_
 by_cases hv:res.2.2.1=[]/\res.2.2.2=false
 ·have e:resV res.2.2.1 res.2.2.2=.none:=if_pos hv
  rw [e] at hh ⊢
  refine ⟨1,?_⟩
  refine uY S (ym ?_)
  refine za (Yx S ⟨.deq,false,.tail _ (.tail _ (.tail _ (.tail _ (.tail _ (.head _))))),rfl,?_⟩)
  refine za (uY S ?_)
  exact ⟨_,Sub.refl _,hh⟩
 ·have e:resV res.2.2.1 res.2.2.2=.str res.2.2.1:=if_neg hv
  rw [e] at hh ⊢
  refine ⟨1,?_⟩
  refine uY S (yn ?_)
  refine za (QT S (Qh ?_))
  refine sr (decide_eq_false (by decide)) ?_
  refine za ?_
  exact ⟨_,Sub.refl _,hh⟩
end
end
section
theorem qu {n:Nm} {body:List Stmt} {p:PS} {ps:List PS} (h:cSs n body=p::ps):∃ s r,body=s::r/\cS n s=p/\cSs n r=ps:=by
 cases body with
 | nil=>exact nn5 h
 | cons s r=>exact ⟨s,r,rfl,List.head_eq_of_cons_eq h,List.tail_eq_of_cons_eq h⟩
theorem Jd {n:Nm} {body:List Stmt} (h:cSs n body=[]):body=[]:=by
 cases body with
 | nil=>rfl
 | cons s r=>exact nn6 h
theorem Yz {s1 s2 s3:Stmt} (h:q8 [s1,s2,s3]=true):∃ t r b p,s2=.If t [r] b p/\r.ctorIdx=16:=by
 by_cases k:s2.ctorIdx=12
 ·refine Stmt.If.elim (motive_2:=fun s2=>q8 [s1,s2,s3]=true->∃ t r b p,s2=.If t [r] b p/\r.ctorIdx=16) s2 k (fun t a b p h=>?_) h
  match a with
  | [r]=>exact ⟨t,r,b,p,rfl,beq_iff_eq.mp h⟩
  | []=>exact nn3 h
  | _::_::_=>exact nn3 h
 ·cases (dif_neg k).symm.trans h
theorem HK:isSubtype (.type "StopIteration") (.type "StopIteration")=pure true:=by rw [isSubtype_type];kernel_rfl
theorem zaL {K:Frag} {f:Addr} {oc:Value} {od:Option Addr} {fd:FuncData} {sl:Array (Option Value)} {b:List Stmt} (h:jq K f=true) (ho:K.lookup f=some ⟨oc,od,.func fd,sl⟩) (hb:fd.body=.stmts b) :
  fd.scope.names.lookup ("StopIteration" : Str)=some .globalImplicit/\q8 b=true/\ZO K "StopIteration" = some (.ty "StopIteration"):=by
 unfold jq at h
 rw [ho] at h
 dsimp only at h
 rw [hb] at h
 refine and2 h fun h hg=>and2 h fun h1 h2=>?_
 exact ⟨beq_iff_eq.mp h1,h2,beq_iff_eq.mp hg⟩
inductive zaM (n:Nm) (body:List Stmt):Prop
 | mk (s1 s3:Stmt) (t:PySem.Expr) (pn pr p:Pos) (e:body=[s1,.If t [.Raise (some (.Name ("StopIteration" : Str) pn)) none pr] [] p,s3]) (e1:cS n s1=.assign [.loc 1] (.meth (.loc 0) "get_token" [])) (et:cE n t=.cmp .Eq (.loc 1) (.attr (.loc 0) "eof")) (e3:cS n s3=.ret (.loc 1)):zaM n body
theorem vg {n:Nm} {body:List Stmt} (hbd:cSs n body=JC.body) (hsb:q8 body=true):zaM n body:=by
 obtain ⟨s1,r1,rfl,h1,hb⟩:=qu hbd
 obtain ⟨s2,r2,rfl,h2,hb⟩:=qu hb
 obtain ⟨s3,r3,rfl,h3,hb⟩:=qu hb
 obtain rfl:=Jd hb
 clear hbd hb
 obtain ⟨t',sr,b',p',rfl,hsr⟩:=Yz hsb
 clear hsb
 injection h2 with et ea eb
 have er:=List.head_eq_of_cons_eq ea
 obtain rfl:=Jd eb
 clear ea eb
 obtain ⟨xn,pn,pr,rfl,hxn⟩:=yT hsr er
 cases eq_of_beq hxn
 exact .mk s1 s3 t' pn pr p' rfl h1 et h3
section
variable {W:Wd} {lv:Nat} {σ σ':Led} {Q:V->Led->Prop} {x dx b db p f:Addr} {w:List Nat} {q:Nat} {ln:Int}
theorem HL {st:Option Nat} {res:RtR} {Q:Option V->Led->Prop} {n:Nm} {c:Cx} {Φ:List (Addr×Obj)} {s:Shared} {body:List Stmt} (P:PrOk W.K) (I:SiOk W.K) (S:ShOk W.K) (hlv:lv<30) (hw:w.length<=4000000) (hq:q<=w.length) (hr:rt (w.drop q) false 32 st []=some res)
  (h0:res.2.2.1=[]/\res.2.2.2=false->∀ q' ln',Q none (shL x dx b db p f w q' [] true (stV res.2.1) ln' [] σ)) (h1:¬ (res.2.2.1=[]/\res.2.2.2=false)->∀ q' ln',q'<=w.length->w.drop q'=res.1->Q (some (.str res.2.2.1)) (shL x dx b db p f w q' [] true (stV res.2.1) ln' [] σ))
  (C:CxOk W (lv+1) c) (v:Ve W n c Φ c.env []) (r:R0 W.prog W.w c.F [some (.ref x),none] (shL x dx b db p f w q [] true (stV st) ln [] σ) Φ s) (hk:n.scope.names.lookup ("StopIteration" : Str)=some .globalImplicit) (hg:n.glob ("StopIteration" : Str)=some (.ty "StopIteration")) (B:zaM n body) :
  wpAny W.M c.A (execs body c.env) (UG W c Φ fun v σ'=>Q (some v) σ') (zbu W c Φ fun σ'=>Q none σ') s:=by
 obtain ⟨s1,s3,t',pn,pr,p',rfl,e1,et,e3⟩:=B
 refine wpAny_execs_cons (wpAny_mono (Vy s1 W (lv+1) c n _ _ Φ c.env [] s (fun fl ρ σ'=>fl=.next/\ρ=[some (.ref x),some (resV res.2.2.1 res.2.2.2)]/\∃ q' ln',q'<=w.length/\w.drop q'=res.1/\σ'=shL x dx b db p f w q' [] true (stV res.2.1) ln' [] σ) C v ?_ r) ?_ fun _ _ x=>x.elim)
 ·refine sr e1 ?_
  refine zN S.get_token (.head _) (.tail _ (.head _)) (by decide +kernel) (yu P I S (okb hlv (by decide)) hw hq hr fun q' ln' hq' hd=>?_)
  exact ⟨rfl,rfl,q',ln',hq',hd,rfl⟩
 rintro fl s1' ⟨a,ρ1,σ1,hfl,r1,rfl,rfl,q',ln',hq',hd,rfl⟩
 cases hfl
 refine wpAny_execs_cons (wpAny_If (wpAny_mono (YV t' W (lv+1) c n _ _ _ Φ c.env [] s1' (fun bb σ'=>bb=decide (res.2.2.1=[]/\res.2.2.2=false)/\σ'=shL x dx b db p f w q' [] true (stV res.2.1) ln' [] σ) C (v.vw _) ?_ r1) ?_ fun _ _ x=>x.elim))
 ·refine sr et ?_
  by_cases hv:res.2.2.1=[]/\res.2.2.2=false
  ·refine sr (show resV res.2.2.1 res.2.2.2=V.none from if_pos hv) ?_
   refine uY S (ym ?_)
   exact ⟨(decide_eq_true hv).symm,rfl⟩
  ·refine sr (show resV res.2.2.1 res.2.2.2=V.str res.2.2.1 from if_neg hv) ?_
   refine uY S (yn ?_)
   exact ⟨(decide_eq_false hv).symm,rfl⟩
 rintro bb s2' ⟨σ2,r2,rfl,rfl⟩
 by_cases hv:res.2.2.1=[]/\res.2.2.2=false
 ·refine sr (decide_eq_true hv) (sr (if_pos rfl) ?_)
  refine wpAny_execs_cons (owsi_raiseC C.handled ?_ fun h' e hm=>⟨_,_,s2',e,rfl,r2,⟨rfl,rfl⟩,hm.newExc,h0 hv q' ln'⟩)
  exact wpAny_Name (Vu C v r2 hg hk ⟨rfl,rfl⟩) (by decide)
 ·refine sr (decide_eq_false hv) (sr (if_neg (by decide)) ?_)
  refine wpAny_execs_nil ?_
  refine wpAny_execs_cons (wpAny_mono (Vy s3 W (lv+1) c n _ _ Φ c.env [] s2' (fun fl ρ σ'=>fl=.ret (.str res.2.2.1)/\Q (some (.str res.2.2.1)) σ') C v ?_ r2) ?_ fun _ _ x=>x.elim)
  ·refine sr e3 (sr (show resV res.2.2.1 res.2.2.2=V.str res.2.2.1 from if_neg hv) ?_)
   exact ⟨rfl,h1 hv q' ln' hq' hd⟩
  ·rintro fl s3' ⟨a,ρ3,σ3,hfl,r3,rfl,hq3⟩
   cases hfl with
   | ret z=>exact ⟨ρ3,_,_,σ3,rfl,z,r3,hq3⟩
theorem kO {st:Option Nat} {res:RtR} {Q:Option V->Led->Prop} (P:PrOk W.K) (I:SiOk W.K) (S:ShOk W.K) (hst:jq W.K 719=true) (hlv:lv<30) (hw:w.length<=4000000) (hq:q<=w.length) (hr:rt (w.drop q) false 32 st []=some res)
  (h0:res.2.2.1=[]/\res.2.2.2=false->∀ q' ln',Q none (shL x dx b db p f w q' [] true (stV res.2.1) ln' [] σ)) (h1:¬ (res.2.2.1=[]/\res.2.2.2=false)->∀ q' ln',q'<=w.length->w.drop q'=res.1->Q (some (.str res.2.2.1)) (shL x dx b db p f w q' [] true (stV res.2.1) ln' [] σ)) :
  KU W lv x (shL x dx b db p f w q [] true (stV st) ln [] σ) Q:=⟨fun c ρ Φ s C r=>by
 obtain ⟨es,nn,hF,Ix⟩:=r.inst (.head _) (.tail _ (.head _))
 obtain ⟨fr,up,⟨m,os,FF,_⟩,_,_⟩:=id r.ex
 refine owit_next FF C.kin Ix S.next S.nextFn ?_
 obtain ⟨name,qual,params,body,scope,dV,kV,doc,pm,cdv,ct,oc,an,od,osl,ds,k⟩:=y2 P.h_next
 have X:=C.kin.keeps (fun b o e=>r.old e)
 have hds:ds=[]:=by
  have:VRs [] ds:=k.hvs
  cases this;rfl
 subst hds
 have hst:=zaL hst k.ho rfl
 refine wpAny_call (xr (ps:=JC.ps) (rest:=JC.rest) (Q:=fun v σ'=>Q (some v) σ') (QE:=fun σ'=>Q none σ') (Bq:=fun xs σ₁=>xs=[.ref x]/\σ₁=shL x dx b db p f w q [] true (stV st) ln [] σ)
  C r (fun v s' z=>?_) (fun e s' σ' r' hT hq'=>?_) (oka hlv (by decide)) k.ho k.code k.nd ?_ k.loc k.co k.gen k.kind k.cell ?_)
 ·obtain ⟨y,σ',zy,r',hq'⟩:=z
  exact ⟨y,σ',zy,r',hq'⟩
 ·refine (?_:wpAny _ _ _ _ _ _)
  refine wpAny_isInstance hT HK ?_
  exact ⟨σ',r',hq'⟩
 ·intro M A E Qb hQ
  refine J0 k.ps k.kwo k.vararg k.kwarg (List.nodup_append.mp k.nd).1 (ds:=[]) (vals:=[.ref x]) (fun M A E Q q=>y1 k.dflt s X M A E Q q) (Nat.le_refl 1) (Nat.le_refl 1) (Nat.zero_le _) M A E Qb ?_
  exact hQ s [.ref x] [.ref x] _ (.cons (.ref x) .nil) rfl r ⟨rfl,rfl⟩
 ·rintro xs σ₁ ⟨rfl,rfl⟩ c Φ s C hn he r
  have v:Ve W (nmOf W.K scope JC.ps) c Φ c.env []:=by
   refine ⟨?_,?_,?_,?_,?_,rfl,?_,fun x v hx=>je hx,rfl,fun k x y _ hk=>by simp [nmOf] at hk⟩
   ·refine sr he ?_;rfl
   ·refine sr he ?_;exact k.kind
   ·exact sr he rfl
   ·exact sr he rfl
   ·exact sr he rfl
   ·refine sr hn ?_;exact k.locs
  exact HL P I S hlv hw hq hr h0 h1 C v r hst.1 hst.2.2 (vg k.bd.symm hst.2.1)⟩
end
end
section
inductive Lx:List Nat->Option Nat->List (List Nat)->Prop
 | stop {rem:List Nat} {st:Option Nat} {res:RtR}:rt rem false 32 st []=some res->res.2.2.1=[]/\res.2.2.2=false->Lx rem st []
 | tok {rem:List Nat} {st:Option Nat} {res:RtR} {ts:List (List Nat)}:rt rem false 32 st []=some res->¬ (res.2.2.1=[]/\res.2.2.2=false)->Lx res.1 res.2.1 ts->Lx rem st (res.2.2.1::ts)
section
variable {W:Wd} {lv:Nat} {σ σ':Led} {Q:V->Led->Prop} {x dx b db p f:Addr} {w:List Nat} {q:Nat} {ln:Int}
theorem KU.sub {I:Addr} {Q:Option V->Led->Prop} (h:KU W lv I σ Q) (k:Sub σ σ'):KU W lv I σ' Q:=⟨fun c ρ Φ s C r=>h.run c ρ Φ s C (r.sub k)⟩
theorem u9 {I D:Addr} {K:List V->Led->Prop} {n:Nat} {xs:List V} (h:Js W lv I D K n xs σ) (k:Sub σ σ'):Js W lv I D K n xs σ':=by
 cases n with
 | zero=>exact h
 | succ n=>unfold Js at h ⊢;exact h.sub k
theorem zaN (P:PrOk W.K) (hlv:lv<90) (h:Q (.ref x) σ):zm W lv (.ref 712) [.ref x] σ Q:=by
 refine zA P.h_iter (oka hlv (by decide)) (Nat.le_refl 1) (Nat.le_refl 1) ?_
 refine za ?_
 exact ⟨_,Sub.refl _,h⟩
theorem Xg {ts:List (List Nat)} (P:PrOk W.K) (I:SiOk W.K) (S:ShOk W.K) (hst:jq W.K 719=true) (hlv:lv<20) (hw:w.length<=4000000) (hx:Lx w (some 32) ts) (hts:ts.length<10000)
  (h:∀ D st q' ln',Q (.ref D) (shL x dx b db p f w q' [] true st ln' [] ((D,.list (ts.map V.str))::σ))):zm W lv (.ty "list") [.ref x] (shL x dx b db p f w 0 [] true (.str [32]) ln [] σ) Q:=by
 refine j0 (fun D=>⟨fun c ρ Φ s C r=>?_,fun c ρ Φ s C r=>?_⟩) (fun D=>?_) ⟨_,.head _⟩
 ·obtain ⟨o,g,z⟩:=r.get (.tail _ (.head _))
  obtain rfl:=z.xt
  have X:=C.kin.keeps (fun b o e=>r.old e)
  exact ⟨.ref 722,(Looks.ld g).andThen .now,by decide,by decide,looks_findIn X S.len,looks_findIn X S.hint⟩
 ·obtain ⟨es,nn,hF,Ix⟩:=r.inst (.tail _ (.head _)) (.tail _ (.tail _ (.head _)))
  obtain ⟨fr,up,⟨m,os,FF,_⟩,_,_⟩:=id r.ex
  refine owit_iter FF C.kin Ix S.iter S.iterFn ?_
  have run:=(zaN (lv:=lv+1) (x:=x) (Q:=fun v σ'=>v=.ref x/\σ'=(D,.list [])::shL x dx b db p f w 0 [] true (.str [32]) ln [] σ) P (okb hlv (by decide)) ⟨rfl,rfl⟩).run c ρ Φ s (.ref 712) [.ref x] C (.ref _) (.cons (.ref _) .nil) r
  refine zb run fun v s' hp=>?_
  obtain ⟨y,σ',zy,r',rfl,rfl⟩:=hp
  refine VR.ZQ zy ?_
  obtain ⟨es,nn,hF,Ix'⟩:=r'.inst (.tail _ (.head _)) (.tail _ (.tail _ (.head _)))
  obtain ⟨fr,up,⟨m,os,FF',_⟩,_,_⟩:=id r'.ex
  exact owit_it FF' C.kin Ix' S.next ⟨rfl,r'⟩
 ·have key:∀ (rem:List Nat) (st:Option Nat) (rest:List (List Nat)),Lx rem st rest->∀ (q:Nat) (ln:Int) (done:List (List Nat)),q<=w.length->w.drop q=rem->done++rest=ts->
    Js W (lv+1) x D (fun xs σ'=>Q (.ref D) σ') (rest.length+1) (done.map V.str) (shL x dx b db p f w q [] true (stV st) ln [] ((D,.list (done.map V.str))::σ)):=by
   intro rem st rest hL
   induction hL with
   | @stop rem st res hr hv=>
    intro q ln done hq hd he
    unfold Js
    subst hd
    refine kO P I S hst (okb hlv (by decide)) hw hq hr (fun _ q' ln'=>?_) (fun h=>absurd hv h)
    rw [List.append_nil] at he
    refine sr he ?_
    exact h D _ q' ln'
   | @tok rem st res ts' hr hv hL ih=>
    intro q ln done hq hd he
    refine sr List.length_cons ?_
    unfold Js
    subst hd
    refine kO P I S hst (okb hlv (by decide)) hw hq hr (fun h=>absurd h hv) (fun _ q' ln' hq' hd'=>?_)
    have hl:done.length<10000:=by
     have:=congrArg List.length he
     rw [List.length_append,List.length_cons] at this
     omega
    refine ⟨.tail _ (.tail _ (.tail _ (.tail _ (.tail _ (.tail _ (.head _)))))),by rw [List.length_map];exact hl,_,.there _ (.there _ (.there _ (.there _ (.there _ (.there _ (.here _ _)))))),?_⟩
    have:=ih q' ln' (done++[res.2.2.1]) hq' hd' (by rw [List.append_assoc];exact he)
    rw [List.map_append] at this
    exact this
  exact ⟨_,u9 (key w (some 32) ts hx 0 ln [] (Nat.zero_le _) rfl rfl) (.a1 (.a1 (.a1 (.a1 (.a1 (.a1 (.keep (Sub.refl _))))))))⟩
theorem kP {ts:List (List Nat)} (P:PrOk W.K) (I:SiOk W.K) (S:ShOk W.K) (hst:jq W.K 719=true) (hlv:lv<10) (hw:w.length<=4000000) (hx:Lx w (some 32) ts) (hts:ts.length<10000)
  (h:∀ D,Q (.ref D) ((D,.list (ts.map V.str))::σ)):zm W lv (.ref 734) [.str w] σ Q:=by
 refine zA P.h_split (oka hlv (by decide)) (show 1<=3 by decide) (show 3<=1+2 by decide) ?_
 refine za (p:=.pass) ?_
 refine za (zI (b:=false) rfl ?_)
 refine za (G6 S.make fun x dx=>xZ P I S (okg (okb hlv (by decide))) fun b db p f=>⟨rfl,?_⟩)
 refine za (Qx S ?_)
 refine za ?_
 refine za (yq S ?_)
 refine za (Xg P I S hst (okb hlv (by decide)) hw hx hts fun D st q' ln'=>?_)
 exact ⟨_,(Sub.refl _).skip.skip.skip.skip.skip.skip,h D⟩
end
end
section
noncomputable abbrev WL:=List (Addr×List Wo)
noncomputable abbrev wE (L:WL):Led:=L.map fun p=>(p.1,O.list (p.2.map V.str))
noncomputable abbrev refs {α:Type} (L:List (Addr×α)):List V:=L.map fun p=>V.ref p.1
noncomputable def Has (σ:Led) (L:WL):Prop:=∀ p∈L,(p.1,O.list (p.2.map V.str))∈σ
theorem Has.here {L:WL} {σ:Led}:Has (wE L++σ) L:=fun p hp=>List.mem_append_left _ (List.mem_map.mpr ⟨p,hp,rfl⟩)
theorem Has.mono {L:WL} {σ σ':Led} (h:Has σ L) (k:∀ p∈σ,p∈σ'):Has σ' L:=fun p hp=>k _ (h p hp)
theorem DRs.refs {σ:Led}:∀ {L:WL},Has σ L->DRs σ (Mine.refs L) (L.map fun p=>dW p.2)
 | [],_=>.nil
 | p::L,h=>.cons (.words (h p (.head _))) (DRs.refs fun q hq=>h q (.tail _ hq))
theorem HM {V:List (List Wo)} (h:∀ ws∈V,∀ w∈ws,PW w):(PyData.list (V.map dW)).canLay0=true/\(PyData.list (V.map dW)).depth<=100:=by
 have:=xp (ds:=V.map dW) (k:=1) fun d hd=>by
  refine e12 (List.mem_map.mp hd) fun ws hw w0=>?_;subst w0
  exact XW (h ws hw)
 refine ⟨this.1,?_⟩
 show PyData.depthAll (V.map dW)+1<=100
 exact okb this.2 (by decide)
section
variable {W:Wd} {lv:Nat} {σ σ':Led} {Q:V->Led->Prop}
theorem qY {a b:Addr} {A B:WL} (hlv:lv<100) (ma:(a,O.list (refs A))∈σ) (mb:(b,O.list (refs B))∈σ) (hA:Has σ A) (hB:Has σ B) (e:A.map (·.2)=B.map (·.2)) (hp:∀ p∈A,∀ w∈p.2,PW w) (h:Q (.bool true) σ) :
  Op W lv (.cmp .Eq) [.ref a,.ref b] σ Q:=by
 have eA:(A.map fun p=>dW p.2)=(A.map (·.2)).map dW:=by refine sr List.map_map ?_;rfl
 have eB:(B.map fun p=>dW p.2)=(A.map (·.2)).map dW:=by refine sr e (sr List.map_map ?_);rfl
 have l:=HM (V:=A.map (·.2)) fun ws hw=>by
  refine e12 (List.mem_map.mp hw) fun p hp' w0=>?_;subst w0
  exact hp p hp'
 exact qT hlv (.list ma (eA ▸ DRs.refs hA)) (.list mb (eB ▸ DRs.refs hB)) l.1 l.2 h
theorem ZL {α:Type} {ys:List α} {x:α}:atIdx (ys++[x]) (-1)=some x:=by
 unfold atIdx
 refine sr (if_pos (by decide)) (sr (if_pos (by rw [List.length_append,List.length_singleton];omega)) (sr List.length_append (sr List.length_singleton ?_)))
 rw [show ((-1:Int)+((ys.length+1:Nat):Int)).toNat=ys.length by lia]
 simp
noncomputable def va (Vs:WL) (j:Nat):Addr:=(Vs.map (·.1)).getD j 0
noncomputable def vv (Vs:WL) (j:Nat):List Wo:=(Vs.map (·.2)).getD j []
section
variable {Vs:WL} {j:Nat}
theorem Q7 (hj:j<Vs.length):(va Vs j,vv Vs j)∈Vs:=by
 have e:(va Vs j,vv Vs j)=Vs[j]:=by
  rw [va,vv,List.getD_eq_getElem?_getD,List.getD_eq_getElem?_getD,List.getElem?_map,List.getElem?_map,List.getElem?_eq_getElem hj];rfl
 refine sr e ?_;exact List.getElem_mem hj
theorem kQ (hj:j<Vs.length):atIdx (refs Vs) (j:Int)=some (.ref (va Vs j)):=qr (by
 rw [refs,List.getElem?_map,va,List.getD_eq_getElem?_getD,List.getElem?_map,List.getElem?_eq_getElem hj];rfl)
theorem yv (hj:j<Vs.length):(Vs.map (·.2))[j]?=some (vv Vs j):=by
 rw [vv,List.getD_eq_getElem?_getD,List.getElem?_map,List.getElem?_eq_getElem hj];rfl
theorem Ua {A:List Wo} (h:(Vs.map (·.2))[j]?=some A):A=vv Vs j:=by
 rw [vv,List.getD_eq_getElem?_getD,h];rfl
theorem Je {n:Nat} (h:n+1=Vs.length):refs Vs=(refs Vs).take n++[.ref (va Vs n)]:=by
 have hn:n<Vs.length:=h ▸ Nat.lt_succ_self n
 have hl:(refs Vs).length=n+1:=(List.length_map _).trans h.symm
 have e:=List.take_succ_eq_append_getElem (l:=refs Vs) (i:=n) (hl ▸ Nat.lt_succ_self n)
 rw [List.take_of_length_le (Nat.le_of_eq hl)] at e
 refine e.trans (congrArg (fun x=>(refs Vs).take n++[x]) (Option.some.inj ((List.getElem?_eq_getElem _).symm.trans ?_)))
 rw [refs,List.getElem?_map,va,List.getD_eq_getElem?_getD,List.getElem?_map,List.getElem?_eq_getElem hn];rfl
end
structure Pf (VV:List (List Wo)) (i:Nat) (fs:WL):Prop where
 e:fs.map (·.2)=VV.take (i+1)
 l:i<VV.length
variable {VV:List (List Wo)} {i:Nat} {fs:WL} {τ:Led} {K:AFl->List (Option V)->Led->Prop}
theorem Pf.len (h:Pf VV i fs):fs.length=i+1:=by refine sq (List.length_map (f:=(·.2))) (sr h.e (sr List.length_take ?_));exact Nat.min_eq_left h.l
theorem Pf.last (h:Pf VV i fs):vv fs i=VV.getD i []:=by
 rw [vv,h.e,List.getD_eq_getElem?_getD,List.getD_eq_getElem?_getD,List.getElem?_take_of_lt (Nat.lt_succ_self i)]
theorem Pf.snoc (h:Pf VV i fs) (hi:i+1<VV.length) (d:Addr):Pf VV (i+1) (fs++[(d,VV.getD (i+1) [])]) where
 e:=by rw [List.map_append,h.e,List.take_add_one (i:=i+1),List.getD_eq_getElem?_getD,List.getElem?_eq_getElem hi];rfl
 l:=hi
theorem Pf.all (h:Pf VV i fs) (hl:VV.length=i+1):fs.map (·.2)=VV:=by exact sr h.e (sq hl (sr List.take_length rfl))
theorem Pf.mem (h:Pf VV i fs):(va fs i,VV.getD i [])∈fs:=h.last ▸ Q7 (h.len ▸ Nat.lt_succ_self i)
structure FBk (σ:Led) (a t:Addr) (Vs:WL) (S:List (Addr×List Tk)):Prop where
 ma:(a,O.list (refs Vs))∈σ
 mt:(t,O.list (refs S))∈σ
 hV:Has σ Vs
 hS:∀ p∈S,(p.1,O.list ((p.2.map Tk.enc).map V.str))∈σ
 hn:Vs.length=S.length+1
 hlen:S.length<=100
 hl:∀ p∈Vs,p.2.length<=1000/\∀ w∈p.2,PW w
 hok:∀ p∈S,∀ k∈p.2,k.ok
 f:∀ i p,S[i]?=some p->rp false (vv Vs i) p.2 [] 0=some (vv Vs (i+1))/\rp true (vv Vs (i+1)) p.2 [] 0=some (vv Vs i)
variable {a t Fl Bl la:Addr} {Vs:WL} {S:List (Addr×List Tk)} {p:Addr×List Tk}
theorem FBk.mono (F:FBk σ a t Vs S) (m:∀ q∈σ,q∈τ):FBk τ a t Vs S:=⟨m _ F.ma,m _ F.mt,F.hV.mono m,fun p hp=>m _ (F.hS p hp),F.hn,F.hlen,F.hl,F.hok,F.f⟩
theorem FBk.runs (F:FBk σ a t Vs S) (P:PrOk W.K) (hlv:lv<90) (e:S[i]?=some p) (side:Bool) (m:(la,O.list ((vv Vs (cond side (i+1) i)).map V.str))∈τ) (hm:∀ q∈σ,q∈τ)
  (h:∀ d,Q (.ref d) ((d,.list ((vv Vs (cond side i (i+1))).map V.str))::τ)):zm W lv (.ref 1112) [.ref la,.ref p.1,hW side] τ Q:=by
 have hi:=(List.getElem?_eq_some_iff.mp e).1
 have o1:=F.hl _ (Q7 (oky hi F.hn))
 have o2:=F.hl _ (Q7 (okz hi F.hn))
 have mem:=List.mem_of_getElem? e
 cases side
 ·exact jQ P hlv m (hm _ (F.hS _ mem)) (okc o1.1 (by decide)) (okc o2.1 (by decide)) (F.hok _ mem) o1.2 (F.f i p e).1 h
 ·exact jQ P hlv m (hm _ (F.hS _ mem)) (okc o2.1 (by decide)) (okc o1.1 (by decide)) (F.hok _ mem) o2.2 (F.f i p e).2 h
noncomputable abbrev fS (n:Nat):PS:=Zd.body.getD n .pass
theorem Ub {d:Addr} {X:List Wo}:wE (fs++[(d,X)])++σ=wE fs++([(d,O.list (X.map V.str))]++σ):=by rw [wE,List.map_append,List.append_assoc];rfl
theorem yw {d:Addr} {X:List Wo}:refs (fs++[(d,X)])=refs fs++[.ref d]:=List.map_append
theorem zb8 {R:List PS} {bl:Addr} (F:FBk σ a t Vs S) (P:PrOk W.K) (hlv:lv<90) {f0:Addr} (z:vv Vs 0=[]) (hs:Sub ((Fl,.list [.ref f0])::(Bl,.list [.ref bl])::(f0,.list [])::σ) τ)
  (h:∀ fs r4,Pf (Vs.map (·.2)) S.length fs->aexs W lv [] R [some (.ref a),some (.ref t),some (.ref Fl),some (.ref Bl),r4] ((Fl,.list (refs fs))::(Bl,.list [.ref bl])::(wE fs++σ)) K) :
  aexs W lv [] (fS 1::R) [some (.ref a),some (.ref t),some (.ref Fl),some (.ref Bl),none] τ K:=by
 have hl:(Vs.map (·.2)).length=S.length+1:=(List.length_map _).trans F.hn
 refine ze hs (zB (.tail _ (.tail _ (.tail _ F.mt))) ?_)
 refine zL (α:=WL×Option V) (xs:=refs S) (ρf:=fun s=>[some (.ref a),some (.ref t),some (.ref Fl),some (.ref Bl),s.2]) (σf:=fun s=>(Fl,.list (refs s.1))::(Bl,.list [.ref bl])::(wE s.1++σ)) (.inl rfl)
  (fun i s=>Pf (Vs.map (·.2)) i s.1) (fun s=>.tail _ (.tail _ (List.mem_append_right _ F.mt))) ?_ (fun s hp=>h s.1 s.2 (List.length_map (f:=fun p:Addr×List Tk=>V.ref p.1) (as:=S) ▸ hp)) (s:=([(f0,[])],none)) ⟨by refine sr List.take_add_one (sr (yv (F.hn ▸ Nat.succ_pos _)) (sr z ?_));rfl,hl ▸ Nat.succ_pos _⟩
 rintro i x R hx ⟨fs,r4⟩ hp hR _ _
 rw [List.getElem?_map,Option.map_eq_some_iff] at hx
 obtain ⟨p,hs,rfl⟩:=hx
 have hi:=(List.getElem?_eq_some_iff.mp hs).1
 refine za (zk (.head _) (Qg (item_list (.head _) (Je hp.len.symm ▸ ZL) ?_)))
 refine F.runs P hlv hs false (.tail _ (.tail _ (Has.here _ hp.mem))) (fun q hq=>.tail _ (.tail _ (List.mem_append_right _ hq))) fun d=>?_
 refine zq (.tail _ (.head _)) (by rw [List.length_map,hp.len];exact okb (Nat.succ_le_of_lt hi) (okb F.hlen (by decide))) (.there _ (.here _ _)) ?_
 refine hR _ (fs++[(d,vv Vs (i+1))],some (.ref p.1)) _ (.inl rfl) (hp.snoc (okz hi hl) d) ?_
 refine (?_:Sub ((Fl,O.list (refs (fs++[(d,vv Vs (i+1))])))::(Bl,.list [.ref bl])::(wE (fs++[(d,vv Vs (i+1))])++σ)) _)
 refine sr Ub (sr yw ?_)
 exact .a1 (.a1 Sub.uE)
theorem Gb {n j:Nat} (hn:Vs.length=n+1) (hj:j<=n):((Vs.map (·.2)).reverse).getD j []=vv Vs (n-j):=by
 rw [vv,List.getD_eq_getElem?_getD,List.getD_eq_getElem?_getD,List.getElem?_reverse (by rw [List.length_map,hn];exact okg hj),List.length_map,hn];rfl
theorem zb9 {R:List PS} {r4:Option V} {bl:Addr} {wl:List Wo} (F:FBk σ a t Vs S) (P:PrOk W.K) (hlv:lv<90) (e:(bl,wl)=(va Vs S.length,vv Vs S.length)) (hs:Sub ((Bl,.list [.ref bl])::σ) τ)
  (h:∀ bs r4 τ,Pf (Vs.map (·.2)).reverse S.length ((bl,wl)::bs)->(∀ q∈σ,q∈τ)->Has τ ((bl,wl)::bs)->(Bl,O.list (refs ((bl,wl)::bs)))∈τ->Sub σ τ->aexs W lv [] R [some (.ref a),some (.ref t),some (.ref Fl),some (.ref Bl),r4] τ K) :
  aexs W lv [] (fS 2::R) [some (.ref a),some (.ref t),some (.ref Fl),some (.ref Bl),r4] τ K:=by
 have hl:((Vs.map (·.2)).reverse).length=S.length+1:=by rw [List.length_reverse,List.length_map];exact F.hn
 have mb:(bl,O.list (wl.map V.str))∈σ:=F.hV (bl,wl) (by refine sr e ?_;exact Q7 (F.hn ▸ Nat.lt_succ_self _))
 have hB:∀ bs τ,(∀ q∈wE bs++σ,q∈τ)->Has τ ((bl,wl)::bs):=fun bs τ m q hq=>m _ (by
  refine mc hq ?_ fun hq=>?_
  ·exact List.mem_append_right _ mb
  ·exact Has.here q hq)
 refine ze hs (Qg (XM (.tail _ F.mt) fun rs=>zB (.head _) ?_))
 have erv:(refs S).reverse=refs S.reverse:=by rw [refs,refs,List.map_reverse]
 refine sr erv ?_
 refine zL (α:=WL×Option V) (xs:=refs S.reverse) (ρf:=fun s=>[some (.ref a),some (.ref t),some (.ref Fl),some (.ref Bl),s.2]) (σf:=fun s=>(rs,.list (refs S.reverse))::(Bl,.list (refs ((bl,wl)::s.1)))::(wE s.1++σ)) (.inl rfl)
  (fun i s=>Pf (Vs.map (·.2)).reverse i ((bl,wl)::s.1)) (fun s=>.head _) ?_ (fun s hp=>h s.1 s.2 _ ((List.length_map (f:=fun p:Addr×List Tk=>V.ref p.1) (as:=S.reverse)).trans List.length_reverse ▸ hp) (fun q hq=>.tail _ (.tail _ (List.mem_append_right _ hq))) (hB _ _ fun q hq=>.tail _ (.tail _ hq)) (.tail _ (.head _)) (Sub.of_append.skip.skip)) (s:=([],r4)) ⟨?_,hl ▸ Nat.succ_pos _⟩
 ·rintro j x R hx ⟨bs,r4⟩ hp hR _ _
  rw [List.getElem?_map,Option.map_eq_some_iff] at hx
  obtain ⟨p,hs,rfl⟩:=hx
  have hj:j<S.length:=by have:=(List.getElem?_eq_some_iff.mp hs).1;rwa [List.length_reverse] at this
  rw [List.getElem?_reverse hj] at hs
  have e1:S.length-1-j+1=S.length-j:=by rw [Nat.sub_right_comm];exact Nat.sub_add_cancel (Nat.sub_pos_of_lt hj)
  have e2:S.length-1-j=S.length-(j+1):=by rw [Nat.sub_sub,Nat.add_comm]
  have hla:=hB bs ((rs,.list (refs S.reverse))::(Bl,.list (refs ((bl,wl)::bs)))::(wE bs++σ)) (fun q hq=>.tail _ (.tail _ hq)) _ hp.mem
  rw [Gb F.hn (okd hj),← e1] at hla
  refine za (zk (.tail _ (.head _)) (Qg (item_list (.tail _ (.head _)) (Je hp.len.symm ▸ ZL) ?_)))
  refine F.runs P hlv hs true hla (fun q hq=>.tail _ (.tail _ (List.mem_append_right _ hq))) fun d=>?_
  refine zq (.tail _ (.tail _ (.head _))) (by rw [List.length_map,hp.len];exact okb (Nat.succ_le_of_lt hj) (okb F.hlen (by decide))) (.there _ (.there _ (.here _ _))) ?_
  have hp':=hp.snoc (okz hj hl) d
  rw [Gb F.hn hj,← e2] at hp'
  refine hR _ (bs++[(d,vv Vs (S.length-1-j))],some (.ref p.1)) _ (.inl rfl) hp' ?_
  refine (?_:Sub ((rs,O.list (refs S.reverse))::(Bl,.list (refs (((bl,wl)::bs)++[(d,vv Vs (S.length-1-j))])))::(wE (bs++[(d,vv Vs (S.length-1-j))])++σ)) _)
  refine sr Ub (sr yw ?_)
  exact .a1 (.a1 Sub.uE)
 ·rw [List.take_add_one,List.getElem?_reverse (by rw [List.length_map,F.hn];exact Nat.succ_pos _),List.length_map,F.hn]
  refine (?_:[wl]=((Vs.map (·.2))[S.length]?).toList)
  refine sr (yv (F.hn ▸ Nat.lt_succ_self _)) (sr ((Prod.mk.inj e).2) ?_);rfl
theorem HN (P:PrOk W.K) (hlv:lv<60) (ma:(a,O.list (refs Vs))∈σ) (mt:(t,O.list (refs S))∈σ) (hV:Has σ Vs) (hS:∀ p∈S,(p.1,O.list ((p.2.map Tk.enc).map V.str))∈σ)
  (hn:Vs.length=S.length+1) (hlen:S.length<=100) (hl:∀ p∈Vs,p.2.length<=1000/\∀ w∈p.2,PW w) (hok:∀ p∈S,∀ k∈p.2,k.ok) (h0:(Vs.map (·.2))[0]?=some [])
  (hf:∀ i A T B,(Vs.map (·.2))[i]?=some A->(S.map (·.2))[i]?=some T->(Vs.map (·.2))[i+1]?=some B->rp false A T [] 0=some B/\rp true B T [] 0=some A)
  (h:Q (.bool true) σ):zm W lv (.ref 1119) [.ref a,.ref t] σ Q:=by
 have F:FBk σ a t Vs S:=⟨ma,mt,hV,hS,hn,hlen,hl,hok,fun i p e=>
  have hi:=(List.getElem?_eq_some_iff.mp e).1
  hf i _ _ _ (yv (oky hi hn)) (by rw [List.getElem?_map,e];rfl) (yv (okz hi hn))⟩
 refine zA P.h_forth_and_back (oka hlv (by decide)) (Nat.le_refl 2) (Nat.le_refl 2) ?_
 refine za ⟨rfl,zC (Nat.zero_le _) fun f0=>zC (show 1<=16777216 by decide) fun Fl=>Qg (item_list (.tail _ (.tail _ ma)) (Je hn.symm ▸ ZL) ?_)⟩
 refine zC (show 1<=16777216 by decide) fun Bl=>zK (show 2<=16777216 by decide) fun dt=>zp (.head _) rfl ?_
 refine zb8 F P (okb hlv (by decide)) (Ua h0).symm (Sub.skip (.a1 (.keep (Sub.refl _)))) fun fs r4 hp=>?_
 have m1:∀ q∈σ,q∈(Fl,O.list (refs fs))::(wE fs++σ):=fun q hq=>.tail _ (List.mem_append_right _ hq)
 refine zb9 (F.mono m1) P (okb hlv (by decide)) rfl (.a1 (.keep (Sub.refl _))) fun bs r4 τ hb m2 hB mB sb=>?_
 have hfs:=hp.all ((List.length_map _).trans hn)
 have hl':∀ {L:WL} {VV:List (List Wo)},L.map (·.2)=VV->(∀ ws∈VV,ws∈Vs.map (·.2))->∀ p∈L,∀ w∈p.2,PW w:=fun e m p hp=>by
  refine e12 (List.mem_map.mp (m p.2 (e ▸ List.mem_map_of_mem hp))) fun q hq eq=>?_
  exact eq ▸ (hl q hq).2
 refine za (qY (okb hlv (by decide)) (m2 _ (.head _)) (m2 _ (m1 _ ma)) (fun p hp=>m2 _ (.tail _ (Has.here p hp))) (hV.mono fun p hp=>m2 _ (m1 _ hp)) hfs (hl' hfs fun _ h=>h) ?_)
 refine Qg (XM (m2 _ (m1 _ ma)) fun vr=>?_)
 have ev:(refs Vs).reverse=refs Vs.reverse:=by rw [refs,refs,List.map_reverse]
 refine sr ev ?_
 have hbs:=hb.all (by rw [List.length_reverse,List.length_map];exact hn)
 refine qY (B:=Vs.reverse) (okb hlv (by decide)) (.tail _ mB) (.head _) (fun p hp=>.tail _ (hB p hp)) (fun p hp=>.tail _ (m2 _ (m1 _ (hV p (List.mem_reverse.mp hp))))) (hbs.trans List.map_reverse.symm) (hl' hbs fun ws h=>List.mem_reverse.mp h) ?_
 exact ⟨σ,(Sub.trans (Sub.skip Sub.of_append) sb).skip,h⟩
end
end
section
noncomputable def six:List Wo:=[[],[105,116,39,115],[97,32,98],[61,49],[35,34],[45,49]]
noncomputable def OkW (w:Wo):Prop:=w.length<=4/\∀ c∈w,c<128/\c≠9/\c≠13/\c≠10
theorem zca:∀ w∈six,OkW w:=by unfold OkW;decide +kernel
section
variable {W:Wd} {lv:Nat} {σ σ':Led} {Q:V->Led->Prop}
theorem HO {test:V->Led->(Bool->Led->Prop)->Prop} {body:V->Led->(V->Led->Prop)->Prop} {a:Addr} {xs:List V} {g:V->V} {K:List V->Led->Prop} (m:(a,O.list xs)∈σ) (hl:xs.length<10000)
  (ht:∀ x∈xs,∀ R:Bool->Led->Prop,R true σ->test x σ R) (hb:∀ x∈xs,∀ R:V->Led->Prop,R (g x) σ->body x σ R) (h:K (xs.map g) σ):∃ n,ZG W lv test body n (.list a) 0 [] σ K:=by
 refine ⟨xs.length+1,?_⟩
 suffices ∀ k i,i+k=xs.length->ZG W lv test body (k+1) (.list a) i ((xs.take i).map g) σ K from this xs.length 0 (Nat.add_comm _ _)
 intro k
 induction k with
 | zero=>
  intro i hi
  have hi':i=xs.length:=hi
  subst hi'
  refine zH m ?_ (.inl rfl)
  rw [List.getElem?_eq_none (by simp),List.take_length]
  exact h
 | succ k ih=>
  intro i hi
  have hlt:i<xs.length:=oku hi
  refine zH m ?_ (.inl rfl)
  rw [List.getElem?_eq_getElem hlt]
  have key:=ih (i+1) (okv hi)
  rw [List.take_succ_eq_append_getElem hlt,List.map_append] at key
  exact ht _ (List.getElem_mem hlt) _ (hb _ (List.getElem_mem hlt) _ ⟨by rw [List.length_map,List.length_take];omega,key⟩)
theorem Uc {a:Addr} {o:Obj} {xs:List V} {vs:List Value} {n:Nat} {l u:V} (lo hi:Option Nat) (el:l=qJ lo) (eu:u=qJ hi) (m:(a,O.raw o)∈σ) (hc:o.cls=.type "list") (hd:o.data=.seq vs.toArray n) (hv:VRs xs vs) (hl:xs.length<=1000) (h:∀ d,Q (.ref d) ((d,.list (zM xs lo hi))::σ)):Z4 W lv false (.ref a) l u .none σ Q:=.sh fun c ρ Φ s lov uv C r zl zu=>by
 subst el;subst eu
 have r1:R0 W.prog W.w c.F ρ σ Φ { s with heap:=s.heap.push { cls:=.type "slice",data:=.fields #[lov,uv,.none] } }:=r.keeps (t:=s.toks) fun b o e=>Heap.get?_push_of_some _ e
 obtain ⟨o',g,zo⟩:=r1.get m
 obtain rfl:=zo.ZX
 have ia:Heap.IsList (s.heap.push { cls:=.type "slice",data:=.fields #[lov,uv,.none] }) a vs.toArray:=⟨_,g,hc,n,hd⟩
 have hlen:=hv.length
 refine qA list_getitem_lookup ia.typeIs ?_
 refine wpAny_getItem_list_slice ia (Heap.IsSliceOf.new s.heap lov uv .none) (Qi zl) (Qi zu) .none (by simp) ?_ (by refine (?_:vs.toArray.size<=2 ^ 24);simp;lia)
 rw [XK]
 exact ⟨_,_,.ref _,r1.newO (.list 0 (hv.part lo hi) (by have:=zT xs lo hi;exact okc this (okc hl (by decide)))) rfl,h _⟩
inductive Scr (σ:Led) (l:Addr) (ns:List Int):Prop
 | mk (o:Obj) (vs:List Value) (no:Nat) (ml:(l,O.raw o)∈σ) (hoc:o.cls=.type "list") (hod:o.data=.seq vs.toArray no) (hvs:VRs (ns.map V.int) vs) (hn:ns.length<=63)
variable {l dd vl la:Addr} {ns D:List Int} {τ:Led} {K:AFl->List (Option V)->Led->Prop}
theorem Ud (xs:List Int) (lo hi:Option Nat):zM (xs.map V.int) lo hi=(zM xs lo hi).map V.int:=by
 cases lo <;> cases hi <;> simp only [zM,List.map_take,List.map_drop]
theorem Scr.slice (s:Scr σ l ns) (m:∀ p∈σ,p∈τ) (lo hi:Option Nat) {a b:V} (ea:a=qJ lo) (eb:b=qJ hi) (h:∀ d,Q (.ref d) ((d,.list ((zM ns lo hi).map V.int))::τ)):Z4 W lv false (.ref l) a b .none τ Q:=
 match s with
 | .mk o vs no ml hoc hod hvs hn=>Uc lo hi ea eb (m _ ml) hoc hod hvs (by rw [List.length_map];exact okc hn (by decide)) fun d=>by rw [Ud];exact h d
structure Ue (ns D:List Int):Prop where
 le:D.length<=7
 eq:5<ns.length->D.length=7
 pos:∀ d∈D,0<=d
noncomputable def md (v:V):V:=match v with | .int i=>.int (i % 1000000) | v=>v
noncomputable abbrev vS (n:Nat):PS:=QA.body.getD n .pass
theorem dOk0:Ue ns ([15,32]++(ns.take 5).map (· % 1000000)) where
 le:=by rw [List.length_append,List.length_map,List.length_take];exact Nat.add_le_add_left (Nat.min_le_left _ _) 2
 eq h:=by rw [List.length_append,List.length_map,List.length_take,Nat.min_eq_left (okd h)];rfl
 pos d hd:=by
  refine ma hd (fun hd=>?_) fun hd=>?_
  ·exact (show ∀ d∈([15,32]:List Int),0<=d by decide) d hd
  ·refine e12 (List.mem_map.mp hd) fun n _ w0=>?_;subst w0;exact Int.emod_nonneg _ (by decide)
theorem Ug {R:List PS} (s:Scr σ l ns) (h:∀ dd D τ,Ue ns D->Sub ((dd,.list (D.map V.int))::σ) τ->aexs W lv [] R [some (.ref l),none,some (.ref dd),none,none,none,none,none,none] τ K) :
  aexs W lv [] (vS 0::R) [some (.ref l),none,none,none,none,none,none,none,none] σ K:=by
 refine za (zC (show 2<=16777216 by decide) fun d1=>s.slice (fun _ h=>.tail _ h) none (some 5) rfl rfl fun sl=>zB (.head _) ?_)
 have h5:(zM ns none (some 5)).length<=5:=List.length_take_le _ _
 refine HO (g:=md) (.head _) (by rw [List.length_map];exact okb h5 (by decide)) (fun x _ R hR=>hR) (fun x hx R hR=>?_) fun d2=>?_
 ·refine e12 (List.mem_map.mp hx) fun i _ w0=>?_;subst w0
  exact JP (qk (by decide) hR)
 refine Zx (.tail _ (.tail _ (.head _))) (.head _) (by rw [List.length_map,List.length_map];exact okc (Nat.add_le_add_left h5 2) (by decide)) fun dd=>?_
 have e0:[V.int 15,V.int 32]++((zM ns none (some 5)).map V.int).map md=(([15,32]:List Int)++(ns.take 5).map (· % 1000000)).map V.int:=by
  refine sr List.map_append (sr List.map_map (sr List.map_map ?_));rfl
 refine sr e0 ?_
 exact h dd _ _ dOk0 (.keep (Sub.refl _).skip.skip.skip)
theorem zaO {R:List PS} (s:Scr σ l ns) (hD:Ue ns D) (hs:Sub ((dd,.list (D.map V.int))::σ) τ) (h:∀ D r1 r3 τ,Ue ns D->Sub ((dd,.list (D.map V.int))::σ) τ->aexs W lv [] R [some (.ref l),r1,some (.ref dd),r3,none,none,none,none,none] τ K) :
  aexs W lv [] (vS 1::R) [some (.ref l),none,some (.ref dd),none,none,none,none,none,none] τ K:=by
 refine ze hs (s.slice (fun _ h=>.tail _ h) (some 5) (some 40) rfl rfl fun s2=>qb (.head _) ?_)
 have hpl:(zM ns (some 5) (some 40)).length<=ns.length-5:=by unfold zM;simp;exact Nat.min_le_right _ _
 refine ZY (α:=List Int×Option V×Option V) (cl:=[]) (ρf:=fun s=>[some (.ref l),s.2.1,some (.ref dd),s.2.2,none,none,none,none,none]) (σf:=fun _ s=>(s2,.list ((zM ns (some 5) (some 40)).map V.int))::(dd,.list (s.1.map V.int))::σ) (xf:=fun _=>(zM ns (some 5) (some 40)).map V.int)
  _ (fun _ s=>Ue ns s.1) (fun i s=>⟨rfl,.head _⟩) ?_ (fun t ht=>h t.1 _ _ _ ht (Sub.refl _).skip) (s:=(D,none,none)) hD
 intro i x t R hx ⟨D,r1,r3⟩ hp hR
 rw [List.getElem?_map,Option.map_eq_some_iff] at hx
 refine e12 hx fun n hn w0=>?_;subst w0
 have hi:=(List.getElem?_eq_some_iff.mp hn).1
 have hk:i % 7<D.length:=by refine sr (hp.eq (Nat.lt_of_sub_pos (ok0 (oka hi hpl)))) ?_;exact Nat.mod_lt _ (by decide)
 refine zp (.head _) rfl ?_
 refine ze ((Sub.refl _).skip) (qk (by decide) ?_)
 refine U6 (x:=.int D[i % 7]) (.tail _ (.head _)) (qr (i:=i % 7) (by rw [List.getElem?_map,List.getElem?_eq_getElem hk];rfl)) ?_
 refine JP (qk (by decide) (ZS ?_))
 refine set_list (.tail _ (.head _)) (Int.natCast_nonneg (i % 7)) (by rw [List.length_map];exact okj hk) (.there _ (.here _ _)) ?_
 refine hR _ (D.set (i % 7) (D[i % 7]+n % 1000000),_,_) _ (.inl rfl) ⟨by refine sr List.length_set ?_;exact hp.le,fun h=>by refine sr List.length_set ?_;exact hp.eq h,fun d hd=>?_⟩ ?_
 ·rcases List.mem_or_eq_of_mem_set hd with hd | rfl
  ·exact hp.pos d hd
  ·exact Int.add_nonneg (hp.pos _ (List.getElem_mem hk)) (Int.emod_nonneg n (by decide))
 ·refine sr List.map_set ?_;exact Sub.refl _
structure VP (n:Nat) (Vs:WL):Prop where
 len:Vs.length=n+1
 z:(Vs.map (·.2))[0]?=some []
 w:∀ p∈Vs,p.2.length<=2*n/\∀ w∈p.2,OkW w
theorem VP.snoc {n:Nat} {Vs:WL} {fr:Addr} {X:List Wo} (h:VP n Vs) (hX:X.length<=2*n+2) (hw:∀ w∈X,OkW w):VP (n+1) (Vs++[(fr,X)]) where
 len:=by refine sr List.length_append (sr h.len ?_);rfl
 z:=by rw [List.map_append,List.getElem?_append_left (by rw [List.length_map,h.len];exact Nat.succ_pos _)];exact h.z
 w p hp:=by
  refine ma hp (fun hp=>?_) fun hp=>?_
  ·exact ⟨okC (h.w p hp).1,(h.w p hp).2⟩
  ·refine sr (List.mem_singleton.mp hp) ?_;exact ⟨hX,hw⟩
structure VSt where
 Vs:WL
 r1:Option V
 r3:Option V
 r5:Option V
 r6:Option V
 r7:Option V
 r8:Option V
noncomputable def vρ (l dd vl:Addr) (s:VSt):List (Option V):=[some (.ref l),s.r1,some (.ref dd),s.r3,some (.ref vl),s.r5,s.r6,s.r7,s.r8]
noncomputable def vσ (dd vl:Addr) (D:List Int) (σ:Led) (s:VSt):Led:=(dd,.list (D.map V.int))::(vl,.list (refs s.Vs))::(wE s.Vs++σ)
noncomputable abbrev bV:List PS:=(vS 3).blk
noncomputable abbrev bV0:PS:=bV.getD 3 .pass
noncomputable abbrev bV1:PS:=bV0.alt.getD 0 .pass
noncomputable abbrev bV2:PS:=bV1.alt.getD 0 .pass
theorem zaP {n:Nat} {Vs:WL} {X:List Wo} {fr:Addr} {r1 r3 r5 r6 r7:Option V} (hp:VP n Vs) (hn:n<100) (hX:X.length<=2*n+2) (hw:∀ w∈X,OkW w) (hs:Sub ((fr,.list (X.map V.str))::vσ dd vl D σ ⟨Vs,r1,r3,r5,r6,r7,none⟩) τ)
  (hR:∀ s τ,VP (n+1) s.Vs->Sub (vσ dd vl D σ s) τ->K .next (vρ l dd vl s) τ):aexs W lv [] (bV.drop 4) [some (.ref l),r1,some (.ref dd),r3,some (.ref vl),r5,r6,r7,some (.ref fr)] τ K:=by
 refine ze hs (zk (.tail _ (.tail _ (.head _))) (zq (.tail _ (.tail _ (.head _))) (by rw [List.length_map,hp.len];exact okb hn (by decide)) (.there _ (.there _ (.here _ _))) ?_))
 refine hR ⟨Vs++[(fr,X)],r1,r3,r5,r6,r7,some (.ref fr)⟩ _ (hp.snoc hX hw) ?_
 have e2:wE (Vs++[(fr,X)])++σ=wE Vs++([(fr,O.list (X.map V.str))]++σ):=by rw [wE,List.map_append,List.append_assoc];rfl
 refine (?_:Sub ((dd,O.list (D.map V.int))::(vl,O.list (refs (Vs++[(fr,X)])))::(wE (Vs++[(fr,X)])++σ)) _)
 rw [e2,refs,List.map_append]
 exact .a1 (.a1 Sub.uE)
noncomputable def Uh (lw:List Wo) (K:AFl->List (Option V)->Led->Prop) (ρ:List (Option V)) (τ:Led):Prop:=∀ (X:List Wo) fr τ',X.length<=lw.length+2->(∀ w∈X,OkW w)->Sub ((fr,.list (X.map V.str))::τ) τ'->K .next (ρ.set 8 (some (.ref fr))) τ'
theorem qD {α:Type} {xs:List α} {a b:Option Nat} {x:α} (h:x∈zM xs a b):x∈xs:=by
 unfold zM at h
 split at h
 all_goals first | exact h | exact List.mem_of_mem_drop h | exact List.mem_of_mem_take h | exact List.mem_of_mem_drop (List.mem_of_mem_take h)
variable {lw:List Wo} {wo:Wo} {p:Nat} {r0 r1 r2 r4 r5 r8:Option V}
theorem QU {X Y:List Wo} (h:∀ w∈X,OkW w) (k:∀ w∈Y,OkW w):∀ w∈X++Y,OkW w:=fun w hw=>(List.mem_append.mp hw).elim (h w) (k w)
theorem YA {w:Wo} (h:OkW w):∀ v∈[w],OkW v:=fun v hv=>List.mem_singleton.mp hv ▸ h
theorem zcb (m:(la,O.list (lw.map V.str))∈τ) (hl:lw.length<=100) (hw:∀ w∈lw,OkW w) (hwo:OkW wo) (h:Uh lw K [r0,r1,r2,some (.int p),r4,r5,some (.ref la),some (.str wo),r8] τ) :
  aexs W lv [] bV0.blk [r0,r1,r2,some (.int p),r4,r5,some (.ref la),some (.str wo),r8] τ K:=by
 have l1:=okc (zT lw none (some p)) hl
 have l2:=okc (zT lw (some p) none) hl
 refine zc (slice_list none (some p) rfl rfl m fun a1=>zC (show 1<=16777216 by decide) fun a2=>?_)
 rw [part_map]
 refine Zx (ys:=[wo].map V.str) (.tail _ (.head _)) (.head _) (by rw [List.length_map];exact okc (Nat.add_le_add_right l1 1) (by decide)) fun a3=>slice_list (some p) none rfl rfl (.tail _ (.tail _ (.tail _ m))) fun a4=>?_
 rw [part_map,← List.map_append]
 refine Zx (.tail _ (.head _)) (.head _) (by rw [List.length_map,List.length_map,List.length_append];exact okc (Nat.add_le_add (Nat.add_le_add_right l1 1) l2) (by decide)) fun a5=>?_
 refine sq List.map_append ?_
 refine h _ a5 _ ?_ (QU (QU (fun w h=>hw w (qD h)) (YA hwo)) fun w h=>hw w (qD h)) (.keep (Sub.refl _).skip.skip.skip.skip)
 rw [Qs,Qt];simp;omega
theorem zcc (m:(la,O.list (lw.map V.str))∈τ) (hl:lw.length<=100) (hw:∀ w∈lw,OkW w) (hwo:OkW wo) (h:Uh lw K [r0,r1,r2,some (.int p),r4,r5,some (.ref la),some (.str wo),r8] τ) :
  aexs W lv [] bV1.blk [r0,r1,r2,some (.int p),r4,r5,some (.ref la),some (.str wo),r8] τ K:=by
 refine zc (slice_list none (some p) rfl rfl m fun a1=>Zl (slice_list (some (p+1)) none rfl rfl (.tail _ m) fun a2=>?_))
 rw [part_map,part_map]
 refine Zx (.tail _ (.head _)) (.head _) (by rw [List.length_map,List.length_map];exact okc (Nat.add_le_add (okc (zT lw none (some p)) hl) (okc (zT lw (some (p+1)) none) hl)) (by decide)) fun a3=>?_
 refine sq List.map_append ?_
 refine h _ a3 _ ?_ (QU (fun w h=>hw w (qD h)) fun w h=>hw w (qD h)) (.keep (Sub.refl _).skip.skip)
 rw [Qs,Qt];simp;omega
theorem zcd (m:(la,O.list (lw.map V.str))∈τ) (hl:lw.length<=100) (hw:∀ w∈lw,OkW w) (hwo:OkW wo) (h:Uh lw K [r0,r1,r2,some (.int p),r4,r5,some (.ref la),some (.str wo),r8] τ) :
  aexs W lv [] bV2.blk [r0,r1,r2,some (.int p),r4,r5,some (.ref la),some (.str wo),r8] τ K:=by
 refine zc (slice_list (some p) none rfl rfl m fun a1=>slice_list none (some p) rfl rfl (.tail _ m) fun a2=>?_)
 rw [part_map,part_map]
 refine Zx (.tail _ (.head _)) (.head _) (by rw [List.length_map,List.length_map];exact okc (Nat.add_le_add (okc (zT lw (some p) none) hl) (okc (zT lw none (some p)) hl)) (by decide)) fun a3=>?_
 refine sq List.map_append ?_
 refine h _ a3 _ ?_ (QU (fun w h=>hw w (qD h)) fun w h=>hw w (qD h)) (.keep (Sub.refl _).skip.skip)
 rw [Qs,Qt];simp;omega
theorem zce (m:(la,O.list (lw.map V.str))∈τ) (hl:lw.length<=100) (hw:∀ w∈lw,OkW w) (hwo:OkW wo) (h:Uh lw K [r0,r1,r2,some (.int p),r4,r5,some (.ref la),some (.str wo),r8] τ) :
  aexs W lv [] bV2.alt [r0,r1,r2,some (.int p),r4,r5,some (.ref la),some (.str wo),r8] τ K:=by
 refine zc (zC (show 1<=16777216 by decide) fun a1=>Zx (xs:=[wo].map V.str) (.head _) (.tail _ m) (by rw [List.length_map,List.length_map];exact okc (Nat.add_le_add_left hl 1) (by decide)) fun a2=>zC (show 1<=16777216 by decide) fun a3=>?_)
 refine sq List.map_append ?_
 refine Zx (ys:=[wo].map V.str) (.tail _ (.head _)) (.head _) (by rw [List.length_map,List.length_append];exact okc (Nat.add_le_add_right (Nat.add_le_add_left hl 1) 1) (by decide)) fun a4=>?_
 refine sq List.map_append ?_
 refine h _ a4 _ ?_ (QU (QU (YA hwo) hw) (YA hwo)) (.keep (Sub.refl _).skip.skip.skip)
 refine sr List.length_append (sr List.length_append ?_);exact Nat.le_of_eq (congrArg (· + 1) (Nat.add_comm _ _))
theorem Xh {a b:Int} (h1:Q (.bool true) σ) (h2:Q (.bool false) σ):Op W lv (.cmp .Eq) [.int a,.int b] σ Q:=gv (dec2 (F:=fun b=>Q (.bool b) σ) (fun _=>h1) fun _=>h2)
theorem HP {deed:Int} (m:(la,O.list (lw.map V.str))∈τ) (hl:lw.length<=100) (hw:∀ w∈lw,OkW w) (hwo:OkW wo) (h:Uh lw K [r0,r1,r2,some (.int p),r4,some (.int deed),some (.ref la),some (.str wo),r8] τ) :
  aex W lv [] bV0 [r0,r1,r2,some (.int p),r4,some (.int deed),some (.ref la),some (.str wo),r8] τ K:=by
 refine qk (by decide) (Xh (zcb m hl hw hwo h) (zc (p:=bV1) ?_))
 refine qk (by decide) (Xh (zcc m hl hw hwo h) (zc (p:=bV2) ?_))
 exact qk (by decide) (Xh (zcd m hl hw hwo h) (zce m hl hw hwo h))
theorem HQ {n:Nat} {deed:Int} (s:VSt) (e5:s.r5=some (.int deed)) (hd:0<=deed) (hp:VP n s.Vs) (hn:n<49) (hR:∀ s τ,VP (n+1) s.Vs->Sub (vσ dd vl D σ s) τ->K .next (vρ l dd vl s) τ) :
  aexs W lv [] bV (vρ l dd vl s) (vσ dd vl D σ s) K:=by
 obtain ⟨Vs,r1,r3,r5,r6,r7,r8⟩:=s
 cases e5
 have hlt:n<Vs.length:=oku hp.len.symm
 have hlw:=hp.w _ (Q7 hlt)
 have hl:(vv Vs n).length<=100:=okc hlw.1 (okc (Nat.mul_le_mul_left 2 (okd hn)) (by decide))
 have mla:(va Vs n,O.list ((vv Vs n).map V.str))∈wE Vs++σ:=Has.here _ (Q7 hlt)
 refine za (Qg (item_list (.tail _ (.head _)) (Je hp.len.symm ▸ ZL) ?_))
 refine za (zC (xs:=six.map V.str) (show 6<=16777216 by decide) fun wl=>Y1 (by decide) (by decide) (qk (by decide) ?_))
 have hk:((deed / 4) % 6).toNat<six.length:=by show _<6;lia
 refine sq (Int.toNat_of_nonneg (Int.emod_nonneg (deed / 4) (show (6:Int)≠0 by decide))) ?_
 refine item_list (x:=.str six[((deed / 4) % 6).toNat]) (.head _) (qr (by rw [List.getElem?_map,List.getElem?_eq_getElem hk];rfl)) ?_
 have hwo:=zca _ (List.getElem_mem hk)
 generalize six[((deed / 4) % 6).toNat]=wo at hwo
 refine ze ((Sub.refl _).skip) (Y1 (by decide) (by decide) (Zy (.tail _ (.tail _ mla)) (Zl (qk (by rw [List.length_map];exact okj (okY (Nat.le_add_left _ _) (by decide))) ?_))))
 rw [List.length_map,← Int.toNat_of_nonneg (Int.emod_nonneg (deed / 24) (show (((vv Vs n).length:Int)+1)≠0 from oko (Nat.succ_ne_zero _)))]
 exact za (HP (.tail _ (.tail _ mla)) hl hlw.2 hwo fun X fr τ hX hw hs=>zaP hp (okb (okd hn) (by decide)) (okc hX (Nat.add_le_add_right hlw.1 2)) hw hs hR)
theorem YB {o:Obj} {vs:List Value} {no:Nat} (P:PrOk W.K) (hlv:lv<60) (ml:(l,O.raw o)∈σ) (hoc:o.cls=.type "list") (hod:o.data=.seq vs.toArray no) (hvs:VRs (ns.map V.int) vs) (hn:ns.length<=63)
  (h:∀ d (Vs:WL),1<=Vs.length->Vs.length<=8->(Vs.map (·.2))[0]?=some []->(∀ p∈Vs,p.2.length<=14/\∀ w∈p.2,OkW w)->Q (.ref d) ((d,.list (refs Vs))::(wE Vs++σ))) :
  zm W lv (.ref 1095) [.ref l] σ Q:=by
 have s:Scr σ l ns:=.mk o vs no ml hoc hod hvs hn
 refine zA P.h_versions (oka hlv (by decide)) (Nat.le_refl 1) (Nat.le_refl 1) ?_
 refine Ug s fun dd D τ hD hs=>zaO s hD hs fun D r1 r3 τ hD hs=>?_
 refine ze hs (zC (Nat.zero_le _) fun v0=>zC (show 1<=16777216 by decide) fun vl=>?_)
 refine ze (σ':=vσ dd vl D σ ⟨[(v0,[])],r1,r3,none,none,none,none⟩) (.a2 (.keep (.keep (Sub.refl _)))) (zB (.head _) ?_)
 refine zL (xs:=D.map V.int) (ρf:=vρ l dd vl) (σf:=vσ dd vl D σ) (.inl rfl) (fun n s=>VP n s.Vs) (fun _=>.head _) ?_ (fun s hp=>?_) (s:=⟨[(v0,[])],r1,r3,none,none,none,none⟩) ⟨rfl,rfl,fun p hp=>by refine sr (List.mem_singleton.mp hp) ?_;exact ⟨Nat.zero_le _,fun w hw=>by exact nn9 hw⟩⟩
 ·intro n x R hx s hp hR _ _
  rw [List.getElem?_map,Option.map_eq_some_iff] at hx
  obtain ⟨deed,hdeed,rfl⟩:=hx
  have hn9:n<49:=oka (oka (List.getElem?_eq_some_iff.mp hdeed).1 hD.le) (by decide)
  exact HQ ⟨s.Vs,s.r1,s.r3,some (.int deed),s.r6,s.r7,s.r8⟩ rfl (hD.pos _ (List.mem_of_getElem? hdeed)) hp hn9 fun s' τ hp' hs=>hR _ s' τ (.inl rfl) hp' hs
 ·rw [List.length_map] at hp
  have hl:=hp.len
  exact za ⟨_,(Sub.refl _).skip,h vl s.Vs (hl ▸ Nat.succ_pos _) (hl ▸ Nat.succ_le_succ hD.le) hp.z fun p hm=>⟨okc (hp.w p hm).1 (Nat.mul_le_mul_left 2 hD.le),(hp.w p hm).2⟩⟩
end
end
section
theorem rt_e:∀ (r:List Nat) (qd:Bool) (e e' k:Nat) (t:List Nat),k≠92->rt r qd e (some k) t=rt r qd e' (some k) t
 | [],_,_,_,_,_,_=>rfl
 | c::r,qd,e,e',k,t,hk=>by
  unfold rt
  by_cases h32:k=32
  ·refine sr (if_pos h32) (sr (if_pos h32) ?_)
   split
   ·split
    ·rfl
    ·exact rt_e r _ _ _ _ _ (by decide)
   ·rename_i hw
    split
    ·rfl
    ·rename_i h92
     split
     ·exact rt_e r _ _ _ _ _ h92
     ·exact rt_e r _ _ _ _ _ (by decide)
  ·refine sr (if_neg h32) (sr (if_neg h32) ?_)
   split
   ·rename_i hq
    split
    ·exact rt_e r _ _ _ _ _ (by decide)
    ·split
     ·rfl
     ·exact rt_e r _ _ _ _ _ hk
   ·try simp only [if_neg hk]
    split
    ·split
     ·split
      ·rfl
      ·exact rt_e r _ _ _ _ _ (by decide)
     ·split
      ·rename_i hq
       exact rt_e r _ _ _ _ _ (by rintro rfl;simp at hq)
      ·split
       ·rfl
       ·exact rt_e r _ _ _ _ _ (by decide)
    ·rfl
theorem Zb:∀ ws:List (List Nat),qG [] ws=ws.flatten
 | []=>rfl
 | [w]=>by simp [qG]
 | w::v::ws=>by
  have:=Zb (v::ws)
  simp only [qG] at this ⊢
  refine sr this ?_;simp
noncomputable def NoWs (w:List Nat):Prop:=∀ c∈w,c≠9/\c≠13/\c≠10
noncomputable abbrev fl1 (S:List Nat) (w:List Nat):List Nat:=(w.map (esc1 S)).flatten
theorem Ui:∀ (cs r:List Nat) (e:Nat) (t:List Nat),NoWs cs->rt (fl1 [32,39,34,92] cs++r) false e (some 97) t=rt r false e (some 97) (t++cs)
 | [],r,e,t,_=>by rw [List.append_nil];rfl
 | c::cs,r,e,t,h=>by
  have hc:=h c (.head _)
  have ih:=fun e t=>Ui cs r e t fun d hd=>h d (.tail _ hd)
  rw [show fl1 [32,39,34,92] (c::cs)=esc1 [32,39,34,92] c++fl1 [32,39,34,92] cs from rfl,List.append_assoc]
  unfold esc1
  by_cases hS:c∈[32,39,34,92]
  ·refine sr (if_pos hS) ?_
   refine (?_:rt (92::c::(fl1 [32,39,34,92] cs++r)) _ _ _ _=_)
   have e1:∀ x,rt (92::x) false e (some 97) t=rt x false 97 (some 92) t:=fun x=>by
    conv=>lhs;unfold rt
    simp
   have e2:∀ x,rt (c::x) false 97 (some 92) t=rt x false 97 (some 97) (t++[c]):=fun x=>by
    conv=>lhs;unfold rt
    simp
   rw [e1,e2,ih,rt_e _ _ 97 e _ _ (by decide)]
   simp
  ·refine sr (if_neg hS) ?_
   simp only [List.mem_cons,List.mem_nil_iff,or_false,not_or] at hS
   refine e04 hS fun h1 h2 h3 h4=>?_
   have e1:∀ x,rt (c::x) false e (some 97) t=rt x false e (some 97) (t++[c]):=fun x=>by
    conv=>lhs;unfold rt
    simp [h1,h2,h3,h4,hc.1,hc.2.1,hc.2.2]
   refine (?_:rt (c::(fl1 [32,39,34,92] cs++r)) _ _ _ _=_)
   rw [e1,ih]
   simp
theorem HR {c:Nat} {cs r:List Nat} {e:Nat} (h:NoWs (c::cs)):rt (fl1 [32,39,34,92] (c::cs)++r) false e (some 32) []=rt r false e (some 97) (c::cs):=by
 have hc:=h c (.head _)
 have ih:=fun e t=>Ui cs r e t fun d hd=>h d (.tail _ hd)
 rw [show fl1 [32,39,34,92] (c::cs)=esc1 [32,39,34,92] c++fl1 [32,39,34,92] cs from rfl,List.append_assoc]
 unfold esc1
 by_cases hS:c∈[32,39,34,92]
 ·refine sr (if_pos hS) ?_
  refine (?_:rt (92::c::(fl1 [32,39,34,92] cs++r)) _ _ _ _=_)
  have e1:∀ x,rt (92::x) false e (some 32) []=rt x false 97 (some 92) []:=fun x=>by
   conv=>lhs;unfold rt
   simp
  have e2:∀ x,rt (c::x) false 97 (some 92) []=rt x false 97 (some 97) [c]:=fun x=>by
   conv=>lhs;unfold rt
   simp
  rw [e1,e2,ih,rt_e _ _ 97 e _ _ (by decide)]
  rfl
 ·refine sr (if_neg hS) ?_
  simp only [List.mem_cons,List.mem_nil_iff,or_false,not_or] at hS
  refine e04 hS fun h1 h2 h3 h4=>?_
  have e1:∀ x,rt (c::x) false e (some 32) []=rt x false e (some 97) [c]:=fun x=>by
   conv=>lhs;unfold rt
   simp [h1,h2,h3,h4,hc.1,hc.2.1,hc.2.2]
  refine (?_:rt (c::(fl1 [32,39,34,92] cs++r)) _ _ _ _=_)
  rw [e1,ih]
  rfl
theorem yx:∀ (cs r:List Nat) (qd:Bool) (e:Nat) (t:List Nat),rt (fl1 [34,92] cs++(34::r)) qd e (some 34) t=rt r true e (some 97) (t++cs)
 | [],r,qd,e,t=>by
  refine (?_:rt (34::r) _ _ _ _=_)
  conv=>lhs;unfold rt
  simp
 | c::cs,r,qd,e,t=>by
  have ih:=fun qd e t=>yx cs r qd e t
  rw [show fl1 [34,92] (c::cs)=esc1 [34,92] c++fl1 [34,92] cs from rfl,List.append_assoc]
  unfold esc1
  by_cases hS:c∈[34,92]
  ·refine sr (if_pos hS) ?_
   refine (?_:rt (92::c::(fl1 [34,92] cs++(34::r))) _ _ _ _=_)
   have e1:∀ x,rt (92::x) qd e (some 34) t=rt x true 34 (some 92) t:=fun x=>by
    conv=>lhs;unfold rt
    simp
   have e2:∀ x,rt (c::x) true 34 (some 92) t=rt x true 34 (some 34) (t++[c]):=fun x=>by
    conv=>lhs;unfold rt
    simp only [List.mem_cons,List.mem_nil_iff,or_false] at hS
    rcases hS with rfl | rfl <;> simp
   rw [e1,e2,ih,rt_e _ _ 34 e _ _ (by decide)]
   simp
  ·refine sr (if_neg hS) ?_
   simp only [List.mem_cons,List.mem_nil_iff,or_false,not_or] at hS
   obtain ⟨h3,h4⟩:=hS
   have e1:∀ x,rt (c::x) qd e (some 34) t=rt x true e (some 34) (t++[c]):=fun x=>by
    conv=>lhs;unfold rt
    simp [h3,h4]
   refine (?_:rt (c::(fl1 [34,92] cs++(34::r))) _ _ _ _=_)
   rw [e1,ih]
   simp
theorem Uj {w r:List Nat} (h:NoWs w):∃ qd,(w≠[]\/qd=true)/\rt (zD w++r) false 32 (some 32) []=rt r qd 32 (some 97) w:=by
 unfold zD
 split
 ·rename_i hw
  refine ⟨false,.inl hw.1,?_⟩
  rw [Zb]
  cases w with
  | nil=>exact absurd rfl hw.1
  | cons c cs=>exact HR h
 ·refine ⟨true,.inr rfl,?_⟩
  rw [Zb]
  have e:([34]++fl1 [34,92] w++[34])++r=34::(fl1 [34,92] w++(34::r)):=by simp
  refine sr e ?_
  have e1:∀ x,rt (34::x) false 32 (some 32) []=rt x false 32 (some 34) []:=fun x=>by
   conv=>lhs;unfold rt
   simp
  rw [e1,yx]
  rfl
theorem YC:∀ ws:List (List Nat),(∀ w∈ws,NoWs w)->Lx (ZJ ws) (some 32) ws
 | [],_=>.stop (res:=([],none,[],false)) rfl ⟨rfl,rfl⟩
 | [w],h=>by
  refine e12 (Uj (r:=[]) (h w (.head _))) fun qd hq e=>?_
  rw [List.append_nil] at e
  have l:ZJ [w]=zD w:=rfl
  refine sr l ?_
  refine .tok (res:=([],none,w,qd)) (e.trans rfl) (fun z=>?_) (.stop (res:=([],none,[],false)) rfl ⟨rfl,rfl⟩)
  refine oe hq (fun hq=>?_) fun hq=>?_
  ·exact hq z.1
  ·have:=z.2;dsimp only at this;rw [hq] at this;exact nn4 this
 | w::v::ws,h=>by
  refine e12 (Uj (r:=32::ZJ (v::ws)) (h w (.head _))) fun qd hq e=>?_
  have l:ZJ (w::v::ws)=zD w++(32::ZJ (v::ws)):=by
   show qG [32] (zD w::zD v::ws.map zD)=_
   simp only [qG]
   rw [List.append_assoc]
   rfl
  refine sr l ?_
  refine .tok (res:=(ZJ (v::ws),some 32,w,qd)) (e.trans ?_) (fun z=>?_) (YC (v::ws) fun u hu=>h u (.tail _ hu))
  ·conv=>lhs;unfold rt
   simp only [show (97:Nat)≠32 by decide,if_false,if_true,if_pos hq,show (97:Nat)∉[39,34] by decide,show (97:Nat)≠92 by decide]
   exact sr (if_pos (by simp)) rfl
  ·refine oe hq (fun hq=>?_) fun hq=>?_
   ·exact hq z.1
   ·have:=z.2;dsimp only at this;rw [hq] at this;exact nn4 this
end
section
noncomputable abbrev sl (A:List Wo) (i x:Nat):List Wo:=(A.drop i).take (x-i)
noncomputable def gapT (A B:List Wo) (i j x y:Nat):List Tk:=if i<x\/j<y then .at i::.eq j::((sl A i x).map Tk.del++(sl B j y).map Tk.ins) else []
noncomputable def tks (A B:List Wo) (i j:Nat) (ms:List T3):List Tk:=(j6 i j ms).flatMap (tkO A B)
theorem HS {A B:List Wo} {i j x y:Nat}:(op1 i j x y).flatMap (tkO A B)=gapT A B i j x y:=by
 unfold op1 gapT
 have key:∀ t:List Nat,t≠JS->([(t,(i,x,j,y))]:List OpC).flatMap (tkO A B)=.at i::.eq j::((sl A i x).map Tk.del++(sl B j y).map Tk.ins):=fun t ht=>by
  rw [List.flatMap_cons,List.flatMap_nil,List.append_nil]
  unfold tkO
  rw [if_neg ht]
 by_cases h1:i<x
 ·refine sr (if_pos (Or.inl h1)) ?_
  by_cases h2:j<y
  ·have e:tagO i j x y=xK:=by unfold tagO;exact sr (if_pos ⟨h1,h2⟩) rfl
   refine sr e (sr (if_neg (by decide)) ?_)
   exact key _ (by decide)
  ·have e:tagO i j x y=Yl:=by unfold tagO;exact sr (if_neg (fun z=>h2 z.2)) (sr (if_pos h1) rfl)
   refine sr e (sr (if_neg (by decide)) ?_)
   exact key _ (by decide)
 ·by_cases h2:j<y
  ·refine sr (if_pos (Or.inr h2)) ?_
   have e:tagO i j x y=Ym:=by unfold tagO;exact sr (if_neg (fun z=>h1 z.1)) (sr (if_neg h1) (sr (if_pos h2) rfl))
   refine sr e (sr (if_neg (by decide)) ?_)
   exact key _ (by decide)
  ·have e:tagO i j x y=[]:=by unfold tagO;exact sr (if_neg (fun z=>h1 z.1)) (sr (if_neg h1) (sr (if_neg h2) rfl))
   have e2:¬ (i<x\/j<y):=by omega
   refine sr e (sr (if_neg e2) (sr (if_pos rfl) ?_));rfl
theorem Qz {A B:List Wo} {i j:Nat} {b:T3} {r:List T3}:tks A B i j (b::r)=gapT A B i j b.1 b.2.1++tks A B (b.1+b.2.2) (b.2.1+b.2.2) r:=by
 unfold tks
 have e2:(op2 b.1 b.2.1 b.2.2).flatMap (tkO A B)=[]:=by
  unfold op2
  split
  ·rfl
  ·rw [List.flatMap_cons,List.flatMap_nil,List.append_nil]
   unfold tkO
   rw [if_pos rfl]
 rw [j6,List.flatMap_append,List.flatMap_append,HS,e2,List.append_nil]
theorem zaQ {A B:List Wo} {x y k:Nat} (h:Mt A B x y k) (ha:x+k<=A.length) (hb:y+k<=B.length):sl A x (x+k)=sl B y (y+k):=by
 apply List.ext_getElem?
 intro t
 simp only [sl,Nat.add_sub_cancel_left]
 by_cases ht:t<k
 ·rw [List.getElem?_take_of_lt ht,List.getElem?_take_of_lt ht,List.getElem?_drop,List.getElem?_drop]
  refine e12 (h t ht) fun w h1 h2=>?_
  exact sr h1 (sr h2 rfl)
 ·rw [List.getElem?_eq_none (by simp;omega),List.getElem?_eq_none (by simp;omega)]
theorem Uk {A:List Wo} {r i x:Nat} (h1:r<=i) (h2:i<=x):sl A r i++sl A i x=sl A r x:=by
 simp only [sl]
 exact sr (((Nat.add_comm _ _).trans (Nat.sub_add_sub_cancel h2 h1)).symm:x-r=(i-r)+(x-i)) (sr List.take_add (sr List.drop_drop (sr (Nat.add_sub_of_le h1) rfl)))
theorem Xi {A:List Wo} {i x:Nat} (h:i<=x):A.take i++sl A i x=A.take x:=by
 have:=Uk (A:=A) (Nat.zero_le i) h
 simpa [sl] using this
theorem Gd {A:List Wo} {i x:Nat} (h:x<=A.length):(sl A i x).length=x-i:=by simp [sl];exact Nat.min_eq_left (Nat.sub_le_sub_right h _)
section
variable {A B:List Wo}
theorem JU (ver:List Wo) (ts:List Tk) (f:List Wo):∀ (n r:Nat),r+n<=ver.length->rp false ver (((ver.drop r).take n).map Tk.del++ts) f r=rp false ver ts f (r+n)
 | 0,r,_=>by simp
 | n+1,r,h=>by
  refine sr (List.drop_eq_getElem_cons (by exact okt h)) (sr List.take_succ_cons (sr List.map_cons (sr List.cons_append ?_)))
  conv=>lhs;unfold rp
  dsimp only
  exact sr (if_pos (by rw [List.drop_eq_getElem_cons (by exact okt h)];rfl)) (sr (JU ver ts f n (r+1) (by exact okB h)) (sr (show r+1+n=r+(n+1) by exact Nat.add_right_comm _ _ _) rfl))
theorem kR (ver:List Wo) (ts:List Tk) (f:List Wo):∀ (n r:Nat),r+n<=ver.length->rp true ver (((ver.drop r).take n).map Tk.ins++ts) f r=rp true ver ts f (r+n)
 | 0,r,_=>by simp
 | n+1,r,h=>by
  refine sr (List.drop_eq_getElem_cons (by exact okt h)) (sr List.take_succ_cons (sr List.map_cons (sr List.cons_append ?_)))
  conv=>lhs;unfold rp
  dsimp only
  exact sr (if_pos (by rw [List.drop_eq_getElem_cons (by exact okt h)];rfl)) (sr (kR ver ts f n (r+1) (by exact okB h)) (sr (show r+1+n=r+(n+1) by exact Nat.add_right_comm _ _ _) rfl))
theorem Ul (ver:List Wo) (ts:List Tk) (r:Nat):∀ (ws f:List Wo),rp false ver (ws.map Tk.ins++ts) f r=rp false ver ts (f++ws) r
 | [],f=>by simp
 | w::ws,f=>by
  refine sr List.map_cons (sr List.cons_append ?_)
  conv=>lhs;unfold rp
  dsimp only
  rw [Ul ver ts r ws,List.append_assoc];rfl
theorem Um (ver:List Wo) (ts:List Tk) (r:Nat):∀ (ws f:List Wo),rp true ver (ws.map Tk.del++ts) f r=rp true ver ts (f++ws) r
 | [],f=>by simp
 | w::ws,f=>by
  refine sr List.map_cons (sr List.cons_append ?_)
  conv=>lhs;unfold rp
  dsimp only
  rw [Um ver ts r ws,List.append_assoc];rfl
theorem kS:∀ (ms:List T3) (i j r:Nat) (f:List Wo),Wp A B i j ms A.length B.length->i<=A.length->j<=B.length->r<=i->f++sl A r i=B.take j->rp false A (tks A B i j ms) f r=some B
 | [],i,j,r,f,h,hi,hj,hr,hf=>by
  refine e02 h fun w0 w1=>?_;subst w0;subst w1
  refine (?_:some (f++A.drop r)=_)
  rw [List.take_length] at hf
  rw [← hf]
  congr 2
  simp only [sl]
  rw [List.take_of_length_le (by simp)]
 | (x,y,k)::ms,i,j,r,f,h,hi,hj,hr,hf=>by
  refine e06 h fun h1 h2 h3 h4 h5 h6=>?_
  dsimp only at h1 h2 h3 h4 h5 h6
  rw [Qz]
  dsimp only
  have go:∀ f' r',r'<=x->f'++sl A r' x=B.take y->rp false A (tks A B (x+k) (y+k) ms) f' r'=some B:=fun f' r' hr' hf'=>by
   refine kS ms (x+k) (y+k) r' f' h6 h4 h5 (by exact okC hr') ?_
   rw [← Uk hr' (Nat.le_add_right x k),← List.append_assoc,hf',zaQ h3 h4 h5,Xi (Nat.le_add_right y k)]
  unfold gapT
  split
  ·rename_i hg
   refine (?_:rp false A (.at i::.eq j::(((sl A i x).map Tk.del++(sl B j y).map Tk.ins)++tks A B (x+k) (y+k) ms)) f r=_)
   unfold rp
   dsimp only
   unfold rp
   dsimp only
   rw [List.append_assoc,JU A _ _ (x-i) i (by omega),Ul,show i+(x-i)=x by exact Nat.add_sub_of_le h1,hf,Xi h2]
   exact go _ x (Nat.le_refl _) (by simp [sl])
  ·rename_i hg
   have ex:i=x:=by omega
   have ey:j=y:=by lia
   subst ex;subst ey
   exact go f r hr hf
theorem Un:∀ (ms:List T3) (i j r:Nat) (f:List Wo),Wp A B i j ms A.length B.length->i<=A.length->j<=B.length->r<=j->f++sl B r j=A.take i->rp true B (tks A B i j ms) f r=some A
 | [],i,j,r,f,h,hi,hj,hr,hf=>by
  refine e02 h fun w0 w1=>?_;subst w0;subst w1
  refine (?_:some (f++B.drop r)=_)
  rw [List.take_length] at hf
  rw [← hf]
  congr 2
  simp only [sl]
  rw [List.take_of_length_le (by simp)]
 | (x,y,k)::ms,i,j,r,f,h,hi,hj,hr,hf=>by
  refine e06 h fun h1 h2 h3 h4 h5 h6=>?_
  dsimp only at h1 h2 h3 h4 h5 h6
  rw [Qz]
  dsimp only
  have go:∀ f' r',r'<=y->f'++sl B r' y=A.take x->rp true B (tks A B (x+k) (y+k) ms) f' r'=some A:=fun f' r' hr' hf'=>by
   refine Un ms (x+k) (y+k) r' f' h6 h4 h5 (by exact okC hr') ?_
   rw [← Uk hr' (Nat.le_add_right y k),← List.append_assoc,hf',← zaQ h3 h4 h5,Xi (Nat.le_add_right x k)]
  unfold gapT
  split
  ·rename_i hg
   refine (?_:rp true B (.at i::.eq j::(((sl A i x).map Tk.del++(sl B j y).map Tk.ins)++tks A B (x+k) (y+k) ms)) f r=_)
   unfold rp
   dsimp only
   unfold rp
   dsimp only
   rw [List.append_assoc,Um,kR B _ _ (y-j) j (by omega),show j+(y-j)=y by exact Nat.add_sub_of_le h2,hf,Xi h1]
   exact go _ y (Nat.le_refl _) (by simp [sl])
  ·rename_i hg
   have ex:i=x:=by omega
   have ey:j=y:=by lia
   subst ex;subst ey
   exact go f r hr hf
noncomputable def Tk.del? : Tk->Option Wo
 | .del w=>some w
 | _=>none
noncomputable def Tk.ins? : Tk->Option Wo
 | .ins w=>some w
 | _=>none
theorem zaR {i j x y:Nat} (h1:i<=x) (h2:j<=y):(gapT A B i j x y).filterMap Tk.del?=sl A i x:=by
 have m1:∀ l:List Wo,(l.map Tk.del).filterMap Tk.del?=l:=fun l=>by induction l with | nil=>rfl | cons a l ih=>simp [Tk.del?,ih]
 have m2:∀ l:List Wo,(l.map Tk.ins).filterMap Tk.del?=[]:=fun l=>by induction l with | nil=>rfl | cons a l ih=>simp [Tk.del?,ih]
 unfold gapT
 split
 ·show ((_++_:List Tk)).filterMap Tk.del?=_
  rw [List.filterMap_append,m1,m2,List.append_nil]
 ·have:x-i=0:=by omega
  simp [sl,this]
theorem zaS {i j x y:Nat} (h1:i<=x) (h2:j<=y):(gapT A B i j x y).filterMap Tk.ins?=sl B j y:=by
 have m1:∀ l:List Wo,(l.map Tk.del).filterMap Tk.ins?=[]:=fun l=>by induction l with | nil=>rfl | cons a l ih=>simp [Tk.ins?,ih]
 have m2:∀ l:List Wo,(l.map Tk.ins).filterMap Tk.ins?=l:=fun l=>by induction l with | nil=>rfl | cons a l ih=>simp [Tk.ins?,ih]
 unfold gapT
 split
 ·show ((_++_:List Tk)).filterMap Tk.ins?=_
  rw [List.filterMap_append,m1,m2,List.nil_append]
 ·have:y-j=0:=by omega
  simp [sl,this]
theorem Uo {A:List Wo} {i x k:Nat} (h1:i<=x):A.drop i=sl A i x++(sl A x (x+k)++A.drop (x+k)):=by
 have e1:sl A x (x+k)++A.drop (x+k)=A.drop x:=by
  have:=List.take_append_drop k (A.drop x)
  rw [List.drop_drop] at this
  simpa [sl] using this
 refine sr e1 ?_
 have:=List.take_append_drop (x-i) (A.drop i)
 rw [List.drop_drop,show i+(x-i)=x by exact Nat.add_sub_of_le h1] at this
 exact this.symm
theorem yy (w:Wo):∀ (ms:List T3) (i j:Nat),Wp A B i j ms A.length B.length->(A.drop i).count w+((tks A B i j ms).filterMap Tk.ins?).count w=(B.drop j).count w+((tks A B i j ms).filterMap Tk.del?).count w
 | [],i,j,h=>by
  refine e02 h fun w0 w1=>?_;refine sr w0 ?_;refine sr w1 ?_
  simp [tks,j6]
 | (x,y,k)::ms,i,j,h=>by
  refine e06 h fun h1 h2 h3 h4 h5 h6=>?_
  dsimp only at h1 h2 h3 h4 h5 h6
  have ih:=yy w ms (x+k) (y+k) h6
  refine sr Qz (sr List.filterMap_append (sr List.filterMap_append ?_))
  dsimp only
  refine sr (zaR h1 h2) (sr (zaS h1 h2) (sr (Uo (A:=A) (k:=k) h1) (sr (Uo (A:=B) (k:=k) h2) (sr (zaQ h3 h4 h5) ?_))))
  simp only [List.count_append]
  lia
theorem kT {i x k n:Nat} (h:i<=x) (h2:x+k<=n):(x-i)+(n-(x+k))<=n-i:=Nat.le_trans (Nat.add_le_add_left (Nat.sub_le_sub_left (Nat.le_add_right x k) n) _) (Nat.le_of_eq ((Nat.add_comm _ _).trans (Nat.sub_add_sub_cancel (Nat.le_trans (Nat.le_add_right x k) h2) h)))
theorem HT {p:Nat} (h:0<p):p+1+1<=3*p:=by omega
theorem zaT {a b c d p q:Nat} (h1:a+b<=p) (h2:c+d<=q):(a+c)+(b+d)<=p+q:=by rw [Nat.add_add_add_comm];exact Nat.add_le_add h1 h2
theorem Uq:∀ (ms:List T3) (i j:Nat),Wp A B i j ms A.length B.length->(tks A B i j ms).length<=3*((A.length-i)+(B.length-j))
 | [],i,j,h=>by simp [tks,j6]
 | (x,y,k)::ms,i,j,h=>by
  refine e06 h fun h1 h2 h3 h4 h5 h6=>?_
  dsimp only at h1 h2 h3 h4 h5 h6
  have ih:=Uq ms (x+k) (y+k) h6
  refine sr Qz (sr List.length_append ?_)
  dsimp only
  have g:(gapT A B i j x y).length<=3*((x-i)+(y-j)):=by
   unfold gapT
   split
   ·rename_i hg
    have a:=Gd (A:=A) (i:=i) (x:=x) (oks h4)
    have b:=Gd (A:=B) (i:=j) (x:=y) (oks h5)
    rw [List.length_cons,List.length_cons,List.length_append,List.length_map,List.length_map,a,b]
    exact HT (by clear a b ih h3 h4 h5 h6;omega)
   ·simp
  exact okc (Nat.add_le_add g ih) (by rw [← Nat.mul_add];exact Nat.mul_le_mul_left 3 (zaT (kT h1 h4) (kT h2 h5)))
noncomputable def TkIn (A B:List Wo):Tk->Prop
 | .at n=>n<=A.length
 | .eq n=>n<=B.length
 | .del w=>w∈A
 | .ins w=>w∈B
theorem Ge:∀ (ms:List T3) (i j:Nat),Wp A B i j ms A.length B.length->i<=A.length->j<=B.length->∀ t∈tks A B i j ms,TkIn A B t
 | [],i,j,h,_,_,t,ht=>by simp [tks,j6] at ht
 | (x,y,k)::ms,i,j,h,hi,hj,t,ht=>by
  refine e06 h fun h1 h2 h3 h4 h5 h6=>?_
  dsimp only at h1 h2 h3 h4 h5 h6
  rw [Qz] at ht
  dsimp only at ht
  refine ma ht (fun ht=>?_) fun ht=>?_
  ·unfold gapT at ht
   split at ht
   ·refine mc ht ?_ fun ht=>?_
    ·exact hi
    refine mc ht ?_ fun ht=>?_
    ·exact hj
    refine ma ht (fun ht=>?_) fun ht=>?_
    ·refine e12 (List.mem_map.mp ht) fun w hw w0=>?_;subst w0
     exact List.mem_of_mem_drop (List.mem_of_mem_take hw)
    ·refine e12 (List.mem_map.mp ht) fun w hw w0=>?_;subst w0
     exact List.mem_of_mem_drop (List.mem_of_mem_take hw)
   ·exact nn9 ht
  ·exact Ge ms _ _ h6 h4 h5 t ht
end
theorem vh:∀ m<1000,∀ c∈numL m,48<=c/\c<58:=by decide +kernel
theorem HU {t:Tk} {A B:List Wo} (h:TkIn A B t) (hA:A.length<100) (hB:B.length<100) (kA:∀ w∈A,OkW w) (kB:∀ w∈B,OkW w):t.ok/\t.enc.length<=5/\∀ c∈t.enc,c<128/\c≠9/\c≠13/\c≠10:=by
 have num:∀ n,n<100->∀ k,60<k/\k<65->(k::numL n).length<=5/\∀ c∈k::numL n,c<128/\c≠9/\c≠13/\c≠10:=fun n hn k hk=>by
  refine ⟨by have:=xo n (oka hn (by decide));refine sr List.length_cons ?_;exact okb this (by decide),fun c hc=>?_⟩
  refine mc hc ?_ fun hc=>?_
  ·omega
  ·have:=vh n (oka hn (by decide)) c hc;omega
 have wrd:∀ w,OkW w->∀ k,40<k/\k<65->(k::w).length<=5/\∀ c∈k::w,c<128/\c≠9/\c≠13/\c≠10:=fun w hw k hk=>by
  refine ⟨by have:=hw.1;refine sr List.length_cons ?_;exact okg this,fun c hc=>?_⟩
  refine mc hc ?_ fun hc=>?_
  ·omega
  ·exact hw.2 c hc
 cases t with
 | «at» n=>exact ⟨Nat.lt_of_le_of_lt h (oka hA (by decide)),num n (Nat.lt_of_le_of_lt h hA) 64 (by decide)⟩
 | eq n=>exact ⟨Nat.lt_of_le_of_lt h (oka hB (by decide)),num n (Nat.lt_of_le_of_lt h hB) 61 (by decide)⟩
 | del w=>exact ⟨by have:=(kA w h).1;refine (?_:w.length<=1000);exact okc this (by decide),wrd w (kA w h) 45 (by decide)⟩
 | ins w=>exact ⟨by have:=(kB w h).1;refine (?_:w.length<=1000);exact okc this (by decide),wrd w (kB w h) 43 (by decide)⟩
theorem ZM:∀ T:List Tk,marked 45 (T.map Tk.enc)=T.filterMap Tk.del?
 | []=>rfl
 | t::T=>by
  have ih:=ZM T
  unfold marked at ih ⊢
  refine sr List.map_cons (sr List.filter_cons ?_)
  cases t with
  | del w=>refine sr (if_pos (by simp [Tk.enc])) ?_;exact congrArg (w :: ·) ih
  | ins w=>refine sr (if_neg (by simp [Tk.enc])) ?_;exact ih
  | «at» n=>refine sr (if_neg (by simp [Tk.enc])) ?_;exact ih
  | eq n=>refine sr (if_neg (by simp [Tk.enc])) ?_;exact ih
theorem ZN:∀ T:List Tk,marked 43 (T.map Tk.enc)=T.filterMap Tk.ins?
 | []=>rfl
 | t::T=>by
  have ih:=ZN T
  unfold marked at ih ⊢
  refine sr List.map_cons (sr List.filter_cons ?_)
  cases t with
  | ins w=>refine sr (if_pos (by simp [Tk.enc])) ?_;exact congrArg (w :: ·) ih
  | del w=>refine sr (if_neg (by simp [Tk.enc])) ?_;exact ih
  | «at» n=>refine sr (if_neg (by simp [Tk.enc])) ?_;exact ih
  | eq n=>refine sr (if_neg (by simp [Tk.enc])) ?_;exact ih
end
section
section
variable {W:Wd} {lv:Nat} {σ σ':Led} {Q:V->Led->Prop}
theorem zaU {test:V->Led->(Bool->Led->Prop)->Prop} {body:V->Led->(V->Led->Prop)->Prop} {n:Nat} {K:List V->Led->Prop} (I:Nat->List V->Led->Prop) (hn:n<10000)
  (ht:∀ x σ (R:Bool->Led->Prop),R true σ->test x σ R)
  (step:∀ (i:Nat) ys σ (R:V->Led->Prop),i<n->I i ys σ->(∀ y σ',I (i+1) (ys++[y]) σ'->R y σ')->body (.int i) σ R)
  (done:∀ ys σ,ys.length=n->I n ys σ->K ys σ) (h:I 0 [] σ):∃ m,ZG W lv test body m (.range 0 n) 0 [] σ K:=by
 refine ⟨n+1,?_⟩
 suffices ∀ k i ys σ,i+k=n->ys.length=i->I i ys σ->ZG W lv test body (k+1) (.range 0 n) i ys σ K from this n 0 [] σ (Nat.add_comm _ _) rfl h
 intro k
 induction k with
 | zero=>
  intro i ys σ hi hy h
  refine qw ?_ (oke hi)
  refine sr (if_neg (by exact Nat.not_lt_of_le (oke hi.symm))) ?_
  have:i=n:=hi
  subst this
  exact done ys σ hy h
 | succ k ih=>
  intro i ys σ hi hy h
  refine qw ?_ (okd (oku hi))
  rw [if_pos (oku hi),Int.zero_add]
  exact ht _ _ _ (step i ys σ _ (oku hi) h fun y σ' h'=>⟨by omega,ih (i+1) (ys++[y]) σ' (okv hi) (by simp [hy]) h'⟩)
theorem zaV {test:V->Led->(Bool->Led->Prop)->Prop} {body:V->Led->(V->Led->Prop)->Prop} {a:Addr} {xs:List V} {K:List V->Led->Prop} (I:Nat->List V->Led->Prop) (hn:xs.length<10000)
  (mem:∀ i ys σ,I i ys σ->(a,O.list xs)∈σ)
  (ht:∀ x σ (R:Bool->Led->Prop),R true σ->test x σ R)
  (step:∀ (i:Nat) x ys σ (R:V->Led->Prop),xs[i]?=some x->I i ys σ->(∀ y σ',I (i+1) (ys++[y]) σ'->R y σ')->body x σ R)
  (done:∀ ys σ,ys.length=xs.length->I xs.length ys σ->K ys σ) (h:I 0 [] σ):∃ m,ZG W lv test body m (.list a) 0 [] σ K:=by
 refine ⟨xs.length+1,?_⟩
 suffices ∀ k i ys σ,i+k=xs.length->ys.length=i->I i ys σ->ZG W lv test body (k+1) (.list a) i ys σ K from this xs.length 0 [] σ (Nat.add_comm _ _) rfl h
 intro k
 induction k with
 | zero=>
  intro i ys σ hi hy h
  refine zH (mem _ _ _ h) ?_ (.inl rfl)
  have:i=xs.length:=hi
  subst this
  rw [List.getElem?_eq_none (Nat.le_refl _)]
  exact done ys σ hy h
 | succ k ih=>
  intro i ys σ hi hy h
  refine zH (mem _ _ _ h) ?_ (.inl rfl)
  have hlt:i<xs.length:=oku hi
  rw [List.getElem?_eq_getElem hlt]
  exact ht _ _ _ (step i _ ys σ _ (List.getElem?_eq_getElem hlt) h fun y σ' h'=>⟨by omega,ih (i+1) (ys++[y]) σ' (okv hi) (by simp [hy]) h'⟩)
theorem HV {a:Addr} {L:WL} {K:List V->Led->Prop} (m:(a,O.list (refs L))∈σ) (hL:Has σ L) (hn:((L.map (·.2)).flatten).length<10000) (h:K (((L.map (·.2)).flatten).map V.str) σ):∃ n,JG W lv n (.list a) 0 [] σ K:=by
 refine ⟨L.length+1,?_⟩
 have inner:∀ (b:Addr) (ws:List Wo) (ys:List V) (K:List V->Led->Prop),(b,O.list (ws.map V.str))∈σ->ys.length+ws.length<16777216->K (ys++ws.map V.str) σ->∃ n,QC W lv n (.list b) 0 ys σ K:=by
  intro b ws ys K mb hl hK
  refine ⟨ws.length+1,?_⟩
  suffices ∀ k i,i+k=ws.length->QC W lv (k+1) (.list b) i (ys++(ws.take i).map V.str) σ K by
   have:=this ws.length 0 (Nat.add_comm _ _)
   simpa using this
  intro k
  induction k with
  | zero=>
   intro i hi
   refine zH mb ?_ (.inl rfl)
   have:i=ws.length:=hi
   refine sr this ?_
   rw [List.getElem?_eq_none (by simp),List.take_length]
   exact hK
  | succ k ih=>
   intro i hi
   refine zH mb ?_ (.inl rfl)
   have hlt:i<ws.length:=oku hi
   rw [List.getElem?_map,List.getElem?_eq_getElem hlt]
   have:=ih (i+1) (okv hi)
   rw [List.take_succ_eq_append_getElem hlt,List.map_append,← List.append_assoc] at this
   exact ⟨by simp;omega,this⟩
 suffices ∀ k i,i+k=L.length->JG W lv (k+1) (.list a) i ((((L.take i).map (·.2)).flatten).map V.str) σ K from this L.length 0 (Nat.add_comm _ _)
 intro k
 induction k with
 | zero=>
  intro i hi
  refine zH m ?_ (.inl rfl)
  have:i=L.length:=hi
  refine sr this ?_
  rw [List.getElem?_eq_none (by simp),List.take_length]
  exact h
 | succ k ih=>
  intro i hi
  refine zH m ?_ (.inl rfl)
  have hlt:i<L.length:=oku hi
  rw [List.getElem?_map,List.getElem?_eq_getElem hlt]
  refine zB (hL _ (List.getElem_mem hlt)) ?_
  have hle:(((L.take (i+1)).map (·.2)).flatten).length<=((L.map (·.2)).flatten).length:=by
   conv=>rhs;rw [← List.take_append_drop (i+1) L,List.map_append,List.flatten_append,List.length_append]
   exact Nat.le_add_right _ _
  have e:((L.take (i+1)).map (·.2)).flatten=((L.take i).map (·.2)).flatten++L[i].2:=by
   rw [List.take_succ_eq_append_getElem hlt,List.map_append,List.flatten_append];simp
  refine inner _ _ _ _ (hL _ (List.getElem_mem hlt)) ?_ ?_
  ·rw [e,List.length_append] at hle
   rw [List.length_map];exact okb hle (oka hn (by decide))
  ·have:=ih (i+1) (okv hi)
   rw [e,List.map_append] at this
   exact this
end
theorem Ur (S:List Nat) (w:List Nat):(fl1 S w).length<=2*w.length:=by
 induction w with
 | nil=>simp
 | cons c w ih=>
  have:(esc1 S c).length<=2:=by unfold esc1;split <;> simp
  refine sr (show fl1 S (c::w)=esc1 S c++fl1 S w from rfl) (sr List.length_append (sr List.length_cons ?_))
  omega
theorem yz (w:List Nat):(zD w).length<=2*w.length+2:=by
 unfold zD
 split
 ·rw [Zb];have:=Ur [32,39,34,92] w;exact Nat.le_trans this (Nat.le_add_right _ _)
 ·rw [Zb,List.length_append,List.length_append]
  have:=Ur [34,92] w
  have e:((w.map (esc1 [34,92])).flatten).length<=2*w.length:=this
  simp only [List.length_singleton]
  lia
theorem kU {m:Nat}:∀ (ws:List (List Nat)),(∀ w∈ws,w.length<=m)->((ws.map zD).map (·.length)).sum<=ws.length*(2*m+2)
 | [],_=>by simp
 | w::ws,h=>by
  have:=kU ws fun u hu=>h u (.tail _ hu)
  have:=yz w
  have:=h w (.head _)
  simp only [List.map_cons,List.sum_cons,List.length_cons]
  rw [Nat.add_mul,Nat.one_mul]
  lia
theorem JV {m:Nat} (ws:List (List Nat)) (h:∀ w∈ws,w.length<=m):(ZJ ws).length<=ws.length*(2*m+3):=by
 have a:=Qk [32] (ws.map zD)
 have b:=kU ws h
 rw [List.length_map,List.length_singleton] at a
 have:ws.length*(2*m+3)=ws.length*(2*m+2)+ws.length:=by rw [show 2*m+3=(2*m+2)+1 by exact rfl,Nat.mul_add];lia
 unfold ZJ
 omega
theorem Q8 {p:Nat->Prop} {w:List Nat} (h34:p 34) (h92:p 92) (h:∀ c∈w,p c):∀ c∈zD w,p c:=by
 have key:∀ S,∀ c∈fl1 S w,p c:=fun S c hc=>by
  refine e12 (List.mem_flatten.mp hc) fun l hl hcl=>?_
  refine e12 (List.mem_map.mp hl) fun d hd w0=>?_;subst w0
  unfold esc1 at hcl
  split at hcl
  ·refine mc hcl ?_ fun hcl=>?_
   ·exact h92
   ·have:c=d:=by simpa using hcl
    refine sr this ?_;exact h d hd
  ·have:c=d:=by simpa using hcl
   refine sr this ?_;exact h d hd
 intro c hc
 unfold zD at hc
 split at hc
 ·rw [Zb] at hc;exact key _ c hc
 ·rw [Zb] at hc
  refine ma hc (fun hc=>?_) fun hc=>?_
  ·refine ma hc (fun hc=>?_) fun hc=>?_
   ·have:c=34:=by simpa using hc
    refine sr this ?_;exact h34
   ·exact key _ c hc
  ·have:c=34:=by simpa using hc
   refine sr this ?_;exact h34
theorem JW {p:Nat->Prop} (h32:p 32) (h34:p 34) (h92:p 92):∀ (ws:List (List Nat)),(∀ w∈ws,∀ c∈w,p c)->∀ c∈ZJ ws,p c
 | [],_,c,hc=>by exact nn9 hc
 | [w],h,c,hc=>Q8 h34 h92 (h w (.head _)) c hc
 | w::v::ws,h,c,hc=>by
  have l:ZJ (w::v::ws)=zD w++[32]++ZJ (v::ws):=rfl
  rw [l] at hc
  refine ma hc (fun hc=>?_) fun hc=>?_
  ·refine ma hc (fun hc=>?_) fun hc=>?_
   ·exact Q8 h34 h92 (h w (.head _)) c hc
   ·have:c=32:=by simpa using hc
    refine sr this ?_;exact h32
  ·exact JW h32 h34 h92 (v::ws) (fun u hu=>h u (.tail _ hu)) c hc
end
section
structure QV (K:Frag):Prop where
 P:PrOk K
 S:SmOk K
 I:SiOk K
 H:ShOk K
 st:jq K 719=true
 T:TsOk K 1080 1027 1081
noncomputable def zcf (A B:List Wo) (T:List Tk):Prop:=∃ ms,qM A B ms/\T=stepT A B ms
structure qZ (A B:List Wo) (T:List Tk):Prop where
 len:T.length<=84
 tok:∀ t∈T,t.ok/\t.enc.length<=5/\∀ c∈t.enc,c<128/\c≠9/\c≠13/\c≠10
 forth:rp false A T [] 0=some B
 back:rp true B T [] 0=some A
 count:∀ w,A.count w+(T.filterMap Tk.ins?).count w=B.count w+(T.filterMap Tk.del?).count w
theorem zcK {A B:List Wo} {T:List Tk} (h:zcf A B T) (hA:A.length<=14/\∀ w∈A,OkW w) (hB:B.length<=14/\∀ w∈B,OkW w):qZ A B T:=by
 refine e12 h fun ms hb w0=>?_;refine sr w0 ?_
 refine ⟨?_,fun t ht=>?_,?_,?_,fun w=>?_⟩
 ·have:=Uq ms 0 0 hb
  refine (?_:(tks A B 0 0 ms).length<=84)
  lia
 ·exact HU (Ge ms 0 0 hb (Nat.zero_le _) (Nat.zero_le _) t ht) (okb hA.1 (by decide)) (okb hB.1 (by decide)) hA.2 hB.2
 ·exact kS ms 0 0 0 [] hb (Nat.zero_le _) (Nat.zero_le _) (Nat.le_refl _) rfl
 ·exact Un ms 0 0 0 [] hb (Nat.zero_le _) (Nat.zero_le _) (Nat.le_refl _) rfl
 ·exact yy w ms 0 0 hb
theorem qZ.noWs {A B:List Wo} {T:List Tk} (h:qZ A B T):∀ w∈T.map Tk.enc,w.length<=5/\∀ c∈w,c<128/\c≠9/\c≠13/\c≠10:=fun w hw=>by
 refine e12 (List.mem_map.mp hw) fun t ht w0=>?_;subst w0
 exact (h.tok t ht).2
noncomputable abbrev stL (T:List Tk):Wo:=ZJ (T.map Tk.enc)
theorem qZ.line {A B:List Wo} {T:List Tk} (h:qZ A B T):(stL T).length<=1092/\∀ c∈stL T,c<128/\c≠9/\c≠13/\c≠10:=by
 refine ⟨?_,JW (by decide) (by decide) (by decide) _ fun w hw=>(h.noWs w hw).2⟩
 have a:=JV (m:=5) (T.map Tk.enc) fun w hw=>(h.noWs w hw).1
 have:=h.len
 rw [List.length_map] at a
 have:T.length*(2*5+3)<=84*13:=Nat.mul_le_mul h.len (by decide)
 lia
theorem Gf {a b c d:Nat} (h:a+d=b+c):c-d=a-b:=(Nat.add_sub_add_left b c d).symm.trans ((congrArg (· - (b+d)) h.symm).trans (Nat.add_sub_add_right a d b))
theorem zaW {a i v d x j e:Nat} (h1:a+i=v+d) (h2:v+j=x+e):a+(i+j)=x+(d+e):=by rw [← Nat.add_assoc,h1,Nat.add_right_comm,h2,Nat.add_assoc,Nat.add_comm e d]
theorem qZ.difs {A B:List Wo} {T:List Tk} (h:qZ A B T):(dif (marked 45 (T.map Tk.enc)) (marked 43 (T.map Tk.enc))).Perm (dif A B)/\(dif (marked 43 (T.map Tk.enc)) (marked 45 (T.map Tk.enc))).Perm (dif B A):=by
 refine ⟨ZC fun w=>?_,ZC fun w=>?_⟩
 ·rw [Zq,ZM,ZN];exact Gf (h.count w)
 ·rw [Zq,ZM,ZN];exact Gf (h.count w).symm
theorem tele {V:List (List Wo)} {Ts:List (List Tk)} (h:∀ (i:Nat) A B T,V[i]?=some A->V[i+1]?=some B->Ts[i]?=some T->qZ A B T) (hl:V.length=Ts.length+1) (w:Wo):∀ (i:Nat) A0 A,i<=Ts.length->V[0]?=some A0->V[i]?=some A->
  A0.count w+(((Ts.take i).flatten).filterMap Tk.ins?).count w=A.count w+(((Ts.take i).flatten).filterMap Tk.del?).count w
 | 0,A0,A,_,h0,h1=>by rw [h0] at h1;cases h1;simp
 | i+1,A0,A,hi,h0,h1=>by
  have hi':i<Ts.length:=hi
  have hA:V[i]?=some V[i]:=List.getElem?_eq_getElem (oky hi hl)
  have ih:=tele h hl w i A0 V[i] (okd hi) h0 hA
  have c:=(h i _ _ _ hA h1 (List.getElem?_eq_getElem hi')).count w
  rw [List.take_succ_eq_append_getElem hi',List.flatten_append,List.filterMap_append,List.filterMap_append,List.count_append,List.count_append]
  simp only [List.flatten_cons,List.flatten_nil,List.append_nil]
  exact zaW ih c
noncomputable abbrev Pr:=Addr×Addr×Addr×List Wo×List Wo
noncomputable def HasP (σ:Led) (L:List Pr):Prop:=∀ p∈L,(p.1,O.tup [.ref p.2.1,.ref p.2.2.1])∈σ/\(p.2.1,O.list (p.2.2.2.1.map V.str))∈σ/\(p.2.2.1,O.list (p.2.2.2.2.map V.str))∈σ
noncomputable abbrev enc2 (p:Addr×List Tk):Addr×List Wo:=(p.1,p.2.map Tk.enc)
theorem Xj (L:List (Addr×List Tk)):refs (L.map enc2)=refs L:=by rw [refs,refs,List.map_map];rfl
theorem Us {ws:List Wo} {w:Wo} (h:w∈srt ws):w∈ws:=(Zz ws).mem_iff.mp h
theorem Gg {A B:List Wo} {w:Wo} (h:w∈dif A B):w∈A:=by
 have:=List.count_pos_iff.mpr h
 rw [Zq] at this
 exact List.count_pos_iff.mp (oka this (Nat.sub_le _ _))
theorem kW {w:Wo} (h:OkW w):PW w:=fun c hc=>(h.2 c hc).1
theorem kX {A B:List Wo} (hA:∀ w∈A,PW w) (hB:∀ w∈B,PW w):(PyData.tuple [dW A,dW B]).canLay0=true/\(PyData.tuple [dW A,dW B]).depth<=3:=by
 have:=xp (ds:=[dW A,dW B]) (k:=1) fun d hd=>by
  refine mc hd ?_ fun hd=>?_
  ·exact XW hA
  ·have:d=dW B:=by simpa using hd
   refine sr this ?_;exact XW hB
 refine ⟨this.1,?_⟩
 show PyData.depthAll [dW A,dW B]+1<=3
 have:=this.2
 omega
theorem DRs.pairs {σ:Led}:∀ {L:List Pr},HasP σ L->DRs σ (Mine.refs L) (L.map fun p=>.tuple [dW p.2.2.2.1,dW p.2.2.2.2])
 | [],_=>.nil
 | p::L,h=>.cons (.tup (h p (.head _)).1 (.cons (.words (h p (.head _)).2.1) (.cons (.words (h p (.head _)).2.2) .nil))) (DRs.pairs fun q hq=>h q (.tail _ hq))
end
section
section
variable {W:Wd} {lv:Nat} {σ σ' τ:Led} {Q:V->Led->Prop}
inductive Bl {α:Type} (f:α->V) (G:Nat->α->Led->Prop) (τ0:Led) (i:Nat) (ys:List V) (τ:Led):Prop
 | mk (L:List α) (e:ys=L.map f) (l:L.length=i) (g:∀ j a,L[j]?=some a->G j a τ) (m:∀ p∈τ0,p∈τ)
theorem Bl.nil {α:Type} {f:α->V} {G:Nat->α->Led->Prop} {τ0:Led}:Bl f G τ0 0 [] τ0:=.mk [] rfl rfl (fun j a h=>by rw [List.getElem?_nil] at h;exact nn1 h) fun _ h=>h
theorem Bl.snoc {α:Type} {f:α->V} {G:Nat->α->Led->Prop} {τ0 τ τ':Led} {i:Nat} {ys:List V} {a:α} (mono:∀ j a τ τ',(∀ p∈τ,p∈τ')->G j a τ->G j a τ') (h:Bl f G τ0 i ys τ) (m:∀ p∈τ,p∈τ') (g:G i a τ'):Bl f G τ0 (i+1) (ys++[f a]) τ':=by
 obtain ⟨L,rfl,rfl,gl,ml⟩:=h
 refine .mk (L++[a]) (by refine sr List.map_append ?_;rfl) (by refine sr List.length_append ?_;rfl) (fun j b e=>?_) fun p hp=>m p (ml p hp)
 refine oe (Nat.lt_or_ge j L.length) (fun hj=>?_) fun hj=>?_
 ·rw [List.getElem?_append_left hj] at e
  exact mono _ _ _ _ m (gl j b e)
 ·have hj':j<L.length+1:=by have:=(List.getElem?_eq_some_iff.mp e).1;rwa [List.length_append] at this
  have hj:j=L.length:=Nat.le_antisymm (Nat.le_of_lt_succ hj') hj
  rw [hj,List.getElem?_append_right (Nat.le_refl _),Nat.sub_self] at e
  cases e;refine sr hj ?_;exact g
theorem Ut {test:V->Led->(Bool->Led->Prop)->Prop} {body:V->Led->(V->Led->Prop)->Prop} {n:Nat} {K:List V->Led->Prop} {α:Type} (f:α->V) (G:Nat->α->Led->Prop) (hn:n<10000)
  (ht:∀ x σ (R:Bool->Led->Prop),R true σ->test x σ R) (mono:∀ j a τ τ',(∀ p∈τ,p∈τ')->G j a τ->G j a τ')
  (step:∀ (i:Nat) τ (R:V->Led->Prop),i<n->(∀ p∈σ,p∈τ)->(∀ a τ',(∀ p∈τ,p∈τ')->G i a τ'->R (f a) τ')->body (.int i) τ R)
  (done:∀ (L:List α) τ,L.length=n->(∀ j a,L[j]?=some a->G j a τ)->(∀ p∈σ,p∈τ)->K (L.map f) τ):∃ m,ZG W lv test body m (.range 0 n) 0 [] σ K:=
 zaU (Bl f G σ) hn ht (fun i ys τ R hi I hR=>step i τ R hi (match I with | .mk _ _ _ _ m=>m) fun a τ' m g=>hR _ _ (I.snoc mono m g))
  (fun ys τ _ I=>match I with | .mk L e l g m=>e ▸ done L τ l g m) .nil
theorem YD {test:V->Led->(Bool->Led->Prop)->Prop} {body:V->Led->(V->Led->Prop)->Prop} {a:Addr} {xs:List V} {K:List V->Led->Prop} {α:Type} (f:α->V) (G:Nat->α->Led->Prop) (hn:xs.length<10000) (mem:(a,O.list xs)∈σ)
  (ht:∀ x σ (R:Bool->Led->Prop),R true σ->test x σ R) (mono:∀ j a τ τ',(∀ p∈τ,p∈τ')->G j a τ->G j a τ')
  (step:∀ (i:Nat) x τ (R:V->Led->Prop),xs[i]?=some x->(∀ p∈σ,p∈τ)->(∀ a τ',(∀ p∈τ,p∈τ')->G i a τ'->R (f a) τ')->body x τ R)
  (done:∀ (L:List α) τ,L.length=xs.length->(∀ j a,L[j]?=some a->G j a τ)->(∀ p∈σ,p∈τ)->K (L.map f) τ):∃ m,ZG W lv test body m (.list a) 0 [] σ K:=
 zaV (Bl f G σ) hn (fun i ys τ I=>match I with | .mk _ _ _ _ m=>m _ mem) ht (fun i x ys τ R hi I hR=>step i x τ R hi (match I with | .mk _ _ _ _ m=>m) fun a τ' m g=>hR _ _ (I.snoc mono m g))
  (fun ys τ _ I=>match I with | .mk L e l g m=>e ▸ done L τ l g m) .nil
structure VsOk (Vs:WL):Prop where
 h1:1<=Vs.length
 h8:Vs.length<=8
 h0:(Vs.map (·.2))[0]?=some []
 hV:∀ p∈Vs,p.2.length<=14/\∀ w∈p.2,OkW w
structure GV (vl:Addr) (Vs:WL) (τ:Led):Prop where
 v:(vl,O.list (refs Vs))∈τ
 V:Has τ Vs
theorem GV.mono {vl:Addr} {Vs:WL} {τ τ':Led} (g:GV vl Vs τ) (m:∀ p∈τ,p∈τ'):GV vl Vs τ':=⟨m _ g.v,g.V.mono m⟩
variable {vl l:Addr} {Vs:WL} {j:Nat}
theorem GV.at (g:GV vl Vs τ) (hj:j<Vs.length):(va Vs j,O.list ((vv Vs j).map V.str))∈τ:=g.V _ (Q7 hj)
theorem VsOk.at (o:VsOk Vs) (hj:j<Vs.length):(vv Vs j).length<=14/\∀ w∈vv Vs j,OkW w:=o.hV _ (Q7 hj)
theorem VsOk.w (o:VsOk Vs) (hj:j<Vs.length):∀ w∈vv Vs j,w.length<=100:=fun w hw=>okc ((o.at hj).2 w hw).1 (by decide)
noncomputable def GS (Vs:WL) (j:Nat) (p:Addr×List Tk) (τ:Led):Prop:=qZ (vv Vs j) (vv Vs (j+1)) p.2/\(p.1,O.list ((p.2.map Tk.enc).map V.str))∈τ
noncomputable def AllS (Vs:WL) (Ss:List (Addr×List Tk)) (τ:Led):Prop:=∀ j p,Ss[j]?=some p->GS Vs j p τ
theorem GS.mono (j:Nat) (p:Addr×List Tk) (τ τ':Led) (m:∀ q∈τ,q∈τ') (h:GS Vs j p τ):GS Vs j p τ':=⟨h.1,m _ h.2⟩
variable {Ss Rs:List (Addr×List Tk)}
theorem AllS.mono {τ τ':Led} (h:AllS Vs Ss τ) (m:∀ q∈τ,q∈τ'):AllS Vs Ss τ':=fun j p e=>(h j p e).mono _ _ _ _ m
theorem AllS.mem (h:AllS Vs Ss τ) {p:Addr×List Tk} (hp:p∈Ss):(p.1,O.list ((p.2.map Tk.enc).map V.str))∈τ/\∃ j,qZ (vv Vs j) (vv Vs (j+1)) p.2:=by
 refine e11 (List.getElem?_of_mem hp) fun i e=>?_
 exact ⟨(h i p e).2,i,(h i p e).1⟩
theorem AllS.has (h:AllS Vs Ss τ):Has τ (Ss.map enc2):=fun q hq=>by
 refine e12 (List.mem_map.mp hq) fun p hp w0=>?_;subst w0
 exact (h.mem hp).1
theorem AllS.get (h:AllS Vs Ss τ) {T:List Tk} (e:(Ss.map (·.2))[j]?=some T):qZ (vv Vs j) (vv Vs (j+1)) T:=by
 rw [List.getElem?_map,Option.map_eq_some_iff] at e
 obtain ⟨p,hp,rfl⟩:=e
 exact (h j p hp).1
theorem Gh {Q:It->Led->Prop} (o:VsOk Vs) (h:Q (.range 0 (Vs.length-1)) τ):Z0 W lv (.ty "range") [.int (((refs Vs).length:Int)-1)] τ Q:=by
 rw [List.length_map,okI (a:=0) o.h1]
 exact yM (okG _) (okH (Nat.lt_of_le_of_lt (Nat.sub_le _ _) (okb o.h8 (by decide)))) h
theorem Uu {R:List PS} {K:AFl->List (Option V)->Led->Prop} (k:QV W.K) (hlv:lv<=1) (o:VsOk Vs) (g:GV vl Vs τ)
  (h:∀ Ss sl τ',Ss.length+1=Vs.length->AllS Vs Ss τ'->GV vl Vs τ'->(sl,O.list (refs Ss))∈τ'->aexs W lv [.ref vl] R [some (.ref l),some (.ref sl),none,none,none,none,none] τ' K) :
  aexs W lv [.ref vl] (ls1::R) [some (.ref l),none,none,none,none,none,none] τ K:=by
 refine za ?_
 refine Zy g.v (qi (Gh o ?_))
 refine Ut (fun p=>.ref p.1) (GS Vs) (okg (Nat.sub_le_of_le_add (okc o.h8 (by decide)))) (fun _ _ _ h=>h) GS.mono ?_ ?_
 ·intro i τ' R hi hm hR
  have h1:=okw hi
  have h2:=okx hi
  have g':=g.mono hm
  refine item_list g'.v (kQ h1) (Zl (item_list g'.v (kQ (j:=i+1) h2) ?_))
  exact zax k.P k.S (okb hlv (by decide)) (g'.at h1) (g'.at h2) (okb (o.at h1).1 (by decide)) (okb (o.at h2).1 (by decide)) (o.w h1) (o.w h2) fun D ms hb _=>
   hR (D,_) _ (fun _ h=>.tail _ h) ⟨zcK ⟨ms,hb,rfl⟩ (o.at h1) (o.at h2),.head _⟩
 ·intro Ss τ' hl ha hm sl
  exact h Ss sl _ (by refine sr hl ?_;exact Nat.sub_add_cancel o.h1) (AllS.mono ha fun _ h=>.tail _ h) (g.mono fun p hp=>.tail _ (hm p hp)) (.head _)
theorem zcg (ha:AllS Vs Ss τ):∀ w∈Ss.map fun p=>stL p.2,w.length<=1092/\∀ c∈w,c<128/\c≠9/\c≠13/\c≠10:=fun w hw=>by
 refine e12 (List.mem_map.mp hw) fun p hp w0=>?_;subst w0
 obtain ⟨_,i,f⟩:=ha.mem hp
 exact f.line
theorem qZ.says {A B:List Wo} {T:List Tk} {a:Addr} {Q:V->Led->Prop} (f:qZ A B T) (P:PrOk W.K) (hlv:lv<90) (m:(a,O.list ((T.map Tk.enc).map V.str))∈τ) (h:Q (.str (stL T)) τ):zm W lv (.ref 1105) [.ref a] τ Q:=by
 have hen:(T.map Tk.enc).length<=84:=by rw [List.length_map];exact f.len
 have hsum:=kU (m:=5) (T.map Tk.enc) fun w hw=>(f.noWs w hw).1
 have hsum2:(T.map Tk.enc).length*(2*5+2)<=84*12:=Nat.mul_le_mul hen (by decide)
 exact VO P hlv m (okc hen (by decide)) (fun w hw=>okc (f.noWs w hw).1 (by decide)) (okc (Nat.add_le_add (okc hsum hsum2) hen) (by decide)) h
theorem qZ.reads {A B:List Wo} {T:List Tk} {Q:V->Led->Prop} (f:qZ A B T) (k:QV W.K) (hlv:lv<10) (h:∀ D,Q (.ref D) ((D,O.list ((T.map Tk.enc).map V.str))::τ)):zm W lv (.ref 734) [.str (stL T)] τ Q:=
 kP k.P k.I k.H k.st hlv (okc f.line.1 (by decide)) (YC (T.map Tk.enc) fun w hw c hc=>((f.noWs w hw).2 c hc).2) (by rw [List.length_map];exact okb f.len (by decide)) h
theorem HW {R:List PS} {K:AFl->List (Option V)->Led->Prop} {sl:Addr} {r0 r1 r2 r3 r4 r5:Option V} (k:QV W.K) (hlv:lv<=1) (hS:Ss.length<=7) (ha:AllS Vs Ss τ) (m:(sl,O.list (refs Ss))∈τ)
  (h:∀ td τ',(∀ p∈τ,p∈τ')->(td,O.list ((Ss.map fun p=>stL p.2).map V.str))∈τ'->aexs W lv [.ref vl] R [r0,some (.ref sl),some (.ref td),r2,r3,r4,r5] τ' K) :
  aexs W lv [.ref vl] (ls2::R) [r0,some (.ref sl),r1,r2,r3,r4,r5] τ K:=by
 refine za ?_
 refine zB m ?_
 refine YD V.str (fun j w _=>(Ss.map fun p=>stL p.2)[j]?=some w) (by rw [List.length_map];exact okb hS (by decide)) m (fun _ _ _ h=>h) (fun _ _ _ _ _ h=>h) ?_ ?_
 ·intro i x τ' R hx hm hR
  rw [List.getElem?_map,Option.map_eq_some_iff] at hx
  obtain ⟨p,hp,rfl⟩:=hx
  have f:=ha i p hp
  exact f.1.says k.P (okb hlv (by decide)) (hm _ f.2) (hR _ _ (fun _ h=>h) (by rw [List.getElem?_map,hp];rfl))
 ·intro L τ' hl hg hm td
  have e:L=Ss.map fun p=>stL p.2:=List.ext_getElem? fun j=>by
   rcases Nat.lt_or_ge j L.length with hj | hj
   ·have e:=List.getElem?_eq_getElem hj
    exact sr e (sr (hg j _ e) rfl)
   ·rw [List.getElem?_eq_none hj,List.getElem?_eq_none (by rw [List.length_map];rw [hl,List.length_map] at hj;exact hj)]
  refine sr e ?_
  exact h td _ (fun p hp=>.tail _ (hm p hp)) (.head _)
theorem Uv {R:List PS} {K:AFl->List (Option V)->Led->Prop} {td:Addr} {r0 r1 r3 r4 r5 r6:Option V} {told:List Wo} (k:QV W.K) (hlv:lv<=1) (hn:told.length<=7) (tf:∀ w∈told,w.length<=1092/\∀ c∈w,c<128/\c≠9/\c≠13/\c≠10) (m:(td,O.list (told.map V.str))∈τ)
  (h:∀ ln,aexs W lv [.ref vl] R [r0,r1,some (.ref td),some (.ref ln),r4,r5,r6] ((ln,O.list (told.map V.str))::τ) K) :
  aexs W lv [.ref vl] (ls3::ls4::R) [r0,r1,some (.ref td),r3,r4,r5,r6] τ K:=by
 have hsum:=kU (m:=1092) told fun w hw=>(tf w hw).1
 have hsum2:told.length*(2*1092+2)<=7*2186:=Nat.mul_le_mul hn (by decide)
 have hll:=JV (m:=1092) told fun w hw=>(tf w hw).1
 have hll2:told.length*(2*1092+3)<=7*2187:=Nat.mul_le_mul hn (by decide)
 have ltold:=XW (ws:=told) fun w hw c hc=>((tf w hw).2 c hc).1
 refine za (VO k.P (okb hlv (by decide)) m (okc hn (by decide)) (fun w hw=>okc (tf w hw).1 (by decide)) (okc (Nat.add_le_add (okc hsum hsum2) hn) (by decide)) ?_)
 refine kP k.P k.I k.H k.st (okb hlv (by decide)) (okc hll (okc hll2 (by decide))) (YC told fun w hw c hc=>((tf w hw).2 c hc).2) (okb hn (by decide)) fun ln=>?_
 exact za (jN (okb hlv (by decide)) (.words (ws:=told) (.head _)) (.words (ws:=told) (.tail _ m)) ltold.1 (Nat.le_trans ltold.2 (by decide)) (h ln))
theorem HX {R:List PS} {K:AFl->List (Option V)->Led->Prop} {ln:Addr} {r0 r1 r2 r4 r5 r6:Option V} (k:QV W.K) (hlv:lv<=1) (hS:Ss.length<=7) (ha:AllS Vs Ss τ) (m:(ln,O.list ((Ss.map fun p=>stL p.2).map V.str))∈τ)
  (h:∀ Rs rd τ',Rs.map (·.2)=Ss.map (·.2)->(∀ p∈τ,p∈τ')->AllS Vs Rs τ'->(rd,O.list (refs Rs))∈τ'->aexs W lv [.ref vl] R [r0,r1,r2,some (.ref ln),some (.ref rd),r5,r6] τ' K) :
  aexs W lv [.ref vl] (ls5::R) [r0,r1,r2,some (.ref ln),r4,r5,r6] τ K:=by
 refine za ?_
 refine zB m ?_
 refine YD (α:=Addr×List Tk) (fun p=>.ref p.1) (fun j p τ=>(Ss.map (·.2))[j]?=some p.2/\GS Vs j p τ) (by rw [List.length_map,List.length_map];exact okb hS (by decide)) m (fun _ _ _ h=>h) (fun j a τ τ' m h=>⟨h.1,h.2.mono _ _ _ _ m⟩) ?_ ?_
 ·intro i x τ' R hx hm hR
  rw [List.getElem?_map,List.getElem?_map,Option.map_map,Option.map_eq_some_iff] at hx
  obtain ⟨p,hp,rfl⟩:=hx
  have f:=(ha i p hp).1
  exact f.reads k (okb hlv (by decide)) fun D=>hR (D,p.2) _ (fun _ h=>.tail _ h) ⟨by rw [List.getElem?_map,hp];rfl,f,.head _⟩
 ·intro L τ' hl hg hm rd
  rw [List.length_map,List.length_map] at hl
  refine h L rd _ (List.ext_getElem? fun j=>?_) (fun p hp=>.tail _ (hm p hp)) (fun j p e=>(hg j p e).2.mono _ _ _ _ fun _ h=>.tail _ h) (.head _)
  rcases Nat.lt_or_ge j L.length with hj | hj
  ·have e:=List.getElem?_eq_getElem hj
   rw [List.getElem?_map,e,(hg j _ e).1];rfl
  ·rw [List.getElem?_eq_none (by rw [List.length_map];exact hj),List.getElem?_eq_none (by rw [List.length_map,← hl];exact hj)]
noncomputable def prj (Vs:WL) (j:Nat):List Wo×List Wo:=(srt (dif (vv Vs j) (vv Vs (j+1))),srt (dif (vv Vs (j+1)) (vv Vs j)))
noncomputable def GP (Vs:WL) (j:Nat) (p:Pr) (τ:Led):Prop:=p.2.2.2=prj Vs j/\(p.1,O.tup [.ref p.2.1,.ref p.2.2.1])∈τ/\(p.2.1,O.list (p.2.2.2.1.map V.str))∈τ/\(p.2.2.1,O.list (p.2.2.2.2.map V.str))∈τ
theorem GP.mono (j:Nat) (p:Pr) (τ τ':Led) (m:∀ q∈τ,q∈τ') (h:GP Vs j p τ):GP Vs j p τ':=⟨h.1,m _ h.2.1,m _ h.2.2.1,m _ h.2.2.2⟩
theorem Gi {L:List Pr} (h:∀ j a,L[j]?=some a->GP Vs j a τ):HasP τ L:=fun p hp=>by
 refine e11 (List.getElem?_of_mem hp) fun i e=>?_
 exact (h i p e).2
theorem zch {L:List Pr} {n:Nat} (hl:L.length=n) (h:∀ j a,L[j]?=some a->GP Vs j a τ):L.map (·.2.2.2)=(List.range n).map (prj Vs):=List.ext_getElem? fun j=>by
 rcases Nat.lt_or_ge j L.length with hj | hj
 ·have e:=List.getElem?_eq_getElem hj
  rw [List.getElem?_map,e,List.getElem?_map,List.getElem?_range (hl ▸ hj)]
  exact congrArg some (h j _ e).1
 ·rw [List.getElem?_eq_none (by rw [List.length_map];exact hj),List.getElem?_eq_none (by rw [List.length_map,List.length_range,← hl];exact hj)]
theorem vi {R:List PS} {K:AFl->List (Option V)->Led->Prop} {r0 r1 r2 r3 r4 r5 r6:Option V} (k:QV W.K) (hlv:lv<=1) (o:VsOk Vs) (g:GV vl Vs τ)
  (h:∀ (Cs:List Pr) ct τ',Cs.map (·.2.2.2)=(List.range (Vs.length-1)).map (prj Vs)->(∀ p∈τ,p∈τ')->HasP τ' Cs->(ct,O.list (refs Cs))∈τ'->aexs W lv [.ref vl] R [r0,r1,r2,r3,r4,some (.ref ct),r6] τ' K) :
  aexs W lv [.ref vl] (ls6::R) [r0,r1,r2,r3,r4,r5,r6] τ K:=by
 refine za ?_
 refine Zy g.v (qi (Gh o ?_))
 refine Ut (fun p=>.ref p.1) (GP Vs) (okg (Nat.sub_le_of_le_add (okc o.h8 (by decide)))) (fun _ _ _ h=>h) GP.mono ?_ ?_
 ·intro i τ' R hi hm hR
  have h1:=okw hi
  have h2:=okx hi
  have g':=g.mono hm
  refine item_list g'.v (kQ h1) (Zl (item_list g'.v (kQ (j:=i+1) h2) ?_))
  exact K8 k.P k.T (okb hlv (by decide)) (g'.at h1) (g'.at h2) (okb (o.at h1).1 (by decide)) (okb (o.at h2).1 (by decide)) fun t g c=>
   hR (t,g,c,_,_) _ (fun _ h=>.tail _ (.tail _ (.tail _ h))) ⟨rfl,.head _,.tail _ (.tail _ (.head _)),.tail _ (.head _)⟩
 ·intro L τ' hl hg hm ct
  exact h L ct _ (zch hl hg) (fun p hp=>.tail _ (hm p hp)) (Gi fun j a e=>(hg j a e).mono _ _ _ _ fun _ h=>.tail _ h) (.head _)
theorem Gj (o:VsOk Vs) (hj:j+1<Vs.length):(prj Vs j).1.length<64/\(prj Vs j).2.length<64/\(∀ w∈(prj Vs j).1,PW w)/\∀ w∈(prj Vs j).2,PW w:=by
 have hA:=o.at (Nat.lt_of_succ_lt hj)
 have hB:=o.at hj
 have ln:∀ A B:List Wo,A.length<=14->(srt (dif A B)).length<64:=fun A B h=>by
  refine sr ((Zz _).length_eq) ?_
  exact Nat.lt_of_le_of_lt (z9 fun w=>by rw [Zq];exact Nat.sub_le _ _) (okb h (by decide))
 exact ⟨ln _ _ hA.1,ln _ _ hB.1,fun w hw=>kW (hA.2 w (Gg (Us hw))),fun w hw=>kW (hB.2 w (Gg (Us hw)))⟩
theorem HY {Q:V->Led->Prop} {rd ct:Addr} {Cs:List Pr} {r0 r1 r2 r3 r6:Option V} (k:QV W.K) (hlv:lv<=1) (o:VsOk Vs) (hR:Rs.length+1=Vs.length) (ha:AllS Vs Rs τ) (m:(rd,O.list (refs Rs))∈τ)
  (hc:Cs.map (·.2.2.2)=(List.range (Vs.length-1)).map (prj Vs)) (hC:HasP τ Cs) (mc:(ct,O.list (refs Cs))∈τ) (h:∀ τ',(∀ p∈τ,p∈τ')->Q (.bool true) τ') :
  aev W lv [.ref vl] [r0,r1,r2,r3,some (.ref rd),some (.ref ct),r6] lc3 τ Q:=by
 refine zB m ?_
 refine YD (fun p=>.ref p.1) (GP Vs) (by rw [List.length_map];exact okb (Nat.le_of_succ_le (hR ▸ o.h8)) (by decide)) m (fun _ _ _ h=>h) GP.mono ?_ ?_
 ·intro i x τ' R hx hm hR'
  rw [List.getElem?_map,Option.map_eq_some_iff] at hx
  refine e12 hx fun p hp w0=>?_;subst w0
  have f:=ha i p hp
  have pl:=Gj o (j:=i) (hR ▸ Nat.succ_lt_succ (List.getElem?_eq_some_iff.mp hp).1)
  have d:=f.1.difs
  refine Q6 k.P (okb hlv (by decide)) (hm _ f.2) (by rw [List.length_map];exact okc f.1.len (by decide)) ?_ ?_ fun t g c=>?_
  ·refine sr d.1.length_eq (sq ((Zz _).length_eq) ?_);exact pl.1
  ·refine sr d.2.length_eq (sq ((Zz _).length_eq) ?_);exact pl.2.1
  refine sr (Zc d.1) (sr (Zc d.2) ?_)
  exact hR' (t,g,c,_,_) _ (fun _ h=>.tail _ (.tail _ (.tail _ h))) ⟨rfl,.head _,.tail _ (.tail _ (.head _)),.tail _ (.head _)⟩
 ·intro Ds τ' hl hg hm cn
  have hd:=zch hl hg
  rw [List.length_map,← Nat.sub_eq_of_eq_add hR.symm] at hd
  have eD:∀ L:List Pr,(L.map fun p=>PyData.tuple [dW p.2.2.2.1,dW p.2.2.2.2])=(L.map (·.2.2.2)).map fun g=>PyData.tuple [dW g.1,dW g.2]:=fun L=>by refine sr List.map_map ?_;rfl
  have lD:=xp (ds:=((List.range (Vs.length-1)).map (prj Vs)).map fun g=>PyData.tuple [dW g.1,dW g.2]) (k:=3) fun d hd'=>by
   refine e12 (List.mem_map.mp hd') fun g hg w0=>?_;subst w0
   refine e12 (List.mem_map.mp hg) fun j hj w0=>?_;subst w0
   have pl:=Gj o (Nat.add_lt_of_lt_sub (List.mem_range.mp hj))
   exact kX pl.2.2.1 pl.2.2.2
  have dr:∀ (L:List Pr) (τ:Led),L.map (·.2.2.2)=(List.range (Vs.length-1)).map (prj Vs)->HasP τ L->DRs τ (refs L) (((List.range (Vs.length-1)).map (prj Vs)).map fun g=>PyData.tuple [dW g.1,dW g.2]):=fun L τ e h=>by
   rw [← e,← eD];exact DRs.pairs h
  exact qT (okb hlv (by decide)) (.list (.head _) (dr Ds _ hd (Gi fun j a e=>(hg j a e).mono _ _ _ _ fun _ h=>.tail _ h)))
   (.list (.tail _ (hm _ mc)) (dr Cs _ hc fun p hp=>⟨.tail _ (hm _ (hC p hp).1),.tail _ (hm _ (hC p hp).2.1),.tail _ (hm _ (hC p hp).2.2)⟩)) lD.1 (okc (Nat.succ_le_succ lD.2) (by decide)) (h _ fun p hp=>.tail _ (hm p hp))
theorem HZ {Q:V->Led->Prop} {et:Addr} {E:List Tk} {lw:List Wo} {r0 r1 r2 r3 r4 r5:Option V} (k:QV W.K) (hlv:lv<=1) (hE:E.length<=10000) (hw:lw.length<=14/\∀ w∈lw,OkW w) (cnt:∀ w,(E.filterMap Tk.ins?).count w=lw.count w+(E.filterMap Tk.del?).count w)
  (me:(et,O.list ((E.map Tk.enc).map V.str))∈τ) {xs:List V} {la:Addr} (mv:(vl,O.list (xs++[.ref la]))∈τ) (ml:(la,O.list (lw.map V.str))∈τ) (h:∀ τ',Q (.bool true) τ') :
  aev W lv [.ref vl] [r0,r1,r2,r3,r4,r5,some (.ref et)] lc4 τ Q:=by
 have p1:([]:List Wo).Perm (dif (marked 45 (E.map Tk.enc)) (marked 43 (E.map Tk.enc))):=ZC fun w=>by rw [ZM,ZN,cnt w,Nat.sub_eq_zero_of_le (Nat.le_add_left _ _)];rfl
 have p2:lw.Perm (dif (marked 43 (E.map Tk.enc)) (marked 45 (E.map Tk.enc))):=ZC fun w=>by rw [ZM,ZN,cnt w];exact Eq.symm (Nat.add_sub_cancel _ _)
 have es:srt ([]:List Wo)=[]:=(Zz []).eq_nil
 have lp:=kX (A:=[]) (B:=srt lw) (fun w hw=>by exact nn9 hw) (fun w hw'=>kW (hw.2 w (Us hw')))
 refine Q6 k.P (okb hlv (by decide)) me (by rw [List.length_map];exact hE) (by refine sq p1.length_eq ?_;decide) (by refine sq p2.length_eq ?_;exact okb hw.1 (by decide)) fun t g c=>?_
 refine sq (Zc p1) (sq (Zc p2) (sr es ?_))
 refine zC (Nat.zero_le _) fun e1=>Qg (item_list (.tail _ (.tail _ (.tail _ (.tail _ mv)))) ZL ?_)
 refine Zn (.tail _ (.tail _ (.tail _ (.tail _ ml)))) (okb hw.1 (by decide)) fun e2=>zK (show 2<=16777216 by decide) fun e3=>?_
 exact qT (d:=.tuple [dW [],dW (srt lw)]) (okb hlv (by decide)) (.tup (.tail _ (.tail _ (.tail _ (.head _)))) (.cons (.words (ws:=[]) (.tail _ (.tail _ (.tail _ (.tail _ (.tail _ (.head _))))))) (.cons (.words (.tail _ (.tail _ (.tail _ (.tail _ (.head _)))))) .nil)))
  (.tup (.head _) (.cons (.words (ws:=[]) (.tail _ (.tail _ (.head _)))) (.cons (.words (.tail _ (.head _))) .nil))) lp.1 (okc lp.2 (by decide)) (h _)
theorem yA:∀ L:List (List Tk),(∀ T∈L,T.length<=84)->L.flatten.length<=84*L.length
 | [],_=>Nat.zero_le _
 | a::L,h=>by
  rw [List.flatten_cons,List.length_append,List.length_cons,Nat.mul_succ,Nat.add_comm]
  exact Nat.add_le_add (yA L fun T hT=>h T (.tail _ hT)) (h a (.head _))
theorem H0 {K:AFl->List (Option V)->Led->Prop} (k:QV W.K) (hlv:lv<=1) (h1:1<=Vs.length) (h8:Vs.length<=8) (h0:(Vs.map (·.2))[0]?=some [])
  (hV:∀ p∈Vs,p.2.length<=14/\∀ w∈p.2,OkW w) (h:∀ ρ τ,K (.ret (.bool true)) ρ τ) :
  aexs W lv [.ref vl] jr [some (.ref l),none,none,none,none,none,none] ((vl,.list (refs Vs))::(wE Vs++σ)) K:=by
 have o:VsOk Vs:=⟨h1,h8,h0,hV⟩
 have g:GV vl Vs ((vl,.list (refs Vs))::(wE Vs++σ)):=⟨.head _,Has.here.mono fun p hp=>.tail _ hp⟩
 refine Uu k hlv o g fun Ss sl τ hl hs g ms=>?_
 have hS7:Ss.length<=7:=Nat.le_of_succ_le_succ (okc (oke hl) h8)
 refine HW k hlv hS7 hs ms fun td τ1 m1 mt=>?_
 refine Uv k hlv (by rw [List.length_map];exact hS7) (zcg hs) mt fun ln=>?_
 refine HX k hlv hS7 (hs.mono fun p hp=>.tail _ (m1 p hp)) (.head _) fun Rs rd τ2 hr m2 hR mr=>?_
 have m2:∀ p∈τ,p∈τ2:=fun p hp=>m2 p (.tail _ (m1 p hp))
 refine vi k hlv o (g.mono m2) fun Cs ct τ3 hc m3 hC mc=>?_
 have hRl:Rs.length+1=Vs.length:=by rw [← hl,← List.length_map (f:=(·.2)),hr,List.length_map]
 have hR:=hR.mono m3
 have eE:((Rs.map enc2).map (·.2)).flatten=((Rs.map (·.2)).flatten).map Tk.enc:=by
  refine sr List.map_flatten (sr List.map_map (sr List.map_map ?_));rfl
 have hEl:((Rs.map (·.2)).flatten).length<=1000:=by
  refine okc (yA _ fun T hT=>?_) (okc (Nat.mul_le_mul_left 84 (show (Rs.map (·.2)).length<=7 by rw [hr,List.length_map];exact hS7)) (by decide))
  refine e12 (List.mem_map.mp hT) fun p hp w0=>?_;subst w0
  obtain ⟨_,i,f⟩:=hR.mem hp
  exact f.len
 refine za ?_
 refine zB (m3 _ mr) ?_
 refine HV (L:=Rs.map enc2) (by rw [Xj];exact m3 _ mr) hR.has (by rw [eE,List.length_map];exact okb hEl (by decide)) fun et=>?_
 refine sr eE ?_
 have m4:∀ p∈τ2,p∈(et,O.list ((((Rs.map (·.2)).flatten).map Tk.enc).map V.str))::τ3:=fun p hp=>.tail _ (m3 p hp)
 have g:=g.mono fun p hp=>m4 p (m2 p hp)
 have hR:=hR.mono (τ':=(et,O.list ((((Rs.map (·.2)).flatten).map Tk.enc).map V.str))::τ3) fun p hp=>.tail _ hp
 have eRS:(Rs.map enc2).map (·.2)=(Ss.map enc2).map (·.2):=by
  have e1:∀ L:List (Addr×List Tk),(L.map enc2).map (·.2)=(L.map (·.2)).map fun T=>T.map Tk.enc:=fun L=>by refine sr List.map_map (sr List.map_map ?_);rfl
  rw [e1,e1,hr]
 refine za ?_
 refine qY (A:=Rs.map enc2) (B:=Ss.map enc2) (okb hlv (by decide)) (by rw [Xj];exact m4 _ mr) (by rw [Xj];exact m4 _ (m2 _ ms)) hR.has (hs.mono fun p hp=>m4 p (m2 p hp)).has eRS (fun p hp w hw=>?_) ?_
 ·refine e12 (List.mem_map.mp hp) fun q hq w0=>?_;subst w0
  obtain ⟨_,i,f⟩:=hR.mem hq
  exact fun c hc=>((f.noWs w hw).2 c hc).1
 refine HN k.P (okb hlv (by decide)) g.v (m4 _ mr) g.V (fun p hp=>(hR.mem hp).1) hRl.symm (okc (Nat.le_of_succ_le (hRl ▸ h8)) (by decide)) (fun p hp=>⟨okc (hV p hp).1 (by decide),fun w hw=>kW ((hV p hp).2 w hw)⟩) (fun p hp t ht=>?_) h0 (fun i A T B a b c=>?_) ?_
 ·obtain ⟨_,i,f⟩:=hR.mem hp
  exact (f.tok t ht).1
 ·have f:=hR.get b
  refine sr (Ua a) (sr (Ua c) ?_)
  exact ⟨f.forth,f.back⟩
 refine HY k hlv o hRl hR (m4 _ mr) hc (fun p hp=>⟨.tail _ (hC p hp).1,.tail _ (hC p hp).2.1,.tail _ (hC p hp).2.2⟩) (.tail _ mc) fun τ5 m5=>?_
 have hlt:Rs.length<Vs.length:=hRl ▸ Nat.lt_succ_self _
 have cnt:=fun w=>tele (V:=Vs.map (·.2)) (Ts:=Rs.map (·.2)) (fun i A B T a b c=>by refine sr (Ua a) (sr (Ua b) ?_);exact hR.get c) (by rw [List.length_map,List.length_map];exact hRl.symm) w Rs.length [] _ (by rw [List.length_map];exact Nat.le_refl _) h0 (yv hlt)
 rw [List.take_of_length_le (by rw [List.length_map];exact Nat.le_refl _)] at cnt
 refine HZ k hlv (okc hEl (by decide)) (o.at hlt) (fun w=>by have:=cnt w;rwa [List.count_nil,Nat.zero_add] at this) (m5 _ (.head _)) (Je hRl ▸ (g.mono m5).v) ((g.mono m5).at hlt) fun τ'=>h _ _
end
end
section
theorem H3 {e:PySem.Expr} {x:Str} {p:Pos} (h:nameP e=some (x,p)):e=.Name x p:=by
 by_cases k:e.ctorIdx=23
 ·exact PySem.Expr.Name.elim (motive_1:=fun e=>nameP e=some (x,p)->e=.Name x p) e k (fun _ _ h=>by cases h;rfl) h
 ·cases (dif_neg k).symm.trans h
theorem zaX {s:Stmt} {ts:List PySem.Expr} {e:PySem.Expr} {p:Pos} (h:asgP s=some (ts,e,p)):s=.Assign ts e p:=by
 by_cases k:s.ctorIdx=5
 ·exact Stmt.Assign.elim (motive_2:=fun s=>asgP s=some (ts,e,p)->s=.Assign ts e p) s k (fun _ _ _ h=>by cases h;rfl) h
 ·cases (dif_neg k).symm.trans h
theorem zaY {b:FuncBody} {ts:List PySem.Expr} {e:PySem.Expr} {p':Pos} {x:Str} {p:Pos} {rest:List Stmt} (h:lawB b=some ((ts,e,p'),(x,p),rest)):b=.stmts (.Assign [.Name x p] e p'::rest):=by
 match b with
 | .stmts (s::r)=>
  refine e12 (Option.bind_eq_some_iff.mp h) fun a h1 h=>?_
  refine e12 (Option.map_eq_some_iff.mp h) fun y h2 h=>?_
  cases h
  obtain rfl:=zaX h1
  match ts with
  | [t]=>obtain rfl:=H3 h2;rfl
  | []=>exact nn1 h2
  | _::_::_=>exact nn1 h2
 | .stmts []=>exact nn1 h
 | .expr _=>exact nn1 h
theorem ZZ:∀ (names:List (Str×NameKind)) (n m:Nat) (a b:List (Str×Addr)),a.map (·.1)=b.map (·.1)->(cellsFrom n names a).map (·.1)=(cellsFrom m names b).map (·.1)
 | [],n,m,a,b,h=>h
 | (x,k)::r,n,m,a,b,h=>by
  unfold cellsFrom
  split
  ·exact ZZ r _ _ _ _ (by simp [h])
  ·exact ZZ r _ _ _ _ h
theorem kY:∀ {vs:List Value} {ns:List Int},IntsAre vs ns->VRs (ns.map V.int) vs
 | _,_,.nil=>.nil
 | _,_,.cons n t h=>.cons (.int n t) (kY h)
theorem LocR.law {m:Str->Option Value} {l:Addr} (h:m ("script" : Str)=some (.ref l)):LocR zY m [some (.ref l),none,none,none,none,none,none]:=by
 refine ⟨rfl,fun i x hi=>?_⟩
 rcases i with _ | _ | _ | _ | _ | _ | _ | i
 ·cases hi;exact ⟨_,h,.ref l⟩
 all_goals trivial
inductive zci (K:Frag) (pe:PE) (ps:List PS):Prop
 | mk (name qual:Str) (params:Arguments) (scope:Scope) (kV doc pm cdv ct oc:Value) (an od:Option Addr) (osl:Array (Option Value)) (p p':Pos) (e:PySem.Expr) (rest:List Stmt)
  (ho:K.lookup 1136=some ⟨oc,od,.func ⟨name,qual,params,.stmts (.Assign [.Name ("versions" : Str) p] e p'::rest),scope,mainGlobals,[],.none,kV,doc,pm,an,cdv,ct,builtinsNs⟩,osl⟩)
  (c3:codeIn K cdv qual=true) (c4:params.kwonlyargs=[]) (c5:params.vararg=none) (c6:params.kwarg=none) (c8:scope.isCoroutine=false) (c9:scope.isGenerator=false) (c10:scope.kind=.function)
  (c12:params.posonlyargs.map (·.arg)++params.args.map (·.arg)=[("script" : Str)]) (c14:zY.Nodup) (c15:(cellsFrom 0 scope.names []).map (·.1)=[("versions" : Str)])
  (c16:scope.names.lookup ("script" : Str)=some .local) (c17:scope.names.lookup ("versions" : Str)=some .cell) (hs1:Ze scope.names [.Name ("versions" : Str) p] e=false) (hs3:JX scope.names [.Name ("versions" : Str) p] e=some none)
  (e1:cE ⟨scope,zY,[],ZO K⟩ e=pe) (e2:cSs ⟨scope,zY,["versions"],ZO K⟩ rest=ps)
theorem vj {o:Option (Option (List Str))} (h:isPlain o=true):o=some none:=by
 cases o with
 | none=>exact nn3 h
 | some o=>cases o with
  | none=>rfl
  | some _=>exact nn3 h
theorem zcj {K:Frag} {pe:PE} {ps:List PS} {name qual:Str} {params:Arguments} {scope:Scope} {dV kV doc pm cdv ct oc:Value} {an od:Option Addr} {osl:Array (Option Value)} {x:Str} {p p':Pos} {e:PySem.Expr} {rest:List Stmt} {fbody:FuncBody} {globals blt:Addr} {closure:List (Str×Addr)}
  (ho:K.lookup 1136=some ⟨oc,od,.func ⟨name,qual,params,fbody,scope,globals,closure,dV,kV,doc,pm,an,cdv,ct,blt⟩,osl⟩) (hB:fbody=.stmts (.Assign [.Name x p] e p'::rest)) (hx:x=("versions" : Str)) (e1:globals=mainGlobals) (e2:blt=builtinsNs) (e7:closure=[]) (e11:dV=.none)
  (c3:codeIn K cdv qual=true) (c4:params.kwonlyargs=[]) (c5:params.vararg=none) (c6:params.kwarg=none) (c8:scope.isCoroutine=false) (c9:scope.isGenerator=false) (c10:scope.kind=.function)
  (c12:params.posonlyargs.map (·.arg)++params.args.map (·.arg)=[("script" : Str)]) (c14:zY.Nodup) (c15:(cellsFrom 0 scope.names []).map (·.1)=[("versions" : Str)])
  (c16:scope.names.lookup ("script" : Str)=some .local) (c17:scope.names.lookup ("versions" : Str)=some .cell) (hs1:Ze scope.names [.Name x p] e=false) (hs3:JX scope.names [.Name x p] e=some none)
  (f1:cE ⟨scope,zY,[],ZO K⟩ e=pe) (f2:cSs ⟨scope,zY,["versions"],ZO K⟩ rest=ps):zci K pe ps:=by
 subst hB hx e1 e2 e7 e11
 exact .mk name qual params scope kV doc pm cdv ct oc an od osl p p' e rest ho c3 c4 c5 c6 c8 c9 c10 c12 c14 c15 c16 c17 hs1 hs3 f1 f2
theorem zck {K:Frag} {pe:PE} {ps:List PS} (hv:lawV K=some (pe,ps)):zci K pe ps:=by
 obtain ⟨⟨oc,od,dt,osl⟩,ho,h1⟩:=Option.bind_eq_some_iff.mp hv
 clear hv
 obtain ⟨⟨name,qual,params,fbody,scope,globals,closure,dV,kV,doc,pm,an,cdv,ct,blt⟩,hd,h2⟩:=Option.bind_eq_some_iff.mp h1
 clear h1
 obtain rfl:=jO hd
 clear hd
 refine e02 (VL h2) fun hc h3=>?_
 clear h2
 obtain ⟨⟨⟨ts,e,p'⟩,⟨x,p⟩,rest⟩,hbd,h4⟩:=Option.bind_eq_some_iff.mp h3
 clear h3
 refine zbf hc fun c1 c2 c3 c4 c5 c6 c7 c8 c9 c10 c11 c12 c13 c14 c15 c16 c17=>?_
 clear hc
 have hB:=zaY hbd
 clear hbd
 refine e02 (xq h4) fun hc hb=>?_
 clear h4
 refine and3 hc fun d1 d2 d3=>?_
 refine e02 (Prod.mk.inj hb) fun e1 e2=>?_
 exact zcj ho hB (beq_iff_eq.mp d1) (beq_iff_eq.mp c1) (beq_iff_eq.mp c2) (List.isEmpty_iff.mp c7) (beq_iff_eq.mp c11) c3 (List.isEmpty_iff.mp c4) (Option.isNone_iff_eq_none.mp c5) (Option.isNone_iff_eq_none.mp c6) (Bool.not_eq_true' _ ▸ c8) (Bool.not_eq_true' _ ▸ c9) (beq_iff_eq.mp c10) (beq_iff_eq.mp c12) (of_decide_eq_true c14) (beq_iff_eq.mp c15) (beq_iff_eq.mp c16) (beq_iff_eq.mp c17) (beq_iff_eq.mp d2) (vj d3) e1 e2
inductive LawP (W:Wd) (c:Cx) (l:Addr) (o:Obj) (fl:Flow) (s':Shared):Prop
 | mk (ρ:List (Option V)) (σ:Led) (Φ:List (Addr×Obj)) (hf:FlR (.ret (.bool true)) fl) (r:R0 W.prog W.w c.F ρ σ ((l,o)::Φ) s')
inductive LawM (W:Wd) (c:Cx) (l ca:Addr) (o:Obj) (fl:Flow) (s':Shared):Prop
 | mk (hf:fl=.next) (d:Addr) (Vs:WL) (oc2:Obj) (a1:1<=Vs.length) (a2:Vs.length<=8) (a3:(Vs.map (·.2))[0]?=some []) (a4:∀ p∈Vs,p.2.length<=14/\∀ w∈p.2,OkW w) (hd:oc2.data=.cell (some (.ref d)))
   (r:R0 W.prog W.w c.F [some (.ref l),none,none,none,none,none,none] ((d,.list (refs Vs))::(wE Vs++[])) ((l,o)::[(ca,oc2)]) s')
inductive LawV (l:Addr) (o:Obj) (v:V) (σ':Led):Prop
 | mk (d:Addr) (Vs:WL) (hv:v=.ref d) (a1:1<=Vs.length) (a2:Vs.length<=8) (a3:(Vs.map (·.2))[0]?=some []) (a4:∀ p∈Vs,p.2.length<=14/\∀ w∈p.2,OkW w) (hs:σ'=(d,.list (refs Vs))::(wE Vs++[(l,.raw o)]))
theorem Uw {W:Wd} (k:QV W.K) {c:Cx} {env:Env} {n0:Nm} {l ca:Addr} {o oc':Obj} {vs:List Value} {n:Nat} {ns:List Int} {p p':Pos} {e:PySem.Expr} {s:Shared} (hc:o.cls=.type "list") (hd:o.data=.seq vs.toArray n) (hI:IntsAre vs ns) (hn:ns.length<=63)
  (C:CxOk W 1 c) (v0:Ve W n0 c [(ca,oc')] env []) (e1:cE n0 e=.call (.const (.ref 1095)) [.loc 0]) (hs1:Ze n0.scope.names [.Name ("versions" : Str) p] e=false) (hs3:JX n0.scope.names [.Name ("versions" : Str) p] e=some none)
  (hkv:env.kindOf ("versions" : Str)=some .cell) (hcel:env.cells.lookup ("versions" : Str)=some ca) (hocd:oc'.data=.cell none) (r:R0 W.prog W.w c.F [some (.ref l),none,none,none,none,none,none] [(l,.raw o)] [(ca,oc')] s) :
  wpAny W.M c.A (exec (.Assign [.Name ("versions" : Str) p] e p') env) (LawM W c l ca o) NoE s:=by
 have hq:=Qe (env:=env) v0.kind (targets:=[.Name ("versions" : Str) p]) (value:=e) (line:=p'.line)
 rw [v0.names,hs1] at hq
 have hw:=J9 (env:=env) v0.kind (targets:=[.Name ("versions" : Str) p]) (value:=e) (r:=none) (by refine sr v0.names ?_;exact hs3)
 refine wpAny_Assign_stores (zb (Zk e W 1 c n0 _ _ _ _ env [] _ (LawV l o) C (v0.vw _) ?_ r) ?_) hq hw
 ·refine sr e1 ?_
  exact YB k.P (by decide) (.head _) hc hd (kY hI) hn fun d Vs a1 a2 a3 a4=>⟨d,Vs,rfl,a1,a2,a3,a4,rfl⟩
 ·rintro u s2 ⟨v,σ',z,r2,d,Vs,rfl,a1,a2,a3,a4,rfl⟩
  refine VR.ZQ z ?_
  refine (?_:wpAny _ _ (assign (.Name ("versions" : Str) p) env (.ref d)) _ _ _)
  refine wpAny_assign_Name (wpAny_storeName_cell (v₀:=none) v0.kind hkv hcel ⟨oc',r2.headΦ (I:=ca) (Φ:=[]),hocd⟩ fun h' hv sb=>?_)
  refine e12 hv fun oc2 ho2 hd2=>?_
  have r3:=R0.vZ (t:=s2.toks) (I:=ca) (o:=oc') (Φ:=[]) r2 (fun b x hb q=>(sb.2 b hb).trans q) ho2
  have r4:=r3.sub (σ':=(l,.raw o)::(d,.list (refs Vs))::(wE Vs++[])) (Sub.qV (r:=[]) (by
   have:=(List.perm_append_singleton (l,O.raw o) ((d,O.list (refs Vs))::wE Vs)).symm
   simpa using this))
  refine e12 r4.hide fun o' zo r5=>?_
  obtain rfl:=zo.ZX
  exact ⟨rfl,d,Vs,oc2,a1,a2,a3,a4,hd2,r5⟩
theorem zaZ {W:Wd} (k:QV W.K) {c:Cx} {env:Env} {n0 n1:Nm} {l ca:Addr} {o oc':Obj} {vs:List Value} {n:Nat} {ns:List Int} {p p':Pos} {e:PySem.Expr} {rest:List Stmt} {s:Shared} (hc:o.cls=.type "list") (hd:o.data=.seq vs.toArray n) (hI:IntsAre vs ns) (hn:ns.length<=63)
  (C:CxOk W 1 c) (v0:Ve W n0 c [(ca,oc')] env []) (v1:∀ d oc2,oc2.data=.cell (some (.ref d))->Ve W n1 c [(l,o),(ca,oc2)] env [.ref d]) (e1:cE n0 e=.call (.const (.ref 1095)) [.loc 0]) (e2:cSs n1 rest=jr) (hs1:Ze n0.scope.names [.Name ("versions" : Str) p] e=false) (hs3:JX n0.scope.names [.Name ("versions" : Str) p] e=some none)
  (hkv:env.kindOf ("versions" : Str)=some .cell) (hcel:env.cells.lookup ("versions" : Str)=some ca) (hocd:oc'.data=.cell none) (r:R0 W.prog W.w c.F [some (.ref l),none,none,none,none,none,none] [(l,.raw o)] [(ca,oc')] s) :
  wpAny W.M c.A (execs (.Assign [.Name ("versions" : Str) p] e p'::rest) env) (LawP W c l o) NoE s:=by
 refine wpAny_execs_cons (wpAny_mono (Uw k hc hd hI hn C v0 e1 hs1 hs3 hkv hcel hocd r) ?_ fun _ _ x=>x.elim)
 rintro fl s2 ⟨rfl,d,Vs,oc2,a1,a2,a3,a4,hd2,r5⟩
 refine wpAny_mono (qh rest W 1 c n1 _ _ _ env [.ref d] s2 (fun fl _ _=>fl=.ret (.bool true)) C (v1 d oc2 hd2) ?_ r5) (fun fl s3 z=>?_) fun _ _ x=>x.elim
 ·refine sr e2 ?_
  exact H0 k (Nat.le_refl 1) a1 a2 a3 a4 fun _ _=>rfl
 ·obtain ⟨a,ρ,σ,hf,r6,rfl⟩:=z
  exact ⟨ρ,σ,[(ca,oc2)],hf,r6⟩
set_option backward.match.sparseCases true in
theorem za0 {W:Wd} (k:QV W.K) (hlw:lawV W.K=some (.call (.const (.ref 1095)) [.loc 0],jr)) {s₁:Shared} {l:Addr} {o:Obj} {vs:List Value} {n:Nat} {ns:List Int} (X:W.K.In (hideAll s₁.heap [l])) (T:TopRead W.p W.loose W.mg W.mb (hideAll s₁.heap [l]))
  (hl:s₁.heap.get? l=some o) (hc:o.cls=.type "list") (hd:o.data=.seq vs.toArray n) (hI:IntsAre vs ns) (hn:ns.length<=63) :
  wpAny W.M callerA (call (.ref 1136) [.ref l]) (fun v s'=>v=.bool true/\(∀ b x,s₁.heap.get? b=some x->s'.heap.get? b=some x)/\s'.os=s₁.os/\s'.gens=s₁.gens) NoE s₁:=by
 obtain ⟨name,qual,params,scope,kV,doc,pm,cdv,ct,oc,an,od,osl,p,p',e,rest,ho,c3,c4,c5,c6,c8,c9,c10,c12,c14,c15,c16,c17,hs1,hs3,e1,e2⟩:=zck hlw
 have sub:∀ b x,(hideAll s₁.heap [l]).get? b=some x->s₁.heap.get? b=some x:=fun b x q=>of_hideAll _ q
 have X1:W.K.In s₁.heap:=X.keeps sub
 have hlt:l<s₁.heap.objs.size:=Heap.lt_size hl
 refine wpAny_call (codeAny_call_function (fd:=_) (body:=.Assign [.Name ("versions" : Str) p] e p'::rest) (by decide) (X1 _ _ ho) rfl c8 c9 rfl (codeRec_of X1 c3) ?_)
 refine J0 (ps:=[("script" : Str)]) (ds:=[]) (vals:=[.ref l]) c12 c4 c5 c6 (by decide +kernel) (fun M A E Q q=>wpAny_pure (q none rfl)) (Nat.le_refl 1) (Nat.le_refl 1) (Nat.zero_le _) _ _ _ _ ?_
 refine (?_:wpAny _ _ (newFunctionEnv scope mainGlobals [] [(("script" : Str),Value.ref l)] (qual++".<locals>.") (some 1136) cdv none builtinsNs) _ _ _)
 refine wpAny_newFunctionEnv_cells c10 (fun x hx=>?_) fun env he s' xx=>?_
 ·have:x=(("script" : Str),Value.ref l):=by simpa using hx
  refine sr this ?_;exact .inl c16
 obtain ⟨ca,hcells⟩:∃ ca,cellsFrom (s₁.heap.objs.size+1) scope.names []=[(("versions" : Str),ca)]:=by
  have h1:=ZZ scope.names 0 (s₁.heap.objs.size+1) [] [] rfl
  rw [c15] at h1
  cases hq:cellsFrom (s₁.heap.objs.size+1) scope.names [] with
  | nil=>rw [hq] at h1;exact nn6 h1
  | cons a r=>
   rw [hq] at h1
   cases r with
   | nil=>obtain ⟨a1,a2⟩:=a;exact ⟨a2,by exact sr (show a1=("versions" : Str) from by first | simpa using h1 | simpa using h1.symm) rfl⟩
   | cons b r=>simp at h1
 rw [hcells] at he
 have hloc:env.locals=s₁.heap.objs.size:=by refine sr he ?_;rfl
 have hcel:env.cells=[(("versions" : Str),ca)]:=by refine sr he ?_;rfl
 have hk':env.kindOf ("script" : Str)=some .local:=by refine sr he ?_;exact c16
 have hkv:env.kindOf ("versions" : Str)=some .cell:=by refine sr he ?_;exact c17
 have hns:=xx.toInCall.ns
 have hkeep:=xx.toInCall.keep
 refine e12 (xx.cell ("versions" : Str) ca (by refine sr hcel ?_;simp [List.lookup])) fun oc' hoc hocd=>?_
 have habove:s₁.heap.objs.size<ca:=hloc ▸ xx.above ("versions" : Str) ca (by refine sr hcel ?_;exact .head _)
 refine e22 xx.done fun hh1 tk w0 _=>?_;subst w0
 dsimp only at hns hkeep hoc
 rw [hloc] at hns
 have hms:(bindL env.kindOf [(("script" : Str),Value.ref l)] fun _=>none) ("script" : Str)=some (.ref l):=by
  simp [bindL,hk']
 have hmc:(bindC env.kindOf [(("script" : Str),Value.ref l)] fun _=>none) ("versions" : Str)=none:=by
  simp [bindC,hk']
 rw [hmc] at hocd
 refine ⟨(T.nolimit.keeps sub).keeps hkeep,codeAny_func ?_⟩
 have h0n:∀ b,s₁.heap.objs.size<=b->(hideAll s₁.heap [l]).get? b=none:=fun b hb=>by
  cases q:(hideAll s₁.heap [l]).get? b with
  | none=>rfl
  | some x=>exact absurd (Heap.lt_size (sub b x q)) (Nat.not_lt.mpr hb)
 have h0l:(hideAll s₁.heap [l]).get? l=none:=hideAll_none _ (.head _)
 let F:Fm:=⟨hideAll s₁.heap [l],s₁.heap.objs.size,zY,s₁.gens,s₁.os,[]⟩
 let c:Cx:=⟨F,env,callerA.deeper env,callerA,s₁.heap,[]⟩
 have C:CxOk W 1 c:=⟨trivial,X,T,Around.frames_deeper rfl,by refine (?_:env.frame=_);refine sr he ?_;rfl,by refine (?_:env.scope.kind=_);refine sr he ?_;exact c10,by refine (?_:env.globals=_);refine sr he ?_;rfl,by refine (?_:env.builtins=_);refine sr he ?_;rfl,
  by refine (?_:1+claimMargin+1<=_);decide,by refine (?_:4+3<=_);decide,rfl,c14⟩
 have r:R0 W.prog W.w c.F [some (.ref l),none,none,none,none,none,none] [(l,.raw o)] [(ca,oc')] { s₁ with heap:=hh1,toks:=tk }:=by
  refine ⟨[],.nil,⟨⟨_,[(l,o)],⟨hns,fun b x q=>hkeep b x (sub b x q),?_⟩,.law hms,.cons (.raw o) .nil,fun q hq=>?_,?_⟩,rfl,rfl⟩⟩
  ·refine (?_:(hideAll s₁.heap [l]).objs.size<=s₁.heap.objs.size)
   rw [hideAll_size];exact Nat.le_refl _
  ·refine mc hq ?_ fun hq=>?_
   ·exact ⟨hkeep _ _ hl,Nat.ne_of_lt hlt,h0l⟩
   ·have:q=(ca,oc'):=by simpa using hq
    refine sr this ?_
    exact ⟨hoc,Nat.ne_of_gt habove,h0n _ (okd habove)⟩
  ·refine (?_:[l,ca].Nodup)
   have hlca:l≠ca:=Nat.ne_of_lt (Nat.lt_trans hlt habove)
   simp [hlca]
 have ve:∀ (cells:List Str) (cl:List V) (Φ:List (Addr×Obj)),cells.length=cl.length->
   (∀ (k:Nat) (x:Str) (y:V),scope.names.lookup x=some .cell\/scope.names.lookup x=some .free->cells[k]?=some x->cl[k]?=some y->∃ a v,env.cells.lookup x=some a/\(∃ o:Obj,(a,o)∈Φ/\o.data=.cell (some v))/\VR y v)->
   Ve W ⟨scope,zY,cells,ZO W.K⟩ c Φ env cl:=fun cells cl Φ hcl hce=>
  ⟨by refine (?_:env.scope.names=_);refine sr he ?_;rfl,C.kind,C.glob,C.blt,hloc,rfl,rfl,fun x v hx=>je hx,hcl,hce⟩
 have v0:=ve [] [] [(ca,oc')] rfl fun k x y _ hk=>by simp at hk
 have fin:∀ (fl:Flow) (s':Shared),LawP W c l o fl s'->
   (match fl with | .ret v=>v | _=>.none)=Value.bool true/\(∀ b x,s₁.heap.get? b=some x->s'.heap.get? b=some x)/\s'.os=s₁.os/\s'.gens=s₁.gens:=by
  rintro fl s' ⟨ρ,σ,Φ,hf,r⟩
  cases hf with
  | ret z=>
   refine VR.zbg z ?_
   refine ⟨rfl,fun b x q=>?_,r.os,r.gens⟩
   by_cases hb:b=l
   ·subst hb
    rw [hl] at q
    cases q
    exact r.getΦ (.head _)
   ·exact r.old (hideAll_get _ q (by simpa using hb))
 have hlook:env.cells.lookup ("versions" : Str)=some ca:=by refine sr hcel ?_;simp [List.lookup]
 refine wpAny_mono (zaZ (c:=c) (n1:=⟨scope,zY,[("versions" : Str)],ZO W.K⟩) k hc hd hI hn C v0 (fun d oc2 hd2=>ve [("versions" : Str)] [.ref d] ((l,o)::[(ca,oc2)]) rfl fun k x y _ hk hy=>by
   rcases k with _ | k
   ·cases hk;cases hy
    exact ⟨ca,.ref d,hlook,⟨oc2,.tail _ (.head _),hd2⟩,.ref d⟩
   ·exact nn1 hk) e1 e2 hs1 hs3 hkv hlook hocd r) (fun fl s3 z=>fin fl s3 z) fun _ _ x=>x.elim
end
section
inductive InL (l:List Obj) (n a:Nat) (o:Obj):Prop
 | mk (h:n<=a) (e:l[a-n]?=some o) (f:o.isFreed=false) (c:o.cls≠.type "list")
theorem InL.up {x o:Obj} {r:List Obj} {n a:Nat} (h:InL r (n+1) a o):InL (x::r) n a o:=by
 obtain ⟨a1,a2,a3,a4⟩:=h
 exact ⟨Nat.le_of_lt a1,(Nat.succ_pred_eq_of_pos (Nat.sub_pos_of_lt a1)).symm ▸ a2,a3,a4⟩
theorem vm {x o:Obj} {r:List Obj} {n a:Nat} {f:Frag} (h:(if x.isFreed || x.cls==.type "list" then f else (n,x)::f).lookup a=some o) (k:f.lookup a=some o->InL r (n+1) a o):InL (x::r) n a o:=by
 cases q:x.isFreed || x.cls==(.type "list" : Value) with
 | true=>rw [q] at h;exact (k h).up
 | false=>
  rw [q] at h
  replace h:(match a==n with | true=>some x | false=>f.lookup a)=some o:=h
  cases e:a==n with
  | false=>rw [e] at h;exact (k h).up
  | true=>
   rw [e] at h
   cases h
   cases eq_of_beq e
   rw [Bool.or_eq_false_iff] at q
   exact ⟨Nat.le_refl _,by rw [Nat.sub_self];rfl,q.1,ne_of_beq_false q.2⟩
theorem yB (l:List Obj):∀ (n:Nat) (as:List Addr) (a:Nat) (o:Obj),(Xp l n as).lookup a=some o->InL l n a o:=by
 induction l with
 | nil=>exact fun _ _ _ _ h=>nn1 h
 | cons x r ih=>
  intro n as a o
  cases as with
  | nil=>exact fun h=>nn1 h
  | cons b as=>
   show (match Nat.beq n b with
    | true=>if x.isFreed || x.cls==(.type "list" : Value) then Xp r (n+1) as else (n,x)::Xp r (n+1) as
    | false=>Xp r (n+1) (b::as)).lookup a=some o->_
   cases Nat.beq n b with
   | true=>exact fun h=>vm h fun h=>ih _ _ _ _ h
   | false=>exact fun h=>(ih _ _ _ _ h).up
theorem H4 (h:Heap):(yF h).In h:=fun a o e=>by
 obtain ⟨_,h1,h2,_⟩:=yB _ _ _ _ _ e
 unfold Heap.get?
 rw [Nat.sub_zero,Array.getElem?_toList] at h1
 refine sr h1 ?_
 obtain ⟨c,d,dt,sl⟩:=o
 cases dt <;> first | rfl | (exact nn4 h2)
theorem yC {h:Heap} {a:Addr} {o:Obj} (e:(yF h).lookup a=some o):o.cls≠.type "list":=let ⟨_,_,_,h⟩:=yB _ _ _ _ _ e;h
end
section
theorem Xk {x:Option CFound} {a b c d:Value} (h:UB x a b c d=true):x=some (.get a b c d):=by
 cases x with
 | none=>exact nn3 h
 | some y=>cases y with
  | val v=>exact nn3 h
  | get a' b' c' d'=>exact and4 h fun h1 h2 h3 h4=>eq_of_beq h1 ▸ eq_of_beq h2 ▸ eq_of_beq h3 ▸ eq_of_beq h4 ▸ rfl
section
variable {K:Frag}
theorem Ux {C:Addr} {q:Value->ClassData->Bool} {g:Prop} (h:clsQ K C q=true) (k:∀ oc od cd sl,K.lookup C=some ⟨oc,od,.cls cd,sl⟩->sl.toList[4]?=some (some .none)->q oc cd=true->g):g:=by
 unfold clsQ at h
 cases e:K.lookup C with
 | none=>rw [e] at h;exact nn3 h
 | some o=>
  rw [e] at h
  obtain ⟨oc,od,dt,sl⟩:=o
  cases dt with
  | cls cd=>exact and2 h fun h1 h2=>k _ _ _ _ e (eq_of_beq h1) h2
  | _=>exact nn3 h
theorem za1 {C:Addr} {names:List Str} (h:vI K C names=true):ClOk K C names:=by
 simp only [vI,Bool.and_eq_true,beq_iff_eq,List.all_eq_true] at h
 obtain ⟨⟨⟨⟨h1,h2⟩,h3⟩,h4⟩,h5⟩:=h
 exact ⟨h1,h2,h3,h4,h5⟩
theorem zcl {C f:Addr} (h:UC K C f=true):MkOk K C f:=by
 simp only [UC,Bool.and_eq_true,beq_iff_eq] at h
 obtain ⟨⟨⟨h1,h2⟩,h3⟩,h4⟩:=h
 exact ⟨h1,h2,h3,h4⟩
theorem jd {C:Addr} {nm:Str} {f:Addr} (h:q9 K C nm f=true):MeOk K C nm f:=by
 simp only [q9,Bool.and_eq_true,beq_iff_eq] at h
 obtain ⟨⟨h1,h2⟩,h3⟩:=h
 exact ⟨h1,h2,h3⟩
theorem yD {C f sm:Addr} (h:Gw K C f sm=true):TsOk K C f sm:=
 zbc h fun h1 h2 h3 h4 h5 h6 h7 h8 h9 h10 h11 h12=>⟨Ux h1 fun oc od cd sl hl h4 h=>and3 h fun a1 a2 a3=>⟨oc,od,cd,sl,hl,Bool.not_eq_true' _ ▸ a1,eq_of_beq a2,h4,eq_of_beq a3⟩,
  eq_of_beq h2,eq_of_beq h3,eq_of_beq h4,eq_of_beq h5,eq_of_beq h6,eq_of_beq h7,eq_of_beq h8,h9,Xk h10,eq_of_beq h11,h12⟩
theorem zcL {C p f:Addr} (h:zba K C p f=true) (v:zt K f=some Zu):MmOk K C p f:=and2 h fun h1 h2=>⟨Xk h1,eq_of_beq h2,v⟩
theorem za2 {c:Addr} {b:Value} {m:List Value} (h:UD K c b m=true):ChOk K c b m:=
 Ux h fun oc od cd sl hl h4 h=>and6 h fun a1 a2 a3 a4 a5 a6=>⟨od,cd,sl,eq_of_beq a1 ▸ hl,Bool.not_eq_true' _ ▸ a2,Bool.not_eq_true' _ ▸ a3,eq_of_beq a5,List.isEmpty_iff.mp a4,h4,eq_of_beq a6⟩
theorem Uy (h:za8 K=true):IoOk K:=
 zbd h fun h1 h2 h3 h4 h5 h6 h7 h8 h9 h10 h11 h12 h13=>⟨za2 h1,za2 h2,za2 h3,eq_of_beq h4,h5,eq_of_beq h6,eq_of_beq h7,eq_of_beq h8,h9,Xk h10,eq_of_beq h11,h12,eq_of_beq h13⟩
theorem zcM {o:Option (List Value)} {v:Value} (h:(o.elim false fun l=>l.head?==some v)=true):∃ r,o=some (v::r):=by
 cases o with
 | none=>exact nn3 h
 | some l=>cases l with
  | nil=>exact nn3 h
  | cons x r=>exact ⟨r,Option.some.inj (eq_of_beq h) ▸ rfl⟩
theorem zcN {C:Addr} {nm:Str} {p f:Addr} (h:za9 K C nm p f=true):∃ rest,V0 K C nm p f rest:=
 and6 h fun h1 h2 h3 h4 h5 h6=>(zcM h6).elim fun r hr=>⟨r,h1,h2,eq_of_beq h3,eq_of_beq h4,eq_of_beq h5,hr⟩
structure Looks (K:Frag):Prop where
 fns:addrs.map (zt K)=vJ.map some
 star:qv K 80=some ZP
 law:lawV K=some (.call (.const (.ref 1095)) [.loc 0],jr)
 chk:chk K=true
theorem Looks.fn (k:Looks K) (i:Nat) {a:Addr} {f:FV} (ha:addrs[i]?=some a) (hf:vJ[i]?=some f):zt K a=some f:=by
 have e:=congrArg (fun l=>l[i]?) k.fns
 simp only [List.getElem?_map,ha,hf,Option.map_some] at e
 injection e
theorem Looks.pr (k:Looks K):PrOk K:=⟨k.fn 0 rfl rfl,k.fn 1 rfl rfl,k.fn 2 rfl rfl,k.fn 3 rfl rfl,k.fn 4 rfl rfl,k.fn 5 rfl rfl,k.fn 6 rfl rfl,k.fn 7 rfl rfl,k.fn 8 rfl rfl,k.fn 9 rfl rfl,k.fn 10 rfl rfl,k.fn 11 rfl rfl,k.fn 12 rfl rfl,k.fn 13 rfl rfl,k.fn 14 rfl rfl,k.fn 15 rfl rfl,k.fn 16 rfl rfl,k.fn 17 rfl rfl,k.fn 18 rfl rfl,k.fn 19 rfl rfl,k.fn 20 rfl rfl,k.fn 21 rfl rfl,k.fn 22 rfl rfl,k.fn 23 rfl rfl,k.fn 24 rfl rfl,k.fn 25 rfl rfl,k.fn 26 rfl rfl,k.fn 27 rfl rfl,k.fn 28 rfl rfl,k.fn 29 rfl rfl,k.fn 30 rfl rfl,k.fn 31 rfl rfl⟩
theorem zF {l:List Bool} (h:l.all id=true) (i:Nat) {b:Bool} (e:l[i]?=some b):b=true:=List.all_eq_true.mp h b (List.mem_of_getElem? e)
theorem Looks.ok (k:Looks K):QV K/\nsIn K mainGlobals "law" = some (some (.ref 1136)):=
 have P:=k.pr
 ⟨⟨P,⟨(zF k.chk 0 rfl),za1 (zF k.chk 2 rfl),zcl (zF k.chk 3 rfl),jd (zF k.chk 4 rfl),jd (zF k.chk 5 rfl),jd (zF k.chk 6 rfl),jd (zF k.chk 7 rfl),jd (zF k.chk 8 rfl),jd (zF k.chk 9 rfl),jd (zF k.chk 10 rfl),yD (zF k.chk 11 rfl),zcL (zF k.chk 12 rfl) P.h_match_make⟩,⟨za1 (zF k.chk 14 rfl),jd (zF k.chk 15 rfl),jd (zF k.chk 16 rfl),jd (zF k.chk 17 rfl),Uy (zF k.chk 18 rfl),k.star⟩,
  ⟨za1 (zF k.chk 19 rfl),zcl (zF k.chk 20 rfl),jd (zF k.chk 21 rfl),jd (zF k.chk 22 rfl),zcN (zF k.chk 23 rfl),k.fn 32 rfl rfl,(zF k.chk 24 rfl),eq_of_beq (zF k.chk 25 rfl),(zF k.chk 26 rfl),eq_of_beq (zF k.chk 27 rfl),(zF k.chk 28 rfl),eq_of_beq (zF k.chk 29 rfl),eq_of_beq (zF k.chk 30 rfl)⟩,(zF k.chk 31 rfl),yD (zF k.chk 13 rfl)⟩,eq_of_beq (zF k.chk 1 rfl)⟩
end
end
end Mine
end
section
open MineH
open PySem PySem.W PySem.Calls PyProof.Rows PySem.Spec
namespace Mine
set_option maxRecDepth 100000
set_option maxHeartbeats 4000000
theorem left:LeftO pw q loose (fun _=>true) (fun s=>(vL s,yG s)) (fun _=>(true,k6)) 17160:=Gm fun w=>by
 have h:=vK (H:=fun s t=>Jy pw q loose (fun _=>true) (fun s=>(vL s,yG s)) s t) (c:=(true,openGood q loose,(true,k6))) (zco w) (zcp w) fun s t h1 h2=>by
  unfold Jy at h1 ⊢
  injection h1 with a1 h1
  injection h1 with a2 a3
  show (_,_,(vL t,yG t))=_
  rw [a1,a2,a3,h2]
 exact h
noncomputable def HeapOk (_:World) (h:Heap):Prop:=∃ K:Frag,Looks K/\K.In h/\∀ a o,K.lookup a=some o->o.cls≠.type "list"
theorem Uz (w:World) (s:Shared) (e:(vL s,yG s)=(true,k6)):HeapOk w s.heap:=by
 injection e with e1 e2
 have e2:yG s=k6:=e2
 unfold yG k6 at e2
 injection e2 with a1 e2
 injection e2 with a2 a3
 exact ⟨yF s.heap,⟨a1,a2,a3,e1⟩,H4 _,fun _ _=>yC⟩
theorem vn (w:World) (s₀ s₁:Shared) (mg mb:Str->Option Value) (G:Ground q loose [] (fun _ _=>True) w s₀ mg mb s₁.heap) (Y:HeapOk w s₁.heap) (a:Addr) (ha:mg "law" = some (.ref a)) (hg:s₁.gens = #[])
  (l:Addr) (vs:List Value) (ns:List Int) (hL:s₁.heap.IsList l vs.toArray) (hI:IntsAre vs ns) (hn:ns.length<=63) :
  wpAny (model pw w) callerA (PySem.call (.ref a) [.ref l]) (fun v s'=>v=.bool true/\(∀ b o,s₁.heap.get? b=some o->s'.heap.get? b=some o)/\s'.os=s₁.os/\s'.gens = #[]) (fun _ _=>False) s₁:=by
 obtain ⟨K,kl,X,hno⟩:=Y
 obtain ⟨k,hlaw⟩:=kl.ok
 have T:=topRead_of G.T
 have e:=mg_of X T.g hlaw
 rw [ha] at e
 obtain rfl:a=1136:=by injection e with e;injection e
 obtain ⟨o,ho,hc,n,hd⟩:=hL
 have hX:K.In (hideAll s₁.heap [l]):=fun b x q=>hideAll_get _ (X b x q) fun hm=>by
  obtain rfl:b=l:=by simpa using hm
  have h2:=X _ _ q
  rw [ho] at h2
  cases h2
  exact hno _ _ q hc
 have hNs:∀ {b m},s₁.heap.Ns b m->(hideAll s₁.heap [l]).Ns b m:=fun {b m} z=>by
  obtain ⟨x,es,ep,h1,h2,h3⟩:=z
  refine ⟨x,es,ep,hideAll_get _ h1 fun hm=>?_,h2,h3⟩
  obtain rfl:b=l:=by simpa using hm
  rw [ho] at h1
  cases h1
  rw [hd] at h2
  cases h2
 have hT:TopRead q (looseW q loose) mg mb (hideAll s₁.heap [l]):=⟨hNs T.g,hNs T.b,by obtain ⟨mc,h1,h2⟩:=T.nolimit;exact ⟨mc,hNs h1,h2⟩,T.builtins,T.free⟩
 have R:=za0 (W:=⟨pw,w,K,q,looseW q loose,ExcName.means s₀.heap,mg,mb⟩) k kl.law hX hT ho hc hd hI hn
 refine wpAny_mono R (fun v s' z=>⟨z.1,z.2.1,z.2.2.1,z.2.2.2.trans hg⟩) fun _ _ z=>z
theorem law_holds:PySem.Challenge.rw_ik0105_01.Holds:=reduce said left Uz (fun _ _ _ ⟨K,a,X,b⟩ hk=>⟨K,a,X.keeps hk,b⟩) vn
end Mine
end
theorem PySem.Challenge.cw_ik0105_01_holds : PySem.Challenge.rw_ik0105_01.Holds :=
  Mine.law_holds
