import PyProof.Rows.All
import Wide.All
import OpenK.AllK
import Wide.FinOn
import KE.KDictIter
import KE.KSortAsk
import KE.KBits
import Lean
import PySem.Challenge.RW_xc0012_02
set_option Elab.async false
set_option maxRecDepth 100000
set_option maxHeartbeats 0
set_option linter.all false
namespace Mine.Internal
local macro_rules (kind:=Lean.Parser.Command.declaration)
 | s=>if s.getPos?.isSome then pure (s.rewriteBottomUp (·.setInfo .none)) else Lean.Macro.throwUnsupported
local macro_rules
 | `(tactic|k_head)=> `(tactic|z_head)
open_top qq9 for PySem.Challenge.rw_xc0012_02.row
open PySem renaming wpAny_bind→ao,Shared→aq,wpAny_pure→aw,Builtin→aC,Around→aF,Expr→aM,wpAny_holding→aP,codeAny_builtin→aR,wpAny_field→aT,wpAny_seqItems→aW,plainId_quiet→bf,wpAny_newObj_type→bl,wpAny_callSpecial?_slot→bq,wpAny_call_entry→bw,wpAny_specialOf→bF,wpAny_mono→bH,builtinLookup_eq_fast→bI,slot_listiter_next→bS,wpAny_Call_NameR→bT,wpAny_richCompare_same_room→bU,wpAny_standAt→bX,Env→b8,typeLookup_type→cj,entry_listiter_next→ck,wpAny_pyNext_list_item→cm,wpAny_of_eq→cw,Comprehension→cy,wpAny_tryCatch→cB,wpAny_setField→cC,args_listiter_next→cD,wpAny_updateSeq→cF,wpAny_pyIter_list→cG,wpAny_loadName_local→cH,wpAny_letGo→cI,Pos→cP,wpAny_rule→cR,wpAny_items_nil→cW,wpAny_truthy_bool→cZ,wpAny_items_cons→di,wpAny_isInstance→dj,wpAny_execs_cons→dk,wpAny_attempt→dv,World→dw,wpAny_pyIter_zip→dT,entryFor_of_tree→dU,codeAny_of_tree→d7,wpAny_typeOf→ee,wpAny_setField_rec→el,isSubtype_type→en,wpAny_Assign_Name→eH,Result→eL,Fin→eW,typeIs_str→fe,call_meets→ff,wpAny_execs_nil→fh,wpAny_throw→fx,sizeLine_eq→fy,isSubtype_stop→fA,IsZip→fD,list_getitem_lookup→fL,wpAny_onRaise→fV,wpAny_call→f7,wpAny_Name→f9,wpAny_Constant_str→gc,Tok→gj
open List renaming mem_append_right→au,mem_cons_of_mem→av,mem_append_left→az,mem_cons_self→aA,length_map→aD,getElem?_eq_getElem→aG,drop_eq_getElem_cons→aJ,length_append→aK,getElem?_map→aL,map_cons→aU,foldl_cons→aX,getD_eq_getElem?_getD→aY,length_cons→bj,eq_nil_of_length_eq_zero→bp,length_set→br,mem_of_getElem?→bt,map_append→bA,lookup_cons→bD,mem_singleton_self→bJ,map_map→bL,toList_toArray→bM,append_nil→bN,drop_eq_nil_of_le→bV,range'→bW,append_assoc→b9,filterMap_cons→cb,take_of_length_le→cg,getElem_range→cN,getElem?_eq_none→cQ,not_mem_nil→c6,length_drop→c7,cons_ne_nil→c8,cons_append→c9,nil_append→dm,size_toArray→dz,length_range→dA,drop_of_length_le→dB,range'_succ→dK,length_take_le'→dN,getElem?_of_mem→dO,forIn_cons→dS,map_congr_left→dZ,length_reverse→d2,getElem?_append_left→ed,all_cons→eg,getElem_zip→eu,getElem?_cons_zero→ez,filter_cons_of_pos→eA,length_replicate→eS,getElem?_set_ne→eX,forIn_nil→eY,drop_zero→eZ,any_cons→fk,foldl_toArray→fu,take_length→fX,getElem_mem→fZ,length_nil→gn,getElem?_append_right→gA
open PySem.Heap renaming get?_push_of_some→ay,get?_push_size→aB,lt_size→aH,get?_update_self→aQ,size_push→aZ,get?_update_other→bg,ExtBut→cX,get?_none_of_le→dQ,SameBut→fJ
open Nat renaming zero_le→aE,le_of_eq→ba,le_refl→bu,succ_ne_zero→bB,add_le_add_right→bC,lt_irrefl→bE,lt_trans→bO,lt_of_lt_of_le→bP,lt_of_lt_of_eq→bQ,lt_of_le_of_lt→bR,lt_or_ge→bZ,zero_add→de,le_add_right→df,le_succ→du,ne_of_lt→dC,le_of_lt_succ→dD,add_le_add→dE,le_of_ble_eq_true→dJ,lt_succ_self→dM,not_lt_zero→dW,min_eq_left→dX,ne_of_gt→d4,min_self→d5,le_of_lt→d6,add_right_comm→d8,lt_succ_of_lt→ef,succ_le_succ→eE,min_le_right→eF,add_le_add_left→fj,lt_of_le_of_ne→fC,le_of_succ_le→fN,add_comm→fO,succ_ne_self→gf,min_eq_right→gh,le_add_left→gr
open PySem.Around renaming under_plainId→aI
open PySem.Calls renaming Name_function_global→aN,evalArgs_plain→b7,call_function_entry→cx,callWith_function→et
open Array renaming getElem?_eq_none→aO,length_toList→aS,getElem?_toList→bz,getElem?_eq_getElem→cA,getElem?_setIfInBounds_self_of_lt→cU,toList_push→dy,empty_append→ft,getElem?_setIfInBounds_ne→fK,toList_map→fU,size_map→gz
open Bool renaming false_eq_true→aV,false_ne_true→bk,not_eq_true→bY,and_eq_true→cJ,and_eq_true_iff→dR,true_or→eJ,or_true→eK,and_false→fc,and_true→fq,false_and→gC
open Int renaming natCast_nonneg→bc,add_comm→bh,toNat_natCast→bG,fmod_eq_emod_of_nonneg→bK,fdiv_eq_ediv_of_nonneg→cu,eq_ofNat_of_zero_le→cK,fmod_nonneg_of_pos→cO,eq_of_sub_eq_zero→cS,fmod_lt_of_pos→dr,zero_add→dF,sub_neg_of_lt→dG,lt_trichotomy→dH,lt_trans→dI,mul_assoc→dP,sub_add_cancel→d9,sub_pos_of_lt→ei,max_eq_right→eG,pow_succ→eN,lt_asymm→eO,ediv_eq_zero_of_lt→eP,emod_two_eq→eT,mul_add→fg,toNat_of_nonneg→fm,sub_eq_add_neg→fE,emod_lt_of_pos→fF,add_sub_cancel→fG,zero_mul→fP,ne_of_gt→fQ,mul_comm→fR,le_of_lt→fS,one_mul→gp,mul_one→gq,emod_nonneg→gu
open PySem.F renaming slot_tuple_iterator_next→cz,slot_zip_next→cE,plain_min_loop→cL,plain_max_loop→cM,args_tuple_iterator_next_1→cT,entry_tuple_iterator_next→cY,args_zip_next_1→eB,slot_str_split→eQ,entry_zip_next→eR,args_str_split_2→fT,entry_str_split→gi,plainAttrs_str→gv,entry_min_loop→gw,entry_max_loop→gy,slot_dict_itemiterator_iter→gB
open PyProof.Rows renaming assign_Name→cV,assignInOrder_cons→dh,assignInOrder_nil→dq,IsTup→eI,Assign_Tuple_swapped→eM,slicePart_none→fi,oneType'→fz,Assign_Tuple→fB,bindName_→fW,add_int→gk,IntsAre→gm
open PySem.W renaming Frag→eo,plainGet_of→eV
open PySem.Sre renaming Frame→eC
open Option renaming map_some→eD,bind_some→fH
open PySem.W.X renaming kt_at→eU
open PySem
theorem VS{α:Type}{a:α}{P:Prop}(h:none=some a):P:=nomatch h
local macro_rules
 | `(tactic|omega)=> `(tactic|first|with_reducible assumption|decide|exact Nat.le_trans (by assumption) (by decide)|exact bP (by assumption) (by decide)|lia)
section
open PySem PyProof.Rows PySem.W PySem.W.X PySem.Builtin.Re
noncomputable def jO(p:Program)(i:Nat):Stmt:=p.main.body.getD i (.Pass ⟨0,0,0,0⟩)
noncomputable def iB:Stmt→List Stmt
 | .FunctionDef _ _ body _ _ _ _ _ _ _=>body
 |_=>[]
noncomputable def ic:Stmt→Scope
 | .FunctionDef _ _ _ _ _ _ sc _ _ _=>sc
 |_=>default
noncomputable def jD:Stmt→Nat→Stmt
 | .ClassDef _ _ _ body _ _ _ _ _ _ _,j=>body.getD j (.Pass ⟨0,0,0,0⟩)
 |s,_=>s
noncomputable def vR(sc:Scope):Bool:=sc.names.any fun x=>x.1=="new_callers"
noncomputable def c1:Array Nat:= #[14,4,0,1,1,6,1,16,46,1]
noncomputable def c3:Array Nat:= #[14,9,4,1,2,16,10,16,13,0,7,7,16,13,16,10,15,18,5,16,10,15,13,11,16,13,5,5,0,16,10,1,15,2,0,1]
noncomputable def iV(T:KT)(a:Addr):Obj:=(T.get a).getD default
noncomputable def jP(T:KT)(a:Addr):Array DictEntry:=match (iV T a).data with| .dict es _=>es|_=> #[]
noncomputable def MB(T:KT)(a:Addr):Nat:=match (iV T a).data with| .dict _ n=>n|_=>0
noncomputable def fdOf(T:KT)(a:Addr):FuncData:=match (iV T a).data with| .func fd=>fd|_=>default
noncomputable def iy(T:KT)(a:Addr):Array Value:=match (iV T a).data with| .fields vs=>vs|_=> #[]
noncomputable def MC(T:KT)(a:Addr):Array Value:=match (iV T a).data with| .seq vs _=>vs|_=> #[]
noncomputable def VT(T:KT)(a:Addr):Nat:=match (iV T a).data with| .seq _ n=>n|_=>0
noncomputable def Qt:Value→Addr| .ref c=>c|_=>0
noncomputable def vStr:Value→Str| .str x _=>x|_=>default
noncomputable def vInt:Value→Int| .int i _=>i|_=>0
noncomputable def vBool:Value→Bool| .bool b=>b|_=>false
noncomputable def zt:Value→gj| .str _ t=>t| .int _ t=>t|_=>0
noncomputable def CS:Option Value→gj|some v=>zt v|_=>0
noncomputable def i0(fd:FuncData):Addr:=Qt fd.code
noncomputable def U8(T:KT)(x:Str):Option Value:=match nsFind (jP T mainGlobals) x with
 |some v=>some v
 |none=>nsFind (jP T builtinsNs) x
noncomputable def J8(T:KT):Addr:=Qt ((nsFind (jP T mainGlobals) "__builtins__").getD .none)
structure Qc(T:KT)(a:Addr):Prop where
 obj:T.get a=some (iV T a)
 data:(iV T a).data= .dict (jP T a) (MB T a)
 keys:(jP T a).toList.map (fun e=>e.key)=(jP T a).toList.map fun e=> .str (vStr e.key) (zt e.key)
structure TopC(T:KT)(tb hc:Addr):Prop where
 m:Qc T mainGlobals
 b:Qc T builtinsNs
 c:Qc T cStatics
 lim:nsFind (jP T cStatics) "sys.recursionlimit"=none
 sm:T.get sysModules=some (iV T sysModules)
 bm:nsFind (jP T mainGlobals) "__builtins__"=some (.ref (J8 T))
 bn:J8 T≠builtinsNs∧J8 T≠tb∧J8 T≠sysModules
 bo:T.get (J8 T)=some (iV T (J8 T))
 bx:(iV T (J8 T)).cls= .type "module"∧(iV T (J8 T)).dict=some builtinsNs∧(iV T (J8 T)).data= .plain
 tab:T.get tb=some {cls:= .none,data:= .fields #[]}
 co:T.get hc=some (iV T hc)
 cc:(iV T hc).cls= .type "code"∧(iV T hc).data= .fields (iy T hc)∧(iy T hc)[11]? =some (.ref tb)∧(iy T hc).getD 11 .none= .ref tb
 cf:(iy T hc).getD 18 .none= .str (vStr ((iy T hc).getD 18 .none)) (zt ((iy T hc).getD 18 .none))∧(iy T hc).getD 7 .none= .int (vInt ((iy T hc).getD 7 .none)) (zt ((iy T hc).getD 7 .none))∧
  (iy T hc).getD 9 .none= .bool (vBool ((iy T hc).getD 9 .none))∧(iy T hc).getD 10 .none= .int (vInt ((iy T hc).getD 10 .none)) (zt ((iy T hc).getD 10 .none))
 n1:hc≠tb∧hc≠sysModules∧tb≠sysModules∧mainGlobals≠tb∧builtinsNs≠tb∧cStatics≠tb
structure oI(T:KT)(tb hc a:Addr)(st:Stmt)(ns:List Str):Prop where
 obj:T.get a=some (iV T a)
 data:(iV T a).data= .func (fdOf T a)
 ne:(decide (a≠tb)&&decide (a≠sysModules))=true
 ne':(decide (i0 (fdOf T a)≠tb)&&decide (i0 (fdOf T a)≠sysModules))=true
 code:(fdOf T a).code= .ref (i0 (fdOf T a))
 VU:T.get (i0 (fdOf T a))=some (iV T (i0 (fdOf T a)))
 cdata:(iV T (i0 (fdOf T a))).data= .fields (iy T (i0 (fdOf T a)))
 cq:(iy T (i0 (fdOf T a)))[1]? =some (.str (fdOf T a).qualname (CS (iy T (i0 (fdOf T a)))[1]?))
 body:(fdOf T a).body= .stmts (iB st)
 scope:(fdOf T a).scope=ic st
 globals:(fdOf T a).globals=mainGlobals
 builtins:(fdOf T a).builtins=builtinsNs
 closure:(fdOf T a).closure=[]
 bind: ∀vs:List Value,vs.length=ns.length→bindArgs (fdOf T a) ⟨vs,[]⟩=pure (ns.zip vs)
 host:(!vR (ic st)||decide (i0 (fdOf T a)=hc))=true
structure GI(T:KT)(tb a:Addr)(code:Array Nat)(k:Nat)(tup:Addr):Prop where
 obj:T.get a=some (iV T a)
 ne:(decide (a≠tb)&&decide (a≠sysModules))=true
 ne':(decide (tup≠tb)&&decide (tup≠sysModules))=true
 cls:(iV T a).cls= .type "re.Pattern"
 dict:(iV T a).dict=none
 data:(iV T a).data= .fields (iy T a)
 f2:reRawNat ((iy T a).getD 2 .none)=0
 f5:(iy T a).getD 5 .none= .ref tup
 f6:reRawNat ((iy T a).getD 6 .none)=k
 VV:T.get tup=some (iV T tup)
 Qu:(iV T tup).data= .seq (MC T tup) (VT T tup)
 Qv:((MC T tup).map reRawOf).map (·.toNat)=code
noncomputable def fragOf(T:KT)(as:List Addr):Frag:=as.filterMap fun a=>(T.get a).map fun o=>(a,o)
structure NR(T:KT)(tb a:Addr)(ks:List Int)(vs:List Str):Prop where
 obj:T.get a=some (iV T a)
 ne:(decide (a≠tb)&&decide (a≠sysModules))=true
 ex:(iV T a).cls= .type "dict"∧(iV T a).dict=none∧(iV T a).slots= #[]
 data:(iV T a).data= .dict (jP T a) (MB T a)
 nd:decide ks.Nodup=true
 ks:(jP T a).toList.map (fun e=>vInt e.key)=ks
 vs:(jP T a).toList.map (fun e=>vStr e.val)=vs
 all:(jP T a).toList.map (fun e=>(e.key,e.val,e.hash))=(jP T a).toList.map fun e=>(.int (vInt e.key) (zt e.key),.str (vStr e.val) (zt e.val),hashInt (vInt e.key))
theorem ir{α:Type}{n:Nat}: ∀{l:List α},l.length=n+1→ ∃u r,l=u::r∧r.length=n
 |u::r,h=>⟨u,r,rfl,Nat.succ.inj h⟩
theorem se{fd:FuncData}{a:Str}(h: ∀u:Value,bindArgs fd ⟨[u],[]⟩=pure [(a,u)])(vs:List Value)(hl:vs.length=[a].length):bindArgs fd ⟨vs,[]⟩=pure ([a].zip vs):=
 (ir hl).elim fun u x=>x.elim fun r x=>by rw[x.1,bp x.2];exact h u
theorem zu{fd:FuncData}{a b:Str}(h: ∀u v:Value,bindArgs fd ⟨[u,v],[]⟩=pure [(a,u),(b,v)])(vs:List Value)(hl:vs.length=[a,b].length):bindArgs fd ⟨vs,[]⟩=pure ([a,b].zip vs):=
 (ir hl).elim fun u x=>x.elim fun r x=>(ir x.2).elim fun v y=>y.elim fun r y=>by rw[x.1,y.1,bp y.2];exact h u v
theorem D7{fd:FuncData}{a b c:Str}(h: ∀u v w:Value,bindArgs fd ⟨[u,v,w],[]⟩=pure [(a,u),(b,v),(c,w)])(vs:List Value)(hl:vs.length=[a,b,c].length):bindArgs fd ⟨vs,[]⟩=pure ([a,b,c].zip vs):=
 (ir hl).elim fun u x=>x.elim fun r x=>(ir x.2).elim fun v y=>y.elim fun r y=>(ir y.2).elim fun w z=>z.elim fun r z=>by rw[x.1,y.1,z.1,bp z.2];exact h u v w
theorem Qw{fd:FuncData}{a b c d:Str}(h: ∀u v w x:Value,bindArgs fd ⟨[u,v,w,x],[]⟩=pure [(a,u),(b,v),(c,w),(d,x)])(vs:List Value)(hl:vs.length=[a,b,c,d].length):bindArgs fd ⟨vs,[]⟩=pure ([a,b,c,d].zip vs):=
 (ir hl).elim fun u x=>x.elim fun r x=>(ir x.2).elim fun v y=>y.elim fun r y=>(ir y.2).elim fun w z=>z.elim fun r z=>(ir z.2).elim fun t q=>q.elim fun r q=>by rw[x.1,y.1,z.1,q.1,bp q.2];exact h u v w t
theorem GJ{c:ClaimW}{cl:Str→Option Addr}{VW:ExcName→Option Value}{args:List WData}{s₁ s':aq}(hr: ∀cls,c.raises args cls=false)(hp:c.post args (.bool true) args=true)(ho:OldK s₁.heap s'.heap)(hos:s'.os=s₁.os)(hb:AllBare s'.gens):
  GoodWG c cl VW args s₁ (.ok (.ret (.bool true))) s':=
 ⟨.inl ⟨_,_,[],rfl,hr,ReadsW.bool true,hp,fun _=>⟨List.nodup_nil,fun _ hm=>(nomatch hm)⟩⟩,ho,hos,hb⟩
end
section
open PySem
inductive PV where
 |none
 |bool (b:Bool)
 |int (i:Int)
 |str (s:Str)
 |bytes (b:Array UInt8)
 |tup (l:List PV)
 |list (l:List PV)
 |kj (ks:List Int) (vs:List PV)
 |ja (ks:List Str) (vs:List PV)
 |CP (a b c:Int)
 |val (v:Value)
 |inst (C:Addr) (nm:Str) (p:PV)
 deriving Inhabited
section
variable (prog:Program) (w:dw) (h:Heap) (X:List Addr)
mutual
noncomputable def VR:PV→Value→Prop
 | .none,v=>v= .none
 | .bool b,v=>v= .bool b
 | .int i,v=> ∃t,v= .int i t
 | .str s,v=> ∃t,v= .str s t
 | .bytes b,v=> ∃t,v= .bytes b t
 | .tup l,v=> ∃a xs n,v= .ref a∧a∉X∧h.get? a=some {cls:= .type "tuple",data:= .seq xs n}∧gV l xs.toList
 | .list l,v=> ∃a xs n,v= .ref a∧a∉X∧h.get? a=some {cls:= .type "list",data:= .seq xs n}∧gV l xs.toList
 | .kj ks vs,v=> ∃a kvs,v= .ref a∧a∉X∧h.DictOf (intKind prog w) a kvs∧kvs.map (·.1)=ks∧gV vs (kvs.map (·.2))
 | .ja ks vs,v=> ∃a kvs,v= .ref a∧a∉X∧h.DictOf (strKind prog w) a kvs∧kvs.map (·.1)=ks∧gV vs (kvs.map (·.2))
 | .CP a b c,v=> ∃ad t u w,v= .ref ad∧ad∉X∧IsRange h ad a b c t u w
 | .val x,v=>v=x
 | .inst C nm p,v=> ∃x dx es n NS t u,v= .ref x∧x∉X∧dx∉X∧h.get? x=some {cls:= .ref C,dict:=some dx,data:= .plain}∧h.get? dx=some {cls:= .type "dict",data:= .dict es n}∧es= #[⟨NS,.str nm t,u⟩]∧VR p u
noncomputable def gV:List PV→List Value→Prop
 |[],vs=>vs=[]
 |p::ps,vs=> ∃v r,vs=v::r∧VR p v∧gV ps r
end
end
noncomputable def Up(h:Heap)(X:List Addr)(h':Heap)(X':List Addr):Prop:= ∀a o,a∉X→h.get? a=some o→a∉X'∧h'.get? a=some o
theorem Up.trans{h h' nI:Heap}{X X' ZX:List Addr}(x:Up h X h' X')(y:Up h' X' nI ZX):Up h X nI ZX:=fun a o ha e=>y a o (x a o ha e).1 (x a o ha e).2
theorem Up.refl(h:Heap)(X:List Addr):Up h X h X:=fun _ _ ha e=>⟨ha,e⟩
section
variable {prog:Program} {w:dw} {h h':Heap} {X X':List Addr}
theorem jl{K:Type}[DecidableEq K]{knd:KeyKind prog w K}{a:Addr}{kvs:List (K×Value)}(x:h.DictOf knd a kvs)(hk: ∀o,h.get? a=some o→h'.get? a=some o):h'.DictOf knd a kvs:=
 x.elim fun o x=>x.elim fun es x=>x.elim fun ep x=>⟨o,es,ep,hk o x.1,x.2⟩
theorem j5{K:Type}[DecidableEq K]{knd:KeyKind prog w K}{a:Addr}{kvs:List (K×Value)}(x:h.DictOf knd a kvs): ∃o,h.get? a=some o:=
 x.elim fun o x=>x.elim fun _ x=>x.elim fun _ x=>⟨o,x.1⟩
mutual
theorem VR.up(u:Up h X h' X'): ∀{p:PV} {v:Value},VR prog w h X p v→VR prog w h' X' p v
 | .none,_,x=>x
 | .bool _,_,x=>x
 | .int _,_,x=>x
 | .str _,_,x=>x
 | .bytes _,_,x=>x
 | .val _,_,x=>x
 | .inst C nm p,_,x=>by
  obtain⟨a,dx,es,n,NS,t,w,e,ha,hd,ho,J9,he,hp⟩:=x
  exact .intro a ⟨dx,es,n,NS,t,w,e,(u a _ ha ho).1,(u dx _ hd J9).1,(u a _ ha ho).2,(u dx _ hd J9).2,he,VR.up u hp⟩
 | .CP a b c,v,x=>by
  obtain⟨ad,t,u',w,e,ha,ho⟩:=x
  exact .intro ad ⟨t,u',w,e,(u ad _ ha ho).1,(u ad _ ha ho).2⟩
 | .tup l,v,x=>by
  obtain⟨a,xs,n,e,ha,ho,hl⟩:=x
  exact .intro a ⟨xs,n,e,(u a _ ha ho).1,(u a _ ha ho).2,gV.up u hl⟩
 | .list l,v,x=>by
  obtain⟨a,xs,n,e,ha,ho,hl⟩:=x
  exact .intro a ⟨xs,n,e,(u a _ ha ho).1,(u a _ ha ho).2,gV.up u hl⟩
 | .kj ks vs,v,x=>by
  obtain⟨a,kvs,e,ha,hd,hk,hl⟩:=x
  obtain⟨_,ho⟩:=j5 hd
  exact .intro a ⟨kvs,e,(u a _ ha ho).1,jl hd fun o e=>(u a o ha e).2,hk,gV.up u hl⟩
 | .ja ks vs,v,x=>by
  obtain⟨a,kvs,e,ha,hd,hk,hl⟩:=x
  obtain⟨_,ho⟩:=j5 hd
  exact .intro a ⟨kvs,e,(u a _ ha ho).1,jl hd fun o e=>(u a o ha e).2,hk,gV.up u hl⟩
theorem gV.up(u:Up h X h' X'): ∀{ps:List PV} {vs:List Value},gV prog w h X ps vs→gV prog w h' X' ps vs
 |[],_,x=>x
 |p::ps,_,x=>by
  obtain⟨v,r,e,hv,hr⟩:=x
  exact .intro v ⟨r,e,VR.up u hv,gV.up u hr⟩
end
end
end
section
open PySem
inductive MV where
 |un
 |p (v:PV)
 |ol (l:List PV)
 |Ba (ks:List Int) (vs:List PV)
 |zv (ks:List Str) (vs:List PV)
 |mj (rest:List PV)
 deriving Inhabited
set_option genSizeOf false in
set_option genInjectivity false in
structure ig where
 prog:Program
 w:dw
 look:Addr→Option Obj
 tb:Addr
 tabI:Heap→List Addr→Prop
 vS: ∀h h' fp,tabI h fp→(∀b o,b=tb∨b∈fp→h.get? b=some o→h'.get? b=some o)→tabI h' fp
 Bb: ∀h fp,tabI h fp→(∃o,h.get? tb=some o)∧ ∀a∈fp,∃o,h.get? a=some o
 GK: ∀h fp,tabI h fp→ ∀a∈fp,∀o,h.get? a=some o→o.cls≠ .type "list"∧o.cls≠ .type "dict"
 vU:look tb=none
 noLimit: ∀h:Heap,(∀a o,look a=some o→h.get? a=some o)→h.NoLimit
 gl:Str→Option Value
 rt: ∀(s:aq) (env:b8) (A:aF) (x:Str) (v:Value) (Q:Value→aq→Prop) (E:Value→aq→Prop),(∀a o,look a=some o→s.heap.get? a=some o)→env.globals=mainGlobals→env.builtins=builtinsNs→gl x=some v→Q v s→
  wpAny (model prog w) A (loadGlobal env x) Q E s
 iK:Addr
 vV: ∃o,look iK=some o
 zw:Array Value→Prop
 GL: ∀ps more,zw ps→zw (ps++more)
 zx: ∀h fp,tabI h fp→ ∃ps,h.IsCode iK tb ps∧h.TableAt iK tb ps∧zw ps
 GN: ∀h ps,h.IsCode iK tb ps∧h.TableAt iK tb ps∧zw ps→ ∃fp,tabI h fp∧ ∀a∈fp,a=iK
 Ka: ∀(s:aq) (A:aF) (Q:Addr→aq→Prop) (E:Value→aq→Prop),(∀a o,look a=some o→s.heap.get? a=some o)→Q builtinsNs s→wpAny (model prog w) A (builtinsFor mainGlobals builtinsNs) Q E s
 exc:Option Addr
 D8: ∀a,exc=some a→ ∃o vs,look a=some o∧o.data= .fields vs∧vs[2]? =some .none
noncomputable abbrev ig.M(L:ig):Model:=model L.prog L.w
structure Inv(L:ig)(s:aq):Prop where
 iA: ∀a o,L.look a=some o→s.heap.get? a=some o
 bare:PyProof.Rows.AllBare s.gens
structure XO(L:ig)(X:List Addr)(h:Heap):Prop where
 tb:L.tb∈X
 sm:sysModules∈X
 there: ∀a∈X,∃o,h.get? a=some o
 look: ∀a∈X,L.look a=none
 tab: ∃fp,L.tabI h fp∧ ∀a∈fp,a∉X
theorem XO.keep{L:ig}{X:List Addr}{h h':Heap}(x:XO L X h)(hk: ∀b o,h.get? b=some o→h'.get? b=some o):XO L X h' where
 tb:=x.tb
 sm:=x.sm
 there:=fun a ha=>let ⟨o,ho⟩:=x.there a ha;⟨o,hk a o ho⟩
 look:=x.look
 tab:=let ⟨fp,hf,hn⟩:=x.tab;⟨fp,L.vS _ _ fp hf fun b o _ e=>hk b o e,hn⟩
theorem XO.mut{L:ig}{X:List Addr}{h h':Heap}(x:XO L X h){D:Addr}(hD:D∈X)(js:D≠L.tb)(hk: ∀b o,b≠D→h.get? b=some o→h'.get? b=some o)(hex: ∃o,h'.get? D=some o):XO L X h' where
 tb:=x.tb
 sm:=x.sm
 there:=fun a ha=>by
  by_cases e:a=D
  ·rw[e];exact hex
  ·obtain⟨o,ho⟩:=x.there a ha;exact⟨o,hk a o e ho⟩
 look:=x.look
 tab:=by
  obtain⟨fp,hf,hn⟩:=x.tab
  refine⟨fp,L.vS _ _ fp hf fun b o hb e=>hk b o ?_ e,hn⟩
  rintro rfl
  rcases hb with rfl|hb
  ·exact js rfl
  ·exact hn _ hb hD
theorem XO.sub{L:ig}{X X':List Addr}{h:Heap}(x:XO L X h)(hs: ∀a∈X',a∈X)(h1:L.tb∈X')(h2:sysModules∈X'):XO L X' h where
 tb:=h1
 sm:=h2
 there:=fun a ha=>x.there a (hs a ha)
 look:=fun a ha=>x.look a (hs a ha)
 tab:=let ⟨fp,hf,hn⟩:=x.tab;⟨fp,hf,fun a ha h=>hn a ha (hs a h)⟩
theorem XO.widen{L:ig}{X X':List Addr}{h h':Heap}(x:XO L X h)(hk: ∀b o,h.get? b=some o→h'.get? b=some o)(E6: ∀a o,L.look a=some o→h.get? a=some o)
  (hX: ∀a∈X',a∈X∨h.get? a=none)(hs: ∀a∈X,a∈X')(hex: ∀a∈X',∃o,h'.get? a=some o):XO L X' h' where
 tb:=hs _ x.tb
 sm:=hs _ x.sm
 there:=hex
 look:=fun a ha=>by
  rcases hX a ha with h1|h1
  ·exact x.look a h1
  ·cases e:L.look a with
   |none=>rfl
   |some o=>have:=E6 a o e;rw[h1] at this;(first|exact VS this|cases this)
 tab:=by
  obtain⟨fp,hf,hn⟩:=x.tab
  refine⟨fp,L.vS _ _ fp hf fun b o _ e=>hk b o e,fun a ha hm=> ?_⟩
  rcases hX a hm with h1|h1
  ·exact hn a ha h1
  ·obtain⟨o,ho⟩:=(L.Bb _ _ hf).2 a ha;rw[h1] at ho;(first|exact VS ho|cases ho)
structure gN(L:ig)(X:List Addr)(s s':aq):Prop where
 keep: ∀b o,b≠L.tb→s.heap.get? b=some o→s'.heap.get? b=some o
 inv:Inv L s'
 xo:XO L X s'.heap
 os:s'.os=s.os
 drawn:s'.drawn=s.drawn
theorem gN.refl{L:ig}{X:List Addr}{s:aq}(i:Inv L s)(x:XO L X s.heap):gN L X s s:=⟨fun _ _ _ e=>e,i,x,rfl,rfl⟩
theorem gN.trans{L:ig}{X:List Addr}{s s' ph:aq}(x:gN L X s s')(y:gN L X s' ph):gN L X s ph:=
 ⟨fun b o hb e=>y.keep b o hb (x.keep b o hb e),y.inv,y.xo,y.os.trans x.os,y.drawn.trans x.drawn⟩
theorem Inv.keeps{L:ig}{s:aq}(i:Inv L s){h':Heap}(hk: ∀b o,s.heap.get? b=some o→h'.get? b=some o)(tk:Nat):Inv L {s with heap:=h',toks:=tk}:=
 ⟨fun a o e=>hk a o (i.iA a o e),i.bare⟩
theorem gN.of_keep{L:ig}{X:List Addr}{s:aq}(i:Inv L s)(x:XO L X s.heap){h':Heap}(hk: ∀b o,s.heap.get? b=some o→h'.get? b=some o)(tk:Nat):gN L X s {s with heap:=h',toks:=tk}:=
 ⟨fun b o _ e=>hk b o e,i.keeps hk tk,x.keep hk,rfl,rfl⟩
theorem gN.toks{L:ig}{X:List Addr}{s:aq}(i:Inv L s)(x:XO L X s.heap)(tk:Nat):gN L X s {s with toks:=tk}:=gN.of_keep i x (fun _ _ e=>e) tk
theorem gN.up{L:ig}{X:List Addr}{s s':aq}(d:gN L X s s'):Up s.heap X s'.heap X:=fun a o ha e=>⟨ha,d.keep a o (fun h=>ha (h▸d.xo.tb)) e⟩
theorem gN.sub{L:ig}{X X':List Addr}{s s':aq}(d:gN L X s s')(hs: ∀a∈X',a∈X)(h1:L.tb∈X')(h2:sysModules∈X'):gN L X' s s':=⟨d.keep,d.inv,d.xo.sub hs h1 h2,d.os,d.drawn⟩
theorem XO.fresh{L:ig}{X:List Addr}{h:Heap}(x:XO L X h){a:Addr}(ha:h.get? a=none):a∉X:=fun hm=>by
 obtain⟨o,ho⟩:=x.there a hm;rw[ha] at ho;(first|exact VS ho|cases ho)
theorem g9(h:Heap):h.get? h.objs.size=none:=by
 cases e:h.get? h.objs.size with
 |none=>rfl
 |some o=>exact absurd (aH e) (bE _)
theorem XO.size{L:ig}{X:List Addr}{h:Heap}(x:XO L X h):h.objs.size∉X:=x.fresh (g9 h)
structure i5(L:ig)(k:Nat)(A:aF):Prop where
 handled:A.handled=L.exc.map Value.ref
 depth:A.depth+k<900
 units:A.units+100*k<9000
theorem i5.in1{L:ig}{k:Nat}{A:aF}(r:i5 L (k+1) A):i5 L k A.in1:=⟨r.handled,by have:=r.depth;show A.depth+k<900;omega,by have:=r.units;show A.units+1+100*k<9000;omega⟩
theorem i5.less{L:ig}{k j:Nat}{A:aF}(r:i5 L k A)(h:j≤k):i5 L j A:=⟨r.handled,bR (fj h _) r.depth,bR (fj (Nat.mul_le_mul_left 100 h) _) r.units⟩
theorem i5.deeper{L:ig}{k:Nat}{A:aF}(r:i5 L (k+1) A)(env:b8):i5 L k (A.deeper env):=
 ⟨r.handled,by have:=r.depth;show A.depth+1+k<900;omega,by have:=r.units;show A.units+3+100*k<9000;omega⟩
theorem i5.none{L:ig}{k:Nat}{A:aF}(r:i5 L k A)(h:L.exc=Option.none):A.handled=Option.none:=by rw[r.handled,h];rfl
theorem i5.limit{L:ig}{k:Nat}{A:aF}(r:i5 L k A):A.depth<recursionLimit:=by have:=r.depth;show A.depth<1000;omega
noncomputable def Reads(env:b8)(h:Heap)(x:Str)(v:Value):Prop:=
 (env.kindOf x=some .local∧ ∃m,h.Ns env.locals m∧m x=some v)∨
 ((env.kindOf x=some .cell∨env.kindOf x=some .free)∧(x==("__classdict__":Str))=false∧ ∃c,env.cells.lookup x=some c∧h.IsCell c (some v))
noncomputable def ru(L:ig)(h:Heap)(X:List Addr):MV→Value→Prop
 | .un,_=>True
 | .p q,v=>VR L.prog L.w h X q v
 | .ol l,v=> ∃a xs n,v= .ref a∧a∈X∧a≠L.tb∧a≠sysModules∧h.get? a=some {cls:= .type "list",data:= .seq xs n}∧gV L.prog L.w h X l xs.toList
 | .Ba ks vs,v=> ∃a kvs,v= .ref a∧a∈X∧a≠L.tb∧a≠sysModules∧h.DictOf (intKind L.prog L.w) a kvs∧kvs.map (·.1)=ks∧gV L.prog L.w h X vs (kvs.map (·.2))
 | .zv ks vs,v=> ∃a kvs,v= .ref a∧a∈X∧a≠L.tb∧a≠sysModules∧h.DictOf (strKind L.prog L.w) a kvs∧kvs.map (·.1)=ks∧gV L.prog L.w h X vs (kvs.map (·.2))
 | .mj rest,v=> ∃a ax l i,v= .ref a∧a∈X∧a≠L.tb∧a≠sysModules∧h.IsListIter a ax i∧VR L.prog L.w h X (.list l) (.ref ax)∧l.drop i=rest
noncomputable abbrev gO:=List (Str×Nat)
noncomputable def E7(sc:Scope):Bool:=sc.names.any fun x=>x.1==".0"
structure FR(L:ig)(sc:Scope)(σ:gO)(env:b8)(X:List Addr)(h:Heap)(ρ:List MV):Prop where
 scope:env.scope=sc
 kind:sc.kind= .function
 globals:env.globals=mainGlobals
 builtins:env.builtins=builtinsNs∧(vR sc=true→env.code= .ref L.iK)∧(E7 sc=false→env.frame=some env.locals)
 xo:XO L X h
 locals:env.locals≠L.tb∧ ∃o,h.get? env.locals=some o
 cells: ∀x c,env.cells.lookup x=some c→c≠L.tb∧ ∃o,h.get? c=some o
 has: ∀x,(sc.names.lookup x=some .cell∨sc.names.lookup x=some .free)→ ∃c,env.cells.lookup x=some c
 rd: ∀x i,σ.lookup x=some i→ ∀mv,ρ[i]? =some mv→mv≠ .un→ ∃v,Reads env h x v∧ru L h X mv v
theorem Reads.map{env:b8}{h h':Heap}{x:Str}{v:Value}(r:Reads env h x v)(hl: ∀m,h.Ns env.locals m→h'.Ns env.locals m)(hc: ∀c u,env.cells.lookup x=some c→h.IsCell c u→h'.IsCell c u):Reads env h' x v:=by
 rcases r with⟨hk,m,hn,hm⟩|⟨hk,hd,c,pO,hv⟩
 ·exact .inl ⟨hk,m,hl m hn,hm⟩
 ·exact .inr ⟨hk,hd,c,pO,hc c _ pO hv⟩
theorem Reads.up{env:b8}{h h':Heap}{x:Str}{v:Value}(r:Reads env h x v)(hl: ∀o,h.get? env.locals=some o→h'.get? env.locals=some o)
  (hc: ∀c o,env.cells.lookup x=some c→h.get? c=some o→h'.get? c=some o):Reads env h' x v:=
 r.map (fun m hn=>hn.at' hl) fun c u pO hv=>let ⟨o,ho,e⟩:=hv;⟨o,hc c o pO ho,e⟩
noncomputable def MV.owned:MV→Bool
 | .ol _| .Ba _ _| .zv _ _| .mj _=>true
 |_=>false
theorem uw{es:Array DictEntry}{n:Nat}{u:Option Value}:Data.dict es n≠ .cell u:=nofun
theorem CT{xs:Array Value}{n:Nat}{u:Option Value}:Data.seq xs n≠ .cell u:=nofun
theorem qM{xs:Array Value}{u:Option Value}:Data.fields xs≠ .cell u:=nofun
noncomputable def Bc(h:Heap)(a:Addr)(C:Heap→Prop):Prop:= ∃o,h.get? a=some o∧(∀u,o.data≠ .cell u)∧ ∀h':Heap,h'.get? a=some o→C h'
theorem Bd{K:Type}[DecidableEq K]{prog:Program}{w:dw}{knd:KeyKind prog w K}{h:Heap}{a:Addr}{kvs:List (K×Value)}(x:h.DictOf knd a kvs):Bc h a fun h'=>h'.DictOf knd a kvs:=
 x.elim fun o x=>x.elim fun es x=>x.elim fun ep x=>⟨o,x.1,fun _=>x.2.2.1▸uw,fun _ hg=>⟨o,es,ep,hg,x.2⟩⟩
theorem GO{h:Heap}{a l:Addr}{i:Nat}(x:h.IsListIter a l i):Bc h a fun h'=>h'.IsListIter a l i:=
 x.elim fun o x=>⟨o,x.1,fun _=>x.2.2▸qM,fun _ hg=>⟨o,hg,x.2⟩⟩
theorem Kb{h:Heap}{a:Addr}{xs:Array Value}{n:Nat}{c:String}(x:h.get? a=some {cls:= .type c,data:= .seq xs n}):Bc h a fun h'=>h'.get? a=some {cls:= .type c,data:= .seq xs n}:=
 ⟨_,x,fun _=>CT,fun _ hg=>hg⟩
noncomputable def MD(L:ig)(h:Heap)(X:List Addr)(mv:MV)(v:Value):Prop:= ∃a o,v= .ref a∧a∈X∧a≠L.tb∧h.get? a=some o∧(∀u,o.data≠ .cell u)∧ ∀h' X',Up h X h' X'→a∈X'→h'.get? a=some o→ru L h' X' mv v
theorem Bc.own{L:ig}{h:Heap}{X:List Addr}{mv:MV}{v:Value}{a:Addr}{C:Heap→Prop}(x:Bc h a C)(e:v= .ref a)(ha:a∈X)(ht:a≠L.tb)(k: ∀h' X',Up h X h' X'→a∈X'→C h'→ru L h' X' mv v):MD L h X mv v:=
 x.elim fun o x=>⟨a,o,e,ha,ht,x.1,x.2.1,fun h' X' u xH hg=>k h' X' u xH (x.2.2 h' hg)⟩
theorem ru.view{L:ig}{h:Heap}{X:List Addr}{mv:MV}{v:Value}(r:ru L h X mv v)(ho:mv.owned=true):MD L h X mv v:=by
 cases mv with
 |un=>exact Bool.noConfusion ho
 |p q=>exact Bool.noConfusion ho
 |ol l=>exact r.elim fun a r=>r.elim fun xs r=>r.elim fun n r=>(Kb r.2.2.2.2.1).own r.1 r.2.1 r.2.2.1 fun h' X' u xH hg=>⟨a,xs,n,r.1,xH,r.2.2.1,r.2.2.2.1,hg,gV.up u r.2.2.2.2.2⟩
 |Ba ks vs=>exact r.elim fun a r=>r.elim fun kvs r=>(Bd r.2.2.2.2.1).own r.1 r.2.1 r.2.2.1 fun h' X' u xH hg=>⟨a,kvs,r.1,xH,r.2.2.1,r.2.2.2.1,hg,r.2.2.2.2.2.1,gV.up u r.2.2.2.2.2.2⟩
 |zv ks vs=>exact r.elim fun a r=>r.elim fun kvs r=>(Bd r.2.2.2.2.1).own r.1 r.2.1 r.2.2.1 fun h' X' u xH hg=>⟨a,kvs,r.1,xH,r.2.2.1,r.2.2.2.1,hg,r.2.2.2.2.2.1,gV.up u r.2.2.2.2.2.2⟩
 |mj rest=>exact r.elim fun a r=>r.elim fun ax r=>r.elim fun l r=>r.elim fun i r=>(GO r.2.2.2.2.1).own r.1 r.2.1 r.2.2.1 fun h' X' u xH hg=>⟨a,ax,l,i,r.1,xH,r.2.2.1,r.2.2.2.1,hg,VR.up u r.2.2.2.2.2.1,r.2.2.2.2.2.2⟩
theorem ru.vH{L:ig}{h h':Heap}{X X':List Addr}{mv:MV}{v:Value}(r:ru L h X mv v)(u:Up h X h' X')(hh: ∀a o,v= .ref a→a∈X→a≠L.tb→h.get? a=some o→(∀u,o.data≠ .cell u)→mv.owned=true→a∈X'∧h'.get? a=some o):ru L h' X' mv v:=by
 cases ho:mv.owned with
 |true=>
  obtain⟨a,o,e,ha,ht,hg,hc,k⟩:=r.view ho
  obtain⟨h1,h2⟩:=hh a o e ha ht hg hc ho
  exact k h' X' u h1 h2
 |false=>cases mv<;>first|exact Bool.noConfusion ho|exact trivial|exact VR.up u r
theorem ru.up{L:ig}{h h':Heap}{X X':List Addr}(u:Up h X h' X')(hX: ∀a∈X,a≠L.tb→a∈X'∧ ∀o,h.get? a=some o→h'.get? a=some o){mv:MV}{v:Value}(r:ru L h X mv v):ru L h' X' mv v:=
 r.vH u fun a o _ ha ht hg _ _=>⟨(hX a ha ht).1,(hX a ha ht).2 o hg⟩
theorem ru.addr{L:ig}{h:Heap}{X:List Addr}{mv:MV}{v:Value}(r:ru L h X mv v)(ho:mv.owned=true): ∃a o,v= .ref a∧a∈X∧a≠L.tb∧h.get? a=some o∧(∀u,o.data≠ .cell u):=by
 obtain⟨a,o,e,ha,ht,hg,hc,_⟩:=r.view ho
 exact⟨a,o,e,ha,ht,hg,hc⟩
theorem FR.done{L:ig}{sc:Scope}{σ:gO}{env:b8}{X:List Addr}{s s':aq}{ρ:List MV}(F:FR L sc σ env X s.heap ρ)(d:gN L X s s'):FR L sc σ env X s'.heap ρ where
 scope:=F.scope
 kind:=F.kind
 globals:=F.globals
 builtins:=F.builtins
 xo:=d.xo
 locals:=⟨F.locals.1,let ⟨o,ho⟩:=F.locals.2;⟨o,d.keep _ _ F.locals.1 ho⟩⟩
 cells:=fun x c hc=>⟨(F.cells x c hc).1,let ⟨o,ho⟩:=(F.cells x c hc).2;⟨o,d.keep _ _ (F.cells x c hc).1 ho⟩⟩
 has:=F.has
 rd:=fun x i hi mv jC hu=>by
  obtain⟨v,r,m⟩:=F.rd x i hi mv jC hu
  exact⟨v,r.up (fun o e=>d.keep _ o F.locals.1 e) (fun c o hc e=>d.keep c o (F.cells x c hc).1 e),m.up d.up fun a ha js=>⟨ha,fun o e=>d.keep a o js e⟩⟩
theorem Up.sub(h:Heap){X X':List Addr}(hs: ∀a∈X',a∈X):Up h X h X':=fun a o ha e=>⟨fun h=>ha (hs a h),e⟩
theorem FR.widen{L:ig}{sc:Scope}{σ:gO}{env:b8}{X X':List Addr}{h h':Heap}{ρ:List MV}(F:FR L sc σ env X h ρ)(hk: ∀b o,h.get? b=some o→h'.get? b=some o)(E6: ∀a o,L.look a=some o→h.get? a=some o)
  (hX: ∀a∈X',a∈X∨h.get? a=none)(hs: ∀a∈X,a∈X')(hex: ∀a∈X',∃o,h'.get? a=some o):FR L sc σ env X' h' ρ where
 scope:=F.scope
 kind:=F.kind
 globals:=F.globals
 builtins:=F.builtins
 xo:=F.xo.widen hk E6 hX hs hex
 locals:=⟨F.locals.1,let ⟨o,ho⟩:=F.locals.2;⟨o,hk _ _ ho⟩⟩
 cells:=fun x c hc=>⟨(F.cells x c hc).1,let ⟨o,ho⟩:=(F.cells x c hc).2;⟨o,hk _ _ ho⟩⟩
 has:=F.has
 rd:=fun x i hi mv jC hu=>by
  obtain⟨v,r,m⟩:=F.rd x i hi mv jC hu
  refine⟨v,r.up (fun o e=>hk _ o e) (fun c o hc e=>hk c o e),m.up (fun a o ha e=>⟨fun hm=> ?_,hk a o e⟩) fun a ha js=>⟨hs a ha,fun o e=>hk a o e⟩⟩
  rcases hX a hm with h1|h1
  ·exact ha h1
  ·rw[h1] at e;(first|exact VS e|cases e)
noncomputable def SE(L:ig)(sc:Scope)(σ:gO)(k:Nat)(e:aM)(f:List MV→Option PV):Prop:=
 ∀(env:b8) (A:aF) (X:List Addr) (s:aq) (ρ:List MV) (p:PV) (Q:Value→aq→Prop) (E:Value→aq→Prop),
  i5 L k A→FR L sc σ env X s.heap ρ→Inv L s→f ρ=some p→
  (∀v s',VR L.prog L.w s'.heap X p v→gN L X s s'→Q v s')→wpAny L.M A (eval e env) Q E s
theorem SE.less{L:ig}{sc:Scope}{σ:gO}{k j:Nat}{e:aM}{f:List MV→Option PV}(h:SE L sc σ j e f)(hk:j≤k):SE L sc σ k e f:=
 fun env A X s ρ p Q E R F I hf hQ=>h env A X s ρ p Q E (R.less hk) F I hf hQ
section
variable {L:ig} {sc:Scope} {σ:gO} {k:Nat}
theorem Reads.eval{env:b8}{A:aF}{s:aq}{x:Str}{v:Value}{pos:cP}{Q:Value→aq→Prop}{E:Value→aq→Prop}{M:Model}(r:Reads env s.heap x v)(hk:env.scope.kind= .function)(h:Q v s)
  (hd:(x==("__debug__":Str))=false):wpAny M A (eval (.Name x pos) env) Q E s:=by
 refine f9 ?_ hd
 rcases r with⟨hl,m,hn,hm⟩|⟨hl|hl,hcd,c,hc,hv⟩
 ·exact cH hk hl hn hm h
 ·exact wpAny_loadName_cell hk hl hc hv h
 ·exact wpAny_loadName_free hk hl hc hv h hcd
noncomputable def gQ:Option MV→Option PV
 |some (.p q)=>some q
 |_=>none
theorem hO{α:Type}{a:α}{P:Prop}(h:none=some a):P:=nomatch h
theorem qq{o:Option MV}{p:PV}(h:gQ o=some p):o=some (.p p):=by
 cases o with
 |none=>exact hO h
 |some mv=>cases mv<;>first|exact hO h|exact congrArg (fun o=>some (MV.p o)) (Option.some.inj h)
theorem SE.var{x:Str}{pos:cP}{i:Nat}(hi:σ.lookup x=some i)(hd:(x==("__debug__":Str))=false:=by decide):SE L sc σ k (.Name x pos) (fun ρ=>gQ ρ[i]?):=by
 intro env A X s ρ p Q E R F I hf hQ
 have jC:=qq hf
 obtain⟨v,r,m⟩:=F.rd x i hi _ jC (by intro h;(first|exact VS h|cases h))
 exact r.eval (by rw[F.scope];exact F.kind) (hQ v s m (gN.refl I F.xo)) hd
theorem SE.int{n:Int}{kk:Nat}{pos:cP}:SE L sc σ k (.Constant (.int n) kk pos) (fun _=>some (.int n)):=by
 intro env A X s ρ p Q E R F I hf hQ
 skip;(first|exact VS hf|cases hf)
 exact wpAny_Constant_int (hQ _ _ (by exact .intro _ rfl) (gN.toks I F.xo _))
theorem SE.str{x:Str}{kk:Nat}{pos:cP}:SE L sc σ k (.Constant (.str x) kk pos) (fun _=>some (.str x)):=by
 intro env A X s ρ p Q E R F I hf hQ
 skip;(first|exact VS hf|cases hf)
 exact gc (hQ _ _ (by exact .intro _ rfl) (gN.toks I F.xo _))
theorem SE.bool{b:Bool}{kk:Nat}{pos:cP}:SE L sc σ k (.Constant (.bool b) kk pos) (fun _=>some (.bool b)):=by
 intro env A X s ρ p Q E R F I hf hQ
 skip;(first|exact VS hf|cases hf)
 exact wpAny_Constant_bool (hQ _ _ (rfl) (gN.refl I F.xo))
theorem SE.none{kk:Nat}{pos:cP}:SE L sc σ k (.Constant .none kk pos) (fun _=>some .none):=by
 intro env A X s ρ p Q E R F I hf hQ
 skip;(first|exact VS hf|cases hf)
 exact wpAny_Constant_none (hQ _ _ (rfl) (gN.refl I F.xo))
noncomputable def ng(L:ig)(t:Value→Value→Sem Value)(g:PV→PV→Option PV):Prop:=
 ∀(A:aF) (X:List Addr) (s:aq) (p q r:PV) (u v:Value) (Q:Value→aq→Prop) (E:Value→aq→Prop),
  i5 L 0 A→XO L X s.heap→Inv L s→VR L.prog L.w s.heap X p u→VR L.prog L.w s.heap X q v→g p q=some r→
  (∀x s',VR L.prog L.w s'.heap X r x→gN L X s s'→Q x s')→wpAny L.M A (t u v) Q E s
noncomputable def ik(f g:List MV→Option PV)(o:PV→PV→Option PV):List MV→Option PV:=fun ρ=>(f ρ).bind fun a=>(g ρ).bind fun b=>o a b
theorem oJ{f g:List MV→Option PV}{o:PV→PV→Option PV}{ρ:List MV}{r:PV}(h:ik f g o ρ=some r): ∃a b,f ρ=some a∧g ρ=some b∧o a b=some r:=
 (Option.bind_eq_some_iff.mp h).elim fun a h=>(Option.bind_eq_some_iff.mp h.2).elim fun b h'=>⟨a,b,h.1,h'.1,h'.2⟩
theorem SE.binop{op:Operator}{l r:aM}{pos:cP}{f g:List MV→Option PV}{o:PV→PV→Option PV}(hl:SE L sc σ k l f)(hr:SE L sc σ k r g)(ho:ng L (binaryOp op) o):
  SE L sc σ k (.BinOp l op r pos) (ik f g o):=by
 intro env A X s ρ p Q E R F I hf hQ
 obtain⟨a,b,te,GP,GQ⟩:=oJ hf
 refine wpAny_BinOp (hl env A X s ρ a _ E R F I te fun u s₁ hu iE=>hr env A X s₁ ρ b _ E R (F.done iE) iE.inv GP fun v gZ hv gW=> ?_)
 exact ho A X gZ a b p u v Q E (R.less (aE _)) ((F.done iE).done gW).xo gW.inv (hu.up gW.up) hv GQ fun x s' hx jb=>hQ x s' hx ((iE.trans gW).trans jb)
theorem SE.cmp{op:CmpOp}{l r:aM}{pos:cP}{f g:List MV→Option PV}{o:PV→PV→Option PV}(hl:SE L sc σ k l f)(hr:SE L sc σ k r g)(ho:ng L (compareOp op) o)
  (hm:behindInMarks op r=false:=by rfl):SE L sc σ k (.Compare l [op] [r] pos) (ik f g o):=by
 intro env A X s ρ p Q E R F I hf hQ
 obtain⟨a,b,te,GP,GQ⟩:=oJ hf
 refine wpAny_Compare1 (hm:=hm) (hl env A X s ρ a _ E R F I te fun u s₁ hu iE=>hr env A X s₁ ρ b _ E R (F.done iE) iE.inv GP fun v gZ hv gW=> ?_)
 exact ho A X gZ a b p u v Q E (R.less (aE _)) ((F.done iE).done gW).xo gW.inv (hu.up gW.up) hv GQ fun x s' hx jb=>hQ x s' hx ((iE.trans gW).trans jb)
end
end
section
open PySem
section
variable {prog:Program} {w:dw} {h:Heap} {X:List Addr}
theorem gV.length: ∀{ps:List PV} {vs:List Value},gV prog w h X ps vs→vs.length=ps.length:=by
 intro ps
 induction ps with
 |nil=>exact @fun _ x=>by (first|exact VS x|cases x);rfl
 |cons p ps iu=>
  intro _ x
  obtain⟨v,r,rfl,_,hr⟩:=x
  simp[iu hr]
theorem gV.nil:gV prog w h X [] []:=rfl
theorem gV.cons{p:PV}{ps:List PV}{v:Value}{vs:List Value}(hv:VR prog w h X p v)(hr:gV prog w h X ps vs):gV prog w h X (p::ps) (v::vs):=by
 exact .intro v ⟨vs,rfl,hv,hr⟩
theorem gV.inv{p:PV}{ps:List PV}{vs:List Value}(x:gV prog w h X (p::ps) vs): ∃v r,vs=v::r∧VR prog w h X p v∧gV prog w h X ps r:=by
 exact x
theorem gV.append: ∀{ps qs:List PV} {vs us:List Value},gV prog w h X ps vs→gV prog w h X qs us→gV prog w h X (ps++qs) (vs++us):=by
 intro ps
 induction ps with
 |nil=>exact @fun _ _ _ x y=>by (first|exact VS x|cases x);exact y
 |cons _ _ iu=>
  intro _ _ _ x y
  obtain⟨v,r,rfl,hv,hr⟩:=x.inv
  exact gV.cons hv (iu hr y)
theorem gV.get: ∀{ps:List PV} {vs:List Value} {i:Nat} {p:PV},gV prog w h X ps vs→ps[i]? =some p→ ∃v,vs[i]? =some v∧VR prog w h X p v:=by
 intro ps
 induction ps with
 |nil=>intro _ _ _ _ e;exact Option.noConfusion rfl (heq_of_eq (show(none:Option PV)=some _ from e))
 |cons q ps ih=>
  intro vs i p x e
  obtain⟨v,r,rfl,hv,hr⟩:=x.inv
  cases i with
  |zero=>exact⟨v,rfl,Option.some.inj e▸hv⟩
  |succ i=>have y:=ih hr e;exact y
theorem gV.take: ∀{ps:List PV} {vs:List Value} (n:Nat),gV prog w h X ps vs→gV prog w h X (ps.take n) (vs.take n):=by
 intro ps
 induction ps with
 |nil=>intro _ _ x;(first|exact VS x|cases x);rw[List.take_nil,List.take_nil];exact gV.nil
 |cons q ps ih=>
  intro vs n x
  cases n with
  |zero=>rw[List.take_zero,List.take_zero];exact gV.nil
  |succ n=>obtain⟨v,r,rfl,hv,hr⟩:=x.inv;exact gV.cons hv (ih n hr)
theorem gV.drop: ∀{ps:List PV} {vs:List Value} (n:Nat),gV prog w h X ps vs→gV prog w h X (ps.drop n) (vs.drop n):=by
 intro ps
 induction ps with
 |nil=>intro _ _ x;(first|exact VS x|cases x);rw[List.drop_nil,List.drop_nil];exact gV.nil
 |cons q ps ih=>
  intro vs n x
  cases n with
  |zero=>exact x
  |succ n=>obtain⟨v,r,rfl,_,hr⟩:=x.inv;exact ih n hr
theorem gV.replicate{p:PV}{v:Value}(hv:VR prog w h X p v): ∀n:Nat,gV prog w h X (List.replicate n p) (List.replicate n v):=by
 intro n
 induction n with
 |zero=>exact gV.nil
 |succ n iu=>exact gV.cons hv (iu)
theorem VR.ki{i:Int}{v:Value}(x:VR prog w h X (.int i) v): ∃t,v= .int i t:=x
theorem VR.lY{i:Str}{v:Value}(x:VR prog w h X (.str i) v): ∃t,v= .str i t:=x
theorem VR.pP{i:Bool}{v:Value}(x:VR prog w h X (.bool i) v):v= .bool i:=x
theorem VR.listE{l:List PV}{v:Value}(x:VR prog w h X (.list l) v): ∃a xs n,v= .ref a∧a∉X∧h.get? a=some {cls:= .type "list",data:= .seq xs n}∧gV prog w h X l xs.toList:=x
theorem VR.mK{l:List PV}{v:Value}(x:VR prog w h X (.tup l) v): ∃a xs n,v= .ref a∧a∉X∧h.get? a=some {cls:= .type "tuple",data:= .seq xs n}∧gV prog w h X l xs.toList:=x
@[elab_as_elim] theorem VR.sg{i:Int}{v:Value}(x:VR prog w h X (.int i) v){P:Value→Prop}(k: ∀t,P (.int i t)):P v:=by obtain⟨t,rfl⟩:=x.ki;exact k t
@[elab_as_elim] theorem VR.E8{i:Str}{v:Value}(x:VR prog w h X (.str i) v){P:Value→Prop}(k: ∀t,P (.str i t)):P v:=by obtain⟨t,rfl⟩:=x.lY;exact k t
@[elab_as_elim] theorem VR.yF{l:List PV}{v:Value}(x:VR prog w h X (.list l) v){P:Value→Prop}(k: ∀a xs n,a∉X→h.get? a=some {cls:= .type "list",data:= .seq xs n}→gV prog w h X l xs.toList→P (.ref a)):P v:=by
 obtain⟨a,xs,n,rfl,ha,ho,hl⟩:=x.listE
 exact k a xs n ha ho hl
@[elab_as_elim] theorem VR.Kc{l:List PV}{v:Value}(x:VR prog w h X (.tup l) v){P:Value→Prop}(k: ∀a xs n,a∉X→h.get? a=some {cls:= .type "tuple",data:= .seq xs n}→gV prog w h X l xs.toList→P (.ref a)):P v:=by
 obtain⟨a,xs,n,rfl,ha,ho,hl⟩:=x.mK
 exact k a xs n ha ho hl
theorem gV.zy{ps:List PV}{xs:Array Value}{i:Nat}{p:PV}(x:gV prog w h X ps xs.toList)(e:ps[i]? =some p){P:Prop}(k: ∀v,xs[i]? =some v→VR prog w h X p v→P):P:=by
 obtain⟨v,hv,hp⟩:=x.get e
 exact k v (bz▸hv) hp
theorem VR.mkInt(i:Int)(t:Nat):VR prog w h X (.int i) (.int i t):=by exact .intro t rfl
theorem VR.mkStr(i:Str)(t:Nat):VR prog w h X (.str i) (.str i t):=by exact .intro t rfl
theorem VR.CU(b:Bool):VR prog w h X (.bool b) (.bool b):=rfl
end
section
variable {L:ig}
theorem iq(h:Heap)(o:Obj): ∀b o',h.get? b=some o'→(h.push o).get? b=some o':=fun _ _ e=>ay o e
theorem gN.push{X:List Addr}{s:aq}(i:Inv L s)(x:XO L X s.heap)(o:Obj)(tk:Nat):gN L X s {s with heap:=s.heap.push o,toks:=tk}:=gN.of_keep i x (iq _ _) tk
theorem newList{s:aq}{X:List Addr}{l:List PV}{xs:Array Value}(i:Inv L s)(x:XO L X s.heap)(hl:gV L.prog L.w s.heap X l xs.toList)(tk:Nat):
  VR L.prog L.w ({s with heap:=s.heap.push {cls:= .type "list",data:= .seq xs},toks:=tk}:aq).heap X (.list l) (.ref s.heap.objs.size):=by
 have d:=gN.push i x {cls:= .type "list",data:= .seq xs} tk
 exact .intro _ ⟨xs,0,rfl,x.size,aB _ rfl,gV.up d.up hl⟩
theorem CV{s:aq}{X:List Addr}{l:List PV}{xs:Array Value}(i:Inv L s)(x:XO L X s.heap)(hl:gV L.prog L.w s.heap X l xs.toList)(tk:Nat):
  VR L.prog L.w ({s with heap:=s.heap.push {cls:= .type "tuple",data:= .seq xs},toks:=tk}:aq).heap X (.tup l) (.ref s.heap.objs.size):=by
 have d:=gN.push i x {cls:= .type "tuple",data:= .seq xs} tk
 exact .intro _ ⟨xs,0,rfl,x.size,aB _ rfl,gV.up d.up hl⟩
noncomputable def small(n:Int):Bool:=decide (n.natAbs<2^63)
theorem mO{n:Int}(h:small n=true):aC.Int.intBits n≤64:=by
 have:=of_decide_eq_true h
 exact intBits_le_64 (by omega) (by omega)
noncomputable def lZ(g:Int→Int→Option PV):PV→PV→Option PV
 | .int a,.int b=>g a b
 |_,_=>none
theorem th{g:Int→Int→Option PV}{p q r:PV}(h:lZ g p q=some r): ∃a b,p= .int a∧q= .int b∧g a b=some r:=by
 cases p<;>try exact hO h
 cases q<;>try exact hO h
 exact⟨_,_,rfl,rfl,h⟩
theorem j6{o:Value→Value→Sem Value}{g:Int→Int→Option PV}(H: ∀{A:aF} {X:List Addr} {s:aq} {a b:Int} {t t':Nat} {r:PV} {Q:Value→aq→Prop} {E:Value→aq→Prop},g a b=some r→XO L X s.heap→Inv L s→
  (∀x s',VR L.prog L.w s'.heap X r x→gN L X s s'→Q x s')→wpAny L.M A (o (.int a t) (.int b t')) Q E s):ng L o (lZ g):=by
 intro A X s p q r u v Q E R x I hp hq hg hQ
 obtain⟨a,b,rfl,rfl,h⟩:=th hg
 obtain⟨t,rfl⟩:=hp.ki
 obtain⟨t',rfl⟩:=hq.ki
 exact H h x I hQ
theorem zz{c:Prop}[Decidable c]{α:Type}{x:Option α}{r:α}(h:(if c then x else none)=some r):c∧x=some r:=by
 by_cases hc:c
 ·rw[if_pos hc] at h;exact⟨hc,h⟩
 ·rw[if_neg hc] at h;exact hO h
theorem kg{c:Prop}[Decidable c]{α:Type}{a r:α}(h:(if c then some a else none)=some r):c∧r=a:=by
 split at h
 ·(first|exact VS h|cases h);exact⟨‹c›,rfl⟩
 ·exact hO h
theorem j7{α:Type}{a b:α}(h:some a=some b):a=b:=Option.some.inj h
theorem j8{a b:Bool}(h:(a&&b)=true):a=true∧b=true:=by simpa using h
noncomputable def gY:PV→PV→Option PV
 | .int a,.int b=>some (.int (a+b))
 | .str a,.str b=>if a.length+b.length≤100000 then some (.str (a++b)) else none
 | .list a,.list b=>if a.length+b.length≤100000 then some (.list (a++b)) else none
 | .tup a,.tup b=>if a.length+b.length≤100000∧a≠[]∧b≠[] then some (.tup (a++b)) else none
 |_,_=>none
noncomputable def kO(p q:PV):Option PV:=lZ (fun a b=>some (.int (a-b))) p q
noncomputable def rx(x:Str)(n:Int):Str:=if n<1 then Str.empty else if (n==1||x.length==0)=true then x else⟨(List.replicate n.toNat x.cps).foldl (· ++ ·) #[]⟩
noncomputable def iD:PV→PV→Option PV
 | .int a,.int b=>if small a||small b then some (.int (a*b)) else none
 | .str a,.int n=>if decide (-1000≤n)&&decide (n≤1000)&&decide (a.length≤1000)&&decide ((rx a n).length≤100000) then some (.str (rx a n)) else none
 | .list a,.int n=>if decide (-1000≤n)&&decide (n≤1000)&&decide (a.length≤1000) then some (.list (List.replicate n.toNat a).flatten) else none
 |_,_=>none
noncomputable def iS(p q:PV):Option PV:=lZ (fun a b=>if small b&&b !=0 then some (.int (a.fdiv b)) else none) p q
noncomputable def iX(p q:PV):Option PV:=lZ (fun a b=>if b !=0 then some (.int (a.fmod b)) else none) p q
noncomputable def lh(p q:PV):Option PV:=lZ (fun a n=>if small a&&decide (0≤n)&&decide (n≤1000) then some (.int (a^n.toNat)) else none) p q
noncomputable def vW(p q:PV):Option PV:=lZ (fun a n=>if small a&&decide (0≤n)&&decide (n≤1000) then some (.int (a*2^n.toNat)) else none) p q
noncomputable def ux(p q:PV):Option PV:=lZ (fun a b=>some (.int (aC.bitAnd a b))) p q
noncomputable def NT(p q:PV):Option PV:=lZ (fun a b=>some (.int (aC.bitOr a b))) p q
noncomputable def ME(p q:PV):Option PV:=lZ (fun a b=>some (.int (aC.bitXor a b))) p q
theorem ml:ng L (binaryOp .Sub) kO:=j6 fun h x I hQ=>PyProof.Rows.sub_int (hQ _ _ (Option.some.inj h▸VR.mkInt _ _) (gN.toks I x _))
theorem zA:ng L (binaryOp .BitAnd) ux:=j6 fun h x I hQ=>PyProof.Rows.and_int (hQ _ _ (Option.some.inj h▸VR.mkInt _ _) (gN.toks I x _))
theorem E9{b:Int}(h:small b=true):b.natAbs.log2<64:=by
 have hb:=mO h
 unfold aC.Int.intBits at hb
 split at hb
 ·rename_i h0;rw[eq_of_beq h0];decide
 ·exact hb
theorem iW:ng L (binaryOp .FloorDiv) iS:=j6 fun h x I hQ=>by
 replace h:=kg h
 obtain⟨hc,rfl⟩:=h
 obtain⟨h1,h2⟩:=j8 hc
 exact PyProof.Rows.floordiv_int (bne_iff_ne.mp h2) (hQ _ _ (VR.mkInt _ _) (gN.toks I x _)) (.inl (PyProof.noPylong_of_log2 (bP (E9 h1) (by decide))))
theorem iQ:ng L (binaryOp .Mod) iX:=j6 fun h x I hQ=>by
 replace h:=kg h
 obtain⟨hc,rfl⟩:=h
 exact PyProof.Rows.mod_int (bne_iff_ne.mp hc) (hQ _ _ (VR.mkInt _ _) (gN.toks I x _))
theorem oK:ng L (binaryOp .Pow) lh:=j6 fun{_ _ _ a n _ _ _ _ _} h x I hQ=>by
 replace h:=kg h
 obtain⟨hc,rfl⟩:=h
 obtain⟨hc,h1⟩:=j8 hc
 obtain⟨ha,h0⟩:=j8 hc
 refine PyProof.Rows.pow_int (of_decide_eq_true h0) ?_ (hQ _ _ (VR.mkInt _ _) (gN.toks I x _))
 exact Int.le_trans (Int.mul_le_mul (Int.ofNat_le.mpr (mO ha)) (of_decide_eq_true h1) (of_decide_eq_true h0) (by decide)) (by decide)
theorem NU:ng L (binaryOp .LShift) vW:=j6 fun h x I hQ=>by
 replace h:=kg h
 obtain⟨hc,rfl⟩:=h
 obtain⟨hc,h1⟩:=j8 hc
 obtain⟨ha,h0⟩:=j8 hc
 have:=of_decide_eq_true ha
 have h0:=of_decide_eq_true h0
 have h1:=of_decide_eq_true h1
 exact PyProof.Rows.lshift_int_small h0 (by omega) (by omega) (hQ _ _ (VR.mkInt _ _) (gN.toks I x _))
theorem CW{p q r:PV}{P:Prop}(h:gY p q=some r)(h1: ∀a b,p= .int a→q= .int b→r= .int (a+b)→P)(h2: ∀a b,p= .str a→q= .str b→a.length+b.length≤100000→r= .str (a++b)→P)
  (h3: ∀a b,p= .tup a→q= .tup b→(a.length+b.length≤100000∧a≠[]∧b≠[])→r= .tup (a++b)→P)(h4: ∀a b,p= .list a→q= .list b→a.length+b.length≤100000→r= .list (a++b)→P):P:=by
 cases p<;>try exact hO h
 ·cases q<;>try exact hO h
  exact h1 _ _ rfl rfl (Option.some.inj h).symm
 ·cases q<;>try exact hO h
  exact h2 _ _ rfl rfl (kg h).1 (kg h).2
 ·cases q<;>try exact hO h
  exact h3 _ _ rfl rfl (kg h).1 (kg h).2
 ·cases q<;>try exact hO h
  exact h4 _ _ rfl rfl (kg h).1 (kg h).2
theorem gV.size{prog:Program}{w:dw}{h:Heap}{X:List Addr}{ps:List PV}{xs:Array Value}(x:gV prog w h X ps xs.toList):xs.size=ps.length:=by rw[←x.length,aS]
theorem mL{n:Nat}(h:n≤100000):n≤sizeLine:=Nat.le_trans h (by decide)
theorem gV.app{prog:Program}{w:dw}{h:Heap}{X:List Addr}{ps qs:List PV}{xs ys:Array Value}(x:gV prog w h X ps xs.toList)(y:gV prog w h X qs ys.toList):gV prog w h X (ps++qs) (xs++ys).toList:=by rw[Array.toList_append];exact x.append y
theorem gV.ne{prog:Program}{w:dw}{h:Heap}{X:List Addr}{ps:List PV}{xs:Array Value}(x:gV prog w h X ps xs.toList)(hn:ps≠[]): ¬ xs.isEmpty=true:=fun e=>hn (List.length_eq_zero_iff.mp (by rw[←x.size];exact of_decide_eq_true e))
theorem gU:ng L (binaryOp .Add) gY:=by
 intro A X s p q r u v Q E R x I hp hq hg hQ
 refine CW hg (fun a b e1 e2 e3=> ?_) (fun a b e1 e2 hc e3=> ?_) (fun l m e1 e2 hc e3=> ?_) (fun l m e1 e2 hc e3=> ?_)<;>subst e1 e2 e3
 ·obtain⟨t,rfl⟩:=hp.ki
  obtain⟨t',rfl⟩:=hq.ki
  exact gk (hQ _ _ (VR.mkInt _ _) (gN.toks I x _))
 ·obtain⟨t,rfl⟩:=hp.lY
  obtain⟨t',rfl⟩:=hq.lY
  exact PyProof.Rows.add_str (fun t' tk=>hQ _ _ (VR.mkStr _ _) (gN.toks I x _)) (mL hc)
 ·obtain⟨a,xs,n,rfl,ha,ho,hl⟩:=hp.mK
  obtain⟨b,ys,n',rfl,hb,lr,jB⟩:=hq.mK
  exact P.add_tuple ho lr (hl.ne hc.2.1) (jB.ne hc.2.2) (hQ _ _ (CV I x (hl.app jB) _) (gN.push I x _ _)) (by rw[hl.size,jB.size];exact mL hc.1)
 ·obtain⟨a,xs,n,rfl,ha,ho,hl⟩:=hp.listE
  obtain⟨b,ys,n',rfl,hb,lr,jB⟩:=hq.listE
  exact P.add_list ho lr (hQ _ _ (newList I x (hl.app jB) _) (gN.push I x _ _)) (by rw[hl.size,jB.size];exact mL hc)
end
end
section
open PySem
theorem gV.Kd{prog:Program}{w:dw}{h:Heap}{X:List Addr}{ps:List PV}{vs:List Value}(hl:gV prog w h X ps vs): ∀n:Nat,gV prog w h X (List.replicate n ps).flatten (List.replicate n vs).flatten:=by
 intro n
 induction n with
 |zero=>exact gV.nil
 |succ n iu=>exact by simpa[List.replicate_succ] using hl.append (iu)
section
variable {L:ig}
theorem D9{p q r:PV}(h:iD p q=some r):(∃a,p= .int a)∨(∃a,p= .str a)∨(∃a,p= .list a):=by
 cases p<;>try exact hO h
 ·exact .inl ⟨_,rfl⟩
 ·exact .inr (.inl ⟨_,rfl⟩)
 ·exact .inr (.inr ⟨_,rfl⟩)
theorem GR{p q r:PV}(h:iD p q=some r): ∃b,q= .int b:=by
 rcases D9 h with⟨a,rfl⟩|⟨a,rfl⟩|⟨a,rfl⟩<;>(cases q<;>first|exact⟨_,rfl⟩|exact hO h)
theorem GS{n:Int}(h0:decide (-1000≤n)=true)(h1:decide (n≤1000)=true):(decide (n< -(2^63))||decide (n≥2^63))=false:=by
 have h0:=of_decide_eq_true h0
 have h1:=of_decide_eq_true h1
 rw[decide_eq_false (fun h=>absurd (Int.le_trans h0 (fS h)) (by decide)),decide_eq_false (fun h=>absurd (Int.le_trans h h1) (by decide))];rfl
theorem yG{k:Nat}{n:Int}(hk:k≤1000)(hn:decide (n≤1000)=true):k*n.toNat≤1000000:=Nat.mul_le_mul hk (Int.toNat_le.mpr (of_decide_eq_true hn))
theorem i6:ng L (binaryOp .Mult) iD:=by
 intro A X s p q r u v Q E R x I hp hq hg hQ
 obtain⟨n,rfl⟩:=GR hg
 obtain⟨t',rfl⟩:=hq.ki
 rcases D9 hg with⟨a,rfl⟩|⟨a,rfl⟩|⟨a,rfl⟩
 ·replace hg:=kg hg
  obtain⟨hc,rfl⟩:=hg
  obtain⟨t,rfl⟩:=hp.ki
  exact PyProof.Rows.mul_int (hQ _ _ (VR.mkInt _ _) (gN.toks I x _)) ((Bool.or_eq_true_iff.mp hc).elim (fun h=>IntMulOk.of_left (mO h)) fun h=>IntMulOk.of_right (mO h))
 ·replace hg:=kg hg
  obtain⟨hc,rfl⟩:=hg
  obtain⟨hc,h3⟩:=j8 hc
  obtain⟨hc,h2⟩:=j8 hc
  obtain⟨h0,h1⟩:=j8 hc
  obtain⟨t,rfl⟩:=hp.lY
  have hr:=yG (of_decide_eq_true h2) h1
  refine P.mul_str (GS h0 h1) (fun g1 _ hgt=> ?_) (fun g1 _=> ?_) ?_
  ·have h1:=of_decide_eq_true h1
   have h2:=of_decide_eq_true h2
   have h4:=(Int.ediv_lt_iff_lt_mul (by omega:(0:Int)<n)).mp hgt
   have:(a.length:Int)*n≤1000*1000:=Int.mul_le_mul (Int.ofNat_le.mpr h2) h1 (by omega) (by decide)
   omega
  ·exact decide_eq_false (Nat.not_lt.mpr (Nat.le_trans hr (by decide)))
  ·have h3:=mL (of_decide_eq_true h3)
   have fin:Q (.str (rx a n) s.toks) {s with toks:=s.toks+1}:=hQ _ _ (VR.mkStr _ _) (gN.toks I x _)
   have Ke:Q (.str (rx a n) t) s:=hQ _ _ (VR.mkStr _ _) (gN.refl I x)
   unfold rx at fin Ke h3
   split
   ·rw[if_pos ‹_›] at fin
    exact⟨by decide,fin⟩
   ·rw[if_neg ‹_›] at fin Ke h3
    split
    ·rw[if_pos ‹_›] at Ke
     exact Ke
    ·rw[if_neg ‹_›] at fin h3
     exact⟨h3,fin⟩
 ·replace hg:=kg hg
  obtain⟨hc,rfl⟩:=hg
  obtain⟨hc,h2⟩:=j8 hc
  obtain⟨h0,h1⟩:=j8 hc
  obtain⟨b,xs,m,rfl,ha,ho,hl⟩:=hp.listE
  have hsz:xs.size*n.toNat≤1000000:=yG (hl.size▸of_decide_eq_true h2) h1
  have h0:=of_decide_eq_true h0
  have h1:=of_decide_eq_true h1
  refine wpAny_binaryOp_repeat_ref (T:="list") (U:="int") (by decide) ⟨_,ho,rfl⟩ (fun s'=>typeIs_int s' n t') noFill_list_mul F.fills_int_mul F.slot_int_rmul repeat_list F.slot_int_index.lookup
   (ff F.slot_int_rmul (typeIs_int s n t') F.entry_int_rmul (F.args_int_rmul_2 _ _) (int___rmul___int_list n t' b xs m)
    ⟨ho,rfl,⟨_,ho,rfl⟩,ff F.slot_list_mul ⟨_,ho,rfl⟩ F.entry_list_mul (F.args_list_mul_2 _ _)
     (AutoListH.list___mul___list_int_3 b xs m n t' (by simp[aC.List.listFitsIndex];omega) (by omega) (by simp[aC.List.listTooLong,sizeLine];omega))
     ⟨ho,?_⟩⟩)
  refine hQ _ _ (newList I x (l:=(List.replicate n.toNat a).flatten) ?_ _) (gN.push I x _ _)
  rw[PyProof.Rows.listMul_foldl_if]
  exact gV.Kd hl n.toNat
noncomputable def pj:PV→Option PV
 | .int a=>some (.int (-a))
 |_=>none
noncomputable def Qx(L:ig)(t:Value→Sem Value)(g:PV→Option PV):Prop:=
 ∀(A:aF) (X:List Addr) (s:aq) (p r:PV) (u:Value) (Q:Value→aq→Prop) (E:Value→aq→Prop),
  i5 L 0 A→XO L X s.heap→Inv L s→VR L.prog L.w s.heap X p u→g p=some r→
  (∀x s',VR L.prog L.w s'.heap X r x→gN L X s s'→Q x s')→wpAny L.M A (t u) Q E s
theorem GU:Qx L (unaryOp .USub) pj:=by
 intro A X s p r u Q E R x I hp hg hQ
 cases p<;>try exact hO hg
 skip;(first|exact VS hg|cases hg)
 obtain⟨t,rfl⟩:=hp.ki
 exact PyProof.Rows.neg_int (hQ _ _ (VR.mkInt _ _) (gN.toks I x _))
noncomputable def Fb(p q:PV):Option PV:=lZ (fun a b=>some (.bool (decide (a<b)))) p q
noncomputable def xK(p q:PV):Option PV:=lZ (fun a b=>some (.bool (decide (b<a)))) p q
noncomputable def NV(p q:PV):Option PV:=lZ (fun a b=>some (.bool (decide (b≤a)))) p q
theorem Be:ng L (compareOp .Lt) Fb:=j6 fun h x I hQ=>PyProof.Rows.lt_int (hQ _ _ (Option.some.inj h▸VR.CU _) (gN.refl I x))
theorem Ea:ng L (compareOp .Gt) xK:=j6 fun h x I hQ=>PyProof.Rows.gt_int (hQ _ _ (Option.some.inj h▸VR.CU _) (gN.refl I x))
theorem MF:ng L (compareOp .GtE) NV:=j6 fun h x I hQ=>PyProof.Rows.ge_int (hQ _ _ (Option.some.inj h▸VR.CU _) (gN.refl I x))
end
end
section
open PySem PySem.SeqAt PySem.MeetsSeq PySem.MeetsSeq2 PySem.MeetsSeq3 PySem.SeqRoads2
open PySem.AutoSeq1 (wpAny_loadPart')
noncomputable def zB(L:ig)(A:aF)(s:aq)(y x:Value)(b:Bool):Prop:=
 ∀(E:Value→aq→Prop) (Q:Bool→aq→Prop),Q b s→wpAny L.M A (eqBool y x) Q E s
theorem zB.of{L:ig}{A:aF}{s:aq}{y x:Value}{b:Bool}(h:EqAt A s y x b):zB L A s y x b:=fun E Q hq=>h L.prog L.w E Q hq
noncomputable abbrev jw(L:ig)(A:aF)(t:Sem Fin)(R:eL→aq→Prop)(s:aq):Prop:=
 wpAny L.M A.in1 t (fun fin s'=>match fin with| .done f=>R (.ok f) s'| .again c'=>c'.quiet=true∧codeAny L.M A c' R s') (fun e s'=>R (.error e) s') s
section
variable {L:ig} {A:aF} {R:eL→aq→Prop}
theorem Bf{l b:Addr}{xs ys:Array Value}{n n2:Nat}{e:Nat→Bool}(hsz:xs.size=ys.size)(k:Nat): ∀(i:Nat) (s:aq),xs.size-i=k→
  s.heap.get? l=some {cls:= .type "list",data:= .seq xs n}→s.heap.get? b=some {cls:= .type "list",data:= .seq ys n2}→
  (∀j (h1:j<xs.size) (h2:j<ys.size),zB L A.in1 s xs[j] ys[j] (e j))→R (.ok (.ret (.bool (((List.range xs.size).drop i).all e)))) s→
  jw L A (aC.«list.__eq__.loop» ⟨[.ref l,.ref b,rawInt i,rawInt 2],[]⟩) R s:=by
 induction k with
 |zero=>
  intro i s hk hl hb he h
  obtain⟨hp,g,d,tk,os⟩:=s
  unfold jw
  wp_walk using wpAny_loadPart' hl,wpAny_loadPart' hb
  have le:xs.size≤i:=Nat.le_of_sub_eq_zero hk
  have a1:xs[((i:Nat):Int).toNat]? =none:=aO le
  have a2:ys[((i:Nat):Int).toNat]? =none:=aO (Nat.le_trans (ba hsz.symm) le)
  have a3:(List.range xs.size).drop i=[]:=bV (by rw[dA];exact le)
  rw[a3] at h
  rw[a1,a2]
  wp_walk using wpAny_loadPart' hl,wpAny_loadPart' hb
  show R (.ok (.ret (.bool (xs.size==ys.size)))) _
  rw[hsz]
  simpa using h
 |succ k ih=>
  intro i s hk hl hb he h
  obtain⟨hp,g,d,tk,os⟩:=s
  unfold jw
  wp_walk using wpAny_loadPart' hl,wpAny_loadPart' hb
  have b1:i<xs.size:=Nat.lt_of_sub_eq_succ hk
  have b2:i<ys.size:=bQ b1 hsz
  have a1:xs[((i:Nat):Int).toNat]? =some xs[i]:=cA b1
  have a2:ys[((i:Nat):Int).toNat]? =some ys[i]:=cA b2
  have a3:(List.range xs.size).drop i=i::(List.range xs.size).drop (i+1):=(aJ (bQ b1 List.length_range.symm)).trans (congrArg (· ::_) (cN _))
  have a4:((i:Int)+1)=((i+1:Nat):Int):=by push_cast;rfl
  rw[a3,eg] at h
  rw[a1,a2]
  refine ao (he i b1 b2 _ _ ?_)
  cases xI:e i with
  |true=>
   rw[xI] at h
   wp_walk
   rw[a4]
   exact⟨bf plain_eq_loop _,aR entry_eq_loop (by
    rw[aI plain_eq_loop _]
    exact ih (i+1) _ (congrArg Nat.pred hk) hl hb he (by simpa using h))⟩
  |false=>
   rw[xI] at h
   wp_walk using wpAny_loadPart' hl,wpAny_loadPart' hb
   rw[a1,a2]
   wp_walk
   simpa using h
theorem Bg{l b:Addr}{xs ys:Array Value}{n n2:Nat}{e:Nat→Bool}(hsz:xs.size=ys.size)(k:Nat): ∀(i:Nat) (s:aq),xs.size-i=k→
  s.heap.get? l=some {cls:= .type "list",data:= .seq xs n}→s.heap.get? b=some {cls:= .type "list",data:= .seq ys n2}→
  (∀j (h1:j<xs.size) (h2:j<ys.size),zB L A.in1 s xs[j] ys[j] (e j))→R (.ok (.ret (.bool (!((List.range xs.size).drop i).all e)))) s→
  jw L A (aC.«list.__eq__.loop» ⟨[.ref l,.ref b,rawInt i,rawInt 3],[]⟩) R s:=by
 induction k with
 |zero=>
  intro i s hk hl hb he h
  obtain⟨hp,g,d,tk,os⟩:=s
  unfold jw
  wp_walk using wpAny_loadPart' hl,wpAny_loadPart' hb
  have le:xs.size≤i:=Nat.le_of_sub_eq_zero hk
  have a1:xs[((i:Nat):Int).toNat]? =none:=aO le
  have a2:ys[((i:Nat):Int).toNat]? =none:=aO (Nat.le_trans (ba hsz.symm) le)
  have a3:(List.range xs.size).drop i=[]:=bV (by rw[dA];exact le)
  rw[a3] at h
  rw[a1,a2]
  wp_walk using wpAny_loadPart' hl,wpAny_loadPart' hb
  show R (.ok (.ret (.bool (xs.size !=ys.size)))) _
  rw[hsz]
  simpa using h
 |succ k ih=>
  intro i s hk hl hb he h
  obtain⟨hp,g,d,tk,os⟩:=s
  unfold jw
  wp_walk using wpAny_loadPart' hl,wpAny_loadPart' hb
  have b1:i<xs.size:=Nat.lt_of_sub_eq_succ hk
  have b2:i<ys.size:=bQ b1 hsz
  have a1:xs[((i:Nat):Int).toNat]? =some xs[i]:=cA b1
  have a2:ys[((i:Nat):Int).toNat]? =some ys[i]:=cA b2
  have a3:(List.range xs.size).drop i=i::(List.range xs.size).drop (i+1):=(aJ (bQ b1 List.length_range.symm)).trans (congrArg (· ::_) (cN _))
  have a4:((i:Int)+1)=((i+1:Nat):Int):=by push_cast;rfl
  rw[a3,eg] at h
  rw[a1,a2]
  refine ao (he i b1 b2 _ _ ?_)
  cases xI:e i with
  |true=>
   rw[xI] at h
   wp_walk
   rw[a4]
   exact⟨bf plain_eq_loop _,aR entry_eq_loop (by
    rw[aI plain_eq_loop _]
    exact ih (i+1) _ (congrArg Nat.pred hk) hl hb he (by simpa using h))⟩
  |false=>
   rw[xI] at h
   wp_walk using wpAny_loadPart' hl,wpAny_loadPart' hb
   rw[a1,a2]
   wp_walk
   simpa using h
theorem lu{T id:String}{name:Str}{B:aC}{u v:Value}{s:aq}{Q E:Value→aq→Prop}(slot:Slot T name id)(hT:s.TypeIs u T)
  (entry:entryFor table id=some B)(args:argsOk id ⟨[u,v],[]⟩)(h:jw L A (B ⟨[u,v],[]⟩) (wants Q E) s):wpAny L.M A (call (.builtin id) [u,v]) Q E s:=
 f7 (codeAny_call_builtin slot.plain entry (slot.check _ _ _ _ _ _ _ _ hT args h))
theorem zB.refs{l b:Addr}{s:aq}{k:Bool}(js:l≠b)(h: ∀(E Q:Value→aq→Prop),Q (.bool k) s→wpAny L.M A (richCompare .Eq (.ref l) (.ref b)) Q E s):zB L A s (.ref l) (.ref b) k:=fun E Q hq=>by
 unfold eqBool
 refine aP ?_
 refine wpAny_ite_split (fun GQ=>absurd (by have:=eq_of_beq GQ;injection this) js) (fun _=> ?_)
 exact ao (h E _ (cZ hq))
variable {s:aq} {E Q:Value→aq→Prop} {l b:Addr} {xs ys:Array Value} {n n2:Nat} {e:Nat→Bool}
theorem Bh(hl:s.heap.get? l=some {cls:= .type "list",data:= .seq xs n})(hb:s.heap.get? b=some {cls:= .type "list",data:= .seq ys n2})(hsz:xs.size=ys.size)(hu:A.units<cLine)
  (he: ∀j (h1:j<xs.size) (h2:j<ys.size),zB L A.in1 s xs[j] ys[j] (e j))(h:Q (.bool ((List.range xs.size).all e)) s):wpAny L.M A (richCompare .Eq (.ref l) (.ref b)) Q E s:=by
 refine bU (op:= .Eq) ⟨_,hl,rfl⟩ ⟨_,hb,rfl⟩ F.slot_list_eq (lu F.slot_list_eq ⟨_,hl,rfl⟩ F.entry_list_eq (F.args_list_eq_2 _ _) ?_) hu
 obtain⟨hp,g,d,tk,os⟩:=s
 have f3:=AutoSeq1.sub_list_list
 have js: ¬ (xs.size !=ys.size)=true:=by simp[hsz]
 unfold jw
 wp_walk using wpAny_loadPart' hl,wpAny_loadPart' hb
 exact⟨bf plain_eq_loop _,aR entry_eq_loop (by
  rw[aI plain_eq_loop _]
  exact Bf hsz _ 0 _ rfl hl hb he ⟨(fun x=>nomatch x),by simpa using h⟩)⟩
theorem GV(hl:s.heap.get? l=some {cls:= .type "list",data:= .seq xs n})(hb:s.heap.get? b=some {cls:= .type "list",data:= .seq ys n2})(hsz:xs.size=ys.size)(hu:A.units<cLine)
  (he: ∀j (h1:j<xs.size) (h2:j<ys.size),zB L A.in1 s xs[j] ys[j] (e j))(h:Q (.bool (!(List.range xs.size).all e)) s):wpAny L.M A (richCompare .NotEq (.ref l) (.ref b)) Q E s:=by
 refine bU (op:= .NotEq) ⟨_,hl,rfl⟩ ⟨_,hb,rfl⟩ F.slot_list_ne (lu F.slot_list_ne ⟨_,hl,rfl⟩ F.entry_list_ne (F.args_list_ne_2 _ _) ?_) hu
 obtain⟨hp,g,d,tk,os⟩:=s
 have f3:=AutoSeq1.sub_list_list
 have js: ¬ (xs.size !=ys.size)=true:=by simp[hsz]
 unfold jw
 wp_walk using wpAny_loadPart' hl,wpAny_loadPart' hb
 exact⟨bf plain_eq_loop _,aR entry_eq_loop (by
  rw[aI plain_eq_loop _]
  exact Bg hsz _ 0 _ rfl hl hb he ⟨(fun x=>nomatch x),by simpa using h⟩)⟩
theorem yH(hl:s.heap.get? l=some {cls:= .type "tuple",data:= .seq xs n})(hb:s.heap.get? b=some {cls:= .type "tuple",data:= .seq ys n2})(hu:A.units<cLine)
  (he: ∀j (h1:j<xs.size) (h2:j<ys.size),zB L A.in1 s xs[j] ys[j] (e j))(h:Q (.bool ((List.range (min xs.size ys.size)).all e&&xs.size==ys.size)) s):wpAny L.M A (richCompare .Eq (.ref l) (.ref b)) Q E s:=by
 refine bU (op:= .Eq) ⟨_,hl,rfl⟩ ⟨_,hb,rfl⟩ F.slot_tuple_eq (lu F.slot_tuple_eq ⟨_,hl,rfl⟩ F.entry_tuple_eq (F.args_tuple_eq_2 _ _) ?_) hu
 obtain⟨hp,g,d,tk,os⟩:=s
 have f2:=AutoSeq1.sub_tuple_tuple
 have hZ:(xs.toList.zip ys.toList).length=min xs.size ys.size:=by simp
 unfold jw
 wp_walk using wpAny_loadPart' hl,wpAny_loadPart' hb,wpAny_forIn_list _ (fun rest b s'=>b.1=none∧s'=⟨hp,g,d,tk,os⟩∧ ∃i,rest=(xs.toList.zip ys.toList).drop i∧
  Q (.bool (((List.range (min xs.size ys.size)).drop i).all e&&xs.size==ys.size)) ⟨hp,g,d,tk,os⟩) _
 case turn=>
  rintro⟨y,x⟩ rest b s' ⟨xI,rfl,i,hz,hR⟩
  have jF:i<(xs.toList.zip ys.toList).length:=by
   rcases bZ i (xs.toList.zip ys.toList).length with h'|h'
   ·exact h'
   ·rw[dB h'] at hz;(first|exact VS hz|cases hz)
  have hm:i<min xs.size ys.size:=hZ▸jF
  have h1:i<xs.size:=bP hm (Nat.min_le_left ..)
  have h2:i<ys.size:=bP hm (eF ..)
  rw[aJ jF] at hz
  injection hz with Qy vX
  have hy:y=xs[i]:=congrArg Prod.fst (Qy.trans eu)
  have hx:x=ys[i]:=congrArg Prod.snd (Qy.trans eu)
  subst hy hx
  have hd:(List.range (min xs.size ys.size)).drop i=i::(List.range (min xs.size ys.size)).drop (i+1):=(aJ (bQ hm List.length_range.symm)).trans (congrArg (· ::_) (cN _))
  rw[hd,eg] at hR
  refine ao (he i h1 h2 _ _ ?_)
  cases hy:e i with
  |true=>
   rw[hy] at hR
   wp_walk
   exact⟨rfl,rfl,i+1,vX,by simpa using hR⟩
  |false=>
   rw[hy] at hR
   wp_walk
   exact⟨(fun x=>nomatch x),by simpa using hR⟩
 case fin=>
  rintro⟨b1,b2⟩ s' ⟨xI,rfl,i,hz,hR⟩
  simp only at xI
  subst xI
  have Qz:min xs.size ys.size≤i:=by
   rcases bZ i (xs.toList.zip ys.toList).length with h'|h'
   ·rw[aJ h'] at hz;(first|exact VS hz|cases hz)
   ·exact hZ▸h'
  rw[dB (by simpa using Qz)] at hR
  wp_walk
  exact⟨(fun x=>nomatch x),by simpa[aC.Tuple.tupleCompareSizes] using hR⟩
 case h=>
  exact⟨rfl,rfl,0,rfl,by simpa using h⟩
theorem Fc(hl:s.heap.get? l=some {cls:= .type "tuple",data:= .seq xs n})(hb:s.heap.get? b=some {cls:= .type "tuple",data:= .seq ys n2})(hu:A.units<cLine)
  (he: ∀j (h1:j<xs.size) (h2:j<ys.size),zB L A.in1 s xs[j] ys[j] (e j))(h:Q (.bool (!((List.range (min xs.size ys.size)).all e&&xs.size==ys.size))) s):wpAny L.M A (richCompare .NotEq (.ref l) (.ref b)) Q E s:=by
 refine bU (op:= .NotEq) ⟨_,hl,rfl⟩ ⟨_,hb,rfl⟩ F.slot_tuple_ne (lu F.slot_tuple_ne ⟨_,hl,rfl⟩ F.entry_tuple_ne (F.args_tuple_ne_2 _ _) ?_) hu
 obtain⟨hp,g,d,tk,os⟩:=s
 have f2:=AutoSeq1.sub_tuple_tuple
 have hZ:(xs.toList.zip ys.toList).length=min xs.size ys.size:=by simp
 unfold jw
 wp_walk using wpAny_loadPart' hl,wpAny_loadPart' hb,wpAny_forIn_list _ (fun rest b s'=>b.1=none∧s'=⟨hp,g,d,tk,os⟩∧ ∃i,rest=(xs.toList.zip ys.toList).drop i∧
  Q (.bool (!(((List.range (min xs.size ys.size)).drop i).all e&&xs.size==ys.size))) ⟨hp,g,d,tk,os⟩) _
 case turn=>
  rintro⟨y,x⟩ rest b s' ⟨xI,rfl,i,hz,hR⟩
  have jF:i<(xs.toList.zip ys.toList).length:=by
   rcases bZ i (xs.toList.zip ys.toList).length with h'|h'
   ·exact h'
   ·rw[dB h'] at hz;(first|exact VS hz|cases hz)
  have hm:i<min xs.size ys.size:=hZ▸jF
  have h1:i<xs.size:=bP hm (Nat.min_le_left ..)
  have h2:i<ys.size:=bP hm (eF ..)
  rw[aJ jF] at hz
  injection hz with Qy vX
  have hy:y=xs[i]:=congrArg Prod.fst (Qy.trans eu)
  have hx:x=ys[i]:=congrArg Prod.snd (Qy.trans eu)
  subst hy hx
  have hd:(List.range (min xs.size ys.size)).drop i=i::(List.range (min xs.size ys.size)).drop (i+1):=(aJ (bQ hm List.length_range.symm)).trans (congrArg (· ::_) (cN _))
  rw[hd,eg] at hR
  refine ao (he i h1 h2 _ _ ?_)
  cases hy:e i with
  |true=>
   rw[hy] at hR
   wp_walk
   exact⟨rfl,rfl,i+1,vX,by simpa using hR⟩
  |false=>
   rw[hy] at hR
   wp_walk
   exact⟨(fun x=>nomatch x),by simpa using hR⟩
 case fin=>
  rintro⟨b1,b2⟩ s' ⟨xI,rfl,i,hz,hR⟩
  simp only at xI
  subst xI
  have Qz:min xs.size ys.size≤i:=by
   rcases bZ i (xs.toList.zip ys.toList).length with h'|h'
   ·rw[aJ h'] at hz;(first|exact VS hz|cases hz)
   ·exact hZ▸h'
  rw[dB (by simpa using Qz)] at hR
  wp_walk
  exact⟨(fun x=>nomatch x),by simpa[aC.Tuple.tupleCompareSizes,bne] using hR⟩
 case h=>
  exact⟨rfl,rfl,0,rfl,by simpa using h⟩
end
end
section
open PySem PySem.SeqAt
noncomputable def ry(f:PV→PV→Option Bool):List PV→List PV→Option Bool
 |[],[]=>some true
 |p::ps,q::qs=>(f p q).bind fun a=>(ry f ps qs).map (a&& ·)
 |_,_=>none
noncomputable def yI:Nat→PV→PV→Option Bool
 |_,.bool a,.bool b=>some (a==b)
 |_,.int a,.int b=>some (a==b)
 |_,.str a,.str b=>some (a==b)
 |n+1,.tup l,.tup m=>ry (yI n) l m
 |n+1,.list l,.list m=>ry (yI n) l m
 |_,_,_=>none
inductive Qd:Nat→PV→PV→Bool→Prop
 |bool {n} (a b):Qd n (.bool a) (.bool b) (a==b)
 |int {n} (a b):Qd n (.int a) (.int b) (a==b)
 |str {n} (a b):Qd n (.str a) (.str b) (a==b)
 |tup {n l m b}:ry (yI n) l m=some b→Qd (n+1) (.tup l) (.tup m) b
 |list {n l m b}:ry (yI n) l m=some b→Qd (n+1) (.list l) (.list m) b
theorem zC{n:Nat}{p q:PV}{b:Bool}(h:yI n p q=some b):Qd n p q b:=by
 cases n<;>cases p<;>try exact hO h
 all_goals (cases q<;>try exact hO h)
 all_goals first
  |((first|exact VS h|cases h);constructor;done)
  |(constructor;exact h)
theorem zD{f:PV→PV→Option Bool}{m:List PV}{b:Bool}(h:ry f [] m=some b):m=[]∧b=true:=by
 cases m with
 |nil=>exact⟨rfl,(Option.some.inj h).symm⟩
 |cons _ _=>exact hO h
theorem vY{f:PV→PV→Option Bool}{p:PV}{ps m:List PV}{b:Bool}(h:ry f (p::ps) m=some b): ∃q qs a c,m=q::qs∧f p q=some a∧ry f ps qs=some c∧b=(a&&c):=by
 cases m with
 |nil=>exact hO h
 |cons q qs=>
  replace h:=Option.bind_eq_some_iff.mp h
  obtain⟨a,ha,h⟩:=h
  replace h:=Option.map_eq_some_iff.mp h
  obtain⟨c,hc,h⟩:=h
  exact⟨q,qs,a,c,rfl,ha,hc,h.symm⟩
theorem nq{f:PV→PV→Option Bool}: ∀{l m:List PV} {b:Bool},ry f l m=some b→
  l.length=m.length∧ ∃e:Nat→Bool,(∀j p q,l[j]? =some p→m[j]? =some q→f p q=some (e j))∧b=(List.range l.length).all e:=by
 intro l
 induction l with
 |nil=>
  intro _ _ h
  obtain⟨rfl,rfl⟩:=zD h
  exact⟨rfl,fun _=>true,fun _ _ _ h=>hO h,rfl⟩
 |cons p ps iu=>
  intro _ _ h
  obtain⟨q,qs,a,c,rfl,ha,hc,rfl⟩:=vY h
  obtain⟨hl,e,he,rfl⟩:=iu hc
  refine⟨congrArg (· +1) hl,fun j=>j.casesOn a e,fun j p' q' h1 h2=> ?_,?_⟩
  ·cases j with
   |zero=>exact Option.some.inj h1▸Option.some.inj h2▸ha
   |succ j=>exact he j _ _ h1 h2
  ·rw[bj,List.range_succ_eq_map,eg,List.all_map]
   rfl
section
variable {L:ig} {X:List Addr}
theorem vZ{h:Heap}{f:PV→PV→Option Bool}(hf: ∀p q v b,VR L.prog L.w h X p v→VR L.prog L.w h X q v→f p q=some b→b=true):
  ∀{l m:List PV} {vs:List Value} {b:Bool},gV L.prog L.w h X l vs→gV L.prog L.w h X m vs→ry f l m=some b→b=true:=by
 intro l
 induction l with
 |nil=>exact @fun _ _ _ _ _ h=>(zD h).2
 |cons p ps iu=>
  intro _ _ _ x y h
  obtain⟨q,qs,a,c,rfl,ha,hc,rfl⟩:=vY h
  obtain⟨v,r,rfl,hv,hr⟩:=x.inv
  obtain⟨v',r',e,nf,v8⟩:=y.inv
  skip;(first|exact VS e|cases e)
  rw[hf p q v a hv nf ha,iu hr v8 hc];rfl
theorem gV.pQ{h:Heap}{l:List PV}{xs:Array Value}(x:gV L.prog L.w h X l xs.toList){j:Nat}(hj:j<xs.size): ∃p,l[j]? =some p∧VR L.prog L.w h X p xs[j]:=by
 have NW:j<l.length:=x.size▸hj
 obtain⟨v,hv,r⟩:=x.get (aG NW)
 rw[bz,cA hj] at hv
 exact⟨l[j],aG NW,Option.some.inj hv▸r⟩
theorem ma{h:Heap}{f:PV→PV→Option Bool}(hf: ∀p q v b,VR L.prog L.w h X p v→VR L.prog L.w h X q v→f p q=some b→b=true){c:Value}{a:Addr}{xs ys:Array Value}{n k:Nat}{l m:List PV}{b:Bool}
  (h1:h.get? a=some {cls:=c,data:= .seq xs n})(h2:h.get? a=some {cls:=c,data:= .seq ys k})(x:gV L.prog L.w h X l xs.toList)(y:gV L.prog L.w h X m ys.toList)(he:ry f l m=some b):b=true:=by
 rw[h1] at h2
 skip;(first|exact VS h2|cases h2)
 exact vZ hf x y he
theorem nW{h:Heap}: ∀n p q v b,VR L.prog L.w h X p v→VR L.prog L.w h X q v→yI n p q=some b→b=true:=by
 intro n
 induction n with
 |zero=>
  intro p q v b hp hq h
  cases zC h with
  |bool=>rw[hp.pP] at hq;cases hq.pP;exact beq_self_eq_true _
  |int=>obtain⟨t,rfl⟩:=hp.ki;obtain⟨t',e⟩:=hq.ki;(first|exact VS e|cases e);exact beq_self_eq_true _
  |str=>obtain⟨t,rfl⟩:=hp.lY;obtain⟨t',e⟩:=hq.lY;(first|exact VS e|cases e);exact beq_self_eq_true _
 |succ n ih=>
  intro p q v b hp hq h
  cases zC h with
  |bool=>rw[hp.pP] at hq;cases hq.pP;exact beq_self_eq_true _
  |int=>obtain⟨t,rfl⟩:=hp.ki;obtain⟨t',e⟩:=hq.ki;(first|exact VS e|cases e);exact beq_self_eq_true _
  |str=>obtain⟨t,rfl⟩:=hp.lY;obtain⟨t',e⟩:=hq.lY;(first|exact VS e|cases e);exact beq_self_eq_true _
  |tup h=>
   obtain⟨a,xs,k,rfl,_,ho,hl⟩:=hp.mK
   obtain⟨a',qC,k',e,_,lr,jB⟩:=hq.mK
   skip;(first|exact VS e|cases e)
   exact ma ih ho lr hl jB h
  |list h=>
   obtain⟨a,xs,k,rfl,_,ho,hl⟩:=hp.listE
   obtain⟨a',qC,k',e,_,lr,jB⟩:=hq.listE
   skip;(first|exact VS e|cases e)
   exact ma ih ho lr hl jB h
theorem mc{h:Heap}{xs ys:Array Value}{l m:List PV}(x:gV L.prog L.w h X l xs.toList)(y:gV L.prog L.w h X m ys.toList)(e:l.length=m.length):xs.size=ys.size:=by rw[x.size,y.size,e]
theorem v9: ∀(n:Nat) (A:aF) (s:aq) (p q:PV) (v u:Value) (b:Bool),VR L.prog L.w s.heap X p v→VR L.prog L.w s.heap X q u→yI n p q=some b→A.units+n<cLine→EqAt A s v u b:=by
 intro n
 induction n with
 |zero=>
  intro A s p q v u b hp hq h hu
  cases zC h with
  |bool=>rw[hp.pP,hq.pP];exact EqAt.bool_bool _ _
  |int=>obtain⟨t,rfl⟩:=hp.ki;obtain⟨t',rfl⟩:=hq.ki;exact EqAt.int_int _ _ _ _
  |str=>obtain⟨t,rfl⟩:=hp.lY;obtain⟨t',rfl⟩:=hq.lY;exact EqAt.str_str _ _ _ _
 |succ n ih=>
  intro A s p q v u b hp hq h hu
  have yJ:A.in1.units+n<cLine:=bR (ba (d8 ..)) hu
  have xJ:A.units<cLine:=bR (df ..) hu
  cases zC h with
  |bool=>rw[hp.pP,hq.pP];exact EqAt.bool_bool _ _
  |int=>obtain⟨t,rfl⟩:=hp.ki;obtain⟨t',rfl⟩:=hq.ki;exact EqAt.int_int _ _ _ _
  |str=>obtain⟨t,rfl⟩:=hp.lY;obtain⟨t',rfl⟩:=hq.lY;exact EqAt.str_str _ _ _ _
  |tup h=>
   obtain⟨a,xs,k,rfl,ha,ho,hl⟩:=hp.mK
   obtain⟨a',qC,k',rfl,xH,lr,jB⟩:=hq.mK
   by_cases e:a=a'
   ·subst e
    exact ma (nW n) ho lr hl jB h▸EqAt.same _
   ·obtain⟨ib,ev,CX,rfl⟩:=nq h
    have hs:=mc hl jB ib
    have:=RcAt.tuples (A:=A) (s:=s) (e:=ev) (⟨_,ho,rfl,_,rfl⟩:s.heap.IsTuple a xs) (⟨_,lr,rfl,_,rfl⟩:s.heap.IsTuple a' qC) xJ fun j h1 h2=>by
     obtain⟨p',zE,r⟩:=hl.pQ h1
     obtain⟨q',CY,r'⟩:=jB.pQ h2
     exact ih _ _ _ _ _ _ _ r r' (CX j _ _ zE CY) yJ
    rw[←hs,d5,beq_self_eq_true,fq,hl.size] at this
    exact EqAt.of_refs e this
  |list h=>
   obtain⟨a,xs,k,rfl,ha,ho,hl⟩:=hp.listE
   obtain⟨a',qC,k',rfl,xH,lr,jB⟩:=hq.listE
   by_cases e:a=a'
   ·subst e
    exact ma (nW n) ho lr hl jB h▸EqAt.same _
   ·obtain⟨ib,ev,CX,rfl⟩:=nq h
    have:=RcAt.lists (A:=A) (s:=s) (e:=ev) (⟨_,ho,rfl,_,rfl⟩:s.heap.IsList a xs) (⟨_,lr,rfl,_,rfl⟩:s.heap.IsList a' qC) (mc hl jB ib) xJ fun j h1 h2=>by
     obtain⟨p',zE,r⟩:=hl.pQ h1
     obtain⟨q',CY,r'⟩:=jB.pQ h2
     exact ih _ _ _ _ _ _ _ r r' (CX j _ _ zE CY) yJ
    rw[hl.size] at this
    exact EqAt.of_refs e this
end
end
section
open PySem PySem.SeqAt
section
variable {L:ig} {X:List Addr}
noncomputable def zF:Nat→PV→PV→Option Bool
 |n+1,.tup l,.tup m=>ry (zF n) l m
 |n+1,.list l,.list m=>ry (zF n) l m
 |n+1,.ja ks vs,.ja ks' QA=>if ks=ks' then ry (yI n) vs QA else none
 |n,p,q=>yI n p q
theorem Bi{K:Type}[DecidableEq K]: ∀(pre:List (K×Value)) (k:K) (y:Value) (r:List (K×Value)),((pre++(k,y)::r).map (·.1)).Nodup→valueAt (pre++(k,y)::r) k=some y:=by
 intro pre
 induction pre with
 |nil=>exact @fun k y r _=>by simp[valueAt]
 |cons q0 pre iu=>
  obtain⟨k',y'⟩:=q0
  intro k y r h
  rw[c9,aU,List.nodup_cons] at h
  have js: ¬ k'=k:=fun e=>h.1 (by simp[e])
  have:=iu k y r h.2
  unfold valueAt at this ⊢
  rw[c9,List.find?_cons]
  simpa[js] using this
theorem Kf{A:aF}{s:aq}{n:Nat}{K:Type}[DecidableEq K](hu:A.units+n<cLine){kb:List (K×Value)}(Qe:(kb.map (·.1)).Nodup):
  ∀(ka Kg pre:List (K×Value)) (l m:List PV) (b:Bool),kb=pre++Kg→ka.map (·.1)=Kg.map (·.1)→gV L.prog L.w s.heap X l (ka.map (·.2))→gV L.prog L.w s.heap X m (Kg.map (·.2))→ry (yI n) l m=some b→
   PySem.W.KeqHits A s kb ka b:=by
 intro ka
 induction ka with
 |nil=>
  intro Kg pre l m b e hk hx hy h
  have hl:l=[]:=List.length_eq_zero_iff.mp hx.length.symm
  subst hl
  rw[(zD h).2];exact .nil
 |cons p0 ka ih=>
  intro Kg pre l m b e hk hx hy h
  obtain⟨k,v⟩:=p0
  cases Kg with
  |nil=>exact absurd hk (c8 _ _)
  |cons p1 Kg=>
   obtain⟨k',y⟩:=p1
   have hk2:=List.cons.inj hk
   have hk1:k=k':=hk2.1
   have hk:=hk2.2
   subst hk1
   cases l with
   |nil=>exact absurd hx.length (bB _)
   |cons p l=>
    obtain⟨q,qs,a,c,rfl,ha,hc,rfl⟩:=vY h
    obtain⟨_,_,e1,hv,hr⟩:=hx.inv
    skip;(first|exact VS e1|cases e1)
    obtain⟨_,_,e2,nf,v8⟩:=hy.inv
    skip;(first|exact VS e2|cases e2)
    exact .hit (e▸Bi pre k y Kg (e▸Qe)) (v9 n A s p q v y a hv nf ha hu) (ih Kg (pre++[(k,y)]) l qs c (e.trans (List.append_cons ..)) hk2.2 hr v8 hc)
theorem VR.oL{h:Heap}{ks:List Str}{vs:List PV}{v:Value}(x:VR L.prog L.w h X (.ja ks vs) v): ∃a kvs,v= .ref a∧a∉X∧h.DictOf (strKind L.prog L.w) a kvs∧kvs.map (·.1)=ks∧gV L.prog L.w h X vs (kvs.map (·.2)):=x
theorem VR.GW{h:Heap}{ks:List Int}{vs:List PV}{v:Value}(x:VR L.prog L.w h X (.kj ks vs) v): ∃a kvs,v= .ref a∧a∉X∧h.DictOf (intKind L.prog L.w) a kvs∧kvs.map (·.1)=ks∧gV L.prog L.w h X vs (kvs.map (·.2)):=x
theorem oM{h:Heap}{K:Type}[DecidableEq K]{knd:KeyKind L.prog L.w K}{a:Addr}{kvs:List (K×Value)}(x:h.DictOf knd a kvs):(kvs.map (·.1)).Nodup:=by
 obtain⟨_,_,_,_,_,_,_,_,r⟩:=x
 exact r
theorem wa{a:Addr}(kh:sysModules∈X)(ha:a∉X):(a==sysModules)=false:=by
 cases e:a==sysModules with
 |false=>rfl
 |true=>rw[eq_of_beq e] at ha;exact absurd kh ha
theorem zG{K:Type}[DecidableEq K]{knd:KeyKind L.prog L.w K}{es:List DictEntry}{kvs kP:List (K×Value)}(x:Pairs knd es kvs)(y:Pairs knd es kP):kvs=kP:=by
 induction x generalizing kP with
 |nil=>(first|exact VS y|cases y);rfl
 |cons h1 h2 r ih=>
  cases y with
  |cons h1' NX r'=>rw[ih r',show _=_ from Prod.ext (knd.inj _ _ _ h1 h1') (h2.symm.trans NX)]
theorem qN{h:Heap}{K:Type}[DecidableEq K]{knd:KeyKind L.prog L.w K}{a:Addr}{kvs kP:List (K×Value)}(x:h.DictOf knd a kvs)(y:h.DictOf knd a kP):kvs=kP:=by
 obtain⟨o,es,ep,ho,_,hd,_,hp,_⟩:=x
 obtain⟨o',ZY,ep',lr,_,vI,_,zE,_⟩:=y
 rw[ho] at lr
 skip;(first|exact VS lr|cases lr)
 rw[hd] at vI
 skip;(first|exact VS vI|cases vI)
 exact zG hp zE
theorem GX{A:aF}{s:aq}{n:Nat}{ks:List Str}{l m:List PV}{u v:Value}{b:Bool}{E Q:Value→aq→Prop}(kh:sysModules∈X)(hu:A.units+n+1<cLine)
  (hp:VR L.prog L.w s.heap X (.ja ks l) u)(hq:VR L.prog L.w s.heap X (.ja ks m) v)(h:ry (yI n) l m=some b)(hQ:Q (.bool b) s):wpAny L.M A (richCompare .Eq u v) Q E s:=by
 obtain⟨a,kvs,rfl,ha,hd,hk,hl⟩:=hp.oL
 obtain⟨a',kP,rfl,xH,vI,oN,jB⟩:=hq.oL
 have ib:kvs.length=kP.length:=by have:=congrArg List.length (hk.trans oN.symm);simpa using this
 refine PySem.W.keq_eq (r:=b) (wa kh ha) (wa kh xH) hd vI (by omega) (fun _=> ?_) ?_
 ·exact Kf (n:=n) (by show A.units+1+n<cLine;omega) (oM vI) kvs kP [] l m b rfl (hk.trans oN.symm) hl jB h
 ·rw[ib];simpa using hQ
inductive QB:Nat→PV→PV→Bool→Prop
 |base {n p q b}:yI n p q=some b→QB n p q b
 |tup {n l m b}:ry (zF n) l m=some b→QB (n+1) (.tup l) (.tup m) b
 |list {n l m b}:ry (zF n) l m=some b→QB (n+1) (.list l) (.list m) b
 |dict {n ks vs QA b}:ry (yI n) vs QA=some b→QB (n+1) (.ja ks vs) (.ja ks QA) b
theorem GY{n:Nat}{p q:PV}{b:Bool}(h:zF n p q=some b):QB n p q b:=by
 cases n with
 |zero=>exact .base h
 |succ n=>
  cases p<;>try exact .base h
  ·cases q<;>first|exact .tup h|exact .base h
  ·cases q<;>first|exact .list h|exact .base h
  ·cases q<;>first|exact .base h|skip
   obtain⟨e,h'⟩:=zz h
   subst e
   exact .dict h'
theorem Bj{h:Heap}: ∀n p q v b,VR L.prog L.w h X p v→VR L.prog L.w h X q v→zF n p q=some b→b=true:=by
 intro n
 induction n with
 |zero=>exact fun p q v b hp hq h=>nW 0 _ _ _ _ hp hq h
 |succ n ih=>
  intro p q v b hp hq h
  cases GY h with
  |base h=>exact nW _ _ _ _ _ hp hq h
  |tup h=>
   obtain⟨a,xs,k,rfl,_,ho,hl⟩:=hp.mK
   obtain⟨a',qC,k',e,_,lr,jB⟩:=hq.mK
   skip;(first|exact VS e|cases e)
   exact ma ih ho lr hl jB h
  |list h=>
   obtain⟨a,xs,k,rfl,_,ho,hl⟩:=hp.listE
   obtain⟨a',qC,k',e,_,lr,jB⟩:=hq.listE
   skip;(first|exact VS e|cases e)
   exact ma ih ho lr hl jB h
  |dict h=>
   obtain⟨a,kvs,rfl,_,hd,hk,hl⟩:=hp.oL
   obtain⟨a',kP,e,_,vI,oN,jB⟩:=hq.oL
   skip;(first|exact VS e|cases e)
   exact vZ (nW n) hl (qN hd vI▸jB) h
end
end
section
open PySem PySem.SeqAt
section
variable {L:ig} {X:List Addr}
theorem zH(kh:sysModules∈X): ∀(n:Nat) (A:aF) (s:aq) (p q:PV) (v u:Value) (b:Bool),VR L.prog L.w s.heap X p v→VR L.prog L.w s.heap X q u→zF n p q=some b→A.units+2*n+2<cLine→zB L A s v u b:=by
 intro n
 induction n with
 |zero=>exact fun A s p q v u b hp hq h hu=> .of (v9 0 _ _ _ _ _ _ _ hp hq h (by omega))
 |succ n ih=>
  intro A s p q v u b hp hq h hu
  have yJ:A.in1.units+2*n+2<cLine:=by show A.units+1+2*n+2<cLine;omega
  have xJ:A.units<cLine:=by omega
  cases GY h with
  |base h=>exact .of (v9 _ _ _ _ _ _ _ _ hp hq h (by omega))
  |tup h=>
   obtain⟨a,xs,k,rfl,ha,ho,hl⟩:=hp.mK
   obtain⟨a',qC,k',rfl,xH,lr,jB⟩:=hq.mK
   by_cases e:a=a'
   ·subst e
    exact ma (Bj n) ho lr hl jB h▸ .of (EqAt.same _)
   ·obtain⟨ib,ev,CX,rfl⟩:=nq h
    refine zB.refs e fun E Q hq=>yH (e:=ev) ho lr xJ (fun j h1 h2=> ?_) (by rw[←mc hl jB ib,d5,beq_self_eq_true,fq,hl.size];exact hq)
    obtain⟨p',zE,r⟩:=hl.pQ h1
    obtain⟨q',CY,r'⟩:=jB.pQ h2
    exact ih _ _ _ _ _ _ _ r r' (CX j _ _ zE CY) yJ
  |list h=>
   obtain⟨a,xs,k,rfl,ha,ho,hl⟩:=hp.listE
   obtain⟨a',qC,k',rfl,xH,lr,jB⟩:=hq.listE
   by_cases e:a=a'
   ·subst e
    exact ma (Bj n) ho lr hl jB h▸ .of (EqAt.same _)
   ·obtain⟨ib,ev,CX,rfl⟩:=nq h
    refine zB.refs e fun E Q hq=>Bh (e:=ev) ho lr (mc hl jB ib) xJ (fun j h1 h2=> ?_) (by rw[hl.size];exact hq)
    obtain⟨p',zE,r⟩:=hl.pQ h1
    obtain⟨q',CY,r'⟩:=jB.pQ h2
    exact ih _ _ _ _ _ _ _ r r' (CX j _ _ zE CY) yJ
  |dict h=>
   obtain⟨a,kvs,rfl,_,hd,hk,hl⟩:=id hp.oL
   obtain⟨a',kP,rfl,_,vI,oN,jB⟩:=id hq.oL
   by_cases e:a=a'
   ·subst e
    exact vZ (nW n) hl (qN hd vI▸jB) h▸ .of (EqAt.same _)
   ·exact zB.refs e fun E Q hQ=>GX (n:=n) kh (by omega) hp hq h hQ
noncomputable def GZ:PV→PV→Option Bool
 | .int a,.int b=>some (a==b)
 | .str a,.str b=>some (a==b)
 | .bytes a,.bytes b=>some (a.toList==b.toList)
 | .tup l,.tup m=>ry (zF 8) l m
 | .list l,.list m=>ry (zF 8) l m
 |_,_=>none
noncomputable def zI(p q:PV):Option PV:=(GZ p q).map .bool
noncomputable def pR(p q:PV):Option PV:=(GZ p q).map fun b=> .bool !b
inductive Qf:PV→PV→Bool→Prop
 |int (a b):Qf (.int a) (.int b) (a==b)
 |str (a b):Qf (.str a) (.str b) (a==b)
 |bytes (a b):Qf (.bytes a) (.bytes b) (a.toList==b.toList)
 |tup {l m b}:ry (zF 8) l m=some b→Qf (.tup l) (.tup m) b
 |list {l m b}:ry (zF 8) l m=some b→Qf (.list l) (.list m) b
theorem G0{p q:PV}{b:Bool}(h:GZ p q=some b):Qf p q b:=by
 cases p<;>try exact hO h
 all_goals (cases q<;>try exact hO h)
 all_goals first
  |((first|exact VS h|cases h);constructor;done)
  |(constructor;exact h)
theorem VR.ti{h:Heap}{i:Array UInt8}{v:Value}(x:VR L.prog L.w h X (.bytes i) v): ∃t,v= .bytes i t:=x
theorem VR.U9{h:Heap}{b:Bool}:VR L.prog L.w h X (.bool b) (.bool b):=rfl
theorem Eb:ng L (compareOp .Eq) zI:=by
 intro A X s p q r u v Q E R x I hp hq hg hQ
 obtain⟨b,he,rfl⟩:=Option.map_eq_some_iff.mp hg
 have hu:=R.units
 have hc:A.units<cLine:=by show _<9900;omega
 have xJ:A.in1.units+2*8+2<cLine:=by show A.units+1+2*8+2<9900;omega
 have fin:Q (.bool b) s:=hQ _ _ VR.U9 (gN.refl I x)
 cases G0 he with
 |int=>
  obtain⟨t,rfl⟩:=hp.ki
  obtain⟨t',rfl⟩:=hq.ki
  exact PyProof.Rows.eq_int fin
 |str=>
  obtain⟨t,rfl⟩:=hp.lY
  obtain⟨t',rfl⟩:=hq.lY
  exact PyProof.Rows.eq_str fin
 |bytes=>
  obtain⟨t,rfl⟩:=hp.ti
  obtain⟨t',rfl⟩:=hq.ti
  exact PySem.W.eq_bytes fin
 |tup h=>
  obtain⟨a,xs,k,rfl,ha,ho,hl⟩:=hp.mK
  obtain⟨a',qC,k',rfl,xH,lr,jB⟩:=hq.mK
  obtain⟨ib,ev,CX,rfl⟩:=nq h
  refine yH (e:=ev) ho lr hc (fun j h1 h2=> ?_) (by rw[←mc hl jB ib,d5,beq_self_eq_true,fq,hl.size];exact fin)
  obtain⟨p',zE,r⟩:=hl.pQ h1
  obtain⟨q',CY,r'⟩:=jB.pQ h2
  exact zH x.sm 8 _ _ _ _ _ _ _ r r' (CX j _ _ zE CY) xJ
 |list h=>
  obtain⟨a,xs,k,rfl,ha,ho,hl⟩:=hp.listE
  obtain⟨a',qC,k',rfl,xH,lr,jB⟩:=hq.listE
  obtain⟨ib,ev,CX,rfl⟩:=nq h
  refine Bh (e:=ev) ho lr (mc hl jB ib) hc (fun j h1 h2=> ?_) (by rw[hl.size];exact fin)
  obtain⟨p',zE,r⟩:=hl.pQ h1
  obtain⟨q',CY,r'⟩:=jB.pQ h2
  exact zH x.sm 8 _ _ _ _ _ _ _ r r' (CX j _ _ zE CY) xJ
theorem sh:ng L (compareOp .NotEq) pR:=by
 intro A X s p q r u v Q E R x I hp hq hg hQ
 obtain⟨b,he,rfl⟩:=Option.map_eq_some_iff.mp hg
 have hu:=R.units
 have hc:A.units<cLine:=by show _<9900;omega
 have xJ:A.in1.units+2*8+2<cLine:=by show A.units+1+2*8+2<9900;omega
 have fin:Q (.bool (!b)) s:=hQ _ _ VR.U9 (gN.refl I x)
 cases G0 he with
 |int=>
  obtain⟨t,rfl⟩:=hp.ki
  obtain⟨t',rfl⟩:=hq.ki
  exact PyProof.Rows.ne_int fin
 |str=>
  obtain⟨t,rfl⟩:=hp.lY
  obtain⟨t',rfl⟩:=hq.lY
  exact PyProof.Rows.ne_str fin
 |bytes=>
  obtain⟨t,rfl⟩:=hp.ti
  obtain⟨t',rfl⟩:=hq.ti
  exact PySem.W.ne_bytes fin
 |tup h=>
  obtain⟨a,xs,k,rfl,ha,ho,hl⟩:=hp.mK
  obtain⟨a',qC,k',rfl,xH,lr,jB⟩:=hq.mK
  obtain⟨ib,ev,CX,rfl⟩:=nq h
  refine Fc (e:=ev) ho lr hc (fun j h1 h2=> ?_) (by rw[←mc hl jB ib,d5,beq_self_eq_true,fq,hl.size];exact fin)
  obtain⟨p',zE,r⟩:=hl.pQ h1
  obtain⟨q',CY,r'⟩:=jB.pQ h2
  exact zH x.sm 8 _ _ _ _ _ _ _ r r' (CX j _ _ zE CY) xJ
 |list h=>
  obtain⟨a,xs,k,rfl,ha,ho,hl⟩:=hp.listE
  obtain⟨a',qC,k',rfl,xH,lr,jB⟩:=hq.listE
  obtain⟨ib,ev,CX,rfl⟩:=nq h
  refine GV (e:=ev) ho lr (mc hl jB ib) hc (fun j h1 h2=> ?_) (by rw[hl.size];exact fin)
  obtain⟨p',zE,r⟩:=hl.pQ h1
  obtain⟨q',CY,r'⟩:=jB.pQ h2
  exact zH x.sm 8 _ _ _ _ _ _ _ r r' (CX j _ _ zE CY) xJ
noncomputable def kz:List PV→Option (List Int)
 |[]=>some []
 | .int i::ps=>(kz ps).map (i:: ·)
 |_::_=>none
noncomputable def isInt(a:Int):Value→Bool
 | .int i _=>i==a
 |_=>false
theorem oO: ∀{l:List PV} {ns:List Int},kz l=some ns→l=ns.map .int:=by
 intro l
 induction l with
 |nil=>exact @fun _ h=>Option.some.inj h▸rfl
 |cons p l iu=>
  intro ns h
  cases p<;>try exact hO h
  obtain⟨ms,hm,rfl⟩:=Option.map_eq_some_iff.mp h
  rw[iu hm];rfl
theorem G1{h:Heap}: ∀{ns:List Int} {vs:List Value},gV L.prog L.w h X (ns.map .int) vs→gm vs ns:=by
 intro ns
 induction ns with
 |nil=>exact @fun _ x=>by (first|exact VS x|cases x);exact .nil
 |cons _ _ iu=>
  intro _ x
  obtain⟨v,r,rfl,hv,hr⟩:=x.inv
  obtain⟨t,rfl⟩:=hv.ki
  exact .cons _ t (iu hr)
theorem intsAre_of{h:Heap}{l:List PV}{vs:List Value}{ns:List Int}(x:gV L.prog L.w h X l vs)(hi:kz l=some ns):gm vs ns:=G1 (oO hi▸x)
theorem isStrOf_self(k:Str)(t:gj):Value.isStrOf k (.str k t)=true:=by simp[Value.isStrOf]
theorem wb{K:Type}[DecidableEq K](k:K): ∀kvs:List (K×Value),(valueAt kvs k).isSome=(kvs.map (·.1)).any (· ==k):=by
 intro kvs
 induction kvs with
 |nil=>exact rfl
 |cons q0 r iu=>
  obtain⟨k',v⟩:=q0
  have ih:=iu
  unfold valueAt at ih ⊢
  by_cases e:k'=k
  ·simp[e]
  ·simp only[List.find?_cons,e,decide_false,aU,fk,beq_iff_eq] at ih ⊢
   rw[ih];simp[e]
end
end
section
open PySem
theorem tj{A:aF}{E:Value→aq→Prop}{s:aq}{env:b8}{prog:Program}{w:dw}{value slice:aM}{pos:cP}{Q:Value→aq→Prop}
  (h:wpAny (model prog w) A (eval value env) (fun o s₁=>wpAny (model prog w) A (eval slice env) (fun i gZ=> ∃T id,typeLookup (.type T) "__getitem__"=pure (some (.builtin id))∧gZ.TypeIs o T∧wpAny (model prog w) A (getItem o i) Q E gZ) E s₁) E s)
  (hs: ∀o i,subscripted slice false o i=operate [o,i] (getItem o i)∨subscripted slice false o i=operate [i,o] (getItem o i)):
  wpAny (model prog w) A (eval (.Subscript value slice pos) env) Q E s:=by
 rw[eval_Subscript]
 refine ao (bH h (fun o s₁ h₁=>ao (aP (bH h₁ (fun i gZ h₂=>ao (bX ?_)) fun _ _ x=>x)))
  fun _ _ x=>x)
 obtain⟨T,id,hl,hT,hg⟩:=h₂
 refine ao ?_
 rw[getitemInPython_of_ne hT.not_modules]
 refine ao (bF hT hl ?_)
 have fin:wpAny (model prog w) A (subscripted slice false o i) (fun r jc=>wpAny (model prog w) A (letTemporaryGo value o r>>= fun _=>pure r) Q E jc) E gZ:=by
  rcases hs o i with e|e<;>rw[e]<;>
  exact wpAny_operating (bH hg (fun r jc h₃=>ao (wpAny_letTemporaryGo (aw h₃))) fun _ _ x=>x)
 first
  |exact aw (ao fin)
  |exact ao (aw (ao fin))
  |exact ao fin
section
variable {L:ig} {sc:Scope} {σ:gO} {k:Nat}
noncomputable def kl{K:Type}[DecidableEq K]:List K→List PV→K→Option PV
 |k::ks,v::vs,x=>if k=x then some v else kl ks vs x
 |_,_,_=>none
noncomputable def gH:PV→PV→Option PV
 | .list l,.int i=>if small i then(seqIndex? i l.length).bind (l[·]?) else none
 | .tup l,.int i=>if small i then(seqIndex? i l.length).bind (l[·]?) else none
 | .str x,.int i=>if small i then((seqIndex? i x.length).bind (x.cps[·]?)).map fun c=> .str ⟨#[c]⟩ else none
 | .kj ks vs,.int i=>kl ks vs i
 | .ja ks vs,.str i=>kl ks vs i
 |_,_=>none
theorem wc{K:Type}[DecidableEq K]{h:Heap}{X:List Addr}{x:K}{p:PV}{kvs:List (K×Value)}: ∀{ks:List K} {vs:List PV},kvs.map (·.1)=ks→gV L.prog L.w h X vs (kvs.map (·.2))→kl ks vs x=some p→ ∃v,valueAt kvs x=some v∧VR L.prog L.w h X p v:=by
 induction kvs with
 |nil=>intro ks vs hk hv h;(first|exact VS hk|cases hk);exact hO h
 |cons p0 kvs ih=>
  intro ks vs hk hv h
  skip;(first|exact VS hk|cases hk)
  cases vs with
  |nil=>exact absurd hv.length (bB _)
  |cons q vs=>
   obtain⟨_,_,e,hq,hr⟩:=hv.inv
   skip;(first|exact VS e|cases e)
   have h:(if p0.1=x then some q else kl (kvs.map (·.1)) vs x)=some p:=h
   unfold valueAt
   by_cases e:p0.1=x
   ·rw[if_pos e] at h
    rw[List.find?_cons_of_pos (p:=fun kv:K×Value=>decide (kv.1=x)) (decide_eq_true e)]
    exact⟨p0.2,rfl,j7 h▸hq⟩
   ·rw[if_neg e] at h
    rw[List.find?_cons_of_neg (p:=fun kv:K×Value=>decide (kv.1=x)) (fun h=>e (of_decide_eq_true h))]
    exact ih rfl hr h
theorem isInt_self(k:Int)(t:gj):Value.isInt k (.int k t)=true:=by simp[Value.isInt]
theorem qO{A:aF}{s:aq}{a:Addr}{xs:Array Value}{n:Nat}{i:Int}{t:gj}{j:Nat}{y:Value}{Q:Value→aq→Prop}{E:Value→aq→Prop}(ho:s.heap.get? a=some {cls:= .type "list",data:= .seq xs n})(hs:small i=true)
  (hi:seqIndex? i xs.size=some j)(hy:xs[j]? =some y)(hQ:Q y s):wpAny L.M A (getItem (.ref a) (.int i t)) Q E s:=by
 have km:=of_decide_eq_true hs
 have hL:s.heap.IsList a xs:=⟨_,ho,rfl,_,rfl⟩
 unfold seqIndex? at hi
 by_cases NY:i<0
 ·rw[if_pos NY] at hi
  replace hi:=kg hi
  obtain⟨hb,rfl⟩:=hi
  obtain⟨h1,h2⟩:=j8 hb
  have h1:=of_decide_eq_true h1
  have h2:=of_decide_eq_true h2
  exact wpAny_getItem_list_neg hL NY (by omega) (by omega) hy hQ
 ·rw[if_neg NY] at hi
  replace hi:=kg hi
  obtain⟨hb,rfl⟩:=hi
  obtain⟨h1,h2⟩:=j8 hb
  have h1:=of_decide_eq_true h1
  have h2:=of_decide_eq_true h2
  exact wpAny_getItem_list hL (by omega) (by omega) hy hQ
theorem yK{i:Int}(hs:small i=true): -(2^63:Int)≤i∧i<2^63:=by
 have:=of_decide_eq_true hs
 omega
inductive yL:PV→PV→PV→Prop
 |list {l i j r}:small i=true→seqIndex? i l.length=some j→l[j]? =some r→yL (.list l) (.int i) r
 |tup {l i j r}:small i=true→seqIndex? i l.length=some j→l[j]? =some r→yL (.tup l) (.int i) r
 |str {x i c}:small i=true→(seqIndex? i x.length).bind (x.cps[·]?)=some c→yL (.str x) (.int i) (.str ⟨#[c]⟩)
 |kj {ks vs i r}:kl ks vs i=some r→yL (.kj ks vs) (.int i) r
 |ja {ks vs i r}:kl ks vs i=some r→yL (.ja ks vs) (.str i) r
theorem G2{p q r:PV}(h:gH p q=some r):yL p q r:=by
 cases p<;>try exact hO h
 all_goals (cases q<;>try exact hO h)
 ·replace h:=zz h
  obtain⟨hs,h⟩:=h
  obtain⟨c,hc,rfl⟩:=Option.map_eq_some_iff.mp h
  exact .str hs hc
 ·replace h:=zz h
  obtain⟨hs,h⟩:=h
  replace h:=Option.bind_eq_some_iff.mp h
  obtain⟨j,hj,h⟩:=h
  exact .tup hs hj h
 ·replace h:=zz h
  obtain⟨hs,h⟩:=h
  replace h:=Option.bind_eq_some_iff.mp h
  obtain⟨j,hj,h⟩:=h
  exact .list hs hj h
 ·exact .kj h
 ·exact .ja h
theorem lU{K:Type}[DecidableEq K]{knd:KeyKind L.prog L.w K}{n:K}{u:Value}{a:Addr}{kvs:List (K×Value)}{ks:List K}{vs:List PV}{r:PV}{A:aF}{X:List Addr}{s:aq}{Q:Value→aq→Prop}{E:Value→aq→Prop}(G3:knd.is n u=true)(hd:s.heap.DictOf knd a kvs)(hk:kvs.map (·.1)=ks)(hl:gV L.prog L.w s.heap X vs (kvs.map (·.2)))(h:kl ks vs n=some r)
  (x:XO L X s.heap)(I:Inv L s)(hQ: ∀x s',VR L.prog L.w s'.heap X r x→gN L X s s'→Q x s'): ∃T id,typeLookup (.type T) "__getitem__"=pure (some (.builtin id))∧s.TypeIs (.ref a) T∧wpAny L.M A (getItem (.ref a) u) Q E s:=
 (wc hk hl h).elim fun y z=>have d:=gN.toks I x (s.toks+1);⟨"dict",_,slot_dict_getitem.lookup,hd.typeIs,wpAny_getItem_of (knd:=knd) G3 hd.mapOf z.1 (hQ _ _ (z.2.up d.up) d)⟩
theorem Kh(A:aF)(X:List Addr)(s:aq)(p q r:PV)(u v:Value)(Q:Value→aq→Prop)(E:Value→aq→Prop)
  (R:i5 L 0 A)(x:XO L X s.heap)(I:Inv L s)(hp:VR L.prog L.w s.heap X p u)(hq:VR L.prog L.w s.heap X q v)(hg:gH p q=some r)
  (hQ: ∀x s',VR L.prog L.w s'.heap X r x→gN L X s s'→Q x s'):
  ∃T id,typeLookup (.type T) "__getitem__"=pure (some (.builtin id))∧s.TypeIs u T∧wpAny L.M A (getItem u v) Q E s:=by
 cases G2 hg with
 |str hs hc=>
  refine hq.sg fun t=> ?_
  refine hp.E8 fun t'=> ?_
  have hr:=yK hs
  exact⟨"str",_,F.slot_str_getitem.lookup,fe s _ t',P.getItem_str (by rw[decide_eq_false (Int.not_lt.mpr hr.1),decide_eq_false (Int.not_le.mpr hr.2)];rfl) hc (hQ _ _ (VR.mkStr _ _) (gN.toks I x _))⟩
 |tup hs hj h=>
  refine hq.sg fun t=> ?_
  refine hp.Kc fun a xs n ha ho hl=> ?_
  refine hl.zy h fun y hy hr=> ?_
  rw[←hl.size] at hj
  have hb:=yK hs
  exact⟨"tuple",_,F.slot_tuple_getitem.lookup,⟨_,ho,rfl⟩,P.getItem_tuple ho (by omega) (by omega) hj hy (hQ _ _ hr (gN.refl I x))⟩
 |list hs hj h=>
  refine hq.sg fun t=> ?_
  refine hp.yF fun a xs n ha ho hl=> ?_
  refine hl.zy h fun y hy hr=> ?_
  exact⟨"list",_,fL,⟨_,ho,rfl⟩,qO ho hs (hl.size▸hj) hy (hQ _ _ hr (gN.refl I x))⟩
 |kj h=>
  refine hq.sg fun t=> ?_
  obtain⟨a,kvs,rfl,ha,hd,hk,hl⟩:=hp.GW
  exact lU (isInt_self _ t) hd hk hl h x I hQ
 |ja h=>
  refine hq.E8 fun t=> ?_
  obtain⟨a,kvs,rfl,ha,hd,hk,hl⟩:=hp.oL
  exact lU (isStrOf_self _ t) hd hk hl h x I hQ
theorem SE.item{v i:aM}{pos:cP}{f g:List MV→Option PV}(hv:SE L sc σ k v f)(hi:SE L sc σ k i g)
  (hs: ∀o i',subscripted i false o i'=operate [o,i'] (getItem o i')):SE L sc σ k (.Subscript v i pos) (ik f g gH):=by
 intro env A X s ρ p Q E R F I hf hQ
 obtain⟨a,b,te,GP,GQ⟩:=oJ hf
 refine tj (hv env A X s ρ a _ E R F I te fun u s₁ hu iE=>hi env A X s₁ ρ b _ E R (F.done iE) iE.inv GP fun v gZ hv gW=> ?_) (fun o i=> .inl (hs o i))
 exact Kh A X gZ a b p u v Q E (R.less (aE _)) ((F.done iE).done gW).xo gW.inv (hu.up gW.up) hv GQ fun x s' hx jb=>hQ x s' hx ((iE.trans gW).trans jb)
end
end
section
open PySem
noncomputable def uU(n:Nat)(d:Int):Option Int→Int
 |none=>d
 |some i=>max 0 (min (if i<0 then i+n else i) n)
noncomputable def cut{α:Type}(l:List α)(lo hi:Option Int):List α:=
 (l.drop (uU l.length 0 lo).toNat).take ((uU l.length l.length hi).toNat-(uU l.length 0 lo).toNat)
theorem Ec(n:Nat)(d:Int)(hd:0≤d)(hn:d≤n)(o:Option Int):0≤uU n d o∧uU n d o≤n:=by
 cases o with
 |none=>exact⟨hd,hn⟩
 |some i=>exact⟨Int.le_max_left ..,Int.max_le.mpr ⟨bc n,Int.min_le_right ..⟩⟩
theorem xM(xs:Array Value)(lo hi:Option Int):(slicePick xs lo hi none).toList=cut xs.toList lo hi:=by
 have e:sliceBounds lo hi none xs.size=(uU xs.size 0 lo,uU xs.size xs.size hi,1):=by
  cases lo<;>cases hi<;>simp[sliceBounds,uU]
 obtain⟨a0,a1⟩:=Ec xs.size 0 (Int.le_refl _) (bc _) lo
 obtain⟨b0,b1⟩:=Ec xs.size xs.size (bc _) (Int.le_refl _) hi
 unfold slicePick cut
 rw[e]
 simp only[aS]
 generalize uU xs.size 0 lo=a at a0 a1
 generalize uU xs.size xs.size hi=b at b0 b1
 obtain⟨a,rfl⟩:=cK a0
 obtain⟨b,rfl⟩:=cK b0
 rw[show(a:Int)=((a:Nat):Int) from rfl,sliceRange_one,pick_run]
 rfl
theorem gV.cut{prog:Program}{w:dw}{h:Heap}{X:List Addr}{ps:List PV}{vs:List Value}(x:gV prog w h X ps vs)(lo hi:Option Int):gV prog w h X (cut ps lo hi) (Mine.Internal.cut vs lo hi):=by
 unfold Mine.Internal.cut
 rw[x.length]
 exact(x.drop _).take _
section
variable {L:ig} {sc:Scope} {σ:gO} {k:Nat}
noncomputable def PE(L:ig)(sc:Scope)(σ:gO)(k:Nat)(e:Option aM)(f:List MV→Option (Option Int)):Prop:=
 ∀(env:b8) (A:aF) (X:List Addr) (s:aq) (ρ:List MV) (p:Option Int) (Q:Value→aq→Prop) (E:Value→aq→Prop),
  i5 L k A→FR L sc σ env X s.heap ρ→Inv L s→f ρ=some p→
  (∀v s',IsPart v p→gN L X s s'→Q v s')→wpAny L.M A (evalPart e env) Q E s
theorem PE.none:PE L sc σ k none (fun _=>some none):=by
 intro env A X s ρ p Q E R F I hf hQ
 skip;(first|exact VS hf|cases hf)
 rw[evalPart_none]
 exact aw (hQ _ _ .none (gN.refl I F.xo))
noncomputable def jJ:PV→Option (Option Int)
 | .int i=>some (some i)
 |_=>none
theorem Fd{p:PV}{o:Option Int}(h:jJ p=some o): ∃i,p= .int i∧o=some i:=by
 cases p<;>first|exact⟨_,rfl,(j7 h).symm⟩|exact hO h
theorem PE.some{e:aM}{f:List MV→Option PV}(h:SE L sc σ k e f):PE L sc σ k (some e) (fun ρ=>(f ρ).bind jJ):=by
 intro env A X s ρ p Q E R F I hf hQ
 rw[evalPart_some]
 replace hf:=Option.bind_eq_some_iff.mp hf
 obtain⟨q,hp,hf⟩:=hf
 ·obtain⟨i,rfl,rfl⟩:=Fd hf
  refine h env A X s ρ _ Q E R F I hp fun v s' hv d=> ?_
  obtain⟨t,rfl⟩:=hv.ki
  exact hQ _ _ (.int _ _) d
theorem PE.less{j:Nat}{e:Option aM}{f:List MV→Option (Option Int)}(h:PE L sc σ j e f)(hk:j≤k):PE L sc σ k e f:=
 fun env A X s ρ p Q E R F I hf hQ=>h env A X s ρ p Q E (R.less hk) F I hf hQ
theorem wd{prog:Program}{w:dw}{A:aF}{E:Value→aq→Prop}{s:aq}{t sl:Addr}{items:Array Value}{b:Nat}{u:gj}{Q:Value→aq→Prop}(ht:eI s.heap t items)(hs:s.heap.IsSliceOf sl .none (.int b u) .none)(hb:b<items.size)
  (h:Q (.ref s.heap.objs.size) {s with heap:=s.heap.push {cls:= .type "tuple",data:= .seq (items.toList.take b).toArray}})
  (hsz:items.size≤sizeLine:=by size_fits):wpAny (model prog w) A (getItem (.ref t) (.ref sl)) Q E s:=by
 have si:sizeOk (.seq (items.toList.take b).toArray):=by
  show(items.toList.take b).toArray.size≤sizeLine
  rw[dz,List.length_take,aS]
  exact Nat.le_trans (eF ..) hsz
 obtain⟨os,hos,hcs,VX⟩:=id hs
 have hTs:s.TypeIs (.ref sl) "slice":=⟨os,hos,hcs⟩
 unfold getItem
 try with_reducible refine aP ?_
 first|refine ao (aw ?_)|skip
 refine ao (wpAny_sequenceKey ht.typeIs (by decide) ?_)
 refine ao (bq (name:=Str.ofString "__getitem__") ht.typeIs F.slot_tuple_getitem
  (bw F.slot_tuple_getitem ht.typeIs F.entry_tuple_getitem ?_ (F.args_tuple_getitem_2 _ _)))
 show wpAny _ _ (aC.Tuple.tupleItemsOf (.ref t)>>= _) _ _ s
 refine ao (PyProof.Rows.tupleItemsOf_ ht ?_)
 refine ao (ee hTs ?_)
 rw[if_pos (by decide)]
 have VY:wpAny (model prog w) A.in1 (aC.Slice.sliceApplied (.ref sl) (pure (items.size:Int))) (fun r s'=>r=((0:Int),(1:Int),b)∧s'=s) E s:=by
  unfold aC.Slice.sliceApplied aC.Slice.sliceFields
  refine ao (ao (aT hos VX (x:= .none) rfl (ao (aT hos VX (x:= .int b u) rfl (ao (aT hos VX (x:= .none) rfl (aw ?_)))))))
  refine ao (fi ?_)
  show wpAny _ _ (if ((1:Int)==0)=true then _ else _) _ _ s
  rw[if_neg (by decide)]
  refine ao (fi (ao (PyProof.Rows.slicePart_int (ao (aw ?_)))))
  show wpAny _ _ (match aC.Slice.sliceAdjust none (some (b:Int)) 1 (items.size:Int) with|(lo,hi)=>pure (lo,(1:Int),aC.Slice.slicePlaces lo hi 1)) _ _ s
  have e1:aC.Slice.sliceAdjust none (some (b:Int)) 1 (items.size:Int)=((0:Int),(b:Int)):=by
   unfold aC.Slice.sliceAdjust
   have h1: ¬ ((1:Int)<0):=by omega
   have h2: ¬ ((b:Int)<0):=by omega
   simp only[h1,h2,if_false]
   congr 1
   omega
  rw[e1]
  have e2:aC.Slice.slicePlaces (0:Int) (b:Int) 1=b:=by
   unfold aC.Slice.slicePlaces
   have h1:(1:Int)>0:=by omega
   simp only[h1,if_true,Int.ediv_one]
   split<;>omega
  show wpAny _ _ (pure ((0:Int),(1:Int),aC.Slice.slicePlaces (0:Int) (b:Int) 1)) _ _ s
  rw[e2]
  exact aw ⟨rfl,rfl⟩
 refine ao (bH VY (fun r s' hr=> ?_) fun _ _ e=>e)
 obtain⟨rfl,rfl⟩:=hr
 have qD: ¬ (((0:Int)==0&&(1:Int)==1&&b==items.size)=true):=by
  have:(b==items.size)=false:=by rw[beq_eq_false_iff_ne];omega
  rw[this];simp
 show wpAny _ _ (if ((0:Int)==0&&(1:Int)==1&&b==items.size)=true then _ else _) _ _ s'
 have QC:((List.range b).filterMap fun(k:Nat)=>items[((0:Int)+(k:Int)*1).toNat]?).toArray=(items.toList.take b).toArray:=by
  have e:(fun(k:Nat)=>items[((0:Int)+(k:Int)*1).toNat]?)=fun k=>items[0+k]? :=by
   funext k
   have:((0:Int)+(k:Int)*1).toNat=0+k:=by omega
   rw[this]
  rw[e]
  have:=pick_run items 0 b
  rw[List.filterMap_map] at this
  have e2:((fun x=>items[x]?)∘fun x=>0+x)=fun k=>items[0+k]? :=rfl
  rw[e2] at this
  rw[this,eZ]
 rw[if_neg qD,QC]
 first
  |exact ao (m:=aC.Tuple.tupleExact _) (bl (aw ⟨_,rfl,aw h⟩) si)
  |exact ao (m:=aC.Tuple.tupleExact _) (bl (ao (aw (aw ⟨_,rfl,aw h⟩))) si)
  |exact ao (ao (m:=aC.Tuple.tupleExact _) (bl (aw (aw ⟨_,rfl,aw h⟩)) si))
  |exact ao (ao (m:=aC.Tuple.tupleExact _) (bl (aw ⟨_,rfl,aw h⟩) si))
noncomputable def jm:PV→Option Int→Option Int→Option PV
 | .list l,lo,hi=>if l.length≤100000 then some (.list (cut l lo hi)) else none
 | .tup l,none,some hi=>if decide (0≤hi)&&decide (hi<l.length)&&decide (l.length≤100000) then some (.tup (l.take hi.toNat)) else none
 |_,_,_=>none
inductive CZ:PV→Option Int→Option Int→PV→Prop
 |list {l lo hi}:l.length≤100000→CZ (.list l) lo hi (.list (cut l lo hi))
 |tup {l b}:b<l.length→l.length≤100000→CZ (.tup l) none (some (b:Nat)) (.tup (l.take b))
theorem Fe{p r:PV}{lo hi:Option Int}(h:jm p lo hi=some r):CZ p lo hi r:=by
 cases p<;>try exact hO h
 ·cases lo<;>try exact hO h
  cases hi<;>try exact hO h
  replace h:=kg h
  obtain⟨hc,rfl⟩:=h
  obtain⟨hc,h2⟩:=j8 hc
  obtain⟨h0,h1⟩:=j8 hc
  obtain⟨b,rfl⟩:=cK (of_decide_eq_true h0)
  exact .tup (Int.ofNat_lt.mp (of_decide_eq_true h1)) (of_decide_eq_true h2)
 ·replace h:=kg h
  obtain⟨hc,rfl⟩:=h
  exact .list hc
theorem C0{A:aF}{X:List Addr}{s:aq}{p r:PV}{lo hi:Option Int}{u vl vh:Value}{sl:Addr}{Q:Value→aq→Prop}{E:Value→aq→Prop}(x:XO L X s.heap)(I:Inv L s)(hp:VR L.prog L.w s.heap X p u)(hs:s.heap.IsSliceOf sl vl vh .none)(hl:IsPart vl lo)(hh:IsPart vh hi)
  (hg:jm p lo hi=some r)(hQ: ∀x s',VR L.prog L.w s'.heap X r x→gN L X s s'→Q x s'): ∃T id,typeLookup (.type T) "__getitem__"=pure (some (.builtin id))∧s.TypeIs u T∧wpAny L.M A (getItem u (.ref sl)) Q E s:=by
 cases Fe hg with
 |list hsz=>
  refine hp.yF fun a xs n ha ho hx=> ?_
  exact⟨"list",_,fL,⟨_,ho,rfl⟩,wpAny_getItem_list_slice ⟨_,ho,rfl,_,rfl⟩ hs hl hh .none (fun h=>nomatch h) (hQ _ _ (newList I x (xM _ _ _▸hx.cut _ _) _) (gN.push I x _ _)) (mL (hx.size▸hsz))⟩
 |tup h1 h2=>
  refine hp.Kc fun a xs n ha ho hx=> ?_
  skip;(first|exact VS hl|cases hl)
  cases hh with
  |int i t=>exact⟨"tuple",_,PySem.F.slot_tuple_getitem.lookup,⟨_,ho,rfl⟩,wd (u:=t) ⟨_,ho,rfl,_,rfl⟩ hs (hx.size▸h1) (hQ _ _ (CV I x (hx.take _) _) (gN.push I x _ _)) (mL (hx.size▸h2))⟩
theorem SE.slice{v:aM}{lo hi:Option aM}{p pos:cP}{f:List MV→Option PV}{g g':List MV→Option (Option Int)}(hv:SE L sc σ k v f)(hl:PE L sc σ k lo g)(hh:PE L sc σ k hi g'):
  SE L sc σ k (.Subscript v (.Slice lo hi Option.none p) pos) (fun ρ=>(f ρ).bind fun a=>(g ρ).bind fun b=>(g' ρ).bind fun c=>jm a b c):=by
 intro env A X s ρ r Q E R F I hf hQ
 replace hf:=Option.bind_eq_some_iff.mp hf
 obtain⟨a,te,hf⟩:=hf
 replace hf:=Option.bind_eq_some_iff.mp hf
 obtain⟨b,GP,hf⟩:=hf
 replace hf:=Option.bind_eq_some_iff.mp hf
 obtain⟨c,hgc,hf⟩:=hf
 refine tj (hv env A X s ρ a _ E R F I te fun u s₁ hu iE=>wpAny_Slice (hl env A X s₁ ρ b _ E R (F.done iE) iE.inv GP fun vl gZ VZ gW=>
  hh env A X gZ ρ c _ E R ((F.done iE).done gW) gW.inv hgc fun vh jc hvh jb=> ?_)) (fun o i=> .inr rfl)
 rw[evalPart_none]
 have d:=(iE.trans gW).trans jb
 have dp:=gN.push jb.inv d.xo ({cls:= .type "slice",data:= .fields #[vl,vh,.none]}:Obj) jc.toks
 exact aw (C0 dp.xo dp.inv (((hu.up gW.up).up jb.up).up dp.up) (Heap.IsSliceOf.new ..) VZ hvh hf fun x s' hx nJ=>hQ x s' hx ((d.trans dp).trans nJ))
end
end
section
open PySem
section
variable {L:ig} {sc:Scope} {σ:gO} {k:Nat}
theorem SE.un{op:UnaryOp}{e:aM}{pos:cP}{f:List MV→Option PV}{g:PV→Option PV}(h:SE L sc σ k e f)(ho:Qx L (unaryOp op) g):SE L sc σ k (.UnaryOp op e pos) (fun ρ=>(f ρ).bind g):=by
 intro env A X s ρ p Q E R F I hf hQ
 replace hf:=Option.bind_eq_some_iff.mp hf
 obtain⟨a,te,hf⟩:=hf
 refine wpAny_UnaryOp (h env A X s ρ a _ E R F I te fun u s₁ hu iE=> ?_)
 exact ho A X s₁ a p u Q E (R.less (aE _)) (F.done iE).xo iE.inv hu hf fun x s' hx gW=>hQ x s' hx (iE.trans gW)
noncomputable def TE(L:ig)(sc:Scope)(σ:gO)(k:Nat)(e:aM)(f:List MV→Option Bool):Prop:=
 ∀(env:b8) (A:aF) (X:List Addr) (s:aq) (ρ:List MV) (b:Bool) (Q:Bool→aq→Prop) (E:Value→aq→Prop),
  i5 L k A→FR L sc σ env X s.heap ρ→Inv L s→f ρ=some b→
  (∀s',gN L X s s'→Q b s')→wpAny L.M A (isTrue e env (eval e env)) Q E s
noncomputable def mJ:PV→Option Bool
 | .bool b=>some b
 | .int i=>some (i !=0)
 |_=>none
theorem tm{A:aF}{X:List Addr}{s:aq}{p:PV}{v:Value}{b:Bool}{Q:Bool→aq→Prop}{E:Value→aq→Prop}(hv:VR L.prog L.w s.heap X p v)(h:mJ p=some b)(hQ:Q b s):wpAny L.M A (truthy v) Q E s:=by
 cases p<;>simp only[mJ,reduceCtorEq,Option.some.injEq] at h
 ·subst h;rw[hv.pP];exact cZ hQ
 ·subst h;obtain⟨t,rfl⟩:=hv.ki;exact PyProof.Rows.truthy_int hQ
theorem TE.val{e:aM}{f:List MV→Option PV}(h:SE L sc σ k e f)(he: ∀env whole,isTrue e env whole=(do let v←whole;standAt e.pos;holding [v] (truthy v))):TE L sc σ k e (fun ρ=>(f ρ).bind mJ):=by
 intro env A X s ρ b Q E R F I hf hQ
 replace hf:=Option.bind_eq_some_iff.mp hf
 obtain⟨a,te,hf⟩:=hf
 exact wpAny_isTrue_value (he:=he _ _) (h env A X s ρ a _ E R F I te fun v s₁ hv d=>tm hv hf (hQ _ d))
theorem TE.cmp{op:CmpOp}{l r:aM}{pos:cP}{f g:List MV→Option PV}{o:PV→PV→Option PV}(hl:SE L sc σ k l f)(hr:SE L sc σ k r g)(ho:ng L (compareOp op) o)
  (hm:behindInMarks op r=false:=by rfl):TE L sc σ k (.Compare l [op] [r] pos) (fun ρ=>(ik f g o ρ).bind mJ):=by
 intro env A X s ρ b Q E R F I hf hQ
 replace hf:=Option.bind_eq_some_iff.mp hf
 obtain⟨c,hc,hf⟩:=hf
 obtain⟨a,b',te,GP,GQ⟩:=oJ hc
 refine wpAny_isTrue_Compare1 (hm:=hm) (hl env A X s ρ a _ E R F I te fun u s₁ hu iE=>hr env A X s₁ ρ b' _ E R (F.done iE) iE.inv GP fun v gZ hv gW=> ?_)
 exact ho A X gZ a b' c u v _ E (R.less (aE _)) ((F.done iE).done gW).xo gW.inv (hu.up gW.up) hv GQ fun x s' hx jb=>tm hx hf (hQ _ ((iE.trans gW).trans jb))
theorem TE.not{e:aM}{pos:cP}{f:List MV→Option Bool}(h:TE L sc σ k e f):TE L sc σ k (.UnaryOp .Not e pos) (fun ρ=>(f ρ).map not):=by
 intro env A X s ρ b Q E R F I hf hQ
 obtain⟨a,te,rfl⟩:=Option.map_eq_some_iff.mp hf
 exact wpAny_isTrue_Not (h env A X s ρ a _ E R F I te fun s₁ d=>hQ _ d)
noncomputable def pS(L:ig)(sc:Scope)(σ:gO)(k:Nat)(op:BoolOp)(es:List aM)(f:List MV→Option Bool):Prop:=
 ∀(env:b8) (A:aF) (X:List Addr) (s:aq) (ρ:List MV) (b:Bool) (Q:Bool→aq→Prop) (E:Value→aq→Prop),
  i5 L k A→FR L sc σ env X s.heap ρ→Inv L s→f ρ=some b→
  (∀s',gN L X s s'→Q b s')→wpAny L.M A (allTrue op es env) Q E s
theorem pS.NZ:pS L sc σ k .And [] (fun _=>some true):=by
 intro env A X s ρ b Q E R F I hf hQ
 skip;(first|exact VS hf|cases hf)
 exact wpAny_allTrue_And_nil (hQ _ (gN.refl I F.xo))
theorem pS.MG:pS L sc σ k .Or [] (fun _=>some false):=by
 intro env A X s ρ b Q E R F I hf hQ
 skip;(first|exact VS hf|cases hf)
 exact wpAny_allTrue_Or_nil (hQ _ (gN.refl I F.xo))
theorem pS.and{e:aM}{es:List aM}{f g:List MV→Option Bool}(h:TE L sc σ k e f)(hs:pS L sc σ k .And es g):pS L sc σ k .And (e::es) (fun ρ=>(f ρ).bind fun b=>if b then g ρ else some false):=by
 intro env A X s ρ b Q E R F I hf hQ
 replace hf:=Option.bind_eq_some_iff.mp hf
 obtain⟨a,te,hf⟩:=hf
 refine wpAny_allTrue_And_cons (h env A X s ρ a _ E R F I te fun s₁ d=> ?_)
 cases a with
 |true=>exact hs env A X s₁ ρ b Q E R (F.done d) d.inv hf fun s' d'=>hQ _ (d.trans d')
 |false=>(first|exact VS hf|cases hf);exact hQ _ d
theorem pS.or{e:aM}{es:List aM}{f g:List MV→Option Bool}(h:TE L sc σ k e f)(hs:pS L sc σ k .Or es g):pS L sc σ k .Or (e::es) (fun ρ=>(f ρ).bind fun b=>if b then some true else g ρ):=by
 intro env A X s ρ b Q E R F I hf hQ
 replace hf:=Option.bind_eq_some_iff.mp hf
 obtain⟨a,te,hf⟩:=hf
 refine wpAny_allTrue_Or_cons (h env A X s ρ a _ E R F I te fun s₁ d=> ?_)
 cases a with
 |false=>exact hs env A X s₁ ρ b Q E R (F.done d) d.inv hf fun s' d'=>hQ _ (d.trans d')
 |true=>(first|exact VS hf|cases hf);exact hQ _ d
theorem TE.bool{op:BoolOp}{es:List aM}{pos:cP}{f:List MV→Option Bool}(h:pS L sc σ k op es f):TE L sc σ k (.BoolOp op es pos) f:=by
 intro env A X s ρ b Q E R F I hf hQ
 exact wpAny_isTrue_BoolOp (h env A X s ρ b Q E R F I hf hQ)
theorem SE.Va{t x y:aM}{pos:cP}{c:List MV→Option Bool}{f g:List MV→Option PV}(ht:TE L sc σ k t c)(hx:SE L sc σ k x f)(hy:SE L sc σ k y g):
  SE L sc σ k (.IfExp t x y pos) (fun ρ=>(c ρ).bind fun b=>if b then f ρ else g ρ):=by
 intro env A X s ρ p Q E R F I hf hQ
 replace hf:=Option.bind_eq_some_iff.mp hf
 obtain⟨b,hb,hf⟩:=hf
 refine wpAny_IfExp (ht env A X s ρ b _ E R F I hb fun s₁ d=> ?_)
 cases b with
 |true=>exact hx env A X s₁ ρ p Q E R (F.done d) d.inv hf fun v s' hv d'=>hQ v s' hv (d.trans d')
 |false=>exact hy env A X s₁ ρ p Q E R (F.done d) d.inv hf fun v s' hv d'=>hQ v s' hv (d.trans d')
theorem SE.j8{x y:aM}{pos:cP}{f g:List MV→Option PV}(hx:SE L sc σ k x f)(hy:SE L sc σ k y g):
  SE L sc σ k (.BoolOp .And [x,y] pos) (fun ρ=>(f ρ).bind fun a=>(mJ a).bind fun b=>if b then g ρ else some a):=by
 intro env A X s ρ p Q E R F I hf hQ
 replace hf:=Option.bind_eq_some_iff.mp hf
 obtain⟨a,te,hf⟩:=hf
 replace hf:=Option.bind_eq_some_iff.mp hf
 obtain⟨b,hb,hf⟩:=hf
 refine wpAny_And2 (hx env A X s ρ a _ E R F I te fun v s₁ hv d=>tm hv hb ?_)
 cases b with
 |true=>exact hy env A X s₁ ρ p Q E R (F.done d) d.inv hf fun v s' hv d'=>hQ v s' hv (d.trans d')
 |false=>(first|exact VS hf|cases hf);exact hQ _ _ hv d
noncomputable def LE(L:ig)(sc:Scope)(σ:gO)(k:Nat)(es:List aM)(f:List MV→Option (List PV)):Prop:=
 ∀(env:b8) (A:aF) (X:List Addr) (s:aq) (ρ:List MV) (ps:List PV) (pos:cP) (Q:List Value→aq→Prop) (E:Value→aq→Prop),
  i5 L k A→FR L sc σ env X s.heap ρ→Inv L s→f ρ=some ps→
  (∀vs s',gV L.prog L.w s'.heap X ps vs→gN L X s s'→Q vs s')→wpAny L.M A (spliced (backTo pos (starEach es env))) Q E s
theorem LE.nil:LE L sc σ k [] (fun _=>some []):=by
 intro env A X s ρ ps pos Q E R F I hf hQ
 skip;(first|exact VS hf|cases hf)
 exact cW (hQ _ _ gV.nil (gN.refl I F.xo))
theorem LE.cons{e:aM}{es:List aM}{f:List MV→Option PV}{g:List MV→Option (List PV)}(h:SE L sc σ k e f)(hs:LE L sc σ k es g)
  (he: ∀env,starEach (e::es) env=(false,eval e env)::starEach es env):LE L sc σ k (e::es) (fun ρ=>(f ρ).bind fun a=>(g ρ).map (a:: ·)):=by
 intro env A X s ρ ps pos Q E R F I hf hQ
 replace hf:=Option.bind_eq_some_iff.mp hf
 obtain⟨a,te,hf⟩:=hf
 obtain⟨as,V0,rfl⟩:=Option.map_eq_some_iff.mp hf
 refine di (he:=he env) (h env A X s ρ a _ E R F I te fun v s₁ hv d=>hs env A X s₁ ρ as pos _ E R (F.done d) d.inv V0 fun vs gZ jE d'=> ?_)
 exact hQ _ _ (gV.cons (hv.up d'.up) jE) (d.trans d')
noncomputable def pI(l:List PV):Bool:=decide (l.length≤100000)
theorem SE.list{es:List aM}{pos:cP}{f:List MV→Option (List PV)}(h:LE L sc σ k es f):SE L sc σ k (.List es pos) (fun ρ=>(f ρ).bind fun l=>if pI l then some (.list l) else Option.none):=by
 intro env A X s ρ p Q E R F I hf hQ
 replace hf:=Option.bind_eq_some_iff.mp hf
 obtain⟨l,Bk,hf⟩:=hf
 split at hf
 ·rename_i hs
  have km:=of_decide_eq_true hs
  skip;(first|exact VS hf|cases hf)
  refine wpAny_List (h env A X s ρ l pos _ E R F I Bk fun vs s₁ jE d=>⟨by rw[jE.length];show _≤16777216;omega,?_⟩)
  exact hQ _ _ (newList d.inv (F.done d).xo (xs:=vs.toArray) (by simpa using jE) _) (d.trans (gN.push d.inv d.xo _ _))
 ·(first|exact VS hf|cases hf)
theorem SE.tup{es:List aM}{kk:Nat}{pos:cP}{f:List MV→Option (List PV)}(h:LE L sc σ k es f):SE L sc σ k (.Tuple es kk pos) (fun ρ=>(f ρ).bind fun l=>if pI l then some (.tup l) else Option.none):=by
 intro env A X s ρ p Q E R F I hf hQ
 replace hf:=Option.bind_eq_some_iff.mp hf
 obtain⟨l,Bk,hf⟩:=hf
 split at hf
 ·rename_i hs
  have km:=of_decide_eq_true hs
  skip;(first|exact VS hf|cases hf)
  refine wpAny_Tuple (h env A X s ρ l pos _ E R F I Bk fun vs s₁ jE d=>⟨by rw[jE.length];show _≤16777216;omega,?_⟩)
  exact hQ _ _ (CV d.inv (F.done d).xo (xs:=vs.toArray) (by simpa using jE) _) (d.trans (gN.push d.inv d.xo _ _))
 ·(first|exact VS hf|cases hf)
theorem SE.QD{pos:cP}:SE L sc σ k (.Dict [] [] pos) (fun _=>some (.ja [] [])):=by
 intro env A X s ρ p Q E R F I hf hQ
 skip;(first|exact VS hf|cases hf)
 refine wpAny_Dict_empty (hQ _ _ ?_ (gN.push I F.xo _ _))
 exact .intro _ ⟨[],rfl,F.xo.size,Heap.DictOf.new _,rfl,gV.nil⟩
theorem SE.QE{k1 k2:Str}{c1 c2:Nat}{p1 p2 pos:cP}{x y:aM}{f g:List MV→Option PV}(hx:SE L sc σ k x f)(hy:SE L sc σ k y g)(js:k1≠k2):
  SE L sc σ k (.Dict [some (.Constant (.str k1) c1 p1),some (.Constant (.str k2) c2 p2)] [x,y] pos) (fun ρ=>(f ρ).bind fun a=>(g ρ).map fun b=> .ja [k1,k2] [a,b]):=by
 intro env A X s ρ p Q E R F I hf hQ
 replace hf:=Option.bind_eq_some_iff.mp hf
 obtain⟨a,te,hf⟩:=hf
 obtain⟨b,GP,rfl⟩:=Option.map_eq_some_iff.mp hf
 have d0:=gN.push I F.xo ({cls:= .type "dict",data:= .dict #[]}:Obj) s.toks
 refine wpAny_Dict_walk (knd:=strKind L.prog L.w) (by rfl) (by rfl) (by simp) (by simp) ?_
 have h0:(({s with heap:=s.heap.push {cls:= .type "dict",data:= .dict #[]}}:aq).heap).DictOf (strKind L.prog L.w) s.heap.objs.size []:=Heap.DictOf.new _
 have hD:s.heap.objs.size≠L.tb:=fun e=>F.xo.size (e▸F.xo.tb)
 have W:FR L sc σ env (s.heap.objs.size::X) (s.heap.push {cls:= .type "dict",data:= .dict #[]}) ρ:=F.widen (fun b o e=>iq _ _ b o e) I.iA (fun a ha=>by
   rcases List.mem_cons.mp ha with rfl|h
   ·exact .inr (g9 _)
   ·exact .inl h) (fun a ha=>av _ ha) (fun a ha=>by
   rcases List.mem_cons.mp ha with rfl|h
   ·exact⟨_,aB _ rfl⟩
   ·obtain⟨o,ho⟩:=F.xo.there a h;exact⟨o,iq _ _ _ _ ho⟩)
 refine pairTrees_cons_walk (gc ?_)
 have d1:=gN.toks d0.inv W.xo (s.toks+1)
 refine hx env A _ _ ρ a _ E R (W.done d1) d1.inv te fun u s₁ hu gW=> ?_
 refine pairTrees_cons_walk (gc ?_)
 have d3:=gN.toks gW.inv gW.xo (s₁.toks+1)
 refine hy env A _ _ ρ b _ E R (((W.done d1).done gW).done d3) d3.inv GP fun v gZ hv nJ=> ?_
 have dd:=((d1.trans gW).trans d3).trans nJ
 refine pairTrees_nil_walk ⟨[(k1,u),(k2,v)],⟨isStrOf_self k1 s.toks,rfl,isStrOf_self k2 s₁.toks,rfl,trivial⟩,?_,fun h' hd hs=> ?_⟩
 ·exact jl h0 fun o e=>dd.keep _ o hD e
 ·have hex: ∃o,h'.get? s.heap.objs.size=some o:=j5 hd
  have hkk: ∀b o,b≠s.heap.objs.size→gZ.heap.get? b=some o→h'.get? b=some o:=fun b o hb e=>hs.extBut b o hb e
  have Ff:XO L (s.heap.objs.size::X) h':=dd.xo.mut (aA ..) hD hkk hex
  have V1:gN L X s {gZ with heap:=h',toks:=gZ.toks+2}:=by
   refine⟨fun b o hb e=>hkk b o (fun e'=> ?_) (dd.keep b o hb (iq _ _ b o e)),⟨fun a o e=> ?_,dd.inv.bare⟩,Ff.sub (fun a ha=>av _ ha) F.xo.tb F.xo.sm,dd.os.trans d0.os,dd.drawn.trans d0.drawn⟩
   ·rw[e',g9] at e;(first|exact VS e|cases e)
   ·refine hkk a o (fun e'=> ?_) (dd.inv.iA a o e)
    have:=I.iA a o e
    rw[e',g9] at this;(first|exact VS this|cases this)
  refine hQ _ _ ?_ V1
  have hm:merged [] [(k1,u),(k2,v)]=[(k1,u),(k2,v)]:=by simp[merged,stored,js]
  rw[hm] at hd
  have u1:Up gZ.heap (s.heap.objs.size::X) h' X:=fun a o ha e=>⟨fun hm=>ha (av _ hm),hkk a o (fun e'=>ha (e'▸aA ..)) e⟩
  exact .intro _ ⟨_,rfl,F.xo.size,hd,rfl,gV.cons ((hu.up (d3.trans nJ).up).up u1) (gV.cons (hv.up u1) gV.nil)⟩
end
end
section
open PySem
theorem yM{h:Heap}{a:Addr}{m m':Str→Option Value}(x:h.Ns a m)(y:h.Ns a m'):m=m':=by
 obtain⟨o,es,ep,ho,N0,_,hf⟩:=x
 obtain⟨o',ZY,ep',lr,V2,_,Ki⟩:=y
 obtain rfl:=Option.some.inj (ho.symm.trans lr)
 obtain⟨rfl,_⟩:=Data.dict.inj (N0.symm.trans V2)
 exact funext fun x=>(hf x).symm.trans (Ki x)
theorem Bl{h:Heap}{a:Addr}{u v:Option Value}(x:h.IsCell a u)(y:h.IsCell a v):u=v:=
 x.elim fun o x=>y.elim fun o' y=>Data.cell.inj (x.2.symm.trans ((congrArg Obj.data (Option.some.inj (x.1.symm.trans y.1))).trans y.2))
theorem Ed{h:Heap}{a:Addr}{m:Str→Option Value}{u:Option Value}(x:h.Ns a m)(y:h.IsCell a u):False:=
 x.elim fun o x=>x.elim fun es x=>x.elim fun ep x=>y.elim fun o' y=>uw (x.2.1.symm.trans ((congrArg Obj.data (Option.some.inj (x.1.symm.trans y.1))).trans y.2))
theorem Reads.unique{env:b8}{h:Heap}{x:Str}{u v:Value}(a:Reads env h x u)(b:Reads env h x v):u=v:=by
 rcases a with⟨hk,m,hn,hm⟩|⟨hk,hd,c,pO,hv⟩<;>rcases b with⟨oN,m',JU,CQ⟩|⟨oN,vI,c',N1,nf⟩
 ·exact Option.some.inj (hm.symm.trans ((congrFun (yM hn JU) x).trans CQ))
 ·rw[hk] at oN;rcases oN with h|h<;>(first|exact VS h|cases h)
 ·rw[oN] at hk;rcases hk with h|h<;>(first|exact VS h|cases h)
 ·obtain rfl:=Option.some.inj (pO.symm.trans N1)
  exact Option.some.inj (Bl hv nf)
structure Holds(σ:gO)(env:b8)(h:Heap)(ρ:List MV)(x:Str)(i:Nat)(mv:MV)(a:Addr):Prop where
 lk:σ.lookup x=some i
 val:ρ[i]? =some mv
 ow:mv.owned=true
 rd:Reads env h x (.ref a)
theorem nr{mv:MV}(h:mv.owned=true):mv≠ .un:=by rintro rfl;exact Bool.noConfusion h
structure FS(L:ig)(sc:Scope)(σ:gO)(own:List Str)(env:b8)(Y Z:List Addr)(h:Heap)(ρ:List MV):Prop where
 fr:FR L sc σ env (Y++Z) h ρ
 tq:env.locals∈Y
 ns: ∃m,h.Ns env.locals m
 cell: ∀x∈own,sc.names.lookup x=some .local∨(sc.names.lookup x=some .cell∧(x==("__classdict__":Str))=false∧ ∃c,env.cells.lookup x=some c∧c∈Y∧(∃v,h.IsCell c v)∧ ∀y,y≠x→env.cells.lookup y≠some c)
 apart: ∀y∈Y,y∉Z
 Fg: ∀x i mv a,Holds σ env h ρ x i mv a→a∈Y∧a≠env.locals
 sep: ∀x y i j mv nh a,Holds σ env h ρ x i mv a→Holds σ env h ρ y j nh a→i=j
structure rz(env:b8)(x:Str)(v:Value)(D:Addr)(h h':Heap):Prop where
 keep: ∀b o,b≠D→h.get? b=some o→h'.get? b=some o
 ex: ∃o,h'.get? D=some o
 here:Reads env h' x v
 ns: ∃m,h'.Ns env.locals m
 others: ∀y u,y≠x→Reads env h y u→Reads env h' y u
 cells: ∀y c u,env.cells.lookup y=some c→h.IsCell c u→ ∃u,h'.IsCell c u
theorem rz.exi{env:b8}{x:Str}{v:Value}{D:Addr}{h h':Heap}(S:rz env x v D h h'){c:Addr}(hc: ∃o,h.get? c=some o): ∃o,h'.get? c=some o:=by
 by_cases e:c=D
 ·rw[e];exact S.ex
 ·obtain⟨o,ho⟩:=hc;exact⟨o,S.keep c o e ho⟩
section
variable {L:ig} {sc:Scope} {σ:gO} {own:List Str} {env:b8} {Y Z:List Addr} {ρ:List MV}
theorem FS.storeName{A:aF}{s:aq}{E:Value→aq→Prop}{Q:Unit→aq→Prop}{x:Str}{v:Value}{M:Model}(F:FS L sc σ own env Y Z s.heap ρ)(hx:x∈own)
  (hQ: ∀D h' tk,D∈Y→D≠L.tb→(D=env.locals∨ ∃u,s.heap.IsCell D u)→rz env x v D s.heap h'→Q () {s with heap:=h',toks:=tk}):wpAny M A (storeName env x v) Q E s:=by
 obtain⟨m,hn⟩:=F.ns
 have uy:env.scope.kind= .function:=by rw[F.fr.scope];exact F.fr.kind
 have Vb:env.kindOf x=sc.names.lookup x:=by unfold b8.kindOf;rw[F.fr.scope]
 rcases F.cell x hx with hl|⟨hl,hcd,c,hc,G4,⟨N2,hv⟩,hap⟩
 ·refine wpAny_storeName_local (Vb.trans hl) hn (fun h' JU km=> ?_) (by rw[uy];rfl)
  have MH: ∀c u,s.heap.IsCell c u→h'.IsCell c u:=fun c u hu=>hu.sameBut km fun e=>Ed hn (e▸hu)
  refine hQ env.locals h' _ F.tq F.fr.locals.1 (.inl rfl) ⟨fun b o hb e=>km.extBut b o hb e,JU.elim fun o x=>x.elim fun _ x=>x.elim fun _ x=>⟨o,x.1⟩,.inl ⟨Vb.trans hl,_,JU,if_pos rfl⟩,⟨_,JU⟩,fun y u hy r=> ?_,fun y c u _ hu=>⟨u,MH c u hu⟩⟩
  rcases r with⟨hk,N3,G5,yN⟩|⟨hk,hd,c,pO,hv⟩
  ·exact .inl ⟨hk,_,JU,(if_neg hy).trans (yM hn G5▸yN)⟩
  ·exact .inr ⟨hk,hd,c,pO,MH _ _ hv⟩
 ·refine wpAny_storeName_cell uy (Vb.trans hl) hc hv fun h' G6 km=> ?_
  have ZZ:env.locals≠c:=fun e=>Ed hn (e▸hv)
  refine hQ c h' s.toks G4 (F.fr.cells x c hc).1 (.inr ⟨_,hv⟩) ⟨fun b o hb e=>km.extBut b o hb e,G6.elim fun o x=>⟨o,x.1⟩,.inr ⟨.inl (Vb.trans hl),hcd,c,hc,G6⟩,⟨m,hn.sameBut km ZZ⟩,fun y u hy r=> ?_,fun y N4 u pO hu=> ?_⟩
  ·rcases r with⟨hk,N3,G5,yN⟩|⟨hk,hd,N4,pO,QF⟩
   ·exact .inl ⟨hk,_,G5.sameBut km ZZ,yN⟩
   ·exact .inr ⟨hk,hd,N4,pO,QF.sameBut km fun e=>hap y hy (e▸pO)⟩
  ·by_cases e:N4=c
   ·exact⟨_,e▸G6⟩
   ·exact⟨u,hu.sameBut km e⟩
structure gS(L:ig)(Y:List Addr)(s s':aq):Prop where
 keep: ∀b o,b≠L.tb→b∉Y→s.heap.get? b=some o→s'.heap.get? b=some o
 inv:Inv L s'
 os:s'.os=s.os
 drawn:s'.drawn=s.drawn
theorem gS.refl{s:aq}(i:Inv L s):gS L Y s s:=⟨fun _ _ _ _ e=>e,i,rfl,rfl⟩
theorem gS.jQ{X:List Addr}{s s':aq}(d:gN L X s s'):gS L Y s s':=⟨fun b o hb _ e=>d.keep b o hb e,d.inv,d.os,d.drawn⟩
theorem gS.trans{Y':List Addr}{s s' ph:aq}(x:gS L Y s s')(hY: ∀b∈Y',b∈Y∨s.heap.get? b=none)(y:gS L Y' s' ph):gS L Y s ph:=
 ⟨fun b o hb hn e=>y.keep b o hb (fun h=>by
  rcases hY b h with h1|h1
  ·exact hn h1
  ·rw[h1] at e;(first|exact VS e|cases e)) (x.keep b o hb hn e),y.inv,y.os.trans x.os,y.drawn.trans x.drawn⟩
theorem we{ρ:List MV}{i:Nat}{nv mv:MV}(e:(ρ.set i nv)[i]? =some mv):mv=nv:=by
 rw[List.getElem?_set_self'] at e
 cases h:ρ[i]? with
 |none=>rw[h] at e;exact hO e
 |some _=>rw[h] at e;exact(Option.some.inj e).symm
theorem yO{ρ:List MV}{i j:Nat}{nv:MV}(hj:j≠i):(ρ.set i nv)[j]? =ρ[j]? :=eX (Ne.symm hj)
theorem FS.gen{Y' Z':List Addr}{h h':Heap}{ρ':List MV}(i:Nat)(F:FS L sc σ own env Y Z h ρ)(x':XO L (Y'++Z') h')(hl:env.locals∈Y')(QG: ∃m,h'.Ns env.locals m)
  (G7: ∀y c,env.cells.lookup y=some c→(∃o,h'.get? c=some o)∧ ∀u,c∈Y→h.IsCell c u→c∈Y'∧ ∃u,h'.IsCell c u)(C1: ∀y∈Y',y∉Z')(u:Up h (Y++Z) h' (Y'++Z'))
  (slots: ∀(j:Nat) mv,j≠i→ρ'[j]? =some mv→mv≠ .un→ρ[j]? =some mv)(Z0: ∀y j v,σ.lookup y=some j→j≠i→Reads env h y v→Reads env h' y v)
  (keep: ∀y j mv a o,j≠i→Holds σ env h ρ y j mv a→a≠L.tb→h.get? a=some o→(∀u,o.data≠ .cell u)→a∈Y'∧h'.get? a=some o)
  (new: ∀y mv,σ.lookup y=some i→ρ'[i]? =some mv→mv≠ .un→ ∃v,Reads env h' y v∧ru L h' (Y'++Z') mv v)
  (N5: ∀y mv a,Holds σ env h' ρ' y i mv a→(a∈Y'∧a≠env.locals)∧ ∀z j nh,j≠i→ ¬ Holds σ env h ρ z j nh a):FS L sc σ own env Y' Z' h' ρ':=by
 have G8: ∀{y j mv a},j≠i→Holds σ env h' ρ' y j mv a→Holds σ env h ρ y j mv a:=fun{y j mv a} hj H=>
  have hm:=slots j mv hj H.val (nr H.ow)
  (F.fr.rd y j H.lk mv hm (nr H.ow)).elim fun v r=>⟨H.lk,hm,H.ow,(Z0 y j v H.lk hj r.1).unique H.rd▸r.1⟩
 refine⟨⟨F.fr.scope,F.fr.kind,F.fr.globals,F.fr.builtins,x',⟨F.fr.locals.1,QG.elim fun m x=>x.elim fun o x=>x.elim fun _ x=>x.elim fun _ x=>⟨o,x.1⟩⟩,fun y c hc=>⟨(F.fr.cells y c hc).1,(G7 y c hc).1⟩,F.fr.has,fun y j hy mv jC hu=> ?_⟩,hl,QG,fun x hx=> ?_,C1,fun y j mv a H=> ?_,fun y z j k mv nh a H1 H2=> ?_⟩
 ·by_cases e:j=i
  ·subst e;exact new y mv hy jC hu
  ·have hm:=slots j mv e jC hu
   exact(F.fr.rd y j hy mv hm hu).elim fun v r=>⟨v,Z0 y j v hy e r.1,r.2.vH u fun a o ea _ ht hg hc ho=>have k:=keep y j mv a o e ⟨hy,hm,ho,ea▸r.1⟩ ht hg hc;⟨az _ k.1,k.2⟩⟩
 ·rcases F.cell x hx with hl|⟨hl,hcd,c,hc,G4,⟨N2,QH⟩,V3⟩
  ·exact .inl hl
  ·have k:=(G7 x c hc).2 N2 G4 QH
   exact .inr ⟨hl,hcd,c,hc,k.1,k.2,V3⟩
 ·by_cases e:j=i
  ·subst e;exact(N5 y mv a H).1
  ·have H0:=G8 e H
   obtain⟨v,r,m⟩:=F.fr.rd y j H0.lk mv H0.val (nr H0.ow)
   obtain⟨a',o,ea,_,ht,hg,hc⟩:=m.addr H0.ow
   have ea:a'=a:=Value.ref.inj (ea.symm.trans (r.unique H0.rd))
   subst ea
   exact⟨(keep y j mv a' o e H0 ht hg hc).1,(F.Fg y j mv a' H0).2⟩
 ·by_cases e1:j=i
  ·by_cases e2:k=i
   ·exact e1.trans e2.symm
   ·subst e1;exact absurd (G8 e2 H2) ((N5 y mv a H1).2 z k nh e2)
  ·by_cases e2:k=i
   ·subst e2;exact absurd (G8 e1 H1) ((N5 z nh a H2).2 y j mv e1)
   ·exact F.sep y z j k mv nh a (G8 e1 H1) (G8 e2 H2)
theorem FS.G9{Y' Z' W:List Addr}{h h':Heap}{ρ':List MV}(F:FS L sc σ own env Y Z h ρ)(hW: ∀a∈W,a∉Y)(hk: ∀b o,b≠L.tb→b∉W→h.get? b=some o→h'.get? b=some o)(hWX: ∀a∈W,a∈Y++Z)(x':XO L (Y'++Z') h')
  (hY: ∀a∈Y,a∈Y')(hN: ∀a∈Y'++Z',a∈Y++Z∨h.get? a=none)(C1: ∀y∈Y',y∉Z')(hc: ∀x c,env.cells.lookup x=some c→c∉W)(slots: ∀(j:Nat) mv,ρ'[j]? =some mv→mv≠ .un→ρ[j]? =some mv):FS L sc σ own env Y' Z' h' ρ':=by
 have hl:env.locals∉W:=fun h=>hW _ h F.tq
 have hn: ∀m,h.Ns env.locals m→h'.Ns env.locals m:=fun m hn=>hn.at' fun o e=>hk _ o F.fr.locals.1 hl e
 have MH: ∀y c u,env.cells.lookup y=some c→h.IsCell c u→h'.IsCell c u:=fun y c u pO x=>x.elim fun o x=>⟨o,hk c o (F.fr.cells y c pO).1 (hc y c pO) x.1,x.2⟩
 refine F.gen ρ'.length x' (hY _ F.tq) (F.ns.elim fun m x=>⟨m,hn m x⟩) (fun y c pO=>⟨(F.fr.cells y c pO).2.elim fun o ho=>⟨o,hk c o (F.fr.cells y c pO).1 (hc y c pO) ho⟩,fun u G4 hu=>⟨hY c G4,u,MH y c u pO hu⟩⟩) C1 (fun a o ha e=>⟨fun h=> ?_,hk a o (fun e=>ha (e▸F.fr.xo.tb)) (fun h=>ha (hWX a h)) e⟩)
  (fun j mv _ e hu=>slots j mv e hu) (fun y j v _ _ r=>r.map hn fun c u pO=>MH y c u pO) (fun y j mv a o _ H ht hg _=>have k:=(F.Fg y j mv a H).1;⟨hY a k,hk a o ht (fun h=>hW a h k) hg⟩) (fun y mv _ e=>hO ((cQ (bu _)).symm.trans e)) fun y mv a H=>hO ((cQ (bu _)).symm.trans H.val)
 rcases hN a h with h1|h1
 ·exact ha h1
 ·exact hO (h1.symm.trans e)
theorem FS.setG{h h':Heap}{x:Str}{i:Nat}{nv:MV}{v:Value}{D:Addr}(F:FS L sc σ own env Y Z h ρ)(hi:σ.lookup x=some i)(inj: ∀y,σ.lookup y=some i→y=x)
  (hD:D∈Y)(yP:D≠L.tb)(Ee:D=env.locals∨ ∃u,h.IsCell D u)(S:rz env x v D h h')(hv:ru L h (Y++Z) nv v)(hw: ∀a,nv.owned=true→v= .ref a→(a∈Y∧a≠env.locals)∧ ∀z j nh,j≠i→ ¬ Holds σ env h ρ z j nh a):FS L sc σ own env Y Z h' (ρ.set i nv):=by
 have Gz:D∈Y++Z:=az _ hD
 have u:Up h (Y++Z) h' (Y++Z):=fun a o ha e=>⟨ha,S.keep a o (fun h=>ha (h▸Gz)) e⟩
 have Z1: ∀a o,a≠env.locals→h.get? a=some o→(∀u,o.data≠ .cell u)→a≠D:=fun a o Ha hg hc e=>Ee.elim (fun h=>Ha (e.trans h)) fun⟨u,o',lr,e'⟩=>hc u (Option.some.inj (hg.symm.trans (e▸lr))▸e')
 refine F.gen i (F.fr.xo.mut Gz yP S.keep S.ex) F.tq S.ns (fun y c hc=>⟨S.exi (F.fr.cells y c hc).2,fun u G4 hu=>⟨G4,S.cells y c u hc hu⟩⟩) F.apart u (fun j mv hj e _=>yO hj▸e) (fun y j v hy hj r=>S.others y v (fun e=>hj (Option.some.inj (hy.symm.trans (e▸hi)))) r)
  (fun y j mv a o _ H _ hg hc=>have k:=F.Fg y j mv a H;⟨k.1,S.keep a o (Z1 a o k.2 hg hc) hg⟩) (fun y mv hy e _=> ?_) fun y mv a H=> ?_
 ·obtain rfl:=we e
  obtain rfl:=inj y hy
  exact⟨v,S.here,hv.vH u fun a o ea ha _ hg hc ho=>⟨ha,S.keep a o (Z1 a o (hw a ho ea).1.2 hg hc) hg⟩⟩
 ·obtain rfl:=we H.val
  obtain rfl:=inj y H.lk
  exact hw a H.ow (S.here.unique H.rd)
theorem FS.set{h h':Heap}{x:Str}{i:Nat}{p:PV}{v:Value}{D:Addr}(F:FS L sc σ own env Y Z h ρ)(hi:σ.lookup x=some i)(inj: ∀y,σ.lookup y=some i→y=x)
  (hD:D∈Y)(yP:D≠L.tb)(Ee:D=env.locals∨ ∃u,h.IsCell D u)(S:rz env x v D h h')(hv:VR L.prog L.w h (Y++Z) p v):FS L sc σ own env Y Z h' (ρ.set i (.p p)):=
 F.setG (nv:= .p p) hi inj hD yP Ee S hv fun _ ho=>Bool.noConfusion ho
end
end
section
open PySem
section
variable {L:ig} {sc:Scope} {σ:gO} {own:List Str} {env:b8} {Y Z:List Addr} {ρ:List MV}
theorem FS.done{s s':aq}(F:FS L sc σ own env Y Z s.heap ρ)(d:gN L (Y++Z) s s'):FS L sc σ own env Y Z s'.heap ρ:=
 F.G9 (W:=[]) (fun _ h=>nomatch h) (fun b o hb _ e=>d.keep b o hb e) (fun _ h=>nomatch h) d.xo (fun _ h=>h) (fun _ h=> .inl h) F.apart (fun _ _ _ h=>nomatch h) fun _ _ e _=>e
theorem FS.Hb{s s':aq}{a:Addr}(F:FS L sc σ own env Y Z s.heap ρ)(ha:s.heap.get? a=none)(d:gN L (a::(Y++Z)) s s'):FS L sc σ own env (a::Y) Z s'.heap ρ:=
 F.G9 (W:=[]) (fun _ h=>nomatch h) (fun b o hb _ e=>d.keep b o hb e) (fun _ h=>nomatch h) d.xo (fun _ h=>av _ h) (fun b h=>(List.mem_cons.mp h).elim (fun e=> .inr (e▸ha)) .inl)
  (List.forall_mem_cons.mpr ⟨fun hz=>F.fr.xo.fresh ha (au _ hz),F.apart⟩) (fun _ _ _ h=>nomatch h) fun _ _ e _=>e
noncomputable def FS.Clear(σ:gO)(env:b8)(h:Heap)(ρ:List MV)(i:Nat)(a:Addr):Prop:= ∀z j nh,j≠i→ ¬ Holds σ env h ρ z j nh a
theorem FS.N6{h h':Heap}{x:Str}{i:Nat}{nv:MV}{a:Addr}{D:Addr}(F:FS L sc σ own env Y Z h ρ)(hi:σ.lookup x=some i)(inj: ∀y,σ.lookup y=some i→y=x)
  (hD:D∈Y)(yP:D≠L.tb)(Ee:D=env.locals∨ ∃u,h.IsCell D u)(S:rz env x (.ref a) D h h')(ha:a∈Y)(Ha:a≠env.locals)(pO:FS.Clear σ env h ρ i a)(hv:ru L h (Y++Z) nv (.ref a)):FS L sc σ own env Y Z h' (ρ.set i nv):=
 F.setG hi inj hD yP Ee S hv fun a' _ e=>Value.ref.inj e▸⟨⟨ha,Ha⟩,pO⟩
theorem FS.QI{h h':Heap}{x:Str}{i:Nat}{mv nv:MV}{a:Addr}(F:FS L sc σ own env Y Z h ρ)(hi:σ.lookup x=some i)(inj: ∀y,σ.lookup y=some i→y=x)(jC:ρ[i]? =some mv)(ho:mv.owned=true)(hr:Reads env h x (.ref a))
  (hk: ∀b o,b≠L.tb→b≠a→h.get? b=some o→h'.get? b=some o)(x':XO L (Y++Z) h')(hv:ru L h' (Y++Z) nv (.ref a)):FS L sc σ own env Y Z h' (ρ.set i nv):=by
 have H:Holds σ env h ρ x i mv a:=⟨hi,jC,ho,hr⟩
 obtain⟨Ef,Ha⟩:=F.Fg _ _ _ _ H
 have rZ:a∈Y++Z:=az _ Ef
 have Qg: ∀u,¬ h.IsCell a u:=fun u hu=>by
  obtain⟨N2,Hc,V4⟩:=F.fr.rd x i hi mv jC (nr ho)
  obtain⟨a',aa7,e',_,_,hg,hc⟩:=V4.addr ho
  cases e'.symm.trans (Hc.unique hr)
  exact hu.elim fun o hu=>hc u (Option.some.inj (hu.1.symm.trans hg)▸hu.2)
 have Eg: ∀c u,c≠L.tb→h.IsCell c u→h'.IsCell c u:=fun c u ht hu=>hu.elim fun o x=>⟨o,hk c o ht (fun e=>Qg u (e▸hu)) x.1,x.2⟩
 have xN: ∀m,h.Ns env.locals m→h'.Ns env.locals m:=fun m hn=>hn.at' fun o e=>hk _ o F.fr.locals.1 (Ne.symm Ha) e
 have hrd: ∀y u,Reads env h y u→Reads env h' y u:=fun y u r=>r.map xN fun c u pO=>Eg c u (F.fr.cells y c pO).1
 refine F.gen i x' F.tq (F.ns.elim fun m hn=>⟨m,xN m hn⟩) (fun y c hc=>⟨?_,fun u G4 hu=>⟨G4,u,Eg c u (F.fr.cells y c hc).1 hu⟩⟩) F.apart (fun b o hb e=>⟨hb,hk b o (fun h=>hb (h▸F.fr.xo.tb)) (fun h=>hb (h▸rZ)) e⟩) (fun j mv hj e _=>yO hj▸e) (fun y j v _ _=>hrd y v)
  (fun y j nh b o hj H' ht hg _=>⟨(F.Fg y j nh b H').1,hk b o ht (fun e=>hj (F.sep _ _ _ _ _ _ _ H' (e▸H))) hg⟩) (fun y nh hy e _=> ?_) fun y nh b H'=> ?_
 ·by_cases e:c=a
  ·exact e▸x'.there a rZ
  ·exact(F.fr.cells y c hc).2.elim fun o ho=>⟨o,hk c o (F.fr.cells y c hc).1 e ho⟩
 ·obtain rfl:=we e
  obtain rfl:=inj y hy
  exact⟨.ref a,hrd _ _ hr,hv⟩
 ·obtain rfl:=inj y H'.lk
  obtain rfl:a=b:=Value.ref.inj ((hrd _ _ hr).unique H'.rd)
  exact⟨⟨Ef,Ha⟩,fun z j nh hj Hz=>hj (F.sep _ _ _ _ _ _ _ Hz H)⟩
theorem FS.mut{h h':Heap}{x:Str}{i:Nat}{mv nv:MV}{a:Addr}(F:FS L sc σ own env Y Z h ρ)(hi:σ.lookup x=some i)(inj: ∀y,σ.lookup y=some i→y=x)(jC:ρ[i]? =some mv)(ho:mv.owned=true)(hr:Reads env h x (.ref a))
  (hk: ∀b o,b≠a→h.get? b=some o→h'.get? b=some o)(qD:nv.owned=true)(hv:ru L h' (Y++Z) nv (.ref a)):FS L sc σ own env Y Z h' (ρ.set i nv):=by
 obtain⟨a',o,e,_,ht,hg,_⟩:=hv.addr qD
 skip;(first|exact VS e|cases e)
 exact F.QI hi inj jC ho hr (fun b o _=>hk b o) (F.fr.xo.mut (az _ (F.Fg _ _ _ _ ⟨hi,jC,ho,hr⟩).1) ht hk ⟨o,hg⟩) hv
theorem FS.chg{h h':Heap}{W Z':List Addr}(F:FS L sc σ own env Y Z h ρ)(hW: ∀a∈W,a∈Z)(hk: ∀b o,b≠L.tb→b∉W→h.get? b=some o→h'.get? b=some o)(x':XO L (Y++Z') h')(hZ: ∀a∈Z',a∈Z)
  (hc: ∀x c,env.cells.lookup x=some c→c∉W):FS L sc σ own env Y Z' h' ρ:=
 F.G9 (fun a hw ha=>F.apart a ha (hW a hw)) hk (fun a h=>au _ (hW a h)) x' (fun _ h=>h) (fun a ha=> .inl ((List.mem_append.mp ha).elim (az _) fun h=>au _ (hZ a h))) (fun y hy hz=>F.apart y hy (hZ y hz)) hc fun _ _ e _=>e
theorem FS.N7{Z' X:List Addr}{s s':aq}(F:FS L sc σ own env Y Z s.heap ρ)(d:gN L X s s')(x':XO L (Y++Z') s'.heap)(hZ: ∀a∈Z',a∈Z∨s.heap.get? a=none):FS L sc σ own env Y Z' s'.heap ρ:=
 F.G9 (W:=[]) (fun _ h=>nomatch h) (fun b o hb _ e=>d.keep b o hb e) (fun _ h=>nomatch h) x' (fun _ h=>h) (fun a ha=>(List.mem_append.mp ha).elim (fun h=> .inl (az _ h)) fun h=>(hZ a h).imp (au _) id)
  (fun y hy hz=>(hZ y hz).elim (F.apart y hy) fun h=>F.fr.xo.fresh h (az _ hy)) (fun _ _ _ h=>nomatch h) fun _ _ e _=>e
theorem FS.weaken{h:Heap}{ρ':List MV}(F:FS L sc σ own env Y Z h ρ)(hw: ∀(j:Nat) mv,ρ'[j]? =some mv→ρ[j]? =some mv∨mv= .un):FS L sc σ own env Y Z h ρ':=
 F.G9 (W:=[]) (fun _ h=>nomatch h) (fun _ _ _ _ e=>e) (fun _ h=>nomatch h) F.fr.xo (fun _ h=>h) (fun _ h=> .inl h) F.apart (fun _ _ _ h=>nomatch h) fun j mv e hu=>(hw j mv e).resolve_right hu
end
end
section
open PySem
section
variable {L:ig} {A:aF} {E:Value→aq→Prop} {s:aq}
noncomputable abbrev Hd(L:ig)(A:aF):Prop:=A.handled=L.exc.map Value.ref
noncomputable abbrev HI(L:ig)(s:aq):Prop:=L.exc≠none→Inv L s
theorem qP:plainId "proto.unchain"=true:=by decide+kernel
theorem qQ:entryFor table "proto.unchain"=some aC.«proto.unchain»:=dU (by kernel_rfl)
theorem C2{α:Type}{a:Addr}{o:Obj}{vs:Array Value}{Q:α→aq→Prop}(hH:Hd L A)(I:HI L s)(ha:L.exc≠none→L.look a=none)(ho:s.heap.get? a=some o)(hd:o.data= .fields vs)(hsz:2<vs.size)
  (h: ∀h',(∀b o,b≠a→s.heap.get? b=some o→h'.get? b=some o)→(∃o',h'.get? a=some o'∧o'.cls=o.cls)→E (.ref a) {s with heap:=h'}):wpAny L.M A (raiseNew (.ref a):Sem α) Q E s:=by
 unfold raiseNew
 refine ao (wpAny_handled ?_)
 rw[hH]
 cases he:L.exc with
 |none=>exact ao (aw (fx (h s.heap (fun _ _ _ e=>e) ⟨o,ho,rfl⟩)))
 |some x=>
  obtain⟨ox,vx,hx,QJ,h2⟩:=L.D8 x he
  have hex:L.exc≠none:=by rw[he];simp
  have V6:=(I hex).iA x ox hx
  have js:(Value.ref x !=Value.ref a)=true:=by
   have:x≠a:=fun e=>by rw[e,ha hex] at hx;(first|exact VS hx|cases hx)
   simpa using this
  show wpAny _ _ (if (Value.ref x !=Value.ref a)=true then _ else _) _ _ s
  rw[if_pos js]
  refine ao (aP (wpAny_runValue (aR qQ ?_)))
  rw[aI qP _]
  show wpAny _ _ (field (.ref x) 2>>= _) _ _ s
  refine ao (aT V6 QJ h2 ?_)
  show wpAny _ _ (if (Value.none==Value.none)=true then _ else _) _ _ s
  rw[if_pos (by decide)]
  refine ao (aw (aw ?_))
  unfold updateField
  refine ao (ao (wpAny_load ho ?_))
  rw[hd]
  show wpAny _ _ (if 2<vs.size then _ else _) _ _ s
  rw[if_pos hsz]
  refine wpAny_update ho (fx (h _ (fun b o hb e=>(Heap.SameBut.update ..).extBut b o hb e) ⟨_,aQ _ ho (Obj.isFreed_of_fields (Obj.data_mapFields hd _)),Obj.cls_mapFields ..⟩))
theorem zJ{α:Type}{Q:α→aq→Prop}(hH:Hd L A)(I:HI L s)(h: ∀h' e,(∀b o,s.heap.get? b=some o→h'.get? b=some o)→(∃o,h'.get? e=some o∧o.cls= .type "StopIteration")→E (.ref e) {s with heap:=h'}):
  wpAny L.M A (newExc (.type "StopIteration") []>>= fun e=>(raiseNew e:Sem α)) Q E s:=by
 refine ao ?_
 simp only[newExc,newTuple]
 refine ao (bl ?_ (by size_fits))
 refine ao (m:=firstArgMember _ _) (cw (a:=Value.none) (by first|rfl|(simp only[firstArgMember];rfl)) ?_)
 refine bl ?_ (by size_fits)
 have k1: ∀b o,s.heap.get? b=some o→(s.heap.push {cls:= .type "tuple",data:= .seq #[]}).get? b=some o:=fun b o e=>ay _ e
 refine C2 hH (fun x=>(I x).keeps (tk:=s.toks) fun b o e=>ay _ (ay _ e)) (fun x=> ?_) (aB _ rfl) rfl (by simp;omega) fun h' hk hx=> ?_
 ·cases e:L.look (s.heap.push {cls:= .type "tuple",data:= .seq #[]}).objs.size with
  |none=>rfl
  |some o=>
   have:=k1 _ _ ((I x).iA _ _ e)
   exact absurd (aH this) (bE _)
 ·refine h h' _ (fun b o e=>hk b o ?_ (ay _ (ay _ e))) hx
  rintro rfl
  exact absurd (aH (k1 _ _ e)) (bE _)
noncomputable def Fh(L:ig)(A:aF)(B:aC)(it:Addr)(s:aq):Prop:= ∀(Q:Fin→aq→Prop) (E:Value→aq→Prop),(∀h' e,cX it s.heap h'→(∃o,h'.get? e=some o∧o.cls= .type "StopIteration")→E (.ref e) {s with heap:=h'})→wpAny L.M A (B ⟨[.ref it],[]⟩) Q E s
theorem nX{it l:Addr}{i:Nat}{items:Array Value}(hH:Hd L A)(I:HI L s)(hit:s.heap.IsListIter it l i)(hn:L.exc≠none→L.look it=none)(hl:s.heap.IsList l items)(hx:items[i]? =none):Fh L A aC.«list_iterator.__next__» it s:=by
 intro Q E h
 obtain⟨o,ho,hc,hd⟩:=id hit
 obtain⟨ol,Kj,_,nl,Kk⟩:=hl
 show wpAny _ _ (field (.ref it) 0>>= _) _ _ s
 refine ao (aT ho hd (x:= .ref l) rfl ?_)
 show wpAny _ _ (if (Value.ref l==Value.none)=true then _ else _) _ _ s
 rw[if_neg (show ¬ ((Value.ref l==Value.none)=true) from bk)]
 show wpAny _ _ (field (.ref it) 1>>= _) _ _ s
 refine ao (aT ho hd (x:= .int i 0) rfl ?_)
 show wpAny _ _ (seqItems? (.ref l)>>= _) _ _ s
 refine ao (aW Kj Kk ?_)
 simp only[bG,hx]
 refine ao (cR (ao (cC ho hd (by simp) ?_)))
 have hs:=Heap.SameBut.update s.heap it (Obj.mapFields (·.setIfInBounds 0 Value.none))
 refine zJ hH (fun x=>⟨fun a o e=>hs.extBut a o (fun e'=>by rw[e',hn x] at e;(first|exact VS e|cases e)) ((I x).iA a o e),(I x).bare⟩) fun h' e hk he=>h h' e (fun b o hb e=>hk b o (hs.extBut b o hb e)) he
theorem rA{it l:Addr}{i:Nat}{items:Array Value}(hH:Hd L A)(I:HI L s)(hit:s.heap.IsTupleIter it l i)(hn:L.exc≠none→L.look it=none)(hl:s.heap.IsTuple l items)(hx:items[i]? =none):Fh L A aC.«tuple_iterator.__next__» it s:=by
 intro Q E h
 obtain⟨o,ho,hc,hd⟩:=id hit
 obtain⟨ol,Kj,_,nl,Kk⟩:=hl
 show wpAny _ _ (field (.ref it) 0>>= _) _ _ s
 refine ao (aT ho hd (x:= .ref l) rfl ?_)
 show wpAny _ _ (if (Value.ref l==Value.none)=true then _ else _) _ _ s
 rw[if_neg (show ¬ ((Value.ref l==Value.none)=true) from bk)]
 show wpAny _ _ (field (.ref it) 1>>= _) _ _ s
 refine ao (aT ho hd (x:= .int i 0) rfl ?_)
 show wpAny _ _ (seqItems? (.ref l)>>= _) _ _ s
 refine ao (aW Kj Kk ?_)
 simp only[bG,hx]
 refine ao (cR (ao (cC ho hd (by simp) ?_)))
 have hs:=Heap.SameBut.update s.heap it (Obj.mapFields (·.setIfInBounds 0 Value.none))
 refine zJ hH (fun x=>⟨fun a o e=>hs.extBut a o (fun e'=>by rw[e',hn x] at e;(first|exact VS e|cases e)) ((I x).iA a o e),(I x).bare⟩) fun h' e hk he=>h h' e (fun b o hb e=>hk b o (hs.extBut b o hb e)) he
theorem C3{it:Addr}{x left step:Int}(hH:Hd L A)(I:HI L s)(hit:IsRangeIter s.heap it x left step)(QK:left≤0):Fh L A aC.«range_iterator.__next__» it s:=by
 intro Q E h
 show wpAny _ _ (field (.ref it) 0>>= _) _ _ s
 refine ao (aT hit rfl (x:=rawInt x) rfl ?_)
 show wpAny _ _ (field (.ref it) 1>>= _) _ _ s
 refine ao (aT hit rfl (x:=rawInt left) rfl ?_)
 show wpAny _ _ (field (.ref it) 2>>= _) _ _ s
 refine ao (aT hit rfl (x:=rawInt step) rfl ?_)
 show wpAny _ _ (if left≤0 then _ else _) _ _ s
 rw[if_pos QK]
 refine ao (cR ?_)
 refine ao ?_
 exact zJ hH I fun h' e hk he=>h h' e (fun b o _ e=>hk b o e) he
theorem C4{it:Addr}{x:Str}{t:gj}{i:Nat}(hH:Hd L A)(I:HI L s)(hit:s.heap.IsStrIter it "str_ascii_iterator" x t i)(hn:L.exc≠none→L.look it=none)(hx:x.cps[i]? =none):Fh L A aC.«str_ascii_iterator.__next__» it s:=by
 intro Q E h
 obtain⟨o,ho,hc,hd⟩:=id hit
 show wpAny _ _ (field (.ref it) 0>>= _) _ _ s
 refine ao (aT ho hd (x:= .str x t) rfl ?_)
 show wpAny _ _ (field (.ref it) 1>>= _) _ _ s
 refine ao (aT ho hd (x:= .int i 0) rfl ?_)
 simp only[bG,hx]
 refine ao (cR (ao (cC ho hd (by simp) (ao (cI ?_)))))
 have hs:=Heap.SameBut.update s.heap it (Obj.mapFields (·.setIfInBounds 0 (rawInt 0)))
 refine zJ hH (fun x=>⟨fun a o e=>(Heap.SameBut.update ..).extBut a o (fun e'=>by rw[e',hn x] at e;(first|exact VS e|cases e)) ((I x).iA a o e),(I x).bare⟩) fun h' e hk he=>h h' e (fun b o hb e=>hk b o ((Heap.SameBut.update ..).extBut b o hb e)) he
theorem kG{T id:String}{B:aC}{it:Addr}{Q:Option Value→aq→Prop}(slot:Slot T (Str.ofString "__next__") id)(entry:entryFor table id=some B)(args:argsOk id ⟨[.ref it],[]⟩)(hT:s.TypeIs (.ref it) T)(h:Fh L A.in1 B it s)
  (hQ: ∀h',cX it s.heap h'→Q none {s with heap:=h'}):wpAny L.M A (pyNext (.ref it)) Q E s:=by
 unfold pyNext
 refine ao (dv (bq (name:=Str.ofString "__next__") hT slot
  (bw slot hT entry (h _ _ fun h' e hk he=> ?_) args)))
 obtain⟨o,ho,hc⟩:=he
 refine ao (dj (T:="StopIteration") (b:=true) ⟨o,ho,hc⟩ fA ?_)
 exact aw (hQ _ hk)
theorem uz{T id:String}{B:aC}{it:Addr}{Q:Value→aq→Prop}(slot:Slot T (Str.ofString "__next__") id)(entry:entryFor table id=some B)(args:argsOk id ⟨[.ref it],[]⟩)(hT:s.TypeIs (.ref it) T)(h:Fh L A.in1 B it s)
  (hE: ∀h' e,cX it s.heap h'→(∃o,h'.get? e=some o∧o.cls= .type "StopIteration")→E (.ref e) {s with heap:=h'}):wpAny L.M A (aC.SmallTypes.nextOf (.ref it)) Q E s:=by
 unfold aC.SmallTypes.nextOf
 exact ao (bq (name:=Str.ofString "__next__") hT slot
  (bw slot hT entry (h _ _ fun h' e hk he=>hE h' e hk he) args))
theorem wg(I:Inv L s):L.look s.heap.objs.size=none:=by
 cases e:L.look s.heap.objs.size with
 |none=>rfl
 |some o=>have:=I.iA _ _ e;rw[g9] at this;(first|exact VS this|cases this)
theorem pT{t:Addr}{items:Array Value}{Q:List Value→aq→Prop}(hH:Hd L A)(I:Inv L s)(ht:eI s.heap t items)
  (hQ: ∀h',cX s.heap.objs.size s.heap h'→Q items.toList {s with heap:=h'}):wpAny L.M A (unpackItems (.ref t) items.size none) Q E s:=by
 have jF:t≠s.heap.objs.size:=by obtain⟨o,ho,_⟩:=ht;exact dC (aH ho)
 have zK:=wg I
 unfold unpackItems
 refine ao ?_
 unfold notIterableAtAll
 refine ao (bF ht.typeIs F.slot_tuple_iter.lookup (aw ?_))
 simp only[aV,if_false]
 refine ao (aP (PyProof.Rows.iter_tuple ht ?_))
 refine ao (aP (PyProof.Rows.draw_tuple jF items.size 0 _ _ ⟨_,aB _ rfl,rfl,rfl⟩ (ht.push _) (by omega) fun h₁ wh jk=> ?_))
 have C5:List.take items.size (List.drop 0 items.toList)=items.toList:=by rw[eZ];exact cg (by simp)
 rw[C5,if_neg (by simp)]
 have QL:eI h₁ t items:=(ht.push _).extBut jk.extBut jF
 have uV:Inv L {s with heap:=h₁}:=⟨fun a o e=>jk.extBut a o (fun e'=>by rw[e',zK] at e;(first|exact VS e|cases e)) (ay _ (I.iA a o e)),I.bare⟩
 refine ao (aP (kG cz cY (cT _) (s:={s with heap:=h₁}) (Heap.IsTupleIter.typeIs wh) (rA (s:={s with heap:=h₁}) hH (fun _=>uV) wh (fun _=>zK) QL (by simp)) fun h₂ yQ=> ?_))
 simp only[Option.isSome_none,aV,if_false]
 exact aw (hQ h₂ fun b o hb e=>yQ b o hb (jk.extBut b o hb (ay _ e)))
theorem xO{l:Addr}{items:Array Value}{Q:List Value→aq→Prop}(hH:Hd L A)(I:Inv L s)(hl:s.heap.IsList l items)
  (hQ: ∀h',cX s.heap.objs.size s.heap h'→Q items.toList {s with heap:=h'}):wpAny L.M A (unpackItems (.ref l) items.size none) Q E s:=by
 have jF:l≠s.heap.objs.size:=by obtain⟨o,ho,_⟩:=hl;exact dC (aH ho)
 have zK:=wg I
 unfold unpackItems
 refine ao ?_
 unfold notIterableAtAll
 refine ao (bF hl.typeIs slot_list_iter.lookup (aw ?_))
 simp only[aV,if_false]
 refine ao (aP (cG hl ?_))
 refine ao (aP (PySem.W.kun_draw jF items.size 0 _ _ ⟨_,aB _ rfl,rfl,rfl⟩ (hl.push _) (by omega) fun h₁ wh jk=> ?_))
 have C5:List.take items.size (List.drop 0 items.toList)=items.toList:=by rw[eZ];exact cg (by simp)
 rw[C5,if_neg (by simp)]
 have Eh:h₁.IsList l items:=(hl.push _).extBut jk.extBut jF
 have uV:Inv L {s with heap:=h₁}:=⟨fun a o e=>jk.extBut a o (fun e'=>by rw[e',zK] at e;(first|exact VS e|cases e)) (ay _ (I.iA a o e)),I.bare⟩
 refine ao (aP (kG bS ck (cD _) (s:={s with heap:=h₁}) (Heap.IsListIter.typeIs wh) (nX (s:={s with heap:=h₁}) hH (fun _=>uV) wh (fun _=>zK) Eh (by simp)) fun h₂ yQ=> ?_))
 simp only[Option.isSome_none,aV,if_false]
 exact aw (hQ h₂ fun b o hb e=>yQ b o hb (jk.extBut b o hb (ay _ e)))
end
end
section
open PySem
section
variable {L:ig} {sc:Scope} {σ:gO} {own:List Str}
noncomputable def lb(σ:gO)(x:Str)(i:Nat):Prop:=σ.lookup x=some i∧ ∀y,σ.lookup y=some i→y=x
theorem Ei: ∀{r:gO} {w:Str} {i:Nat},r.lookup w=some i→i∈r.map (·.2):=by
 intro r
 induction r with
 |nil=>exact @fun _ _ h=>hO h
 |cons q0 r iu=>
  obtain⟨a,b⟩:=q0
  intro w i h
  rw[bD] at h
  cases hx:w==a with
  |true=>rw[hx] at h;exact Option.some.inj h▸aA ..
  |false=>rw[hx] at h;exact av _ (iu h)
theorem gM: ∀{σ:gO} {x:Str} {i:Nat},σ.lookup x=some i→(σ.map (·.2)).Nodup→lb σ x i:=by
 intro σ
 induction σ with
 |nil=>exact @fun _ _ h _=>hO h
 |cons q0 r iu=>
  obtain⟨y,j⟩:=q0
  intro x i h hn
  have hn:=List.nodup_cons.mp hn
  refine⟨h,fun z hz=> ?_⟩
  rw[bD] at h hz
  cases hx:x==y<;>cases Z2:z==y<;>rw[hx] at h<;>rw[Z2] at hz
  ·exact(iu h hn.2).2 z hz
  ·exact absurd (Ei h) (Option.some.inj hz▸hn.1)
  ·exact absurd (Ei hz) (Option.some.inj h▸hn.1)
  ·exact(eq_of_beq Z2).trans (eq_of_beq hx).symm
theorem FS.bind{env:b8}{Y Z:List Addr}{ρ:List MV}{A:aF}{s:aq}{E:Value→aq→Prop}{Q:Unit→aq→Prop}{x:Str}{i:Nat}{p:PV}{v:Value}(F:FS L sc σ own env Y Z s.heap ρ)(I:Inv L s)(hx:x∈own)(hi:lb σ x i)
  (hv:VR L.prog L.w s.heap (Y++Z) p v)(hQ: ∀s',FS L sc σ own env Y Z s'.heap (ρ.set i (.p p))→gS L Y s s'→Q () s'):wpAny L.M A (PySem.storeName env x v) Q E s:=by
 refine F.storeName hx fun D h' tk hD yP Ee S=>hQ _ (F.set hi.1 hi.2 hD yP Ee S hv) ⟨fun b o _ hb e=>S.keep b o (fun e=>hb (e▸hD)) e,⟨fun a o e=>S.keep a o ?_ (I.iA a o e),I.bare⟩,rfl,rfl⟩
 rintro rfl
 exact hO ((F.fr.xo.look _ (az _ hD)).symm.trans e)
noncomputable def AS(L:ig)(sc:Scope)(σ:gO)(own:List Str)(t:aM)(u:PV→List MV→Option (List MV)):Prop:=
 ∀(env:b8) (A:aF) (Y Z:List Addr) (s:aq) (ρ ρ':List MV) (p:PV) (v:Value) (Q:Unit→aq→Prop) (E:Value→aq→Prop),
  i5 L 0 A→FS L sc σ own env Y Z s.heap ρ→Inv L s→VR L.prog L.w s.heap (Y++Z) p v→u p ρ=some ρ'→
  (∀s',FS L sc σ own env Y Z s'.heap ρ'→gS L Y s s'→Q () s')→wpAny L.M A (assign t env v) Q E s
theorem AS.name{x:Str}{i:Nat}{pos:cP}(hx:x∈own)(hi:lb σ x i):AS L sc σ own (.Name x pos) (fun p ρ=>some (ρ.set i (.p p))):=by
 intro env A Y Z s ρ ρ' p v Q E R F I hv hu hQ
 skip;(first|exact VS hu|cases hu)
 exact cV (F.bind I hx hi hv hQ)
noncomputable def pU:List Nat→List PV→List MV→Option (List MV)
 |[],[],ρ=>some ρ
 |i::is,p::ps,ρ=>pU is ps (ρ.set i (.p p))
 |_,_,_=>none
theorem gS.up{Y Z:List Addr}{s s':aq}(d:gS L Y s s')(x:XO L (Y++Z) s.heap):Up s.heap (Y++Z) s'.heap (Y++Z):=fun a o ha e=>⟨ha,d.keep a o (fun h=>ha (h▸x.tb)) (fun h=>ha (az _ h)) e⟩
inductive i4 (own:List Str) (σ:gO):List Str→List Nat→Prop
 |nil:i4 own σ [] []
 |cons {x:Str} {i:Nat} {xs:List Str} {is:List Nat}:x∈own→lb σ x i→i4 own σ xs is→i4 own σ (x::xs) (i::is)
noncomputable def lj:PV→Option (List PV)
 | .tup l=>some l
 | .list l=>some l
 |_=>none
theorem wi{X:List Addr}{A:aF}{E:Value→aq→Prop}{s:aq}{p:PV}{l:List PV}{v:Value}{n:Nat}{Q:List Value→aq→Prop}(hh:Hd L A)(I:Inv L s)(x:XO L X s.heap)(hp:lj p=some l)(hv:VR L.prog L.w s.heap X p v)(hn:n=l.length)
  (hQ: ∀vs s',gV L.prog L.w s'.heap X l vs→gN L X s s'→Q vs s'):wpAny L.M A (unpackItems v n none) Q E s:=by
 have key: ∀(xs:Array Value),gV L.prog L.w s.heap X l xs.toList→ ∀h',cX s.heap.objs.size s.heap h'→Q xs.toList {s with heap:=h'}:=by
  intro xs hl h' he
  have d:gN L X s {s with heap:=h'}:=gN.of_keep I x (fun b o e=>he b o (fun e'=>by rw[e',g9] at e;(first|exact VS e|cases e)) e) s.toks
  exact hQ _ _ (gV.up d.up hl) d
 cases p<;>try exact hO hp
 ·(first|exact VS hp|cases hp)
  exact hv.Kc fun a xs k ha ho hl=>by
   rw[hn,←hl.size]
   exact pT hh I ⟨_,ho,rfl,_,rfl⟩ (key xs hl)
 ·(first|exact VS hp|cases hp)
  exact hv.yF fun a xs k ha ho hl=>by
   rw[hn,←hl.size]
   exact xO hh I ⟨_,ho,rfl,_,rfl⟩ (key xs hl)
inductive ia:List aM→List Str→Prop
 |nil:ia [] []
 |cons {x:Str} {p:cP} {es:List aM} {xs:List Str}:ia es xs→ia (.Name x p::es) (x::xs)
theorem ia.len{env:b8}{es:List aM}{xs:List Str}(h:ia es xs):(assignEach es env).length=xs.length:=by
 induction h with
 |nil=>rfl
 |cons _ ih=>exact congrArg (· +1) ih
theorem ia.find{env:b8}{es:List aM}{xs:List Str}(h:ia es xs):(assignEach es env).findIdx? (·.1)=none:=by
 induction h with
 |nil=>rfl
 |cons _ ih=>exact List.findIdx?_cons.trans (congrArg (Option.map (· +1)) ih)
theorem He{es:List aM}{xs:List Str}(hn:ia es xs): ∀{is:List Nat} {ps:List PV} {ρ ρ':List MV},i4 own σ xs is→pU is ps ρ=some ρ'→xs.length=ps.length:=by
 induction hn with
 |nil=>intro is ps ρ ρ' h e;(first|exact VS h|cases h);cases ps<;>first|rfl|exact hO e
 |cons _ ih=>intro is ps ρ ρ' h e;cases h with|cons _ _ h=>cases ps<;>first|exact hO e|exact congrArg (· +1) (ih h e)
theorem FS.bindL{env:b8}{Y Z:List Addr}{A:aF}{E:Value→aq→Prop}{Q:Unit→aq→Prop}{es:List aM}{xs:List Str}(hn:ia es xs): ∀{is:List Nat} {ps:List PV} {vs:List Value} {ρ ρ':List MV} {s:aq},i4 own σ xs is→FS L sc σ own env Y Z s.heap ρ→Inv L s→gV L.prog L.w s.heap (Y++Z) ps vs→pU is ps ρ=some ρ'→
  (∀s',FS L sc σ own env Y Z s'.heap ρ'→gS L Y s s'→Q () s')→wpAny L.M A (assignInOrder ((assignEach es env).map (·.2)) vs) Q E s:=by
 induction hn with
 |nil=>
  intro is ps vs ρ ρ' s h F I hv hu hQ
  skip;(first|exact VS h|cases h)
  cases ps<;>try exact hO hu
  obtain rfl:=hv
  skip;(first|exact VS hu|cases hu)
  exact dq (hQ _ F (gS.refl I))
 |cons _ ih=>
  intro is ps vs ρ ρ' s h F I hv hu hQ
  cases h with
  |cons hx hi hr=>
   cases ps<;>try exact hO hu
   obtain⟨v,r,rfl,h1,h2⟩:=hv
   exact dh (cV (F.bind I hx hi h1 fun s₁ jq iE=>ih hr jq iE.inv (gV.up (iE.up F.fr.xo) h2) hu fun s' F' d'=>hQ s' F' (iE.trans (fun b h=> .inl h) d')))
theorem AS.tup{es:List aM}{xs:List Str}{is:List Nat}{k:Nat}{pos:cP}(hn:ia es xs)(hi:i4 own σ xs is):
  AS L sc σ own (.Tuple es k pos) (fun p ρ=>(lj p).bind fun l=>pU is l ρ):=by
 intro env A Y Z s ρ ρ' p v Q E R F I hv hu hQ
 replace hu:=Option.bind_eq_some_iff.mp hu
 obtain⟨l,hl,hu⟩:=hu
 rw[arm_assign_Tuple]
 refine ao (bX ?_)
 unfold unpack
 rw[hn.find]
 exact ao (aP (wi (s:=s) R.handled I F.fr.xo hl hv (hn.len.trans (He hn hi hu)) fun vs s₁ jE d=>FS.bindL hn hi (F.done d) d.inv jE hu fun s' F' d'=>hQ s' F' ((gS.jQ d).trans (fun b h=> .inl h) d')))
end
end
section
open PySem
noncomputable def pV(t:aM):Bool:=t.ctorIdx==(aM.Tuple [] 0 default).ctorIdx
theorem rB{t:aM}(h:pV t=true): ∃es k p,t= .Tuple es k p:=aM.Tuple.elim t (eq_of_beq h) fun _ _ _=>⟨_,_,_,rfl⟩
theorem all1{P:Addr→Prop}{x:Addr}(hx:P x): ∀a∈[x],P a:=fun _ h=>List.mem_singleton.mp h▸hx
theorem kA{P:Addr→Prop}{x:Addr}{l:List Addr}(hx:P x)(hl: ∀a∈l,P a): ∀a∈x::l,P a:=List.forall_mem_cons.mpr ⟨hx,hl⟩
theorem uW{x:Addr}{l:List Addr}:x∈x::l:=aA ..
theorem in1{x y:Addr}{l:List Addr}:y∈x::y::l:=av _ (aA ..)
structure It(L:ig)(X wr:List Addr)(I:Addr)(ps:List PV)(St:Nat→Heap→Prop)(tt:Bool):Prop where
 N8: ∀a∈wr,a∈X
 there: ∀i h,St i h→ ∀a∈wr,∃o,h.get? a=some o
 frame: ∀i h h',St i h→(∀b o,(b∈X→b∈wr)→h.get? b=some o→h'.get? b=some o)→St i h'
 self: ∀(A:aF) i (s:aq) (Q:Value→aq→Prop) (E:Value→aq→Prop),St i s.heap→Q (.ref I) s→wpAny L.M A (pyIter (.ref I)) Q E s
 turn: ∀(A:aF) i (s:aq) p (Q:Value→aq→Prop) (E:Value→aq→Prop) Hf,i5 L 0 A→XO L X s.heap→Inv L s→St i s.heap→ps[i]? =some p→(tt=true→pV Hf=true)→
  (∀v s',VR L.prog L.w s'.heap X p v→St (i+1) s'.heap→gS L wr s s'→XO L X s'.heap→Q v s')→
  wpAny L.M A (pyNext (.ref I)) (fun r s₁=> ∃v,r=some v∧wpAny L.M A (letOwnedTupleGo Hf (.ref I) v) (fun _ gZ=>Q v gZ) E s₁) E s
 done: ∀(A:aF) (s:aq) (Q:Option Value→aq→Prop) (E:Value→aq→Prop),i5 L 0 A→XO L X s.heap→Inv L s→St ps.length s.heap→
  (∀s',gS L wr s s'→(∀b o,b∉wr→s.heap.get? b=some o→s'.heap.get? b=some o)→Q none s')→wpAny L.M A (pyNext (.ref I)) Q E s
theorem XO.rC{L:ig}{X wr:List Addr}{h h':Heap}(x:XO L X h)(hw: ∀a∈wr,a∈X)(hk: ∀b o,b∉wr→h.get? b=some o→h'.get? b=some o)(ht:L.tb∉wr)(hex: ∀a∈wr,∃o,h'.get? a=some o):XO L X h' where
 tb:=x.tb
 sm:=x.sm
 there:=fun a ha=>by
  by_cases e:a∈wr
  ·exact hex a e
  ·obtain⟨o,ho⟩:=x.there a ha;exact⟨o,hk a o e ho⟩
 look:=x.look
 tab:=by
  obtain⟨fp,hf,hn⟩:=x.tab
  refine⟨fp,L.vS _ _ fp hf fun b o hb e=>hk b o ?_ e,hn⟩
  intro hm
  rcases hb with rfl|hb
  ·exact ht hm
  ·exact hn _ hb (hw _ hm)
theorem XO.after{L:ig}{X X' wr:List Addr}{h h':Heap}(x:XO L X h)(hw: ∀a∈wr,a∈X)(hk: ∀b o,b∉wr→h.get? b=some o→h'.get? b=some o)(hs: ∀a∈X',a∈X∧a∉wr)(h1:L.tb∈X')(h2:sysModules∈X'):XO L X' h' where
 tb:=h1
 sm:=h2
 there:=fun a ha=>by obtain⟨o,ho⟩:=x.there a (hs a ha).1;exact⟨o,hk a o (hs a ha).2 ho⟩
 look:=fun a ha=>x.look a (hs a ha).1
 tab:=by
  obtain⟨fp,hf,hn⟩:=x.tab
  refine⟨fp,L.vS _ _ fp hf fun b o hb e=>hk b o ?_ e,fun a ha h=>hn a ha (hs a h).1⟩
  intro hm
  rcases hb with rfl|hb
  ·exact(hs _ h1).2 hm
  ·exact hn _ hb (hw _ hm)
theorem Inv.rC{L:ig}{X wr:List Addr}{s:aq}(I:Inv L s)(x:XO L X s.heap)(hw: ∀a∈wr,a∈X){h':Heap}(hk: ∀b o,b∉wr→s.heap.get? b=some o→h'.get? b=some o)(tk:Nat):Inv L {s with heap:=h',toks:=tk}:=
 ⟨fun a o e=>hk a o (fun hm=>by rw[x.look a (hw a hm)] at e;(first|exact VS e|cases e)) (I.iA a o e),I.bare⟩
theorem gS.rC{L:ig}{X wr:List Addr}{s:aq}(I:Inv L s)(x:XO L X s.heap)(hw: ∀a∈wr,a∈X){h':Heap}(hk: ∀b o,b∉wr→s.heap.get? b=some o→h'.get? b=some o)(tk:Nat):gS L wr s {s with heap:=h',toks:=tk}:=
 ⟨fun b o _ hb e=>hk b o hb e,I.rC x hw hk tk,rfl,rfl⟩
theorem Ej{X wr:List Addr}{h h':Heap}(hw: ∀a∈wr,a∈X)(hk: ∀b o,b∉wr→h.get? b=some o→h'.get? b=some o):Up h X h' X:=fun a o ha e=>⟨ha,hk a o (fun h=>ha (hw a h)) e⟩
theorem Bm{L:ig}{A:aF}{s:aq}{I:Addr}{o:Obj}{n:String}{Hf:aM}{v:Value}{Q:Unit→aq→Prop}{E:Value→aq→Prop}(ho:s.heap.get? I=some o)(hc:o.cls= .type n)
  (hn:["enumerate","zip","dict_itemiterator","dict_reverseitemiterator","odict_iterator","itertools.zip_longest","itertools.pairwise"].contains n=false)(h:Q () s):wpAny L.M A (letOwnedTupleGo Hf (.ref I) v) Q E s:=by
 obtain⟨cls,dd,data,sl⟩:=o
 obtain rfl:cls= .type n:=hc
 have key: ∀(a:Addr) (p:cP),wpAny L.M A (letOwnedTupleGo (.Tuple [] 0 p) (.ref I) (.ref a)) Q E s:=fun a p=>by
  show wpAny _ A (load I>>= _) Q E s
  refine ao (wpAny_load ho ?_)
  cases data<;>try exact aw h
  show wpAny _ A (if (["enumerate","zip","dict_itemiterator","dict_reverseitemiterator","odict_iterator","itertools.zip_longest","itertools.pairwise"].contains n&&_)=true then _ else _) Q E s
  rw[hn]
  exact aw h
 cases Hf<;>try exact aw h
 all_goals (cases v<;>try exact aw h)
 ·exact key _ ‹cP›
 ·exact key _ ‹cP›
section
variable {L:ig} {X:List Addr} {I:Addr}
theorem up1{h h':Heap}(hI:I∈X)(hk: ∀b o,b≠I→h.get? b=some o→h'.get? b=some o):Up h X h' X:=fun a o ha e=>⟨ha,hk a o (fun h=>ha (h▸hI)) e⟩
noncomputable def PlainAt(h:Heap)(I:Addr):Prop:= ∃o n,h.get? I=some o∧o.cls= .type n∧["enumerate","zip","dict_itemiterator","dict_reverseitemiterator","odict_iterator","itertools.zip_longest","itertools.pairwise"].contains n=false
theorem It.one{ps:List PV}{St:Nat→Heap→Prop}(hI:I∈X)(ht:I≠L.tb)(there: ∀i h,St i h→PlainAt h I)
  (frame: ∀i h h',St i h→(∀b o,(b∈X→b=I)→h.get? b=some o→h'.get? b=some o)→St i h')
  (self: ∀(A:aF) i (s:aq) (Q:Value→aq→Prop) (E:Value→aq→Prop),St i s.heap→Q (.ref I) s→wpAny L.M A (pyIter (.ref I)) Q E s)
  (turn: ∀(A:aF) i (s:aq) p (Q:Option Value→aq→Prop) (E:Value→aq→Prop),St i s.heap→ps[i]? =some p→(∀v h' tk,VR L.prog L.w h' X p v→St (i+1) h'→(∀b o,b≠I→s.heap.get? b=some o→h'.get? b=some o)→Q (some v) {s with heap:=h',toks:=tk})→wpAny L.M A (pyNext (.ref I)) Q E s)
  (done: ∀(A:aF) (s:aq) (Q:Option Value→aq→Prop) (E:Value→aq→Prop),i5 L 0 A→Inv L s→L.look I=none→St ps.length s.heap→(∀h' tk,(∀b o,b≠I→s.heap.get? b=some o→h'.get? b=some o)→Q none {s with heap:=h',toks:=tk})→wpAny L.M A (pyNext (.ref I)) Q E s):It L X [I] I ps St false where
 N8:=all1 hI
 there:=fun i h st=>let ⟨o,_,e,_⟩:=there i h st;all1 ⟨o,e⟩
 frame:=fun i h h' st hk=>frame i h h' st fun b o hb=>hk b o fun hx=>List.mem_singleton.mpr (hb hx)
 self:=self
 turn:=fun A i s p Q E Hf R x Iv st hp _ hQ=>turn A i s p _ E st hp fun v h' tk hv C6 hk=>by
  have oN: ∀b o,b∉[I]→s.heap.get? b=some o→h'.get? b=some o:=fun b o hb=>hk b o fun e=>hb (List.mem_singleton.mpr e)
  obtain⟨o,n,ho,hc,hn⟩:=there _ _ C6
  exact⟨v,rfl,Bm ho hc hn (hQ v _ hv C6 (gS.rC Iv x (all1 hI) oN _) (x.rC (all1 hI) oN (fun h=>ht (List.mem_singleton.mp h).symm) (all1 ⟨o,ho⟩)))⟩
 done:=fun A s Q E R x Iv st hQ=>done A s Q E R Iv (x.look I hI) st fun h' tk hk=>by
  have oN: ∀b o,b∉[I]→s.heap.get? b=some o→h'.get? b=some o:=fun b o hb=>hk b o fun e=>hb (List.mem_singleton.mpr e)
  exact hQ _ (gS.rC Iv x (all1 hI) oN _) oN
theorem It.list{ax:Addr}{ps:List PV}(hI:I∈X)(ht:I≠L.tb):It L X [I] I ps (fun i h=>h.IsListIter I ax i∧VR L.prog L.w h X (.list ps) (.ref ax)) false:=by
 refine It.one hI ht (fun i h st=> ?_) (fun i h h' st hk=>⟨st.1.at fun o e=>hk I o (fun _=>rfl) e,st.2.up fun a o ha e=>⟨ha,hk a o (fun h=>absurd h ha) e⟩⟩) (fun A i s Q E st hQ=>wpAny_pyIter_listiter st.1 hQ) (fun A i s p Q E st hp hQ=> ?_) fun A s Q E R Iv N9 st hQ=> ?_
 ·obtain⟨⟨o,ho,hc,_⟩,_⟩:=st
  exact⟨o,_,ho,hc,by decide⟩
 ·obtain⟨a,xs,n,e,ha,ho,hl⟩:=st.2.listE
  skip;(first|exact VS e|cases e)
  refine hl.zy hp fun v hv hr=> ?_
  exact cm st.1 ⟨_,ho,rfl,_,rfl⟩ hv fun h' md km=>have hk:=fun b o hb e=>km.extBut b o hb e;hQ v h' _ (hr.up (up1 hI hk)) ⟨md,st.2.up (up1 hI hk)⟩ hk
 ·obtain⟨a,xs,n,e,ha,ho,hl⟩:=st.2.listE
  skip;(first|exact VS e|cases e)
  have e1:=hl.size
  exact kG bS ck (cD _) st.1.typeIs (nX R.handled (fun _=>Iv) st.1 (fun _=>N9) ⟨_,ho,rfl,_,rfl⟩ (aO (ba e1))) fun h' td=>hQ h' _ fun b o hb e=>td b o hb e
theorem It.tup{ax:Addr}{ps:List PV}(hI:I∈X)(ht:I≠L.tb):It L X [I] I ps (fun i h=>h.IsTupleIter I ax i∧VR L.prog L.w h X (.tup ps) (.ref ax)) false:=by
 refine It.one hI ht (fun i h st=> ?_) (fun i h h' st hk=>⟨st.1.at fun o e=>hk I o (fun _=>rfl) e,st.2.up fun a o ha e=>⟨ha,hk a o (fun h=>absurd h ha) e⟩⟩) (fun A i s Q E st hQ=>wpAny_pyIter_tupleiter st.1 hQ) (fun A i s p Q E st hp hQ=> ?_) fun A s Q E R Iv N9 st hQ=> ?_
 ·obtain⟨⟨o,ho,hc,_⟩,_⟩:=st
  exact⟨o,_,ho,hc,by decide⟩
 ·obtain⟨a,xs,n,e,ha,ho,hl⟩:=st.2.mK
  skip;(first|exact VS e|cases e)
  refine hl.zy hp fun v hv hr=> ?_
  exact wpAny_pyNext_tuple_item st.1 ⟨_,ho,rfl,_,rfl⟩ hv fun h' md km=>have hk:=fun b o hb e=>km.extBut b o hb e;hQ v h' _ (hr.up (up1 hI hk)) ⟨md,st.2.up (up1 hI hk)⟩ hk
 ·obtain⟨a,xs,n,e,ha,ho,hl⟩:=st.2.mK
  skip;(first|exact VS e|cases e)
  have e1:=hl.size
  exact kG cz cY (cT _) st.1.typeIs (rA R.handled (fun _=>Iv) st.1 (fun _=>N9) ⟨_,ho,rfl,_,rfl⟩ (aO (ba e1))) fun h' td=>hQ h' _ fun b o hb e=>td b o hb e
noncomputable def zL(a c:Int)(n:Nat):List PV:=(List.range n).map fun i=> .int (a+(i:Nat)*c)
theorem C7(a c:Int)(n:Nat):(zL a c n).length=n:=(aD _).trans dA
theorem C8{a c:Int}{n i:Nat}{p:PV}(h:(zL a c n)[i]? =some p):i<n∧p= .int (a+(i:Nat)*c):=by
 obtain⟨k,hk,rfl⟩:=Option.map_eq_some_iff.mp ((aL ..).symm.trans h)
 obtain⟨h1,h2⟩:=List.getElem?_eq_some_iff.mp hk
 rw[cN] at h2
 exact⟨bQ h1 dA,h2▸rfl⟩
theorem It.range{a c:Int}{n:Nat}(hI:I∈X)(ht:I≠L.tb):It L X [I] I (zL a c n) (fun i h=>IsRangeIter h I (a+(i:Nat)*c) ((n:Int)-(i:Nat)) c) false:=by
 refine It.one hI ht (fun i h st=>⟨_,_,st,rfl,by decide⟩) (fun i h h' st hk=>hk I _ (fun _=>rfl) st) (fun A i s Q E st hQ=>wpAny_pyIter_rangeiter st hQ) (fun A i s p Q E st hp hQ=> ?_) fun A s Q E R Iv N9 st hQ=> ?_
 ·obtain⟨hi,rfl⟩:=C8 hp
  refine wpAny_pyNext_range_item st (by omega) fun h' E6 km=>hQ _ h' _ (VR.mkInt _ _) ?_ fun b o hb e=>km.extBut b o hb e
  rw[show a+((i+1:Nat):Int)*c=a+(i:Int)*c+c by push_cast;rw[Int.add_mul,gp,Int.add_assoc],show(n:Int)-((i+1:Nat):Int)=(n:Int)-(i:Int)-1 by omega]
  exact E6
 ·rw[C7] at st
  exact kG F.slot_range_iterator_next F.entry_range_iterator_next (F.args_range_iterator_next_1 _) ⟨_,st,rfl⟩ (C3 R.handled (fun _=>Iv) st (by omega)) fun h' td=>hQ h' _ fun b o hb e=>td b o hb e
noncomputable def signs(x:Str):List PV:=x.cps.toList.map fun c=> .str ⟨#[c]⟩
theorem It.str{x:Str}{t:gj}(hI:I∈X)(ht:I≠L.tb):It L X [I] I (signs x) (fun i h=>h.IsStrIter I "str_ascii_iterator" x t i) false:=by
 refine It.one hI ht (fun i h st=> ?_) (fun i h h' st hk=> ?_) (fun A i s Q E st hQ=>wpAny_pyIter_striter_ascii st hQ) (fun A i s p Q E st hp hQ=> ?_) fun A s Q E R Iv N9 st hQ=> ?_
 ·obtain⟨o,ho,hc,_⟩:=st
  exact⟨o,_,ho,hc,by decide⟩
 ·obtain⟨o,ho,r⟩:=st
  exact⟨o,hk I _ (fun _=>rfl) ho,r⟩
 ·obtain⟨c,hc,rfl⟩:=Option.map_eq_some_iff.mp ((aL ..).symm.trans hp)
  exact wpAny_pyNext_ascii_item st (Array.getElem?_toList.symm.trans hc) fun h' E6 km=>hQ _ h' _ (VR.mkStr _ _) E6 fun b o hb e=>km.extBut b o hb e
 ·have e:(signs x).length=x.cps.size:=aD _
  rw[e] at st
  exact kG F.slot_str_ascii_iterator_next F.entry_str_ascii_iterator_next (F.args_str_ascii_iterator_next_1 _) st.typeIs (C4 R.handled (fun _=>Iv) st (fun _=>N9) (aO (bu _))) fun h' td=>hQ h' _ fun b o hb e=>td b o hb e
end
end
section
open PySem
theorem xP{elt g8 iter:aM}{kg:List aM}{gens:List cy}{scope:Scope}{pos:cP}{d:Nat}{it acc:Value}{env:b8}(hg:gens[d]? =some ⟨g8,iter,kg,0⟩)(hn:gens[d+1]? =none):
  compTurn (.ListComp elt gens scope pos) d it acc env=(do
   standAt iter.pos
   match←pyNext it with
   |none=>pure (.done .next)
   |some v=>
    letOwnedTupleGo g8 it v
    assign g8 env v
    let ok←forIn kg true fun c r=>(if r=true then do let ok←isTrue c env (eval c env);pure (ForInStep.yield ok) else pure (ForInStep.yield r))
    if ok=true then(do
     (do let _←call (.builtin "list.append") [acc,←eval elt env])
     again (.compLoop (.ListComp elt gens scope pos) d it acc env))
    else again (.compLoop (.ListComp elt gens scope pos) d it acc env)):=by
 unfold compTurn
 simp only[hg,hn]
 rfl
theorem xQ{elt g8 iter zM uA:aM}{kg Oa:List aM}{gens:List cy}{scope:Scope}{pos:cP}{d:Nat}{it acc:Value}{env:b8}(hg:gens[d]? =some ⟨g8,iter,kg,0⟩)(hn:gens[d+1]? =some ⟨zM,uA,Oa,0⟩):
  compTurn (.ListComp elt gens scope pos) d it acc env=(do
   standAt iter.pos
   match←pyNext it with
   |none=>pure (.done .next)
   |some v=>
    letOwnedTupleGo g8 it v
    assign g8 env v
    let ok←forIn kg true fun c r=>(if r=true then do let ok←isTrue c env (eval c env);pure (ForInStep.yield ok) else pure (ForInStep.yield r))
    if ok=true then do
     let x←eval uA env
     standAt uA.pos
     let x←foldedSetIterable uA env x
     let MI←holding [x] (pyIter x)
     let _←runOwn (.compStart (.ListComp elt gens scope pos) (d+1) MI acc env) env
     again (.compLoop (.ListComp elt gens scope pos) d it acc env)
    else again (.compLoop (.ListComp elt gens scope pos) d it acc env)):=by
 unfold compTurn
 simp only[hg,hn]
 rfl
end
section
open PySem
section
variable {L:ig} {sc:Scope} {σ:gO} {own:List Str} {k:Nat}
theorem gN.fresh{X:List Addr}{s s':aq}(d:gN L X s s')(x:XO L X s.heap){a:Addr}(h:s'.heap.get? a=none):s.heap.get? a=none:=by
 cases e:s.heap.get? a with
 |none=>rfl
 |some o=>
  by_cases ht:a=L.tb
  ·exact(d.xo.there a (ht▸d.xo.tb)).elim fun o' lr=>hO (h.symm.trans lr)
  ·exact hO (h.symm.trans (d.keep a o ht e))
noncomputable def IE(L:ig)(sc:Scope)(σ:gO)(k:Nat)(e:aM)(tt:Bool)(f:List MV→Option (List PV)):Prop:=
 ∀(env:b8) (A:aF) (X:List Addr) (s:aq) (ρ:List MV) (ps:List PV) (Q:Value→aq→Prop) (E:Value→aq→Prop),
  i5 L k A→FR L sc σ env X s.heap ρ→Inv L s→f ρ=some ps→
  (∀I wr gZ,gN L X s gZ→XO L (wr++X) gZ.heap→(∀a∈wr,s.heap.get? a=none)→I∈wr→
   (∀X',(∀a∈X',a∈X∨a∈wr∨gZ.heap.get? a=none)→(∀a∈wr,a∈X')→ ∃St,It L X' wr I ps St tt∧St 0 gZ.heap)→Q (.ref I) gZ)→
  wpAny L.M A (eval e env) (fun xv s₁=>wpAny L.M A (pyIter xv) Q E s₁) E s
theorem IE.less{j:Nat}{e:aM}{tt:Bool}{f:List MV→Option (List PV)}(h:IE L sc σ j e tt f)(hk:j≤k):IE L sc σ k e tt f:=
 fun env A X s ρ p Q E R F I hf hQ=>h env A X s ρ p Q E (R.less hk) F I hf hQ
noncomputable def Ek(x:Str):Bool:=decide (strIterType x="str_ascii_iterator")
noncomputable def itemsOf:PV→Option (List PV)
 | .list l=>some l
 | .tup l=>some l
 | .str x=>if Ek x then some (signs x) else none
 | .CP a b c=>if aC.Range.small a b c&&decide (0≤aC.Range.rangeSize a b c) then some (zL a c (aC.Range.rangeSize a b c).toNat) else none
 |_=>none
theorem VR.V7{h:Heap}{X:List Addr}{a b c:Int}{v:Value}(x:VR L.prog L.w h X (.CP a b c) v): ∃ad t u w,v= .ref ad∧ad∉X∧IsRange h ad a b c t u w:=x
theorem qr{X wr:List Addr}{s s₁:aq}{I:Addr}{ps:List PV}{Q:Value→aq→Prop}{tt:Bool}{h':Heap}(tk:Nat)(x:XO L X s.heap)(d:gN L X s s₁)(kk: ∀b o,s₁.heap.get? b=some o→h'.get? b=some o)(fw: ∀a∈wr,s₁.heap.get? a=none)(ew: ∀a∈wr,∃o,h'.get? a=some o)(hI:I∈wr)
  (hQ: ∀I wr gZ,gN L X s gZ→XO L (wr++X) gZ.heap→(∀a∈wr,s.heap.get? a=none)→I∈wr→(∀X',(∀a∈X',a∈X∨a∈wr∨gZ.heap.get? a=none)→(∀a∈wr,a∈X')→ ∃St,It L X' wr I ps St tt∧St 0 gZ.heap)→Q (.ref I) gZ)
  (mk: ∀X',(∀a∈wr,a∈X')→(∀a∈wr,a≠L.tb)→Up s₁.heap X h' X'→(∀a∈X',a∈X∨a∈wr∨h'.get? a=none)→ ∃St,It L X' wr I ps St tt∧St 0 h'):Q (.ref I) {s₁ with heap:=h',toks:=tk}:=
 hQ I wr _ (d.trans (gN.of_keep d.inv d.xo kk tk)) (d.xo.widen kk d.inv.iA (fun a ha=>(List.mem_append.mp ha).elim (fun h=> .inr (fw a h)) .inl) (fun a ha=>au _ ha) fun a ha=>(List.mem_append.mp ha).elim (ew a) fun h=>(d.xo.there a h).elim fun o ho=>⟨o,kk a o ho⟩)
  (fun a ha=>d.fresh x (fw a ha)) hI fun X' h1 h2=>mk X' h2 (fun a ha e=>d.xo.fresh (fw a ha) (e▸d.xo.tb)) (fun a o ha e=>⟨fun hm=>(h1 a hm).elim ha fun h=>h.elim (fun h=>hO ((fw a h).symm.trans e)) fun h=>hO (h.symm.trans (kk a o e)),kk a o e⟩) h1
theorem sj{X:List Addr}{s s₁:aq}{ps:List PV}{Q:Value→aq→Prop}{tt:Bool}(x:XO L X s.heap)(d:gN L X s s₁)(o:Obj)(ho:o.isFreed=false)
  (hQ: ∀I wr gZ,gN L X s gZ→XO L (wr++X) gZ.heap→(∀a∈wr,s.heap.get? a=none)→I∈wr→(∀X',(∀a∈X',a∈X∨a∈wr∨gZ.heap.get? a=none)→(∀a∈wr,a∈X')→ ∃St,It L X' wr I ps St tt∧St 0 gZ.heap)→Q (.ref I) gZ)
  (mk: ∀X',s₁.heap.objs.size∈X'→s₁.heap.objs.size≠L.tb→Up s₁.heap X (s₁.heap.push o) X'→(s₁.heap.push o).get? s₁.heap.objs.size=some o→ ∃St,It L X' [s₁.heap.objs.size] s₁.heap.objs.size ps St tt∧St 0 (s₁.heap.push o)):Q (.ref s₁.heap.objs.size) {s₁ with heap:=s₁.heap.push o}:=
 have g:=aB _ ho
 qr s₁.toks x d (iq _ _) (all1 (g9 _)) (all1 ⟨o,g⟩) (bJ _) hQ fun X' h1 h2 u _=>mk X' (h1 _ (bJ _)) (h2 _ (bJ _)) u g
theorem IE.of{e:aM}{f:List MV→Option PV}(h:SE L sc σ k e f):IE L sc σ k e false (fun ρ=>(f ρ).bind itemsOf):=by
 intro env A X s ρ ps Q E R F I hf hQ
 obtain⟨p,hp,hi⟩:=Option.bind_eq_some_iff.mp hf
 refine h env A X s ρ p _ E R F I hp fun v s₁ hv d=> ?_
 cases p<;>try exact hO hi
 ·replace hi:=kg hi
  obtain⟨V8,rfl⟩:=hi
  refine hv.E8 fun t=>wpAny_pyIter_strU ?_
  rw[show strIterType _="str_ascii_iterator" from of_decide_eq_true V8]
  exact sj F.xo d _ rfl hQ fun X' hm ht _ g=>⟨_,It.str (t:=t) hm ht,⟨_,g,rfl,rfl⟩⟩
 ·(first|exact VS hi|cases hi)
  have nf:=hv
  refine nf.Kc fun a xs n ha ho hl=> ?_
  exact wpAny_pyIter_tuple ⟨_,ho,rfl,_,rfl⟩ (sj F.xo d _ rfl hQ fun X' hm ht u g=>⟨_,It.tup (ax:=a) hm ht,⟨_,g,rfl,rfl⟩,VR.up u (.intro a ⟨xs,n,rfl,ha,ho,hl⟩)⟩)
 ·(first|exact VS hi|cases hi)
  have nf:=hv
  refine nf.yF fun a xs n ha ho hl=> ?_
  exact cG ⟨_,ho,rfl,_,rfl⟩ (sj F.xo d _ rfl hQ fun X' hm ht u g=>⟨_,It.list (ax:=a) hm ht,⟨_,g,rfl,rfl⟩,VR.up u (.intro a ⟨xs,n,rfl,ha,ho,hl⟩)⟩)
 ·rename_i a b c
  replace hi:=kg hi
  obtain⟨hc,rfl⟩:=hi
  obtain⟨h1,h2⟩:=j8 hc
  obtain⟨ad,t,u,w,rfl,ha,ho⟩:=hv.V7
  refine wpAny_pyIter_range ho h1 (sj F.xo d _ rfl hQ fun X' hm ht _ g=>⟨_,It.range hm ht,?_⟩)
  rw[show a+((0:Nat):Int)*c=a by omega,show(((aC.Range.rangeSize a b c).toNat:Nat):Int)-((0:Nat):Int)=aC.Range.rangeSize a b c by rw[fm (of_decide_eq_true h2)];omega]
  exact g
end
end
section
open PySem
section
variable {L:ig} {sc:Scope} {σ:gO} {own:List Str} {k:Nat}
noncomputable def nK(L:ig)(sc:Scope)(σ:gO)(k:Nat)(kg:List aM)(f:List MV→Option Bool):Prop:=
 ∀(env:b8) (A:aF) (X:List Addr) (s:aq) (ρ:List MV) (b:Bool) (Q:Bool→aq→Prop) (E:Value→aq→Prop),
  i5 L k A→FR L sc σ env X s.heap ρ→Inv L s→f ρ=some b→(∀s',gN L X s s'→Q b s')→
  wpAny L.M A (forIn kg true fun c r=>(if r=true then do let ok←isTrue c env (eval c env);pure (ForInStep.yield ok) else pure (ForInStep.yield r))) Q E s
theorem nK.nil:nK L sc σ k [] (fun _=>some true):=by
 intro env A X s ρ b Q E R F I hf hQ
 skip;(first|exact VS hf|cases hf)
 exact wpAny_tests_nil (hQ _ (gN.refl I F.xo))
theorem nK.one{e:aM}{f:List MV→Option Bool}(h:TE L sc σ k e f):nK L sc σ k [e] f:=by
 intro env A X s ρ b Q E R F I hf hQ
 exact wpAny_tests_one (h env A X s ρ b Q E R F I hf hQ)
noncomputable def Hg(is:List Nat)(ρ:List MV):Bool:=is.all fun i=>match ρ[i]? with|some .un=>true|_=>false
noncomputable def gX(is:List Nat)(u:PV→List MV→Option (List MV)):PV→List MV→Option (List MV):=fun p ρ=>if Hg is ρ then u p ρ else none
noncomputable def Keeps(u:PV→List MV→Option (List MV)):Prop:= ∀p ρ gP,u p ρ=some gP→ ∀(j:Nat) mv,ρ[j]? =some mv→gP[j]? =some mv∨mv= .un
theorem Fi: ∀{is:List Nat} {ps:List PV} {ρ gP:List MV},pU is ps ρ=some gP→ ∀j,j∉is→gP[j]? =ρ[j]? :=by
 intro is
 induction is with
 |nil=>
  intro ps ρ gP h _ _
  cases ps with
  |nil=>(first|exact VS h|cases h);rfl
  |cons _ _=>exact hO h
 |cons i is ih=>
  intro ps ρ gP h j hj
  cases ps with
  |nil=>exact hO h
  |cons p ps=>exact(ih (ps:=ps) (ρ:=ρ.set i (.p p)) h j (fun h=>hj (av _ h))).trans (yO fun e=>hj (e▸aA ..))
theorem Bn{is:List Nat}{ρ:List MV}(h:Hg is ρ=true){j:Nat}(hj:j∈is){mv:MV}(hm:ρ[j]? =some mv):mv= .un:=by
 have:=List.all_eq_true.mp h j hj
 rw[hm] at this
 cases mv<;>first|rfl|exact Bool.noConfusion this
theorem rD{is:List Nat}{u:PV→List MV→Option (List MV)}{p:PV}{ρ gP:List MV}(h:gX is u p ρ=some gP):Hg is ρ=true∧u p ρ=some gP:=zz h
theorem Keeps.name{i:Nat}:Keeps (gX [i] fun p ρ=>some (ρ.set i (.p p))):=fun p ρ gP h j mv hm=>by
 obtain⟨hg,h⟩:=rD h
 skip;(first|exact VS h|cases h)
 by_cases e:j=i
 ·exact .inr (Bn hg (e▸bJ _) hm)
 ·exact .inl ((yO e).trans hm)
theorem Keeps.tup{is:List Nat}:Keeps (gX is fun p ρ=>(lj p).bind fun l=>pU is l ρ):=fun p ρ gP h j mv hm=>by
 obtain⟨hg,h⟩:=rD h
 obtain⟨l,_,hl⟩:=Option.bind_eq_some_iff.mp h
 by_cases e:j∈is
 ·exact .inr (Bn hg e hm)
 ·exact .inl ((Fi hl j e).trans hm)
theorem AS.guard{t:aM}{u:PV→List MV→Option (List MV)}(is:List Nat)(h:AS L sc σ own t u):AS L sc σ own t (gX is u):=
 fun env A Y Z s ρ ρ' p v Q E R F I hv hu hQ=>h env A Y Z s ρ ρ' p v Q E R F I hv (rD hu).2 hQ
theorem It.step{env:b8}{A:aF}{Y Z wr:List Addr}{s:aq}{ρ gP:List MV}{p:PV}{I:Addr}{St:Nat→Heap→Prop}{all:List PV}{i:Nat}{tt:Bool}{g8:aM}{u:PV→List MV→Option (List MV)}{E:Value→aq→Prop}
  (it:It L (Y++(wr++Z)) wr I all St tt)(Rm:i5 L k A)(F:FS L sc σ own env Y (wr++Z) s.heap ρ)(Iv:Inv L s)(st:St i s.heap)(hp:all[i]? =some p)(ht:tt=true→pV g8=true)(hu:AS L sc σ own g8 u)(V9:u p ρ=some gP)
  (Ob:L.tb∉wr)(hc: ∀x c,env.cells.lookup x=some c→c∉wr):
  wpAny L.M A (pyNext (.ref I)) (fun r s₁=> ∃v,r=some v∧wpAny L.M A (letOwnedTupleGo g8 (.ref I) v) (fun _ Bo=>wpAny L.M A (assign g8 env v) (fun _ gZ=>
   FS L sc σ own env Y (wr++Z) gZ.heap gP∧St (i+1) gZ.heap∧gS L (Y++wr) s gZ) E Bo) E s₁) E s:=by
 refine it.turn A i s p (fun v Bo=>wpAny L.M A (assign g8 env v) (fun _ gZ=>FS L sc σ own env Y (wr++Z) gZ.heap gP∧St (i+1) gZ.heap∧gS L (Y++wr) s gZ) E Bo) E g8 (Rm.less (aE _)) F.fr.xo Iv st hp ht fun v s₁ hv QM iE ni=> ?_
 have jq:FS L sc σ own env Y (wr++Z) s₁.heap ρ:=F.chg (W:=wr) (fun a ha=>az _ ha) iE.keep ni (fun a ha=>ha) hc
 refine hu env A Y (wr++Z) s₁ ρ gP p v _ E (Rm.less (aE _)) jq iE.inv hv V9 fun gZ jK gW=>⟨jK,?_,?_⟩
 ·refine it.frame _ _ _ QM fun b o hb e=> ?_
  by_cases Wa:b=L.tb
  ·exact absurd (hb (Wa▸F.fr.xo.tb)) (fun h=>Ob (Wa▸h))
  ·exact gW.keep b o Wa (fun hY=>F.apart b hY (az _ (hb (az _ hY)))) e
 ·exact⟨fun b o hb hn e=>gW.keep b o hb (fun h=>hn (az _ h)) (iE.keep b o hb (fun h=>hn (au _ h)) e),gW.inv,gW.os.trans iE.os,gW.drawn.trans iE.drawn⟩
noncomputable def CJ(L:ig)(sc:Scope)(σ:gO)(own:List Str)(k:Nat)(elt:aM)(gens:List cy)(scope:Scope)(pos:cP)(d:Nat)(tt:Bool)(f:List MV→List PV→Option (List PV)):Prop:=
 ∀(env:b8) (A:aF) (Y Z wr:List Addr) (s:aq) (ρ:List MV) (ps out acc:List PV) (xs:Array Value) (n:Nat) (I:Addr) (St:Nat→Heap→Prop) (all:List PV) (i:Nat) (D:Addr) (R:eL→aq→Prop),
  i5 L k A→FS L sc σ own env Y (wr++(D::Z)) s.heap ρ→Inv L s→It L (Y++(wr++(D::Z))) wr I all St tt→St i s.heap→i≤all.length→all.drop i=ps→
  (∀a∈D::Z,a∉wr)→D∉Z→L.tb∈Z→sysModules∈Z→(∀x c,env.cells.lookup x=some c→c∉D::wr)→
  s.heap.get? D=some {cls:= .type "list",data:= .seq xs n}→gV L.prog L.w s.heap (Y++(wr++(D::Z))) acc xs.toList→acc.length+out.length≤100000→f ρ ps=some out→
  (∀s' qC n',FS L sc σ own env Y (D::Z) s'.heap ρ→s'.heap.get? D=some {cls:= .type "list",data:= .seq qC n'}→gV L.prog L.w s'.heap (Y++(D::Z)) (acc++out) qC.toList→gS L (Y++(D::wr)) s s'→R (.ok .next) s')→
  codeAny L.M A (.compLoop (.ListComp elt gens scope pos) d (.ref I) (.ref D) env) R s
noncomputable def jV(step:List MV→PV→Option (List PV)):List MV→List PV→Option (List PV)
 |_,[]=>some []
 |ρ,p::ps=>(step ρ p).bind fun a=>(jV step ρ ps).map (a++ ·)
noncomputable def iF(u:PV→List MV→Option (List MV))(t:List MV→Option Bool)(e:List MV→Option PV)(ρ:List MV)(p:PV):Option (List PV):=
 (u p ρ).bind fun gP=>(t gP).bind fun b=>if b then(e gP).map fun v=>[v] else some []
noncomputable def sk(u:PV→List MV→Option (List MV))(t:List MV→Option Bool)(e:List MV→Option (List PV))(f:List MV→List PV→Option (List PV))(ρ:List MV)(p:PV):Option (List PV):=
 (u p ρ).bind fun gP=>(t gP).bind fun b=>if b then(e gP).bind fun ps=>f gP ps else some []
theorem wj{α:Type}{l:List α}{i:Nat}{p:α}{ps:List α}(h:l.drop i=p::ps):l[i]? =some p∧i<l.length∧l.drop (i+1)=ps:=by
 have h0:l[i]? =some p:=List.getElem?_drop.symm.trans (congrArg (·[0]?) h)
 exact⟨h0,(List.getElem?_eq_some_iff.mp h0).1,List.tail_drop.symm.trans (congrArg List.tail h)⟩
theorem Bp{α:Type}{l:List α}{i:Nat}(h:l.drop i=[])(hi:i≤l.length):i=l.length:=Nat.le_antisymm hi (List.drop_eq_nil_iff.mp h)
theorem Kl{Y wr Z:List Addr}{a:Addr}(h:a∈Y++Z):a∈Y++(wr++Z):=(List.mem_append.mp h).elim (az _) fun h=>au _ (au _ h)
theorem CJ.loop{elt g8 iter:aM}{kg:List aM}{gens:List cy}{scope:Scope}{pos:cP}{d:Nat}{tt:Bool}{u:PV→List MV→Option (List MV)}{t:List MV→Option Bool}{g:List MV→Option (List PV)}{T:b8→Addr→Addr→Sem Fin}
  (turn: ∀env I D,compTurn (.ListComp elt gens scope pos) d (.ref I) (.ref D) env=(do
   standAt iter.pos
   match←pyNext (.ref I) with
   |none=>pure (.done .next)
   |some v=>
    letOwnedTupleGo g8 (.ref I) v
    assign g8 env v
    let ok←forIn kg true fun c r=>(if r=true then do let ok←isTrue c env (eval c env);pure (ForInStep.yield ok) else pure (ForInStep.yield r))
    if ok=true then T env I D else again (.compLoop (.ListComp elt gens scope pos) d (.ref I) (.ref D) env)))
  (ht:tt=true→pV g8=true)(hu:AS L sc σ own g8 u)(hk:Keeps u)(hi:nK L sc σ k kg t)
  (hT: ∀(env:b8) (A:aF) (Y Z wr:List Addr) (s:aq) (ρ:List MV) (a acc:List PV) (xs:Array Value) (n:Nat) (I D:Addr) (Q:Fin→aq→Prop) (E:Value→aq→Prop),i5 L k A→FS L sc σ own env Y (wr++(D::Z)) s.heap ρ→Inv L s→
   D∉wr→D∉Z→L.tb∈Z→sysModules∈Z→(∀x c,env.cells.lookup x=some c→c≠D)→s.heap.get? D=some {cls:= .type "list",data:= .seq xs n}→gV L.prog L.w s.heap (Y++(wr++(D::Z))) acc xs.toList→acc.length+a.length≤100000→g ρ=some a→
   (∀s' qC n',FS L sc σ own env Y (wr++(D::Z)) s'.heap ρ→gS L (Y++[D]) s s'→s'.heap.get? D=some {cls:= .type "list",data:= .seq qC n'}→gV L.prog L.w s'.heap (Y++(wr++(D::Z))) (acc++a) qC.toList→wpAny L.M A (again (.compLoop (.ListComp elt gens scope pos) d (.ref I) (.ref D) env)) Q E s')→wpAny L.M A (T env I D) Q E s):
  CJ L sc σ own k elt gens scope pos d tt (jV fun ρ p=>(u p ρ).bind fun gP=>(t gP).bind fun b=>if b then g gP else some []):=by
 intro env A Y Z wr s ρ ps
 induction ps generalizing s with
 |nil=>
  intro out acc xs n I St all i D R Rm F Iv it st MJ hd hZ Km kH kh hc hD xR hsz hf hR
  skip;(first|exact VS hf|cases hf)
  obtain rfl:=Bp hd MJ
  refine d7 ?_
  show wpAny _ A ((compTurn (.ListComp elt gens scope pos) d (.ref I) (.ref D) env).onRaise (fun x=>do noteFrame x env;theTreesLotGoes x)) _ _ s
  refine wpAny_noted ?_
  rw[turn]
  refine ao (bX (ao (it.done A s _ _ (Rm.less (aE _)) F.fr.xo Iv st fun s' dn hkk=> ?_)))
  have Ff:XO L (Y++(D::Z)) s'.heap:=F.fr.xo.after it.N8 hkk (fun a ha=>⟨Kl ha,(List.mem_append.mp ha).elim (fun h hw=>F.apart a h (az _ hw)) (hZ a)⟩) (au _ (av _ kH)) (au _ (av _ kh))
  refine aw (hR s' xs n (F.chg (W:=wr) (fun a ha=>az _ ha) (fun b o _ hb e=>hkk b o hb e) Ff (fun a ha=>au _ ha) (fun x c h hm=>hc x c h (av _ hm))) (hkk D _ (hZ D (aA ..)) hD) ?_ ⟨fun b o hb hnm e=>dn.keep b o hb (fun h=>hnm (au _ (av _ h))) e,dn.inv,dn.os,dn.drawn⟩)
  rw[bN]
  exact gV.up (fun a o ha e=>⟨fun h=>ha (Kl h),hkk a o (fun h=>ha (it.N8 a h)) e⟩) xR
 |cons p ps ih=>
  intro out acc xs n I St all i D R Rm F Iv it st MJ hd hZ Km kH kh hc hD xR hsz hf hR
  replace hf:=Option.bind_eq_some_iff.mp hf
  obtain⟨a,ha,hf⟩:=hf
  obtain⟨rest,vX,rfl⟩:=Option.map_eq_some_iff.mp hf
  replace ha:=Option.bind_eq_some_iff.mp ha
  obtain⟨gP,zN,ha⟩:=ha
  replace ha:=Option.bind_eq_some_iff.mp ha
  obtain⟨b,hb,ha⟩:=ha
  obtain⟨hp,Oc,vI⟩:=wj hd
  have Ob:L.tb∉wr:=hZ _ (av _ kH)
  have MK:D∉wr:=hZ D (aA ..)
  have yP:D≠L.tb:=fun e=>Km (e▸kH)
  have Gz:D∈Y++(wr++(D::Z)):=au _ (au _ (aA ..))
  have hDY:D∉Y++wr:=fun h=>(List.mem_append.mp h).elim (fun h=>F.apart D h (au _ (aA ..))) MK
  refine d7 ?_
  show wpAny _ A ((compTurn (.ListComp elt gens scope pos) d (.ref I) (.ref D) env).onRaise (fun x=>do noteFrame x env;theTreesLotGoes x)) _ _ s
  refine wpAny_noted ?_
  rw[turn]
  refine ao (bX (ao (bH (it.step Rm F Iv st hp ht hu zN Ob (fun x c h hm=>hc x c h (av _ hm))) (fun r s₁ hr=> ?_) fun _ _ x=>x)))
  obtain⟨v,rfl,hv⟩:=hr
  refine ao (bH hv (fun _ Bo h=>ao (bH h (fun _ gZ h₂=> ?_) fun _ _ x=>x)) fun _ _ x=>x)
  obtain⟨jK,Hh,gW⟩:=h₂
  have QN:=gW.keep _ _ yP hDY hD
  have Kn:gV L.prog L.w gZ.heap (Y++(wr++(D::Z))) acc xs.toList:=xR.up fun a o ha e=>⟨ha,gW.keep a o (fun e=>ha (e▸F.fr.xo.tb)) (fun h=>ha ((List.mem_append.mp h).elim (az _) fun h=>au _ (az _ h))) e⟩
  have cont: ∀rE yR Hi,FS L sc σ own env Y (wr++(D::Z)) rE.heap gP→gS L (Y++[D]) gZ rE→rE.heap.get? D=some {cls:= .type "list",data:= .seq yR Hi}→gV L.prog L.w rE.heap (Y++(wr++(D::Z))) (acc++a) yR.toList→codeAny L.M A (.compLoop (.ListComp elt gens scope pos) d (.ref I) (.ref D) env) R rE:=fun rE yR Hi Bq tu Hj zO=>by
   have ML: ∀b o,b≠L.tb→b∉Y→b≠D→gZ.heap.get? b=some o→rE.heap.get? b=some o:=fun b o h1 h2 h3 e=>tu.keep b o h1 (fun h=>(List.mem_append.mp h).elim h2 fun h=>h3 (List.mem_singleton.mp h)) e
   refine ih rE rest (acc++a) yR Hi I St all (i+1) D R Rm (Bq.weaken (hk p ρ gP zN)) tu.inv it (it.frame _ _ _ Hh fun b o hb e=>ML b o (fun h=>Ob (h▸hb (h▸F.fr.xo.tb))) (fun h=>F.apart b h (az _ (hb (az _ h)))) (fun h=>MK (h▸hb (h▸Gz))) e) Oc vI hZ Km kH kh hc Hj zO (by rw[aK] at hsz ⊢;omega) vX fun s' qC n' F' QO Br d'=>hR s' qC n' F' QO (b9 .. ▸Br) ?_
   exact gS.trans ⟨fun b o h1 h2 e=>ML b o h1 (fun h=>h2 (az _ h)) (fun h=>h2 (au _ (h▸aA ..))) (gW.keep b o h1 (fun h=>h2 ((List.mem_append.mp h).elim (az _) fun h=>au _ (av _ h))) e),tu.inv,tu.os.trans gW.os,tu.drawn.trans gW.drawn⟩ (fun b h=> .inl h) d'
  refine ao (hi env A _ gZ gP b _ _ Rm jK.fr gW.inv hb fun jc jb=> ?_)
  have kQ:=jK.done jb
  have MM:=jb.keep _ _ yP QN
  have El:=gV.up jb.up Kn
  cases b with
  |false=>
   skip;(first|exact VS ha|cases ha)
   exact aw ⟨rfl,cont jc xs n kQ (gS.jQ jb) MM ((bN acc).symm▸El)⟩
  |true=>exact hT env A Y Z wr jc gP a acc xs n I D _ _ Rm kQ jb.inv MK Km kH kh (fun x c h e=>hc x c h (e▸aA ..)) MM El (by rw[aK] at hsz;omega) ha fun rE yR Hi Bq tu Hj zO=>aw ⟨rfl,cont rE yR Hi Bq ((gS.jQ jb).trans (fun b h=> .inl h) tu) Hj zO⟩
theorem CJ.last{elt g8 iter:aM}{kg:List aM}{gens:List cy}{scope:Scope}{pos:cP}{d:Nat}{tt:Bool}{u:PV→List MV→Option (List MV)}{t:List MV→Option Bool}{e:List MV→Option PV}
  (hg:gens[d]? =some ⟨g8,iter,kg,0⟩)(hn:gens[d+1]? =none)(ht:tt=true→pV g8=true)(hu:AS L sc σ own g8 u)(hk:Keeps u)(hi:nK L sc σ k kg t)(he:SE L sc σ k elt e):
  CJ L sc σ own k elt gens scope pos d tt (jV (iF u t e)):=by
 refine CJ.loop (g:=fun ρ=>(e ρ).map fun v=>[v]) (fun env I D=>xP hg hn) ht hu hk hi fun env A Y Z wr s ρ a acc xs n I D Q E Rm F Iv MK Km kH kh hc hD xR hsz hf hQ=> ?_
 obtain⟨v',nf,rfl⟩:=Option.map_eq_some_iff.mp hf
 refine ao (ao (he env A _ s ρ v' _ _ Rm F.fr Iv nf fun y s₄ hy nJ=>ao ?_))
 have yP:D≠L.tb:=fun e=>Km (e▸kH)
 have Gz:D∈Y++(wr++(D::Z)):=au _ (au _ (aA ..))
 have QP:=nJ.keep _ _ yP hD
 have vJ:=gV.up nJ.up xR
 have wk:=F.done nJ
 have Ha:=vJ.size
 refine wpAny_list_append_plain ⟨n,QP⟩ (fun h' jB km=>aw ?_) (by show _≤16777216;rw[List.length_singleton] at hsz;omega)
 obtain⟨n',jB⟩:=jB
 have QQ: ∀b o,b≠D→s₄.heap.get? b=some o→h'.get? b=some o:=fun b o hb e=>km.extBut b o hb e
 have MN:Up s₄.heap (Y++(wr++(D::Z))) h' (Y++(wr++(D::Z))):=fun a o ha e=>⟨ha,QQ a o (fun e=>ha (e▸Gz)) e⟩
 refine hQ {s₄ with heap:=h'} (xs.push y) n' (wk.chg (W:=[D]) (fun a ha=>au _ (List.mem_singleton.mp ha▸aA ..)) (fun b o _ hb e=>QQ b o (fun e=>hb (List.mem_singleton.mpr e)) e) (wk.fr.xo.mut Gz yP QQ ⟨_,jB⟩) (fun a ha=>ha) (fun x c h hm=>hc x c h (List.mem_singleton.mp hm)))
  ⟨fun b o ht hb e=>QQ b o (fun e=>hb (au _ (List.mem_singleton.mpr e))) (nJ.keep b o ht e),⟨fun a o e=>QQ a o (fun e'=>hO ((wk.fr.xo.look a (e'▸Gz)).symm.trans e)) (nJ.inv.iA a o e),nJ.inv.bare⟩,nJ.os,nJ.drawn⟩ jB ?_
 rw[dy]
 exact(gV.up MN vJ).append (gV.cons (hy.up MN) gV.nil)
end
end
section
open PySem
theorem me{prog:Program}{w:dw}{A:aF}{R:eL→aq→Prop}{s:aq}{elt g8 iter:aM}{kg:List aM}{gens:List cy}{scope:Scope}{pos:cP}{d:Nat}{it acc:Value}{env:b8}(hg:gens[d]? =some ⟨g8,iter,kg,0⟩)
  (h0:codeAny (model prog w) A (.compLoop (.ListComp elt gens scope pos) d it acc env) R s)
  (h:wpAny (model prog w) A (pyIter it) (fun MI s'=>codeAny (model prog w) A (.compLoop (.ListComp elt gens scope pos) d MI acc env) R s')
   (notedBy (model prog w) A env fun x s'=>R (.error x) s') s):
  codeAny (model prog w) A (.compStart (.ListComp elt gens scope pos) d it acc env) R s:=by
 refine d7 ?_
 show wpAny _ _ ((compStart (.ListComp elt gens scope pos) d it acc env).onRaise (fun x=>do noteFrame x env;standAt theWindowsPlace)) _ _ s
 refine wpAny_notedAt ?_
 have pO:clausesOf (.ListComp elt gens scope pos)=gens:=rfl
 unfold compStart
 rw[pO,hg]
 show wpAny _ _ (ask>>= _) _ _ s
 refine ao (wpAny_askSetting (wpAny_ite ?_))
 split
 ·first
   |exact ao (aw (aw (And.intro rfl h0)))
   |exact aw (And.intro rfl h0)
 ·refine ao (cR ?_)
  refine ao (bX (ao (bH h (fun MI s' h'=>aw (And.intro rfl h')) fun _ _ x=>x)))
section
variable {L:ig} {sc:Scope} {σ:gO} {own:List Str} {k:Nat}
theorem FS.perm{env:b8}{Y Z Z':List Addr}{ρ:List MV}{h:Heap}(F:FS L sc σ own env Y Z h ρ)(hs: ∀a,a∈Z'↔a∈Z):FS L sc σ own env Y Z' h ρ:=by
 have hm: ∀a,a∈Y++Z'↔a∈Y++Z:=fun a=>by simp[hs]
 exact F.chg (W:=[]) (fun a ha=>by (first|exact VS ha|cases ha)) (fun b o _ _ e=>e) (F.fr.xo.sub (fun a ha=>(hm a).mp ha) ((hm _).mpr F.fr.xo.tb) ((hm _).mpr F.fr.xo.sm)) (fun a ha=>(hs a).mp ha) (fun _ _ _ h=>by (first|exact VS h|cases h))
theorem gV.same{h:Heap}{X X':List Addr}{ps:List PV}{vs:List Value}(x:gV L.prog L.w h X ps vs)(hs: ∀a∈X',a∈X):gV L.prog L.w h X' ps vs:=gV.up (Up.sub h hs) x
theorem CJ.more{elt g8 iter zM uA:aM}{kg Oa:List aM}{gens:List cy}{scope:Scope}{pos:cP}{d:Nat}{tt Z3:Bool}{u:PV→List MV→Option (List MV)}{t:List MV→Option Bool}{e:List MV→Option (List PV)}{f:List MV→List PV→Option (List PV)}
  (hg:gens[d]? =some ⟨g8,iter,kg,0⟩)(hn:gens[d+1]? =some ⟨zM,uA,Oa,0⟩)(ht:tt=true→pV g8=true)(hu:AS L sc σ own g8 u)(hk:Keeps u)(hi:nK L sc σ k kg t)(he:IE L sc σ k uA Z3 e)
  (Ki:CJ L sc σ own k elt gens scope pos (d+1) Z3 f)(Hk: ∀env x,foldedSetIterable uA env x=pure x):
  CJ L sc σ own k elt gens scope pos d tt (jV (sk u t e f)):=by
 refine CJ.loop (g:=fun ρ=>(e ρ).bind fun ps=>f ρ ps) (fun env I D=>xQ hg hn) ht hu hk hi fun env A Y Z wr s ρ a acc xs n I D Q E Rm F Iv MK Km kH kh hc hD xR hsz hf hQ=> ?_
 obtain⟨qs,QR,hfq⟩:=Option.bind_eq_some_iff.mp hf
 have yP:D≠L.tb:=fun e=>Km (e▸kH)
 refine ao (bH (he env A _ s ρ qs _ _ Rm F.fr Iv QR fun I' Ko s₄ nJ xw Hl N9 hIt=> ?_) (fun xv Z4 h=>ao (bX (ao (cw (Hk env xv) (ao (aP h)))))) fun _ _ x=>x)
 have Wb: ∀a∈Ko,a∉Y++(wr++(D::Z)):=fun a ha=>F.fr.xo.fresh (Hl a ha)
 have m1: ∀a,a∈D::(wr++Z)→a∈wr++(D::Z):=fun a h=>(List.mem_cons.mp h).elim (fun e=>au _ (e▸aA ..)) fun h=>(List.mem_append.mp h).elim (az _) fun h=>au _ (av _ h)
 have Wc: ∀a,a∈wr++(D::Z)→a∈D::(wr++Z):=fun a h=>(List.mem_append.mp h).elim (fun h=>av _ (az _ h)) fun h=>(List.mem_cons.mp h).elim (fun e=>e▸aA ..) fun h=>av _ (au _ h)
 have m2: ∀a,a∈Y++(Ko++(D::(wr++Z)))→a∈Y++(wr++(D::Z))∨a∈Ko:=fun a h=>(List.mem_append.mp h).elim (fun h=> .inl (az _ h)) fun h=>(List.mem_append.mp h).elim .inr fun h=> .inl (au _ (m1 a h))
 have m3: ∀a∈Y++(wr++(D::Z)),a∈Y++(Ko++(D::(wr++Z))):=fun a h=>(List.mem_append.mp h).elim (az _) fun h=>au _ (au _ (Wc a h))
 have Od:XO L (Y++(Ko++(D::(wr++Z)))) s₄.heap:=xw.sub (fun a ha=>(m2 a ha).elim (au _) (az _)) (m3 _ F.fr.xo.tb) (m3 _ F.fr.xo.sm)
 have wk:FS L sc σ own env Y (Ko++(D::(wr++Z))) s₄.heap ρ:=F.N7 nJ Od fun a ha=>(List.mem_append.mp ha).elim (fun h=> .inr (Hl a h)) fun h=> .inl (m1 a h)
 obtain⟨St',MI,C6⟩:=hIt (Y++(Ko++(D::(wr++Z)))) (fun a ha=>(m2 a ha).elim .inl fun h=> .inr (.inl h)) (fun a ha=>au _ (az _ ha))
 have vJ:gV L.prog L.w s₄.heap (Y++(Ko++(D::(wr++Z)))) acc xs.toList:=xR.up fun b o hb e=>⟨fun hm=>(m2 b hm).elim hb fun h=>hO ((Hl b h).symm.trans e),nJ.keep b o (fun h=>hb (h▸F.fr.xo.tb)) e⟩
 refine ao (wpAny_runOwn (h:=none) ?_ (fun e=>by (first|exact VS e|cases e)))
 rw[aF.mark_none]
 have inner:codeAny L.M A (.compLoop (.ListComp elt gens scope pos) (d+1) (.ref I') (.ref D) env) (fun r s'=>match r with| .ok f=>wpAny L.M A (again (.compLoop (.ListComp elt gens scope pos) d (.ref I) (.ref D) env)) Q E s'| .error e=>cameBackBy L.M A env E e s') s₄:=by
  refine Ki env A Y (wr++Z) Ko s₄ ρ qs a acc xs n I' St' qs 0 D _ Rm wk nJ.inv MI C6 (aE _) rfl (fun b hb hm=>Wb b hm (au _ (m1 b hb))) (fun hm=>(List.mem_append.mp hm).elim MK Km) (au _ kH) (au _ kh)
   (fun x c pO hm=>(List.mem_cons.mp hm).elim (hc x c pO) fun h=>(F.fr.cells x c pO).2.elim fun o ho=>hO ((Hl c h).symm.trans ho)) (nJ.keep _ _ yP hD) vJ hsz hfq fun s' qC n' F' QO Br d'=> ?_
  exact hQ s' qC n' (F'.perm fun a=>⟨Wc a,m1 a⟩) ⟨fun b o h1 h2 e=>d'.keep b o h1 (fun hm=>(List.mem_append.mp hm).elim (fun h=>h2 (az _ h)) fun h=>(List.mem_cons.mp h).elim (fun h=>h2 (au _ (List.mem_singleton.mpr h))) fun h=>hO ((Hl b h).symm.trans e)) (nJ.keep b o h1 e),d'.inv,d'.os.trans nJ.os,d'.drawn.trans nJ.drawn⟩ QO (Br.same fun b hb=>(List.mem_append.mp hb).elim (az _) fun h=>au _ (Wc b h))
 exact me hn inner (MI.self A 0 s₄ _ _ C6 inner)
end
end
section
open PySem
theorem qR: ∀(names:List (Str×NameKind)) (n:Nat) (acc:List (Str×Addr)),cellsFrom n names acc=cellsFrom n names []++acc:=by
 intro names
 induction names with
 |nil=>exact @fun _ _=>rfl
 |cons q0 r iu=>
  obtain⟨x,kd⟩:=q0
  intro n acc
  unfold cellsFrom
  split
  ·rw[iu (n+1) ((x,n)::acc),iu (n+1) [(x,n)]];simp
  ·exact iu n acc
theorem xS: ∀{names:List (Str×NameKind)} {n:Nat} {acc:List (Str×Addr)} {x:Str} {c:Addr},(x,c)∈cellsFrom n names acc→(x,c)∈acc∨(x,NameKind.cell)∈names:=by
 intro names
 induction names with
 |nil=>exact @fun _ _ _ _ h=> .inl h
 |cons q0 r iu=>
  obtain⟨y,kd⟩:=q0
  intro n acc x c h
  unfold cellsFrom at h
  split at h
  ·rename_i hk
   rcases iu h with h|h
   ·rcases List.mem_cons.mp h with h|h
    ·(first|exact VS h|cases h);exact .inr (by rw[eq_of_beq hk];exact aA ..)
    ·exact .inl h
   ·exact .inr (av _ h)
  ·rcases iu h with h|h
   ·exact .inl h
   ·exact .inr (av _ h)
theorem nL: ∀{names:List (Str×NameKind)} {n:Nat} {x:Str} {acc:List (Str×Addr)},(x,NameKind.cell)∈names→ ∃c,(x,c)∈cellsFrom n names acc:=by
 intro names
 induction names with
 |nil=>exact @fun _ _ _ h=>by (first|exact VS h|cases h)
 |cons q0 r iu=>
  obtain⟨y,kd⟩:=q0
  intro n x acc h
  unfold cellsFrom
  rcases List.mem_cons.mp h with h|h
  ·(first|exact VS h|cases h)
   refine⟨n,?_⟩
   rw[if_pos (by rfl),qR]
   exact au _ (aA ..)
  ·split
   ·exact iu h
   ·exact iu h
theorem jn{α:Type}: ∀{l:List (Str×α)} {x:Str} {c:α},(x,c)∈l→ ∃c',l.lookup x=some c':=by
 intro l
 induction l with
 |nil=>intro x c h;exact absurd h c6
 |cons q0 r iu=>
  obtain⟨y,d⟩:=q0
  intro x c h
  rw[bD]
  cases hb:x==y with
  |true=>exact⟨d,rfl⟩
  |false=>
   rcases List.mem_cons.mp h with e|h
   ·(first|exact VS e|cases e);simp at hb
   ·exact iu h
theorem g7{α:Type}: ∀{l:List (Str×α)} {x:Str} {c:α},l.lookup x=some c→(x,c)∈l:=by
 intro l
 induction l with
 |nil=>intro x c h;exact hO h
 |cons q0 r iu=>
  obtain⟨y,d⟩:=q0
  intro x c h
  rw[bD] at h
  cases hb:x==y with
  |true=>rw[hb] at h;(first|exact VS h|cases h);rw[eq_of_beq hb];exact aA ..
  |false=>rw[hb] at h;exact av _ (iu h)
theorem kn{α:Type}: ∀{l m:List (Str×α)} {x:Str},(l++m).lookup x=match l.lookup x with|some c=>some c|none=>m.lookup x:=by
 intro l
 induction l with
 |nil=>exact @fun _ _=>rfl
 |cons q0 r iu=>
  obtain⟨y,d⟩:=q0
  intro m x
  rw[c9,bD,bD]
  cases hb:x==y with
  |true=>rfl
  |false=>exact iu
theorem xT{M:Model}{A:aF}{E:Value→aq→Prop}{s:aq}{scope:Scope}{globals:Addr}{cl:List (Str×Addr)}{qual:Str}{env:b8}{Q:b8→aq→Prop}
  (hQ:Q (newEnv scope s.heap.objs.size globals (cellsFrom (s.heap.objs.size+1) scope.names []++cl) qual none .none (some env) builtinsNs) {s with heap:=pushCells (s.heap.push {cls:= .type "dict",data:= .dict #[]}) scope.names}):
  wpAny M A (newFunctionEnv scope globals cl [] qual none .none (some env)) Q E s:=by
 simp only[newFunctionEnv,Option.isSome_some,if_true]
 refine ao (wpAny_alloc ?_)
 refine ao (wpAny_layCells _ (fun name kind cells=>by cases Wd:kind==NameKind.cell<;>simp[Wd]) _ _ _ _ ?_)
 rw[show({s with heap:=s.heap.push {cls:= .type "dict",data:= .dict #[]}}:aq).heap.objs.size=s.heap.objs.size+1 from aZ ..,qR]
 exact ao (aw (aw hQ))
theorem xU{env:b8}: ∀(names:List (Str×NameKind)) (acc:List (Str×Addr)),(∀x,(x,NameKind.free)∈names→ ∃c,env.cells.lookup x=some c)→(∀x c,(x,c)∈acc→env.cells.lookup x=some c)→
  ∃cl,(forIn names acc fun(x:Str×NameKind) (cs:List (Str×Addr))=>(if x.2==NameKind.free then do let a←cellOf env x.1;pure (ForInStep.yield ((x.1,a)::cs)) else pure (ForInStep.yield cs):Sem (ForInStep (List (Str×Addr)))))=pure cl∧
   (∀x c,(x,c)∈cl→env.cells.lookup x=some c)∧(∀x,(x,NameKind.free)∈names∨(∃c,(x,c)∈acc)→ ∃c,(x,c)∈cl):=by
 intro names
 induction names with
 |nil=>exact @fun acc _ ha=>⟨acc,rfl,ha,fun x h=>by rcases h with h|h;(first|exact VS h|cases h);exact h⟩
 |cons q0 r iu=>
  obtain⟨y,kd⟩:=q0
  intro acc hn ha
  rw[dS]
  by_cases hk:kd==NameKind.free
  ·obtain⟨c,hc⟩:=hn y (by rw[eq_of_beq hk];exact aA ..)
   obtain⟨cl,h1,h2,h3⟩:=iu ((y,c)::acc) (fun x h=>hn x (av _ h)) (fun x c' h=>by
    rcases List.mem_cons.mp h with h|h
    ·(first|exact VS h|cases h);exact hc
    ·exact ha x c' h)
   refine⟨cl,?_,h2,fun x h=>h3 x ?_⟩
   ·have Eg:cellOf env y=pure c:=by unfold cellOf;rw[hc]
    simp only[hk,if_true,Eg]
    exact h1
   ·rcases h with h|⟨c',h⟩
    ·rcases List.mem_cons.mp h with h|h
     ·(first|exact VS h|cases h);exact .inr ⟨c,aA ..⟩
     ·exact .inl h
    ·exact .inr ⟨c',av _ h⟩
  ·obtain⟨cl,h1,h2,h3⟩:=iu acc (fun x h=>hn x (av _ h)) ha
   refine⟨cl,?_,h2,fun x h=>h3 x ?_⟩
   ·simp only[hk]
    exact h1
   ·rcases h with h|h
    ·rcases List.mem_cons.mp h with h|h
     ·(first|exact VS h|cases h);simp at hk
     ·exact .inl h
    ·exact .inr h
theorem xV{env:b8}{scope:Scope}(hn: ∀x,(x,NameKind.free)∈scope.names→ ∃c,env.cells.lookup x=some c):
  ∃cl,closureFor scope env=pure cl∧(∀x c,cl.lookup x=some c→env.cells.lookup x=some c)∧(∀x,(x,NameKind.free)∈scope.names→ ∃c,cl.lookup x=some c):=by
 obtain⟨cl,h1,h2,h3⟩:=xU (env:=env) scope.names [] hn (fun x c h=>by (first|exact VS h|cases h))
 refine⟨cl,?_,fun x c h=>h2 x c (g7 h),fun x h=> ?_⟩
 ·unfold closureFor
  simp only[bind_pure_comp] at h1 ⊢
  first
   |exact(congrArg (· >>= pure) h1).trans rfl
   |(rw[←h1];rfl)
 ·obtain⟨c,hc⟩:=h3 x (.inl h);exact jn hc
end
section
open PySem
noncomputable def ko(scope sc:Scope):Scope:=
 {scope with names:=scope.names.map fun(n,k)=>if (k== .free&&sc.kind== .function&&sc.names.lookup n==some .cell) then(n,.cell) else(n,k)}
noncomputable def mN(tg:List Str)(scope:Scope)(σ:gO):gO:=tg.zipIdx++((σ.filter fun xi=>scope.names.lookup xi.1==some .free).map fun xi=>(xi.1,xi.2+tg.length))
noncomputable def MV.mm:MV→MV
 | .p q=> .p q
 |_=> .un
theorem yS(mv:MV):mv.mm.owned=false:=by cases mv<;>rfl
theorem Em{mv:MV}(h:mv.mm≠ .un): ∃q,mv= .p q:=by cases mv<;>first|exact⟨_,rfl⟩|exact absurd rfl h
theorem xW: ∀{tg:List Str} {n:Nat} {x:Str} {i:Nat},(tg.zipIdx n).lookup x=some i→i<n+tg.length:=by
 intro tg
 induction tg with
 |nil=>exact @fun _ _ _ h=>hO h
 |cons y r iu=>
  intro n x i h
  rw[List.zipIdx_cons,bD] at h
  rw[bj]
  cases hb:x==y with
  |true=>rw[hb] at h;have:=Option.some.inj h;omega
  |false=>rw[hb] at h;have:=iu h;omega
theorem so(scope:Scope)(m:Nat): ∀{σ:gO} {x:Str} {i:Nat},((σ.filter fun xi=>scope.names.lookup xi.1==some .free).map fun xi=>(xi.1,xi.2+m)).lookup x=some i→ ∃j,i=j+m∧σ.lookup x=some j∧scope.names.lookup x=some .free:=by
 intro σ
 induction σ with
 |nil=>exact @fun _ _ h=>hO h
 |cons q0 r iu=>
  obtain⟨y,j⟩:=q0
  intro x i h
  rw[List.filter_cons] at h
  rw[bD]
  cases hf:scope.names.lookup y==some .free with
  |true=>
   rw[if_pos hf,aU,bD] at h
   cases hb:x==y with
   |true=>rw[hb] at h;exact⟨j,(Option.some.inj h).symm,rfl,eq_of_beq hb▸eq_of_beq hf⟩
   |false=>rw[hb] at h;exact iu h
  |false=>
   rw[hf,if_neg bk] at h
   obtain⟨j',h1,h2,h3⟩:=iu h
   cases hb:x==y with
   |true=>rw[eq_of_beq hb] at h3;exact absurd (beq_iff_eq.mpr h3) (by rw[hf];exact bk)
   |false=>exact⟨j',h1,h2,h3⟩
theorem tw{tg:List Str}{scope:Scope}{σ:gO}{x:Str}{i:Nat}(h:(mN tg scope σ).lookup x=some i):(i<tg.length)∨ ∃j,i=j+tg.length∧σ.lookup x=some j∧scope.names.lookup x=some .free:=by
 unfold mN at h
 rw[kn] at h
 cases hz:tg.zipIdx.lookup x with
 |some j=>
  rw[hz] at h
  have:=xW hz
  exact .inl (by have:=Option.some.inj h;omega)
 |none=>
  rw[hz] at h
  exact .inr (so scope _ h)
theorem nM{α:Type}: ∀{l:List (Str×α)} {x:Str} {c:α},(l.map (·.1)).Nodup→(x,c)∈l→l.lookup x=some c:=by
 intro l
 induction l with
 |nil=>intro x c hn h;exact absurd h c6
 |cons q0 r iu=>
  obtain⟨y,d⟩:=q0
  intro x c hn h
  have hn:=List.nodup_cons.mp hn
  rw[bD]
  cases hb:x==y with
  |true=>exact(List.mem_cons.mp h).elim (fun e=>congrArg some (Prod.mk.inj e).2.symm) fun h=>absurd (List.mem_map.mpr ⟨_,h,eq_of_beq hb⟩) hn.1
  |false=>exact(List.mem_cons.mp h).elim (fun e=>absurd (beq_iff_eq.mpr (Prod.mk.inj e).1) (by rw[hb];exact bk)) (iu hn.2)
noncomputable def Fj(sc:Scope)(n:Str)(k:NameKind):NameKind:=if (k== .free&&sc.kind== .function&&sc.names.lookup n==some .cell) then .cell else k
theorem uX(sc:Scope): ∀(names:List (Str×NameKind)) (x:Str),(names.map fun(n,k)=>if (k== .free&&sc.kind== .function&&sc.names.lookup n==some .cell) then(n,NameKind.cell) else(n,k)).lookup x=(names.lookup x).map (Fj sc x):=by
 intro names
 induction names with
 |nil=>exact @fun _=>rfl
 |cons q0 r iu=>
  obtain⟨n,kd⟩:=q0
  intro x
  have ih:=iu x
  have e:(if (kd==NameKind.free&&sc.kind==ScopeKind.function&&sc.names.lookup n==some NameKind.cell)=true then(n,NameKind.cell) else(n,kd))=(n,Fj sc n kd):=by
   unfold Fj;split<;>rfl
  rw[aU]
  show List.lookup x ((if (kd==NameKind.free&&sc.kind==ScopeKind.function&&sc.names.lookup n==some NameKind.cell)=true then(n,NameKind.cell) else(n,kd))::_)=_
  rw[e,bD,bD]
  cases hb:x==n with
  |true=>rw[eq_of_beq hb];rfl
  |false=>exact ih
structure pW(sc scope:Scope)(tg:List Str):Prop where
 kind:scope.kind= .function
 nodup:(scope.names.map (·.1)).Nodup
 free: ∀x∈scope.names,x.2= .free→sc.names.lookup x.1=some .cell∨sc.names.lookup x.1=some .free
 Hf: ∀x∈tg,(scope.names.lookup x=some .local∨scope.names.lookup x=some .cell)∧(x==("__classdict__":Str))=false
 host:vR (ko scope sc)=false
 dot:E7 (ko scope sc)=true
noncomputable def Oe(sc scope:Scope)(tg:List Str):Bool:=
 !vR (ko scope sc)&&E7 (ko scope sc)&&((scope.kind== .function)&&decide (scope.names.map (·.1)).Nodup&&(scope.names.all fun x=>x.2 != .free||sc.names.lookup x.1==some .cell||sc.names.lookup x.1==some .free)&&
  tg.all fun x=>(scope.names.lookup x==some .local||scope.names.lookup x==some .cell)&& !(x==("__classdict__":Str)))
theorem or3{a b c:Bool}(h:(a||b||c)=true):a=true∨b=true∨c=true:=by cases a<;>cases b<;>first|exact .inl rfl|exact .inr (.inl rfl)|exact .inr (.inr h)
theorem Fm{a:Bool}(h:(!a)=true):a=false:=by cases a<;>first|rfl|exact Bool.noConfusion h
theorem pW.of{sc scope:Scope}{tg:List Str}(h:Oe sc scope tg=true):pW sc scope tg:=
 have h:=j8 h;have g:=j8 h.1;have h:=j8 h.2;have h':=j8 h.1;have nI:=j8 h'.1
 ⟨eq_of_beq nI.1,of_decide_eq_true nI.2,fun x hx hk=>(or3 (List.all_eq_true.mp h'.2 x hx)).elim (fun e=>absurd (beq_iff_eq.mpr hk) (by rw[Fm e];exact bk)) (Or.imp eq_of_beq eq_of_beq),
  fun x hx=>have t:=j8 (List.all_eq_true.mp h.2 x hx);⟨(Bool.or_eq_true_iff.mp t.1).imp eq_of_beq eq_of_beq,Fm t.2⟩,Fm g.1,g.2⟩
section
variable {L:ig} {sc:Scope} {σ:gO} {k:Nat}
theorem yT{elt g8 iter:aM}{kg:List aM}{rest:List cy}{scope:Scope}{pos p:cP}{tg:List Str}{tt:Bool}{f₀:List MV→Option (List PV)}{f₁:List MV→List PV→Option (List PV)}{env:b8}{A:aF}{X:List Addr}{s:aq}{ρ:List MV}{ps out:List PV}{Q:Value→aq→Prop}{E:Value→aq→Prop}{use:Option (Value→Sem Unit)}
  (ok:pW sc scope tg)(hI:IE L sc σ k iter tt f₀)(hCJ:CJ L (ko scope sc) (mN tg scope σ) tg k elt (⟨g8,iter,kg,0⟩::rest) scope pos 0 tt f₁)(hs: ∀env x,foldedSetIterable iter env x=pure x)
  (R:i5 L k A)(F:FR L sc σ env X s.heap ρ)(I:Inv L s)(sq:f₀ ρ=some ps)(h₁:f₁ (List.replicate tg.length .un++ρ.map MV.mm) ps=some out)(Kp:out.length≤100000)
  (hQ: ∀C D s',gN L X s s'→XO L (C::X) s'.heap→s.heap.get? C=none→s.heap.get? D=none→VR L.prog L.w s'.heap (C::X) (.list out) (.ref D)→(∃m,s'.heap.Ns C m)→C∉X→C≠D→compPost L.M A E use Q (.ref D) C (.ok .next) s'):
  wpAny L.M A (comprehension (.ListComp elt (⟨g8,iter,kg,0⟩::rest) scope pos) scope env p (PySem.newList []) false (eval iter env) use) Q E s:=by
 obtain⟨cl,pO,QS,QT⟩:=xV (env:=env) (scope:=scope) fun x hx=>F.has x (ok.free _ hx rfl)
 refine wpAny_comprehension_free rfl (hs env) pO ok.kind (fun x hx hl=> ?_) (hI env A X s ρ ps _ E R F I sq fun We wr gZ gW xw GA hIm hit=> ?_)
 ·have:=nM ok.nodup (show(x.1,x.2)∈scope.names from hx)
  rw[this,hl]
 refine bl (xT ?_) (by show 0≤16777216;omega)
 generalize Kq:({gZ with heap:=gZ.heap.push {cls:= .type "list",data:= .seq ([]:List Value).toArray}}:aq)=jc
 have Vc:jc.heap=gZ.heap.push {cls:= .type "list",data:= .seq ([]:List Value).toArray}:=by rw[←Kq]
 have Z5:jc.heap.objs.size=gZ.heap.objs.size+1:=by rw[Vc,aZ]
 generalize hD:gZ.heap.objs.size=D at Z5
 have Of:=cellsFrom_ok scope.names (jc.heap.push {cls:= .type "dict",data:= .dict #[]}) (jc.heap.objs.size+1) [] ⟨fun _ _ hm=>(nomatch hm),List.Pairwise.nil⟩ (by rw[aZ];exact bu _)
 rw[aZ] at Of
 generalize Vd:cellsFrom (jc.heap.objs.size+1) scope.names []=nw at Of
 generalize hC:jc.heap.objs.size=C at Of Vd Z5
 generalize Ve:({jc with heap:=pushCells (jc.heap.push {cls:= .type "dict",data:= .dict #[]}) scope.names}:aq)=s₄
 have QU:s₄.heap=pushCells (jc.heap.push {cls:= .type "dict",data:= .dict #[]}) scope.names:=by rw[←Ve]
 have Wf: ∀b o,jc.heap.get? b=some o→s₄.heap.get? b=some o:=fun b o e=>by rw[QU];exact pushCells_keeps _ _ b o (ay _ e)
 have Vf: ∀b o,gZ.heap.get? b=some o→jc.heap.get? b=some o:=fun b o e=>by rw[Vc];exact ay _ e
 have Og: ∀b o,gZ.heap.get? b=some o→s₄.heap.get? b=some o:=fun b o e=>Wf b o (Vf b o e)
 have Z6:jc.heap.get? D=some {cls:= .type "list",data:= .seq ([]:List Value).toArray}:=by rw[Vc,←hD];exact aB _ rfl
 have gD:s₄.heap.get? D=some {cls:= .type "list",data:= .seq ([]:List Value).toArray}:=Wf _ _ Z6
 have em: ∀{a b:List Addr} {x:Addr} {P:Prop},x∈a++b→(x∈a→P)→(x∈b→P)→P:=fun h f g=>(List.mem_append.mp h).elim f g
 have ec: ∀{b:List Addr} {x y:Addr} {P:Prop},x∈y::b→(x=y→P)→(x∈b→P)→P:=fun h f g=>(List.mem_cons.mp h).elim f g
 have nC:s₄.heap.Ns C (fun _=>none):=by
  rw[QU,←hC];exact(Heap.Ns.new jc.heap (.type "dict")).keeps (pushCells_keeps _ _)
 have Qh:gZ.heap.get? D=none:=by rw[←hD];exact g9 _
 have Wg: ∀c,C≤c→jc.heap.get? c=none:=fun c hc=>by
  cases e:jc.heap.get? c with
  |none=>rfl
  |some o=>exact absurd (hC▸aH e) (Nat.not_lt.mpr hc)
 have QV: ∀c,C≤c→gZ.heap.get? c=none:=fun c hc=>by
  cases e:gZ.heap.get? c with
  |none=>rfl
  |some o=>have:=Vf c o e;rw[Wg c hc] at this;(first|exact VS this|cases this)
 have fr: ∀c,gZ.heap.get? c=none→s.heap.get? c=none:=fun c=>gW.fresh F.xo
 have QW: ∀n c,nw.lookup n=some c→s₄.heap.IsCell c none∧C+1≤c∧(n,NameKind.cell)∈scope.names:=fun n c h=>by
  have hm:=g7 h
  obtain⟨h1,h2⟩:=Of.empty n c hm
  exact⟨QU▸h1,h2,(xS (acc:=[]) (show(n,c)∈cellsFrom (C+1) scope.names [] from Vd.symm▸hm)).elim (fun h=>absurd h c6) id⟩
 have QX: ∀x kd,(x,kd)∈scope.names→scope.names.lookup x=some kd:=fun x kd h=>nM ok.nodup h
 generalize Oh:C::nw.map (·.2)=Y
 have QY:C∈Y:=Oh▸aA ..
 have hYn: ∀x c,nw.lookup x=some c→c∈Y:=fun x c h=>Oh▸av _ (List.mem_map.mpr ⟨_,g7 h,rfl⟩)
 have QZ: ∀y∈Y,y=C∨ ∃n,(n,y)∈nw:=fun y hy=>by
  rw[←Oh] at hy
  exact ec hy .inl fun h=> .inr ((List.mem_map.mp h).elim fun nc h=>⟨nc.1,h.2▸h.1⟩)
 have Oi: ∀y∈Y,C≤y:=fun y hy=>(QZ y hy).elim (fun e=>ba e.symm) fun⟨n,hm⟩=>fN (Of.empty n y hm).2
 have Fn: ∀y∈Y,∃o,s₄.heap.get? y=some o:=fun y hy=>(QZ y hy).elim (fun e=>nC.elim fun o x=>x.elim fun _ x=>x.elim fun _ x=>⟨o,e▸x.1⟩) fun⟨n,hm⟩=>(Of.empty n y hm).1.elim fun o x=>⟨o,QU▸x.1⟩
 have Wh: ∀a∈wr++(D::X),∃o,jc.heap.get? a=some o:=fun a ha=>em ha (fun h=>(xw.there a (az _ h)).elim fun o ho=>⟨o,Vf a o ho⟩) fun h=>ec h (fun e=>⟨_,e▸Z6⟩) fun h=>(xw.there a (au _ h)).elim fun o ho=>⟨o,Vf a o ho⟩
 have apart: ∀y∈Y,y∉wr++(D::X):=fun y hy hz=>(Wh y hz).elim fun o ho=>hO ((Wg y (Oi y hy)).symm.trans ho)
 have mX: ∀a∈Y++(wr++(D::X)),a∈wr++X∨gZ.heap.get? a=none:=fun a ha=>em ha (fun h=> .inr (QV a (Oi a h))) fun h=>em h (fun h=> .inl (az _ h)) fun h=>ec h (fun e=> .inr (e▸Qh)) fun h=> .inl (au _ h)
 have Z7: ∀a∈wr++X,a∈Y++(wr++(D::X)):=fun a ha=>au _ (em ha (az _) fun h=>au _ (av _ h))
 have Od:XO L (Y++(wr++(D::X))) s₄.heap:=xw.widen Og gW.inv.iA mX Z7 fun a ha=>em ha (Fn a) fun h=>(Wh a h).elim fun o ho=>⟨o,Wf a o ho⟩
 have Oj:Inv L s₄:=by
  rw[←Ve,←Kq]
  exact⟨fun a o e=>Og a o (gW.inv.iA a o e)|> fun h=>by rw[QU,Vc] at h;exact h,gW.inv.bare⟩
 have JV:C∉X:=fun h=>apart C QY (au _ (av _ h))
 have Gz:D∉X:=fun h=>xw.fresh Qh (au _ h)
 have hCt:C≠L.tb:=fun e=>JV (e▸F.xo.tb)
 have yP:D≠L.tb:=fun e=>Gz (e▸F.xo.tb)
 have MK:D∉wr:=fun h=>xw.fresh Qh (az _ h)
 have uy:sc=env.scope:=F.scope.symm
 generalize Bs:({newEnv scope C env.globals (nw++cl) env.qual none .none (some env) builtinsNs with scope:=relabel scope env}:b8)=wm
 have c1:wm.scope=ko scope sc:=by rw[←Bs,uy];rfl
 have c2:wm.locals=C:=by rw[←Bs];rfl
 have c3:wm.globals=mainGlobals:=by rw[←Bs];exact F.globals
 have c4:wm.builtins=builtinsNs:=by rw[←Bs];exact F.builtins.1
 have c5:wm.cells=nw++cl:=by rw[←Bs];rfl
 have Wi: ∀x c,wm.cells.lookup x=some c→(nw.lookup x=some c∧C+1≤c)∨(nw.lookup x=none∧cl.lookup x=some c):=fun x c h=>by
  rw[c5,kn] at h
  cases hn:nw.lookup x with
  |some c'=>rw[hn] at h;(first|exact VS h|cases h);exact .inl ⟨rfl,(QW x _ hn).2.1⟩
  |none=>rw[hn] at h;exact .inr ⟨rfl,h⟩
 have Q0: ∀x c,cl.lookup x=some c→c≠L.tb∧ ∃o,s.heap.get? c=some o:=fun x c h=>F.cells x c (QS x c h)
 have Z8: ∀c,(∃o,s.heap.get? c=some o)→c≠L.tb→ ∃o,gZ.heap.get? c=some o:=fun c ⟨o,ho⟩ ht=>⟨o,gW.keep c o ht ho⟩
 have Kr: ∀x,(ko scope sc).names.lookup x=(scope.names.lookup x).map (Fj sc x):=fun x=>uX sc scope.names x
 have noOwn: ∀(i:Nat) mv,(List.replicate tg.length MV.un++ρ.map MV.mm)[i]? =some mv→mv.owned=true→False:=fun i mv h ho=>
  (List.mem_append.mp (bt h)).elim (fun h=>Bool.noConfusion ((List.mem_replicate.mp h).2▸ho)) fun h=>(List.mem_map.mp h).elim fun q x=>Bool.noConfusion ((yS q).symm.trans (x.2▸ho))
 have wk:FS L (ko scope sc) (mN tg scope σ) tg wm Y (wr++(D::X)) s₄.heap (List.replicate tg.length .un++ρ.map MV.mm):=by
  refine⟨⟨c1,ok.kind,c3,⟨c4,(fun h=>by rw[ok.host] at h;(first|exact VS h|cases h)),(fun h=>by rw[ok.dot] at h;(first|exact VS h|cases h))⟩,Od,⟨c2▸hCt,c2▸Fn C QY⟩,fun x c h=> ?_,fun x h=> ?_,fun x i hi mv jC hu=> ?_⟩,c2▸QY,⟨_,c2▸nC⟩,fun x hx=> ?_,apart,fun x i mv a H=>(noOwn i mv H.val H.ow).elim,fun x y i j mv nh a H _=>(noOwn i mv H.val H.ow).elim⟩
  ·rcases Wi x c h with⟨h1,h2⟩|⟨_,h2⟩
   ·obtain⟨⟨o,ho,_⟩,h3,_⟩:=QW x c h1
    refine⟨fun e=> ?_,o,ho⟩
    exact gW.xo.fresh (QV c (by omega)) (e▸F.xo.tb)
   ·obtain⟨h3,h4⟩:=Q0 x c h2
    obtain⟨o,ho⟩:=Z8 c h4 h3
    exact⟨h3,o,Og c o ho⟩
  ·rw[Kr x] at h
   have hk:scope.names.lookup x=some .cell∨scope.names.lookup x=some .free:=by
    cases hx:scope.names.lookup x with
    |none=>rw[hx] at h;exact h.elim hO hO
    |some kd=>
     rw[hx] at h
     cases kd<;>first|exact .inl rfl|exact .inr rfl|exact h.elim (fun h=>nomatch h) fun h=>nomatch h
   rw[c5,kn]
   rcases hk with hk|hk
   ·obtain⟨c,hm⟩:=nL (n:=C+1) (acc:=[]) (g7 hk)
    rw[Vd] at hm
    exact(jn hm).elim fun c' G6=>⟨c',by rw[G6]⟩
   ·obtain⟨c,hc⟩:=QT x (g7 hk)
    cases hn:nw.lookup x with
    |some c'=>exact⟨c',rfl⟩
    |none=>exact⟨c,hc⟩
  ·rcases tw hi with h|⟨j,rfl,hj,En⟩
   ·rw[ed (by simpa using h),List.getElem?_replicate_of_lt h] at jC
    skip;(first|exact VS jC|cases jC);exact absurd rfl hu
   ·rw[gA (by simp)] at jC
    simp only[eS,Nat.add_sub_cancel,aL] at jC
    obtain⟨MO,Ol,rfl⟩:=Option.map_eq_some_iff.mp jC
    obtain⟨q,rfl⟩:=Em hu
    obtain⟨v,r,m⟩:=F.rd x j hj _ Ol (by intro e;(first|exact VS e|cases e))
    have hsk:sc.names.lookup x=some .cell∨sc.names.lookup x=some .free:=ok.free _ (g7 En) rfl
    have hek:env.kindOf x=sc.names.lookup x:=by unfold b8.kindOf;rw[F.scope]
    have Q1:nw.lookup x=none:=by
     cases hn:nw.lookup x with
     |none=>rfl
     |some c'=>have:=QX x _ (QW x c' hn).2.2;rw[En] at this;(first|exact VS this|cases this)
    obtain⟨c,hc⟩:=QT x (g7 En)
    refine⟨v,?_,?_⟩
    ·rcases r with⟨hk,_⟩|⟨hk,hd,c',N1,hv⟩
     ·rw[hek] at hk;exact hsk.elim (fun h=>nomatch hk.symm.trans h) fun h=>nomatch hk.symm.trans h
     ·obtain rfl:c=c':=Option.some.inj ((QS x c hc).symm.trans N1)
      refine .inr ⟨?_,hd,c,by rw[c5,kn,Q1];exact hc,hv.elim fun o x=>⟨o,Og c o (gW.keep c o (Q0 _ c hc).1 x.1),x.2⟩⟩
      have Wd:wm.kindOf x=some (Fj sc x .free):=by unfold b8.kindOf;rw[c1,Kr x,En];rfl
      rw[Wd]
      unfold Fj;split
      ·exact .inl rfl
      ·exact .inr rfl
    ·exact VR.up (fun a o ha e=>have e2:=gW.keep a o (fun h=>ha (h▸F.xo.tb)) e;⟨fun hm=>(mX a hm).elim (fun h=>em h (fun h=>hO ((GA a h).symm.trans e)) ha) fun h=>hO (h.symm.trans e2),Og a o e2⟩) (show VR L.prog L.w s.heap X q v from m)
  ·obtain⟨hk,hcd⟩:=ok.Hf x hx
   rcases hk with hk|hk
   ·left;rw[Kr x,hk];rfl
   ·right
    obtain⟨c,hm⟩:=nL (n:=C+1) (acc:=[]) (g7 hk)
    rw[Vd] at hm
    obtain⟨c',G6⟩:=jn hm
    refine⟨by rw[Kr x,hk];rfl,hcd,c',by rw[c5,kn,G6],hYn x c' G6,⟨_,(QW x c' G6).1⟩,fun y hy he=> ?_⟩
    rcases Wi y c' he with⟨h1,_⟩|⟨_,h2⟩
    ·exact hy (name_of_addr Of.apart (g7 h1) (g7 G6))
    ·exact(Z8 c' (Q0 y c' h2).2 (Q0 y c' h2).1).elim fun o ho=>hO ((QV c' (fN (QW x c' G6).2.1)).symm.trans ho)
 obtain⟨St,it,st⟩:=hit (Y++(wr++(D::X))) (fun a ha=>(mX a ha).elim (fun h=>em h (fun h=> .inr (.inl h)) .inl) fun h=> .inr (.inr h)) (fun a ha=>Z7 a (az _ ha))
 have MP:St 0 s₄.heap:=it.frame _ _ _ st fun b o _ e=>Og b o e
 have Hm: ∀x c,wm.cells.lookup x=some c→c∉D::wr:=fun x c h hm=>
  (Wi x c h).elim (fun h2=>(Wh c (ec hm (fun h=>au _ (h▸aA ..)) (az _))).elim fun o ho=>hO ((Wg c (fN h2.2)).symm.trans ho))
   fun h2=>(Q0 x c h2.2).2.elim fun o ho=>ec hm (fun e=>hO ((fr D Qh).symm.trans (e▸ho))) fun h=>hO ((GA c h).symm.trans ho)
 have loop:codeAny L.M A (.compLoop (.ListComp elt (⟨g8,iter,kg,0⟩::rest) scope pos) 0 (.ref We) (.ref D) wm) (compPost L.M A E use Q (.ref D) C) s₄:=by
  refine hCJ wm A Y X wr s₄ _ ps out [] #[] 0 We St ps 0 D _ R wk Oj it MP (aE _) rfl (fun a ha hm=>ec ha (fun h=>MK (h▸hm)) fun h=>F.xo.fresh (GA a hm) h) Gz F.xo.tb F.xo.sm Hm gD gV.nil (by rw[gn];omega) h₁ fun s' qC n' F' QO Br d'=> ?_
  have Ff:XO L X s'.heap:=F'.fr.xo.sub (fun a ha=>au _ (av _ ha)) F.xo.tb F.xo.sm
  have mC: ∀a∈C::X,a∈Y++(D::X):=fun a ha=>ec ha (fun e=>az _ (e▸QY)) fun h=>au _ (av _ h)
  have Vg:C≠D:=fun e=>apart C QY (au _ (e▸aA ..))
  refine hQ C D s' ⟨fun b o hb e=> ?_,d'.inv,Ff,?_,?_⟩ (F'.fr.xo.sub mC (av _ F.xo.tb) (av _ F.xo.sm)) (fr C (QV C (bu _))) (fr D Qh) (.intro D ⟨qC,n',rfl,fun h=>ec h (fun h=>Vg h.symm) Gz,QO,Br.same mC⟩) (by rw[←c2];exact F'.ns) JV Vg
  ·have e2:=gW.keep b o hb e
   exact d'.keep b o hb (fun hm=>em hm (fun h=>hO ((QV b (Oi b h)).symm.trans e2)) fun h=>ec h (fun h=>hO (Qh.symm.trans (h▸e2))) fun h=>hO ((GA b h).symm.trans e)) (Og b o e2)
  ·rw[d'.os,←Ve,←Kq];exact gW.os
  ·rw[d'.drawn,←Ve,←Kq];exact gW.drawn
 have start:=me (gens:=⟨g8,iter,kg,0⟩::rest) (d:=0) rfl loop (it.self A 0 s₄ _ _ MP loop)
 exact start
end
end
section
open PySem
section
variable {L:ig} {sc:Scope} {σ:gO} {own:List Str} {k:Nat}
noncomputable def iL(n:Nat)(f₀:List MV→Option (List PV))(f₁:List MV→List PV→Option (List PV))(ρ:List MV):Option PV:=
 (f₀ ρ).bind fun ps=>(f₁ (List.replicate n .un++ρ.map MV.mm) ps).bind fun out=>if pI out then some (.list out) else none
theorem wo{n:Nat}{f₀:List MV→Option (List PV)}{f₁:List MV→List PV→Option (List PV)}{ρ:List MV}{p:PV}(h:iL n f₀ f₁ ρ=some p): ∃ps out,f₀ ρ=some ps∧f₁ (List.replicate n .un++ρ.map MV.mm) ps=some out∧out.length≤100000∧p= .list out:=by
 replace h:=Option.bind_eq_some_iff.mp h
 obtain⟨ps,h0,h⟩:=h
 replace h:=Option.bind_eq_some_iff.mp h
 obtain⟨out,h1,h⟩:=h
 split at h
 ·rename_i hf;(first|exact VS h|cases h);exact⟨ps,out,h0,h1,of_decide_eq_true hf,rfl⟩
 ·(first|exact VS h|cases h)
theorem SE.comp{elt g8 iter:aM}{kg:List aM}{rest:List cy}{scope:Scope}{pos:cP}{tg:List Str}{tt:Bool}{f₀:List MV→Option (List PV)}{f₁:List MV→List PV→Option (List PV)}
  (ok:pW sc scope tg)(hI:IE L sc σ k iter tt f₀)(hC:CJ L (ko scope sc) (mN tg scope σ) tg k elt (⟨g8,iter,kg,0⟩::rest) scope pos 0 tt f₁)(hs: ∀env x,foldedSetIterable iter env x=pure x):
  SE L sc σ k (.ListComp elt (⟨g8,iter,kg,0⟩::rest) scope pos) (iL tg.length f₀ f₁):=by
 intro env A X s ρ p Q E R F I hf hQ
 obtain⟨ps,out,h0,h1,Kp,rfl⟩:=wo hf
 rw[eval_ListComp]
 refine yT ok hI hC hs R F I h0 h1 Kp fun C D s' d xc hC hD hv hn JV Vg=> ?_
 obtain⟨m,hm⟩:=hn
 refine⟨m,hm,fun h' km=> ?_⟩
 have hk: ∀b o,b≠C→s'.heap.get? b=some o→h'.get? b=some o:=fun b o hb e=>km.extBut b o hb e
 have Ff:XO L X h':=xc.after (wr:=[C]) (fun a ha=>by rw[List.mem_singleton.mp ha];exact aA ..) (fun b o hb e=>hk b o (fun e=>hb (by rw[e];exact bJ _)) e)
  (fun a ha=>⟨av _ ha,fun h=>JV (by rw[←List.mem_singleton.mp h];exact ha)⟩) F.xo.tb F.xo.sm
 refine hQ _ _ (hv.up fun a o ha e=>⟨fun h=>ha (av _ h),hk a o (fun h=>ha (h▸aA ..)) e⟩) ⟨fun b o hb e=>hk b o (fun h=>by rw[h,hC] at e;(first|exact VS e|cases e)) (d.keep b o hb e),⟨fun a o e=>hk a o (fun h=> ?_) (d.inv.iA a o e),d.inv.bare⟩,Ff,d.os,d.drawn⟩
 have:=xc.look C (aA ..)
 rw[←h,e] at this;(first|exact VS this|cases this)
end
end
section
open PySem
inductive Fl where
 |next|brk|cont
 |ret (p:PV)
 deriving Inhabited
noncomputable def Wj(L:ig)(h:Heap)(Z:List Addr):Fl→Flow→Prop
 | .next,f=>f= .next
 | .brk,f=>f= .brk
 | .cont,f=>f= .cont
 | .ret p,f=> ∃v,f= .ret v∧VR L.prog L.w h Z p v
section
variable {L:ig} {sc:Scope} {σ:gO} {own:List Str} {k:Nat}
noncomputable def wq(L:ig)(sc:Scope)(σ:gO)(own:List Str)(g:Bool)(env:b8)(Y Z:List Addr)(s:aq)(fl:Fl)(ρ':List MV)(Q:Flow→aq→Prop):Prop:=
 ∀fv Y' s',Wj L s'.heap Z fl fv→FS L sc σ own env Y' Z s'.heap ρ'→(∀b∈Y',b∈Y∨s.heap.get? b=none)→(g=false→Y'=Y)→gS L Y s s'→Q fv s'
noncomputable def S1(L:ig)(sc:Scope)(σ:gO)(own:List Str)(k:Nat)(g:Bool)(st:Stmt)(f:List MV→Option (Fl×List MV)):Prop:=
 ∀(env:b8) (A:aF) (Y Z:List Addr) (s:aq) (ρ ρ':List MV) (fl:Fl) (Q:Flow→aq→Prop) (E:Value→aq→Prop),
  i5 L k A→FS L sc σ own env Y Z s.heap ρ→Inv L s→L.tb∈Z→sysModules∈Z→f ρ=some (fl,ρ')→wq L sc σ own g env Y Z s fl ρ' Q→wpAny L.M A (exec st env) Q E s
noncomputable def SS(L:ig)(sc:Scope)(σ:gO)(own:List Str)(k:Nat)(g:Bool)(body:List Stmt)(f:List MV→Option (Fl×List MV)):Prop:=
 ∀(env:b8) (A:aF) (Y Z:List Addr) (s:aq) (ρ ρ':List MV) (fl:Fl) (Q:Flow→aq→Prop) (E:Value→aq→Prop),
  i5 L k A→FS L sc σ own env Y Z s.heap ρ→Inv L s→L.tb∈Z→sysModules∈Z→f ρ=some (fl,ρ')→wq L sc σ own g env Y Z s fl ρ' Q→wpAny L.M A (execs body env) Q E s
theorem wq.imp{g g':Bool}{env:b8}{Y Z wu:List Addr}{s s₁:aq}{fl:Fl}{ρ':List MV}{Q:Flow→aq→Prop}(h:wq L sc σ own g env Y Z s fl ρ' Q)(hY: ∀b∈wu,b∈Y∨s.heap.get? b=none)(hg:g=false→g'=false∧wu=Y)(d:gS L Y s s₁)
  (kH: ∃o,s₁.heap.get? L.tb=some o):wq L sc σ own g' env wu Z s₁ fl ρ' Q:=by
 intro fv Y' s' hf F Qi Z9 d'
 refine h fv Y' s' hf F (fun b hb=>(Qi b hb).elim (hY b) fun h1=> ?_) (fun e=>(Z9 (hg e).1).trans (hg e).2) (d.trans hY d')
 cases e:s.heap.get? b with
 |none=>exact .inr rfl
 |some o=>
  by_cases MQ:b∈Y
  ·exact .inl MQ
  ·by_cases ht:b=L.tb
   ·exact kH.elim fun o' lr=>hO (h1.symm.trans (ht▸lr))
   ·exact hO (h1.symm.trans (d.keep b o ht MQ e))
theorem wq.one{g:Bool}{env:b8}{Y Z:List Addr}{s s':aq}{fl:Fl}{ρ':List MV}{Q:Flow→aq→Prop}{fv:Flow}(h:wq L sc σ own g env Y Z s fl ρ' Q)(hf:Wj L s'.heap Z fl fv)(F:FS L sc σ own env Y Z s'.heap ρ')(d:gS L Y s s'):Q fv s':=
 h fv Y s' hf F (fun b hb=> .inl hb) (fun _=>rfl) d
theorem SS.nil{g:Bool}:SS L sc σ own k g [] (fun ρ=>some (.next,ρ)):=by
 intro env A Y Z s ρ ρ' fl Q E R F I kH kh hf hQ
 skip;(first|exact VS hf|cases hf)
 exact fh (hQ.one rfl F (gS.refl I))
noncomputable def gR(f g:List MV→Option (Fl×List MV))(ρ:List MV):Option (Fl×List MV):=(f ρ).bind fun r=>match r with|(.next,ρ')=>g ρ'|r=>some r
theorem SS.cons{g g':Bool}{st:Stmt}{rest:List Stmt}{f f':List MV→Option (Fl×List MV)}(h:S1 L sc σ own k g st f)(hr:SS L sc σ own k g' rest f'):SS L sc σ own k (g||g') (st::rest) (gR f f'):=by
 intro env A Y Z s ρ ρ' fl Q E R F I kH kh hf hQ
 obtain⟨⟨pX,gP⟩,h1,h2⟩:=Option.bind_eq_some_iff.mp hf
 refine dk (h env A Y Z s ρ gP pX _ E R F I kH kh h1 fun fv Y' s' qE F' hY hg d=> ?_)
 have fin:some (pX,gP)=some (fl,ρ')→Q fv s':=fun e=>by
  skip;(first|exact VS e|cases e)
  exact hQ fv Y' s' qE F' hY (fun e=>hg (Bool.or_eq_false_iff.mp e).1) d
 cases pX with
 |next=>
  skip;(first|exact VS qE|cases qE)
  exact hr env A Y' Z s' gP ρ' fl Q E R F' d.inv kH kh h2 (hQ.imp hY (fun e=>have e:=Bool.or_eq_false_iff.mp e;⟨e.2,hg e.1⟩) d (F'.fr.xo.there _ F'.fr.xo.tb))
 |brk=>have q:=fin h2;(first|exact VS qE|cases qE);exact q
 |cont=>have q:=fin h2;(first|exact VS qE|cases qE);exact q
 |ret p=>have q:=fin h2;obtain⟨v,rfl,hv⟩:=qE;exact q
theorem S1.ret{e:aM}{pos:cP}{f:List MV→Option PV}(h:SE L sc σ k e f):S1 L sc σ own k false (.Return (some e) pos) (fun ρ=>(f ρ).map fun v=>(.ret v,ρ)):=by
 intro env A Y Z s ρ ρ' fl Q E R F I kH kh hf hQ
 obtain⟨v,hv,e'⟩:=Option.map_eq_some_iff.mp hf
 skip;(first|exact VS e'|cases e')
 refine wpAny_Return_some (h env A _ s ρ v _ E R F.fr I hv fun y s₁ hy d=> ?_)
 exact hQ.one ⟨y,rfl,hy.up (Up.sub _ fun a ha=>au _ ha)⟩ (F.done d) (gS.jQ d)
theorem S1.brk{pos:cP}:S1 L sc σ own k false (.Break pos) (fun ρ=>some (.brk,ρ)):=by
 intro env A Y Z s ρ ρ' fl Q E R F I kH kh hf hQ
 skip;(first|exact VS hf|cases hf)
 exact wpAny_Break (hQ.one rfl F (gS.refl I))
theorem S1.Va{g g':Bool}{t:aM}{b o:List Stmt}{pos:cP}{c:List MV→Option Bool}{f f':List MV→Option (Fl×List MV)}(ht:TE L sc σ k t c)(hb:SS L sc σ own k g b f)(ho:SS L sc σ own k g' o f'):
  S1 L sc σ own k (g||g') (.If t b o pos) (fun ρ=>(c ρ).bind fun x=>if x then f ρ else f' ρ):=by
 intro env A Y Z s ρ ρ' fl Q E R F I kH kh hf hQ
 replace hf:=Option.bind_eq_some_iff.mp hf
 obtain⟨x,hx,hf⟩:=hf
 refine wpAny_If (ht env A _ s ρ x _ E R F.fr I hx fun s₁ d=> ?_)
 have fin: ∀Wk,((g||g')=false→Wk=false)→wq L sc σ own Wk env Y Z s₁ fl ρ' Q:=fun Wk e=>hQ.imp (fun b h=> .inl h) (fun h=>⟨e h,rfl⟩) (gS.jQ d) (d.xo.there _ d.xo.tb)
 cases x with
 |true=>exact hb env A Y Z s₁ ρ ρ' fl Q E R (F.done d) d.inv kH kh hf (fin g fun e=>(Bool.or_eq_false_iff.mp e).1)
 |false=>exact ho env A Y Z s₁ ρ ρ' fl Q E R (F.done d) d.inv kH kh hf (fin g' fun e=>(Bool.or_eq_false_iff.mp e).2)
theorem S1.set{e:aM}{x:Str}{p pos:cP}{i:Nat}{f:List MV→Option PV}(he:SE L sc σ k e f)(hx:x∈own)(hi:lb σ x i)(hs: ∀env,env.scope=sc→swapsWith e (some (.Name x p)) pos.line env=pure false):
  S1 L sc σ own k false (.Assign [.Name x p] e pos) (fun ρ=>(f ρ).map fun v=>(.next,ρ.set i (.p v))):=by
 intro env A Y Z s ρ ρ' fl Q E R F I kH kh hf hQ
 obtain⟨v,hv,e'⟩:=Option.map_eq_some_iff.mp hf
 skip;(first|exact VS e'|cases e')
 refine eH (hs:=hs env F.fr.scope) (he env A _ s ρ v _ E R F.fr I hv fun y s₁ hy d=>(F.done d).bind d.inv hx hi hy fun gZ jK gW=> ?_)
 exact hQ.one rfl jK ((gS.jQ d).trans (fun b h=> .inl h) gW)
theorem wx{Y W Z:List Addr}{a:Addr}(h:a∈Y++(W++Z)):a∈W++(Y++Z):=(List.mem_append.mp h).elim (fun h=>au _ (az _ h)) fun h=>(List.mem_append.mp h).elim (az _) fun h=>au _ (au _ h)
theorem MR{Y Z:List Addr}{C a:Addr}(h:a∈Y++(C::Z)):a∈C::(Y++Z):=wx (W:=[C]) h
theorem Eo{Y Z:List Addr}{C a:Addr}(h:a∈C::(Y++Z)):a∈Y++(C::Z):=wx (Y:=[C]) h
theorem FS.Q2{env:b8}{Y Z:List Addr}{ρ:List MV}{s s':aq}{C:Addr}(F:FS L sc σ own env Y Z s.heap ρ)(d:gN L (Y++Z) s s')(xc:XO L (C::(Y++Z)) s'.heap)(hC:s.heap.get? C=none)(JV:C∉Y++Z):
  FS L sc σ own env Y (C::Z) s'.heap ρ∧ ∀gZ jL h',FS L sc σ own env Y (C::Z) gZ.heap jL→gS L Y s' gZ→(∀b o,b≠C→gZ.heap.get? b=some o→h'.get? b=some o)→FS L sc σ own env Y Z h' jL∧gS L Y s {gZ with heap:=h'}:=by
 refine⟨F.N7 d (xc.sub (fun a ha=>MR ha) (Eo xc.tb) (Eo xc.sm)) fun a ha=>(List.mem_cons.mp ha).elim (fun e=> .inr (e▸hC)) .inl,fun gZ jL h' jK gW hk=> ?_⟩
 have oN: ∀b o,b∉[C]→gZ.heap.get? b=some o→h'.get? b=some o:=fun b o hb=>hk b o fun e=>hb (List.mem_singleton.mpr e)
 have Wl:XO L (Y++Z) h':=jK.fr.xo.after (wr:=[C]) (fun a ha=>List.mem_singleton.mp ha▸Eo (aA ..)) oN (fun a ha=>⟨Eo (av _ ha),fun h=>JV (List.mem_singleton.mp h▸ha)⟩) F.fr.xo.tb F.fr.xo.sm
 exact⟨jK.chg (W:=[C]) (fun a ha=>List.mem_singleton.mp ha▸aA ..) (fun b o _=>oN b o) Wl (fun a ha=>av _ ha) fun y c hc h=>(F.fr.cells y c hc).2.elim fun o ho=>hO (hC.symm.trans (List.mem_singleton.mp h▸ho)),
  ((gS.jQ d).trans (fun b h=> .inl h) gW).trans (Y':=[C]) (fun b hb=> .inr (List.mem_singleton.mp hb▸hC)) ⟨fun b o _=>oN b o,⟨fun a o e=>hk a o (fun h=>hO ((xc.look C (aA ..)).symm.trans (h▸e))) (gW.inv.iA a o e),gW.inv.bare⟩,rfl,rfl⟩⟩
theorem S1.setC{elt g8 iter:aM}{kg:List aM}{rest:List cy}{scope:Scope}{pos p Bt:cP}{tg:List Str}{tt:Bool}{f₀:List MV→Option (List PV)}{f₁:List MV→List PV→Option (List PV)}{x:Str}{i:Nat}
  (ok:pW sc scope tg)(hI:IE L sc σ k iter tt f₀)(hC:CJ L (ko scope sc) (mN tg scope σ) tg k elt (⟨g8,iter,kg,0⟩::rest) scope pos 0 tt f₁)(Hk: ∀env x,foldedSetIterable iter env x=pure x)
  (hx:x∈own)(hi:lb σ x i)(hs: ∀env,env.scope=sc→swapsWith (.ListComp elt (⟨g8,iter,kg,0⟩::rest) scope pos) (some (.Name x p)) Bt.line env=pure true):
  S1 L sc σ own k false (.Assign [.Name x p] (.ListComp elt (⟨g8,iter,kg,0⟩::rest) scope pos) Bt) (fun ρ=>(iL tg.length f₀ f₁ ρ).map fun v=>(.next,ρ.set i (.p v))):=by
 intro env A Y Z s ρ ρ' fl Q E R F I kH kh hf hQ
 obtain⟨v,hv,e'⟩:=Option.map_eq_some_iff.mp hf
 skip;(first|exact VS e'|cases e')
 obtain⟨ps,out,h0,h1,Kp,rfl⟩:=wo hv
 rw[exec_Assign_Name_used _ _ _ _ (hs env F.fr.scope)]
 refine ao (bX (ao ?_))
 show wpAny _ A (do let _←comprehension (.ListComp elt (⟨g8,iter,kg,0⟩::rest) scope pos) scope env _ (PySem.newList []) false (eval iter env) (some (assign (.Name x p) env))) _ _ s
 refine ao (bH (yT (Q:=fun _ s'=>Q .next s') (use:=some (assign (.Name x p) env)) ok hI hC Hk R F.fr I h0 h1 Kp fun C D s' d xc hC hD hv hn JV Vg=> ?_) (fun _ s' hq=>aw (aw hq)) fun _ _ e=>e)
 obtain⟨m,hm⟩:=hn
 obtain⟨jq,kQ⟩:=FS.Q2 (σ:=σ) (own:=own) F d xc hC JV
 refine cV (jq.bind d.inv hx hi (hv.up (Up.sub _ fun a ha=>MR ha)) fun gZ jK gW=> ?_)
 refine⟨m,hm.at' fun o e=>gW.keep C o (fun e=>JV (e▸F.fr.xo.tb)) (fun h=>JV (az _ h)) e,fun h' km=> ?_⟩
 have k:=kQ _ _ _ jK gW fun b o hb e=>km.extBut b o hb e
 exact hQ.one (s':={gZ with heap:=h'}) rfl k.1 k.2
theorem S1.Wm{es:List aM}{kk:Nat}{qF pos:cP}{e:aM}{f:List MV→Option PV}{u:PV→List MV→Option (List MV)}(he:SE L sc σ k e f)(ht:AS L sc σ own (.Tuple es kk qF) u)
  (hs: ∀env,env.scope=sc→swapsWithSole [.Tuple es kk qF] e pos.line env=pure false)(hw: ∀env,env.scope=sc→swappedStores [.Tuple es kk qF] e env=pure none):
  S1 L sc σ own k false (.Assign [.Tuple es kk qF] e pos) (fun ρ=>(f ρ).bind fun v=>(u v ρ).map fun ρ'=>(.next,ρ')):=by
 intro env A Y Z s ρ ρ' fl Q E R F I kH kh hf hQ
 replace hf:=Option.bind_eq_some_iff.mp hf
 obtain⟨v,hv,hf⟩:=hf
 obtain⟨gP,hu,e'⟩:=Option.map_eq_some_iff.mp hf
 skip;(first|exact VS e'|cases e')
 refine fB (hs:=hs env F.fr.scope) (hw:=hw env F.fr.scope) (he env A _ s ρ v _ E R F.fr I hv fun y s₁ hy d=> ?_)
 exact ht env A Y Z s₁ ρ _ v y _ E (R.less (aE _)) (F.done d) d.inv hy hu fun gZ jK gW=>hQ.one rfl jK ((gS.jQ d).trans (fun b h=> .inl h) gW)
theorem Fo{xs:List Str}{is:List Nat}(h:i4 own σ xs is): ∀{ps:List PV} {ρ ρ':List MV},pU is ps ρ=some ρ'→xs.length=ps.length:=by
 induction h with
 |nil=>intro ps ρ ρ' e;cases ps<;>first|rfl|exact hO e
 |cons _ _ _ ih=>intro ps ρ ρ' e;cases ps<;>first|exact hO e|exact congrArg (· +1) (ih e)
theorem gV.reverse{h:Heap}{X:List Addr}: ∀{ps:List PV} {vs:List Value},gV L.prog L.w h X ps vs→gV L.prog L.w h X ps.reverse vs.reverse:=by
 intro ps
 induction ps with
 |nil=>exact @fun _ x=>by (first|exact VS x|cases x);exact gV.nil
 |cons p ps iu=>
  intro _ x
  obtain⟨v,r,rfl,hv,hr⟩:=x
  rw[List.reverse_cons,List.reverse_cons]
  exact(iu hr).append (gV.cons hv gV.nil)
theorem FS.Q3{env:b8}{Y Z:List Addr}{A:aF}{E:Value→aq→Prop}{Q:Unit→aq→Prop}{xs:List Str}{is:List Nat}(h:i4 own σ xs is): ∀{ps:List PV} {vs:List Value} {ρ ρ':List MV} {s:aq},FS L sc σ own env Y Z s.heap ρ→Inv L s→gV L.prog L.w s.heap (Y++Z) ps vs→pU is ps ρ=some ρ'→
  (∀s',FS L sc σ own env Y Z s'.heap ρ'→gS L Y s s'→Q () s')→wpAny L.M A (assignInOrder (xs.map fun n=>bindName env n) vs) Q E s:=by
 induction h with
 |nil=>
  intro ps vs ρ ρ' s F I hv hu hQ
  cases ps<;>try exact hO hu
  obtain rfl:=hv
  skip;(first|exact VS hu|cases hu)
  exact dq (hQ _ F (gS.refl I))
 |cons hx hi _ ih=>
  intro ps vs ρ ρ' s F I hv hu hQ
  cases ps<;>try exact hO hu
  obtain⟨v,r,rfl,h1,h2⟩:=hv
  exact dh (fW (F.bind I hx hi h1 fun s₁ jq iE=>ih jq iE.inv (gV.up (iE.up F.fr.xo) h2) hu fun s' F' d'=>hQ s' F' (iE.trans (fun b h=> .inl h) d')))
theorem S1.Wn{es:List aM}{kk:Nat}{qF pos:cP}{e:aM}{f:List MV→Option PV}{xs:List Str}{is:List Nat}(he:SE L sc σ k e f)(hi:i4 own σ xs.reverse is)
  (hs: ∀env,env.scope=sc→swapsWithSole [.Tuple es kk qF] e pos.line env=pure false)(hw: ∀env,env.scope=sc→swappedStores [.Tuple es kk qF] e env=pure (some xs)):
  S1 L sc σ own k false (.Assign [.Tuple es kk qF] e pos) (fun ρ=>(f ρ).bind fun v=>(lj v).bind fun l=>(pU is l.reverse ρ).map fun ρ'=>(.next,ρ')):=by
 intro env A Y Z s ρ ρ' fl Q E R F I kH kh hf hQ
 replace hf:=Option.bind_eq_some_iff.mp hf
 obtain⟨v,hv,hf⟩:=hf
 replace hf:=Option.bind_eq_some_iff.mp hf
 obtain⟨l,hl,hf⟩:=hf
 obtain⟨gP,hu,e'⟩:=Option.map_eq_some_iff.mp hf
 skip;(first|exact VS e'|cases e')
 refine eM (names:=xs) (hs:=hs env F.fr.scope) (hw:=hw env F.fr.scope) (he env A _ s ρ v _ E R F.fr I hv fun y s₁ hy d=> ?_)
 refine wi R.handled d.inv d.xo hl hy (by rw[←d2,Fo hi hu,d2]) fun vs gZ jE gW=> ?_
 exact FS.Q3 hi ((F.done d).done gW) gW.inv jE.reverse hu fun jc kQ jb=>hQ.one rfl kQ (((gS.jQ d).trans (fun b h=> .inl h) (gS.jQ gW)).trans (fun b h=> .inl h) jb)
end
end
section
open PySem
section
variable {L:ig} {sc:Scope} {σ:gO} {own:List Str} {k:Nat}
noncomputable def nj(u:PV→List MV→Option (List MV))(fb fo:List MV→Option (Fl×List MV)):List MV→List PV→Option (Fl×List MV)
 |ρ,[]=>fo ρ
 |ρ,p::ps=>(u p ρ).bind fun gP=>(fb gP).bind fun r=>match r with
  |(.next,jL)=>nj u fb fo jL ps
  |(.cont,jL)=>nj u fb fo jL ps
  |(.brk,jL)=>some (.next,jL)
  |(.ret v,jL)=>some (.ret v,jL)
theorem Ks{g8:aM}{body orelse:List Stmt}{tt:Bool}{u:PV→List MV→Option (List MV)}{fb fo:List MV→Option (Fl×List MV)}(hu:AS L sc σ own g8 u)(ht:tt=true→pV g8=true)(hb:SS L sc σ own k false body fb)(ho:SS L sc σ own k false orelse fo)
  {env:b8}{A:aF}{Y Z wr:List Addr}{I:Addr}{St:Nat→Heap→Prop}{all:List PV}{fl:Fl}{ρ':List MV}{R:eL→aq→Prop}(Rm:i5 L k A)(it:It L (Y++(wr++Z)) wr I all St tt)(hZ: ∀a∈Z,a∉wr)(kH:L.tb∈Z)(kh:sysModules∈Z)(hc: ∀x c,env.cells.lookup x=some c→c∉wr):
  ∀(ps:List PV) (i:Nat) (s:aq) (ρ:List MV),FS L sc σ own env Y (wr++Z) s.heap ρ→Inv L s→St i s.heap→i≤all.length→all.drop i=ps→nj u fb fo ρ ps=some (fl,ρ')→
   (∀fv s',Wj L s'.heap Z fl fv→FS L sc σ own env Y Z s'.heap ρ'→gS L (Y++wr) s s'→R (.ok fv) s')→codeAny L.M A (.forLoop g8 (.ref I) body orelse env) R s:=by
 have Ob:L.tb∉wr:=hZ _ kH
 intro ps
 induction ps with
 |nil=>
  intro i s ρ F Iv st MJ hd hf hR
  obtain rfl:=Bp hd MJ
  refine d7 ?_
  show wpAny _ A ((forTurn g8 (.ref I) body orelse env).onRaise (fun x=>do noteFrame x env;theTreesLotGoes x)) _ _ s
  refine wpAny_noted ?_
  simp only[forTurn]
  refine ao (bX (ao (fV (bH (it.done A s _ _ (Rm.less (aE _)) F.fr.xo Iv st fun s' dn hkk=> ?_) (fun _ _ h=>h) fun _ _ h'=>bX h'))))
  refine aw ⟨rfl,codeAny_block ?_⟩
  have Ff:XO L (Y++Z) s'.heap:=F.fr.xo.after it.N8 hkk (fun a ha=>⟨Kl ha,(List.mem_append.mp ha).elim (fun h hw=>F.apart a h (az _ hw)) (hZ a)⟩) (au _ kH) (au _ kh)
  have F':FS L sc σ own env Y Z s'.heap ρ:=F.chg (W:=wr) (fun a ha=>az _ ha) (fun b o _ hb e=>hkk b o hb e) Ff (fun a ha=>au _ ha) hc
  have d':gS L (Y++wr) s s':=⟨fun b o hb hn e=>dn.keep b o hb (fun h=>hn (au _ h)) e,dn.inv,dn.os,dn.drawn⟩
  refine ho env A Y Z s' ρ ρ' fl _ _ Rm F' dn.inv kH kh hf fun fv Y' ph qE Vh Qi hg d''=> ?_
  rw[hg rfl] at Vh
  exact hR fv ph qE Vh (d'.trans (fun b h=> .inl (az _ h)) d'')
 |cons p ps ih=>
  intro i s ρ F Iv st MJ hd hf hR
  replace hf:=Option.bind_eq_some_iff.mp hf
  obtain⟨gP,zN,hf⟩:=hf
  replace hf:=Option.bind_eq_some_iff.mp hf
  obtain⟨⟨pX,jL⟩,Om,hf⟩:=hf
  obtain⟨hp,Oc,vI⟩:=wj hd
  refine d7 ?_
  show wpAny _ A ((forTurn g8 (.ref I) body orelse env).onRaise (fun x=>do noteFrame x env;theTreesLotGoes x)) _ _ s
  refine wpAny_noted ?_
  simp only[forTurn]
  refine ao (bX (ao (fV (bH (it.step Rm F Iv st hp ht hu zN Ob hc) (fun r s₁ hr=> ?_) fun _ _ h'=>bX h'))))
  obtain⟨v,rfl,hv⟩:=hr
  refine ao (bH hv (fun _ Bo h=>ao (bH h (fun _ gZ h₂=> ?_) fun _ _ x=>x)) fun _ _ x=>x)
  obtain⟨jK,Hh,gW⟩:=h₂
  refine ao (hb env A Y (wr++Z) gZ gP jL pX _ _ Rm jK gW.inv (au _ kH) (au _ kh) Om fun fv Y' jc qE kQ Qi hg jb=> ?_)
  rw[hg rfl] at kQ
  have dd:gS L (Y++wr) s jc:=gW.trans (fun b h=> .inl (az _ h)) jb
  have Q4:St (i+1) jc.heap:=it.frame _ _ _ Hh fun b o xI e=>jb.keep b o (fun h=>Ob (h▸xI (h▸F.fr.xo.tb))) (fun h=>F.apart b h (az _ (xI (az _ h)))) e
  have leave:FS L sc σ own env Y Z jc.heap jL:=kQ.chg (W:=[]) (fun _ h=>nomatch h) (fun b o _ _ e=>e) (kQ.fr.xo.sub (fun a ha=>Kl ha) (au _ kH) (au _ kh)) (fun a ha=>au _ ha) (fun _ _ _ h=>nomatch h)
  have more:nj u fb fo jL ps=some (fl,ρ')→codeAny L.M A (.forLoop g8 (.ref I) body orelse env) R jc:=fun hf=>ih (i+1) jc jL kQ jb.inv Q4 Oc vI hf fun fv s' h1 h2 h3=>hR fv s' h1 h2 (dd.trans (fun b h=> .inl h) h3)
  cases pX with
  |next=>(first|exact VS qE|cases qE);exact aw ⟨rfl,more hf⟩
  |cont=>(first|exact VS qE|cases qE);exact aw ⟨rfl,more hf⟩
  |brk=>(first|exact VS qE|cases qE);(first|exact VS hf|cases hf);exact aw (hR .next jc rfl leave dd)
  |ret q=>
   obtain⟨v,rfl,hv⟩:=qE
   skip;(first|exact VS hf|cases hf)
   exact aw (hR (.ret v) jc ⟨v,rfl,hv.up (Up.sub _ fun a ha=>au _ ha)⟩ leave dd)
theorem S1.for{g8 iter:aM}{body orelse:List Stmt}{pos:cP}{tt:Bool}{f₀:List MV→Option (List PV)}{u:PV→List MV→Option (List MV)}{fb fo:List MV→Option (Fl×List MV)}(hI:IE L sc σ k iter tt f₀)(hu:AS L sc σ own g8 u)(ht:tt=true→pV g8=true)(hb:SS L sc σ own k false body fb)(ho:SS L sc σ own k false orelse fo)
  (Hk: ∀env x,foldedSetIterable iter env x=pure x):
  S1 L sc σ own k false (.For g8 iter body orelse pos) (fun ρ=>(f₀ ρ).bind fun ps=>nj u fb fo ρ ps):=by
 intro env A Y Z s ρ ρ' fl Q E R F I kH kh hf hQ
 replace hf:=Option.bind_eq_some_iff.mp hf
 obtain⟨ps,hps,hf⟩:=hf
 refine wpAny_For (hs:=Hk env) (hI env A _ s ρ ps _ E R F.fr I hps fun We wr gZ gW xw GA hIm hit=> ?_)
 have jK:FS L sc σ own env Y (wr++Z) gZ.heap ρ:=F.N7 gW (xw.sub (fun a ha=>wx ha) (wx xw.tb) (wx xw.sm)) fun a ha=>(List.mem_append.mp ha).elim (fun h=> .inr (GA a h)) .inl
 obtain⟨St,it,st⟩:=hit (Y++(wr++Z)) (fun a ha=>(List.mem_append.mp (wx ha)).elim (fun h=> .inr (.inl h)) .inl) (fun a ha=>wx (az _ ha))
 exact Ks hu ht hb ho R it (fun a ha hm=>F.fr.xo.fresh (GA a hm) (au _ ha)) kH kh (fun x c pO hm=>(F.fr.cells x c pO).2.elim fun o ho=>hO ((GA c hm).symm.trans ho)) ps 0 gZ ρ jK gW.inv st (aE _) rfl hf fun fv s' h1 h2 h3=>
  hQ.one h1 h2 ((gS.jQ gW).trans (fun b hb=>(List.mem_append.mp hb).imp id (GA b)) h3)
end
end
section
open PySem
inductive Callee (L:ig):Value→Prop
 |builtin (id:String):Callee L (.builtin id)
 |type (T:String):Callee L (.type T)
 |fn {a:Addr} {o:Obj} {fd:FuncData}:L.look a=some o→o.data= .func fd→Callee L (.ref a)
 |cls {v:Value} {K:eo}:(∀h:Heap,(∀a o,L.look a=some o→h.get? a=some o)→PySem.W.Frag.In K h)→PySem.W.keepIn K v=true→Callee L v
section
variable {L:ig} {sc:Scope} {σ:gO} {own:List Str} {k:Nat}
noncomputable def iM(L:ig)(k:Nat)(v:Value)(g:List PV→Option PV):Prop:=
 ∀(A:aF) (X:List Addr) (s:aq) (ps:List PV) (vs:List Value) (r:PV) (Q:Value→aq→Prop) (E:Value→aq→Prop),
  i5 L k A→XO L X s.heap→Inv L s→gV L.prog L.w s.heap X ps vs→g ps=some r→(∀x s',VR L.prog L.w s'.heap X r x→gN L X s s'→Q x s')→wpAny L.M A (call v vs) Q E s
theorem iM.less{j:Nat}{v:Value}{g:List PV→Option PV}(h:iM L j v g)(hk:j≤k):iM L k v g:=fun A X s ps vs r Q E R=>h A X s ps vs r Q E (R.less hk)
theorem sr{env:b8}{A:aF}{X:List Addr}{s:aq}{v:Value}{first:List Value}{e:aM}{es:List aM}{pos:cP}{ρ:List MV}{f:List MV→Option (List PV)}{ps:List PV}{Q:Value→aq→Prop}{E:Value→aq→Prop}(hc:Callee L v)(ha:LE L sc σ k (e::es) f)(he: ∀env,starEach (e::es) env=(false,eval e env)::starEach es env)(qD: ∀env,(starEach (e::es) env).any (·.1)=false)
  (R:i5 L k A)(F:FR L sc σ env X s.heap ρ)(I:Inv L s)(hf:f ρ=some ps)
  (hQ: ∀vs s₁,gV L.prog L.w s₁.heap X ps vs→gN L X s s₁→wpAny L.M A (call v (first++vs)) Q E s₁):wpAny L.M A (callWith pos v first (backTo pos (starEach (e::es) env)) []) Q E s:=by
 have Hn:(backTo pos (starEach (e::es) env)).any (·.1)=false:=List.any_map.trans (qD env)
 have hb:backTo pos (starEach (e::es) env)=(false,eval e env)::backTo pos (starEach es env):=by
  rw[he env];rfl
 have Hp:wpAny L.M A (spliced (backTo pos (starEach (e::es) env))) (fun vs s₁=>gV L.prog L.w s₁.heap X ps vs∧gN L X s s₁) E s:=ha env A X s ρ ps pos _ E R F I hf fun vs s₁ h1 h2=>⟨h1,h2⟩
 rw[hb] at Hp Hn ⊢
 cases hc with
 |builtin id=>exact Calls.callWith_builtin Hn (b7 (bH Hp (fun vs s₁ h=>hQ vs s₁ h.1 h.2) fun _ _ e=>e))
 |type T=>exact callWith_type Hn (b7 (bH Hp (fun vs s₁ h=>hQ vs s₁ h.1 h.2) fun _ _ e=>e))
 |cls hk kI=>
  have xI:(backTo pos (starEach es env)).any (·.1)=false:=by
   rw[fk] at Hn;exact(Bool.or_eq_false_iff.mp Hn).2
  rw[←hb] at Hp ⊢
  exact PySem.W.callWith_K (E:=E) (hk _ I.iA) kI (bH Hp (fun vs s₁ h=>⟨hk _ h.2.inv.iA,hQ vs s₁ h.1 h.2⟩) fun _ _ e=>e) (he env) xI
 |fn hl hd=>exact et (b7 (bH Hp (fun vs s₁ h=>⟨⟨h.2.inv.iA _ _ hl,hd⟩,hQ vs s₁ h.1 h.2⟩) fun _ _ e=>e))
theorem SE.call{x:Str}{np pos:cP}{e:aM}{es:List aM}{v:Value}{f:List MV→Option (List PV)}{g:List PV→Option PV}(hx:sc.names.lookup x=some .globalImplicit)(hv:L.gl x=some v)(hc:Callee L v)(hf:iM L k v g)(ha:LE L sc σ k (e::es) f)
  (he: ∀env,starEach (e::es) env=(false,eval e env)::starEach es env)(qD: ∀env,(starEach (e::es) env).any (·.1)=false)(hd:(x==("__debug__":Str))=false:=by decide):SE L sc σ k (.Call (.Name x np) (e::es) [] pos) (fun ρ=>(f ρ).bind g):=by
 intro env A X s ρ p Q E R F I MS hQ
 obtain⟨ps,hps,hg⟩:=Option.bind_eq_some_iff.mp MS
 refine bT (aN (by rw[F.scope];exact F.kind) (by unfold b8.kindOf;rw[F.scope];exact hx) (L.rt s env A x v _ E I.iA F.globals F.builtins.1 hv ?_) hd)
 exact sr hc ha he qD R F I hps fun vs s₁ jE d=>hf A X s₁ ps vs p Q E R d.xo d.inv jE hg fun y s' hy d'=>hQ y s' hy (d.trans d')
theorem SE.glob{x:Str}{pos:cP}{v:Value}{p:PV}(hx:sc.names.lookup x=some .globalImplicit)(hv:L.gl x=some v)(hp: ∀(h:Heap) (X:List Addr),(∀a o,L.look a=some o→h.get? a=some o)→(∀a∈X,L.look a=Option.none)→VR L.prog L.w h X p v)(hd:(x==("__debug__":Str))=false:=by decide):
  SE L sc σ k (.Name x pos) (fun _=>some p):=by
 intro env A X s ρ q Q E R F I hf hQ
 skip;(first|exact VS hf|cases hf)
 refine aN (by rw[F.scope];exact F.kind) (by unfold b8.kindOf;rw[F.scope];exact hx) (L.rt s env A x v _ E I.iA F.globals F.builtins.1 hv ?_) hd
 exact hQ v s (hp _ _ I.iA F.xo.look) (gN.refl I F.xo)
noncomputable def nN(L:ig)(name:Str)(g:PV→List PV→Option PV):Prop:=
 ∀(X:List Addr) (s:aq) (p:PV) (u:Value),XO L X s.heap→Inv L s→VR L.prog L.w s.heap X p u→(∃ps r,g p ps=some r)→ ∃T id,PlainAttrs T∧Slot T name id∧typeOf (.builtin id)=pure (.type "method_descriptor")∧s.TypeIs u T∧(∀a,u= .ref a→ ∃ob,s.heap.get? a=some ob∧ob.dict=none)∧
  ∀(A:aF) (s':aq) (ps:List PV) (vs:List Value) (r:PV) (Q:Value→aq→Prop) (E:Value→aq→Prop),i5 L 0 A→gN L X s s'→gV L.prog L.w s'.heap X ps vs→g p ps=some r→(∀x ph,VR L.prog L.w ph.heap X r x→gN L X s' ph→Q x ph)→wpAny L.M A (call (.builtin id) (u::vs)) Q E s'
noncomputable def Bu(e:aM):Bool:=if h:e.ctorIdx=(aM.Call (.Name default default) [] [] default).ctorIdx then aM.Call.elim (motive_1:=fun _=>Bool) e h fun _ as _ _=> !as.isEmpty else true
theorem nY{o:aM}{name:Str}{env:b8}{whole:Sem Value}(h:Bu o=true):attributeBase o name env whole=whole:=by
 cases o<;>try rfl
 rename_i f as kws pos
 cases as with
 |nil=>exact Bool.noConfusion h
 |cons=>cases f<;>rfl
theorem SE.Wo{o e:aM}{es:List aM}{name:Str}{apos pos:cP}{f:List MV→Option PV}{h:List MV→Option (List PV)}{g:PV→List PV→Option PV}(ho:SE L sc σ k o f)(ha:LE L sc σ k (e::es) h)(hm:nN L name g)
  (he: ∀env,starEach (e::es) env=(false,eval e env)::starEach es env)(qD: ∀env,(starEach (e::es) env).any (·.1)=false)(Wq:decide ((e::es).length<30)=true)(wy:(apos.endLine==pos.line)=true)(Wr:Bu o=true):
  SE L sc σ k (.Call (.Attribute o name apos) (e::es) [] pos) (fun ρ=>(f ρ).bind fun p=>(h ρ).bind fun ps=>g p ps):=by
 intro env A X s ρ r Q E R F I hf hQ
 replace hf:=Option.bind_eq_some_iff.mp hf
 obtain⟨p,hp,hf⟩:=hf
 obtain⟨ps,hps,hg⟩:=Option.bind_eq_some_iff.mp hf
 refine wpAny_Call_method_late (nY Wr) ?_ wy rfl (ho env A X s ρ p _ E R F I hp fun u s₁ hu d=> ?_)
 ·have h1:(backTo pos (starEach (e::es) env)).all (fun x=> !x.1)=true:=List.all_map.trans (List.all_eq_true.mpr fun x hx=>congrArg (fun b=> !b) (Bool.eq_false_iff.mpr (List.any_eq_false.mp (qD env) x hx)))
  rw[h1]
  exact Wq
 ·obtain⟨T,id,h1,h2,h3,h4,h5,h6⟩:=hm X s₁ p u d.xo d.inv hu ⟨ps,r,hg⟩
  refine⟨T,id,h1,h2,h3,h4,h5,?_⟩
  exact sr (.builtin id) ha he qD R (F.done d) d.inv hps fun vs gZ jE gW=>h6 A gZ ps vs r Q E (R.less (aE _)) gW jE hg fun x jc hx jb=>hQ x jc hx ((d.trans gW).trans jb)
end
end
section
open PySem
section
variable {L:ig}
theorem gN.Bv{X:List Addr}{s:aq}(I:Inv L s)(x:XO L X s.heap){h':Heap}{tk:Nat}(hk: ∀b o,s.heap.get? b=some o→h'.get? b=some o):gN L X s {s with heap:=h',toks:=tk}:=gN.of_keep I x hk tk
theorem gV.one{h:Heap}{X:List Addr}{p:PV}{vs:List Value}(x:gV L.prog L.w h X [p] vs): ∃v,vs=[v]∧VR L.prog L.w h X p v:=by
 obtain⟨v,r,rfl,h1,h2⟩:=x.inv
 skip;(first|exact VS h2|cases h2)
 exact⟨v,rfl,h1⟩
theorem gV.two{h:Heap}{X:List Addr}{p q:PV}{vs:List Value}(x:gV L.prog L.w h X [p,q] vs): ∃v u,vs=[v,u]∧VR L.prog L.w h X p v∧VR L.prog L.w h X q u:=by
 obtain⟨v,r,rfl,h1,h2⟩:=x.inv
 obtain⟨u,rfl,h3⟩:=gV.one h2
 exact⟨v,u,rfl,h1,h3⟩
noncomputable def Gives(L:ig)(A:aF)(X:List Addr)(s:aq)(r:PV)(m:Sem Value):Prop:= ∀(Q:Value→aq→Prop) (E:Value→aq→Prop),(∀x s',VR L.prog L.w s'.heap X r x→gN L X s s'→Q x s')→wpAny L.M A m Q E s
structure At(L:ig)(A:aF)(X:List Addr)(s:aq):Prop where
 R:i5 L 0 A
 x:XO L X s.heap
 I:Inv L s
noncomputable def A3{α:Type}(g:PV→Option α):List PV→Option α
 |[p]=>g p
 |_=>none
noncomputable def Kt{α:Type}(g:PV→PV→Option α):List PV→Option α
 |[p,q]=>g p q
 |_=>none
theorem lV{α:Type}{g:PV→Option α}{ps:List PV}{r:α}(h:A3 g ps=some r): ∃p,ps=[p]∧g p=some r:=by
 rcases ps with _|⟨p,_|⟨_,_⟩⟩
 ·exact hO h
 ·exact⟨p,rfl,h⟩
 ·exact hO h
theorem su{α:Type}{g:PV→PV→Option α}{ps:List PV}{r:α}(h:Kt g ps=some r): ∃p q,ps=[p,q]∧g p q=some r:=by
 rcases ps with _|⟨p,_|⟨q,_|⟨_,_⟩⟩⟩
 ·exact hO h
 ·exact hO h
 ·exact⟨p,q,rfl,h⟩
 ·exact hO h
theorem zP{f:Value}{g:PV→Option PV}(H: ∀{A X s p u r},At L A X s→VR L.prog L.w s.heap X p u→g p=some r→Gives L A X s r (call f [u])):iM L 0 f (A3 g):=by
 intro A X s ps vs r Q E R x I jE hg hQ
 replace hg:=lV hg
 obtain⟨p,rfl,hg⟩:=hg
 obtain⟨v,rfl,hv⟩:=gV.one jE
 exact H ⟨R,x,I⟩ hv hg Q E hQ
theorem Oo{f:Value}{g:PV→PV→Option PV}(H: ∀{A X s p q u v r},At L A X s→VR L.prog L.w s.heap X p u→VR L.prog L.w s.heap X q v→g p q=some r→Gives L A X s r (call f [u,v])):iM L 0 f (Kt g):=by
 intro A X s ps vs r Q E R x I jE hg hQ
 replace hg:=su hg
 obtain⟨p,q,rfl,hg⟩:=hg
 obtain⟨v,u,rfl,hv,hu⟩:=gV.two jE
 exact H ⟨R,x,I⟩ hv hu hg Q E hQ
noncomputable def pY{α:Type}(g:Int→Option α):PV→Option α
 | .int a=>g a
 |_=>none
noncomputable def onStr{α:Type}(g:Str→Option α):PV→Option α
 | .str a=>g a
 |_=>none
noncomputable def lx{α:Type}(g:List PV→Option α):PV→Option α
 | .list a=>g a
 |_=>none
noncomputable def Ep{α:Type}(g:List PV→Option α):PV→Option α
 | .tup a=>g a
 |_=>none
noncomputable def onBytes{α:Type}(g:Array UInt8→Option α):PV→Option α
 | .bytes a=>g a
 |_=>none
noncomputable def wz{α:Type}(C:Addr)(nm:Str)(g:PV→Option α):PV→Option α
 | .inst C' nm' q=>if C'=C∧nm'=nm then g q else none
 |_=>none
theorem tx{α:Type}{g:List PV→Option α}{p:PV}{r:α}(h:Ep g p=some r): ∃a,p= .tup a∧g a=some r:=by cases p<;>first|exact⟨_,rfl,h⟩|exact hO h
theorem uB{α:Type}{g:Array UInt8→Option α}{p:PV}{r:α}(h:onBytes g p=some r): ∃a,p= .bytes a∧g a=some r:=by cases p<;>first|exact⟨_,rfl,h⟩|exact hO h
theorem wA{α:Type}{C:Addr}{nm:Str}{g:PV→Option α}{p:PV}{r:α}(h:wz C nm g p=some r): ∃q,p= .inst C nm q∧g q=some r:=by
 cases p with
 |inst C' nm' q=>exact(zz h).elim fun e h=>⟨q,by rw[e.1,e.2],h⟩
 |_=>exact hO h
theorem ly{α:Type}{g:Int→Option α}{p:PV}{r:α}(h:pY g p=some r): ∃a,p= .int a∧g a=some r:=by cases p<;>first|exact⟨_,rfl,h⟩|exact hO h
theorem j9{α:Type}{g:Str→Option α}{p:PV}{r:α}(h:onStr g p=some r): ∃a,p= .str a∧g a=some r:=by cases p<;>first|exact⟨_,rfl,h⟩|exact hO h
theorem i7{α:Type}{g:List PV→Option α}{p:PV}{r:α}(h:lx g p=some r): ∃a,p= .list a∧g a=some r:=by cases p<;>first|exact⟨_,rfl,h⟩|exact hO h
theorem Er{f:Value}{g:Int→Option PV}(H: ∀{A X s a t r},At L A X s→g a=some r→Gives L A X s r (call f [.int a t])):iM L 0 f (A3 (pY g)):=zP fun c hp hg=>by
 obtain⟨a,rfl,h⟩:=ly hg
 obtain⟨t,rfl⟩:=hp.ki
 exact H c h
theorem Ku{f:Value}{g:Str→Option PV}(H: ∀{A X s a t r},At L A X s→g a=some r→Gives L A X s r (call f [.str a t])):iM L 0 f (A3 (onStr g)):=zP fun c hp hg=>by
 obtain⟨a,rfl,h⟩:=j9 hg
 obtain⟨t,rfl⟩:=hp.lY
 exact H c h
noncomputable def Ws:PV→Option PV
 | .list l=>if pI l then some (.int l.length) else none
 | .tup l=>if pI l then some (.int l.length) else none
 |_=>none
noncomputable def Hq(ps:List PV):Option PV:=A3 Ws ps
theorem yU{l:List PV}{xs:Array Value}{h:Heap}{X:List Addr}(hl:gV L.prog L.w h X l xs.toList)(hf:pI l=true):(xs.size:Int)<2^63:=Int.ofNat_lt.mpr (bR (ba hl.size) (bR (of_decide_eq_true hf) (by decide)))
theorem Oq:iM L 0 (.builtin "len") Hq:=zP fun{_ _ _ p _ _} c hv hg Q E hQ=>by
 cases p<;>try exact hO hg
 ·replace hg:=kg hg
  obtain⟨hf,rfl⟩:=hg
  obtain⟨a,xs,n,rfl,ha,ho,hl⟩:=hv.mK
  exact PyProof.Rows.len_tuple ⟨_,ho,rfl,_,rfl⟩ (yU hl hf) (hQ _ _ (hl.size▸VR.mkInt _ _) (gN.toks c.I c.x _))
 ·replace hg:=kg hg
  obtain⟨hf,rfl⟩:=hg
  obtain⟨a,xs,n,rfl,ha,ho,hl⟩:=hv.listE
  exact PyProof.Rows.len_list ⟨_,ho,rfl,_,rfl⟩ (yU hl hf) (hQ _ _ (hl.size▸VR.mkInt _ _) (gN.toks c.I c.x _))
noncomputable def MT(ps:List PV):Option PV:=A3 (pY fun a=>some (.int (if a<0 then-a else a))) ps
theorem Ot:iM L 0 (.builtin "abs") MT:=Er fun c h Q E hQ=>PyProof.Rows.call_abs_int fun u tk=>hQ _ _ (j7 h▸VR.mkInt _ _) (gN.toks c.I c.x _)
noncomputable def Wt:PV→Option PV
 | .bool b=>some (.int (if b then 1 else 0))
 |_=>none
noncomputable def sv(ps:List PV):Option PV:=A3 Wt ps
theorem zQ:iM L 0 (.type "int") sv:=zP fun{_ _ _ p _ _} c hv hg Q E hQ=>by
 cases p<;>try exact hO hg
 rw[hv.pP]
 exact call_int_bool (hQ _ _ (j7 hg▸VR.mkInt _ _) (gN.toks c.I c.x _))
noncomputable def Bw(ps:List PV):Option PV:=A3 (onStr fun c=>if c.length=1 then some (.int (c.cps.getD 0 0:Nat)) else none) ps
theorem Hr:iM L 0 (.builtin "ord") Bw:=Ku fun c h Q E hQ=>by
 replace h:=kg h
 obtain⟨h1,rfl⟩:=h
 exact PyProof.Rows.ord_of_one h1 (hQ _ _ (VR.mkInt _ _) (gN.toks c.I c.x _))
noncomputable def Bx(ps:List PV):Option PV:=A3 (pY fun i=>if (baseText "0x" 16 i).length≤100000 then some (.str (baseText "0x" 16 i)) else none) ps
theorem Hs:iM L 0 (.builtin "hex") Bx:=Er fun c h Q E hQ=>by
 replace h:=kg h
 obtain⟨h1,rfl⟩:=h
 exact P.hex_of_int (hQ _ _ (VR.mkStr _ _) (gN.toks c.I c.x _)) (mL h1)
noncomputable def Ht:PV→Option PV
 | .tup _=>some (.bool true)
 | .int _=>some (.bool false)
 |_=>none
noncomputable def Q5:PV→Option String
 | .val (.type t)=>some t
 |_=>none
theorem Hu{p:PV}{t:String}(h:Q5 p=some t):p= .val (.type t):=by
 cases p with
 |val v=>cases v with
  |type x=>exact congrArg (fun x=>PV.val (.type x)) (Option.some.inj h)
  |_=>exact hO h
 |_=>exact hO h
noncomputable def Hv(p q:PV):Option PV:=(Q5 q).bind fun t=>if t="tuple" then Ht p else none
noncomputable def Es(ps:List PV):Option PV:=Kt Hv ps
theorem VR.Q6{h:Heap}{X:List Addr}{v u:Value}(x:VR L.prog L.w h X (.val v) u):u=v:=x
theorem Fp{p q r:PV}(h:Hv p q=some r):q= .val (.type "tuple")∧Ht p=some r:=
 (Option.bind_eq_some_iff.mp h).elim fun t h=>⟨(Hu h.1).trans (congrArg (fun x=>PV.val (.type x)) (zz h.2).1),(zz h.2).2⟩
theorem Hw:iM L 0 (.builtin "isinstance") Es:=Oo fun{_ _ _ p q _ _ _} c hv hu hg Q E hQ=>by
 replace hg:=Fp hg
 obtain⟨rfl,hg⟩:=hg
 rw[hu.Q6]
 cases p<;>try exact hO hg
 ·obtain⟨t,rfl⟩:=hv.ki
  skip;(first|exact VS hg|cases hg)
  exact IsiPair.int_tuple (hQ _ _ VR.U9 (gN.toks c.I c.x _))
 ·obtain⟨a,xs,n,rfl,ha,ho,hl⟩:=hv.mK
  skip;(first|exact VS hg|cases hg)
  exact IsiPair.tuple_tuple ho rfl (hQ _ _ VR.U9 (gN.refl c.I c.x))
end
end
section
open PySem
section
variable {L:ig}
noncomputable def C9(ps:List PV):Option PV:=A3 (lx fun l=>(kz l).map fun ns=> .int ns.sum) ps
theorem Ou(hn:L.exc=none):iM L 0 (.builtin "sum") C9:=by
 intro A X s ps vs r Q E R x I jE hg hQ
 replace hg:=lV hg
 obtain⟨_,rfl,hg⟩:=hg
 replace hg:=i7 hg
 obtain⟨_,rfl,hg⟩:=hg
 ·obtain⟨ns,xN,e⟩:=Option.map_eq_some_iff.mp hg
  skip;(first|exact VS e|cases e)
  obtain⟨v,rfl,hv⟩:=gV.one jE
  obtain⟨a,xs,n,rfl,ha,ho,hl⟩:=hv.listE
  have hi:=intsAre_of hl xN
  obtain⟨ys,hx⟩:=hi.allInts.items
  have jB:s.heap.IsList a (intItems ys):=hx▸(⟨_,ho,rfl,_,rfl⟩:s.heap.IsList a xs.toList.toArray)
  refine PySem.sum_intListG (R.none hn) jB fun h' tk t' hk=> ?_
  have e1:ns=ys.toList.map (·.1):=by
   rw[←nums_intItems,←hx]
   exact(show numsOf xs.toList.toArray.toList=ns from hi.numsOf).symm
  have e2:preSum (numAt ys) ys.size=ns.sum:=by
   rw[preSum_eq,cg (by simp),e1]
  rw[e2]
  exact hQ _ _ (VR.mkInt _ _) (gN.Bv I x hk)
noncomputable def qt(ps:List PV):Option PV:=A3 (lx fun l=>(kz l).bind fun ns=>if ns.all (fun n=>decide (0≤n)&&decide (n<256))&&pI l then some (.bytes (byteArr ns)) else none) ps
theorem By(hn:L.exc=none):iM L 0 (.type "bytes") qt:=by
 intro A X s ps vs r Q E R x I jE hg hQ
 replace hg:=lV hg
 obtain⟨_,rfl,hg⟩:=hg
 replace hg:=i7 hg
 obtain⟨l,rfl,hg⟩:=hg
 ·replace hg:=Option.bind_eq_some_iff.mp hg
  obtain⟨ns,xN,hg⟩:=hg
  replace hg:=kg hg
  obtain⟨hc,rfl⟩:=hg
  ·skip
   simp only[cJ] at hc
   obtain⟨v,rfl,hv⟩:=gV.one jE
   obtain⟨a,xs,n,rfl,ha,ho,hl⟩:=hv.listE
   have hi:=intsAre_of hl xN
   have e1:=hl.length
   have hf:=of_decide_eq_true hc.2
   refine call_bytes_ints (vs:=xs.toList) ⟨_,ho,rfl,_,rfl⟩ hi (fun n hn=> ?_) (by rw[e1];show _≤16777216;omega) (R.none hn) fun h' t tk hk=>hQ _ _ ?_ (gN.Bv I x hk)
   ·have:=List.all_eq_true.mp hc.1 n hn
    simpa using this
   ·exact .intro _ rfl
end
end
section
open PySem PyProof.Rows
section
variable {L:ig}
theorem gV.ofInts{h:Heap}{X:List Addr}: ∀{vs:List Value} {ns:List Int},IntsAre vs ns→gV L.prog L.w h X (ns.map .int) vs:=by
 intro vs ns hi
 induction hi with
 |nil=>exact gV.nil
 |cons n t _ ih=>exact gV.cons (VR.mkInt n t) ih
end
end
section
open PySem PyProof.Rows
section
variable {L:ig} {sc:Scope} {σ:gO} {own:List Str} {k:Nat}
theorem VR.Q7{s:aq}{X:List Addr}(x:XO L X s.heap)(a b c:Int)(t u v:gj)(tk:Nat):VR L.prog L.w ({s with heap:=s.heap.push {cls:= .type "range",data:= .fields #[.int a t,.int b u,.int c v]},toks:=tk}:aq).heap X (.CP a b c) (.ref s.heap.objs.size):=by
 exact .intro _ ⟨t,u,v,rfl,x.size,aB _ rfl⟩
noncomputable def Ov(a b c:Int):Option PV:=if small c&&c !=0 then some (.CP a b c) else none
noncomputable def jW:List PV→Option PV
 |[p]=>pY (fun n=>some (.CP 0 n 1)) p
 |[p,q]=>lZ (fun a b=>some (.CP a b 1)) p q
 |[p,q,r]=>pY (fun c=>lZ (fun a b=>Ov a b c) p q) r
 |_=>none
theorem gV.three{h:Heap}{X:List Addr}{p q r:PV}{vs:List Value}(x:gV L.prog L.w h X [p,q,r] vs): ∃v u w,vs=[v,u,w]∧VR L.prog L.w h X p v∧VR L.prog L.w h X q u∧VR L.prog L.w h X r w:=by
 obtain⟨v,r,rfl,h1,h2⟩:=x.inv
 obtain⟨u,w,rfl,h3,h4⟩:=gV.two h2
 exact⟨v,u,w,rfl,h1,h3,h4⟩
theorem jx:iM L 0 (.type "range") jW:=by
 intro A X s ps vs r Q E R x I jE hg hQ
 have fin: ∀a b c t u v tk,r= .CP a b c→Q (.ref s.heap.objs.size) {s with heap:=s.heap.push {cls:= .type "range",data:= .fields #[.int a t,.int b u,.int c v]},toks:=tk}:=fun a b c t u v tk e=>hQ _ _ (e▸VR.Q7 x a b c t u v tk) (gN.push I x _ _)
 rcases ps with _|⟨p,_|⟨q,_|⟨w,_|⟨_,_⟩⟩⟩⟩
 ·exact hO hg
 ·replace hg:=ly hg
  obtain⟨n,rfl,hg⟩:=hg
  obtain⟨v,rfl,hv⟩:=gV.one jE
  exact hv.sg fun t=>call_range_1 (fin _ _ _ _ _ _ _ (j7 hg).symm)
 ·replace hg:=th hg
  obtain⟨a,b,rfl,rfl,hg⟩:=hg
  obtain⟨v,u,rfl,hv,hu⟩:=gV.two jE
  exact hv.sg fun t=>hu.sg fun t'=>call_range_2 (fin _ _ _ _ _ _ _ (j7 hg).symm)
 ·replace hg:=ly hg
  obtain⟨c,rfl,hg⟩:=hg
  replace hg:=th hg
  obtain⟨a,b,rfl,rfl,hg⟩:=hg
  replace hg:=kg hg
  obtain⟨hc,e⟩:=hg
  obtain⟨h1,h2⟩:=j8 hc
  have hb:=mO h1
  obtain⟨v,u,w,rfl,hv,hu,hw⟩:=gV.three jE
  refine hv.sg fun t=>hu.sg fun t'=>hw.sg fun t''=>call_range_3 (bne_iff_ne.mp h2) (fin _ _ _ _ _ _ _ e) (.inl (PyProof.noPylong_of_log2 ?_))
  unfold aC.Int.intBits at hb
  split at hb
  ·rename_i h0;have:=eq_of_beq h0;rw[this];decide
  ·omega
 ·exact hO hg
noncomputable def oP(L:ig)(k:Nat)(v:Value)(g:List PV→Option MV):Prop:=
 ∀(A:aF) (X:List Addr) (s:aq) (ps:List PV) (vs:List Value) (r:MV) (Q:Value→aq→Prop) (E:Value→aq→Prop),
  i5 L k A→XO L X s.heap→Inv L s→gV L.prog L.w s.heap X ps vs→g ps=some r→(∀a s',s.heap.get? a=none→gN L (a::X) s s'→r.owned=true→ru L s'.heap (a::X) r (.ref a)→Q (.ref a) s')→wpAny L.M A (call v vs) Q E s
noncomputable def MV.CR:MV→Option PV
 | .ol l=>some (.list l)
 | .Ba ks vs=>some (.kj ks vs)
 | .zv ks vs=>some (.ja ks vs)
 |_=>none
theorem ru.CR{h:Heap}{X:List Addr}{mv:MV}{p:PV}{a:Addr}(r:ru L h (a::X) mv (.ref a))(hf:mv.CR=some p)(ha:a∉X):VR L.prog L.w h X p (.ref a):=by
 have hs: ∀b∈X,b∈a::X:=fun b hb=>av _ hb
 cases mv<;>try exact hO hf
 ·(first|exact VS hf|cases hf);exact r.elim fun a' r=>r.elim fun xs r=>r.elim fun n r=> .intro a ⟨xs,n,rfl,ha,Value.ref.inj r.1▸r.2.2.2.2.1,r.2.2.2.2.2.same hs⟩
 ·(first|exact VS hf|cases hf);exact r.elim fun a' r=>r.elim fun kvs r=> .intro a ⟨kvs,rfl,ha,Value.ref.inj r.1▸r.2.2.2.2.1,r.2.2.2.2.2.1,r.2.2.2.2.2.2.same hs⟩
 ·(first|exact VS hf|cases hf);exact r.elim fun a' r=>r.elim fun kvs r=> .intro a ⟨kvs,rfl,ha,Value.ref.inj r.1▸r.2.2.2.2.1,r.2.2.2.2.2.1,r.2.2.2.2.2.2.same hs⟩
theorem oP.CR{v:Value}{g:List PV→Option MV}(h:oP L k v g):iM L k v (fun ps=>(g ps).bind MV.CR):=by
 intro A X s ps vs r Q E R x I jE hg hQ
 obtain⟨mv,h1,h2⟩:=Option.bind_eq_some_iff.mp hg
 refine h A X s ps vs mv Q E R x I jE h1 fun a s' ha d ho hm=>hQ _ _ (hm.CR h2 (x.fresh ha)) (d.sub (fun b hb=>av _ hb) x.tb x.sm)
theorem gN.Bz{X:List Addr}{s:aq}(I:Inv L s)(x:XO L X s.heap){h':Heap}{tk:Nat}{a:Addr}(ha:s.heap.get? a=none)(hk: ∀b o,s.heap.get? b=some o→h'.get? b=some o)(hex: ∃o,h'.get? a=some o):gN L (a::X) s {s with heap:=h',toks:=tk}:=
 ⟨fun b o _ e=>hk b o e,I.keeps hk tk,x.widen hk I.iA (fun b hb=>by
  rcases List.mem_cons.mp hb with rfl|h
  ·exact .inr ha
  ·exact .inl h) (fun b hb=>av _ hb) (fun b hb=>by
  rcases List.mem_cons.mp hb with rfl|h
  ·exact hex
  ·obtain⟨o,ho⟩:=x.there b h;exact⟨o,hk b o ho⟩),rfl,rfl⟩
theorem Hx{X:List Addr}{h h':Heap}{a:Addr}(ha:h.get? a=none)(hk: ∀b o,h.get? b=some o→h'.get? b=some o):Up h X h' (a::X):=fun b o hb e=>⟨fun hm=>by
 rcases List.mem_cons.mp hm with rfl|h
 ·rw[ha] at e;(first|exact VS e|cases e)
 ·exact hb h,hk b o e⟩
theorem gV.MU{h:Heap}{X:List Addr}: ∀{ps:List PV} {vs:List Value},vs.length=ps.length→(∀(j:Nat) p v,ps[j]? =some p→vs[j]? =some v→VR L.prog L.w h X p v)→gV L.prog L.w h X ps vs:=by
 intro ps
 induction ps with
 |nil=>
  intro vs hl _
  cases vs with
  |nil=>exact gV.nil
  |cons _ _=>exact absurd hl (bB _)
 |cons p ps ih=>
  intro vs hl h
  cases vs with
  |nil=>exact absurd hl.symm (bB _)
  |cons v vs=>exact gV.cons (h 0 p v rfl rfl) (ih (Nat.succ.inj hl) fun j p v h1 h2=>h (j+1) p v h1 h2)
noncomputable def Ow{α:Type}(g:PV→Option α):List PV→Option α
 |[p]=>g p
 |_=>none
theorem BA{α:Type}{g:PV→Option α}{ps:List PV}{r:α}(h:Ow g ps=some r): ∃p,ps=[p]∧g p=some r:=by
 rcases ps with _|⟨p,_|⟨_,_⟩⟩
 ·exact hO h
 ·exact⟨p,rfl,h⟩
 ·exact hO h
noncomputable def Q8:PV→Option MV
 | .ja ks vs=>if ks.length≤100000 then some (.zv ks vs) else none
 |_=>none
noncomputable def Dc(ps:List PV):Option MV:=Ow Q8 ps
theorem Hy:oP L 0 (.type "dict") Dc:=by
 intro A X s ps vs r Q E R x I jE hg hQ
 replace hg:=BA hg
 obtain⟨p,rfl,hg⟩:=hg
 cases p<;>try exact hO hg
 replace hg:=kg hg
 obtain⟨hsz,rfl⟩:=hg
 obtain⟨v,rfl,hv⟩:=gV.one jE
 obtain⟨a,kvs,rfl,ha,hd,hk,hl⟩:=hv.oL
 have ib:kvs.length≤100000:=by rw[←hk,aD] at hsz;exact hsz
 refine kt_call_dict (wa x.sm ha) hd (Nat.le_trans ib (by decide)) fun h' vI km=> ?_
 have kI: ∀b o,s.heap.get? b=some o→h'.get? b=some o:=fun b o e=>km.extBut b o (fun e'=>by rw[e',g9] at e;(first|exact VS e|cases e)) (iq _ _ b o e)
 exact hQ _ _ (g9 _) (gN.Bz (tk:=s.toks) I x (g9 _) kI (j5 vI)) rfl ⟨_,kvs,rfl,aA ..,fun e=>x.size (e▸x.tb),fun e=>x.size (e▸x.sm),vI,hk,hl.up (Hx (g9 _) kI)⟩
noncomputable def BB(i:Nat):List PV→List PV
 |[]=>[]
 |p::ps=> .tup [.int i,p]::BB (i+1) ps
theorem Fq: ∀(ps:List PV) (i:Nat),(BB i ps).length=ps.length:=by
 intro ps
 induction ps with
 |nil=>exact @fun _=>rfl
 |cons _ ps iu=>exact @fun i=>congrArg (· +1) (iu (i+1))
theorem Fs: ∀(ps:List PV) (i j:Nat),(BB i ps)[j]? =(ps[j]?).map fun p=> .tup [.int ((i+j:Nat):Int),p]:=by
 intro ps
 induction ps with
 |nil=>exact @fun _ _=>rfl
 |cons p ps iu=>exact fun
  |i,0=>rfl
  |i,j+1=>by
   have:=iu (i+1) j
   rw[show i+1+j=i+(j+1) by omega] at this
   exact this
theorem It.enum(hn:L.exc=none){X:List Addr}{e it ax:Addr}{ps:List PV}(he:e∈X)(hi:it∈X)(h1:e≠L.tb)(h2:it≠L.tb)(hei:e≠it):
  It L X [e,it] e (BB 0 ps) (fun i h=>(∃Kv,IsEnum h e it i Kv)∧h.IsListIter it ax i∧VR L.prog L.w h X (.list ps) (.ref ax)) true where
 N8:=kA he (all1 hi)
 there:=fun i h st=>st.1.elim fun Kv g1=>st.2.1.elim fun o g2=>kA ⟨_,g1⟩ (all1 ⟨o,g2.1⟩)
 frame:=fun i h h' st hk=>st.1.elim fun Kv g1=>⟨⟨Kv,hk e _ (fun _=>uW) g1⟩,st.2.1.at fun o e'=>hk it o (fun _=>in1) e',st.2.2.up fun a o ha e=>⟨ha,hk a o (fun h=>absurd h ha) e⟩⟩
 self:=fun A i s Q E st hQ=>st.1.elim fun Kv g1=>wpAny_pyIter_enum g1 hQ
 turn:=fun A i s p Q E Hf R x Iv st hp Q9 hQ=>by
  obtain⟨⟨Kv,g1⟩,g2,g3⟩:=st
  obtain⟨a,xs,n,e',ha,ho,hl⟩:=g3.listE
  skip;(first|exact VS e'|cases e')
  rw[Fs,de] at hp
  obtain⟨q,hq,rfl⟩:=Option.map_eq_some_iff.mp hp
  refine hl.zy hq fun v hv hr=> ?_
  obtain⟨es,kk,pp,rfl⟩:=rB (Q9 rfl)
  refine wpAny_pyNext_enum_item g1 g2 ⟨_,ho,rfl,_,rfl⟩ hv hei fun h' k1 k2 k3 ksz kk=>⟨_,rfl,wpAny_letOwnedTupleGo_enum k1 fun nI l1 ls=> ?_⟩
  have hw: ∀a∈[e,it],a∈X:=kA he (all1 hi)
  have hk: ∀b o,b∉[e,it]→s.heap.get? b=some o→nI.get? b=some o:=fun b o hb e'=>ls.extBut b o (fun h=>hb (h▸uW)) (kk b o (fun h=>hb (h▸uW)) (fun h=>hb (h▸in1)) e')
  have hu:=Ej hw hk
  have it2:nI.IsListIter it ax (i+1):=k2.extBut ls.extBut hei.symm
  exact hQ _ _ (.intro _ ⟨_,_,rfl,x.size,ls.extBut _ _ (d4 (aH g1)) k3,gV.cons (VR.mkInt _ _) (gV.cons (hr.up hu) gV.nil)⟩) ⟨⟨_,l1⟩,it2,g3.up hu⟩ (gS.rC Iv x hw hk _)
   (x.rC hw hk (fun h=>(List.mem_cons.mp h).elim (fun h=>h1 h.symm) fun h=>h2 (List.mem_singleton.mp h).symm) (it2.elim fun o g=>kA ⟨_,l1⟩ (all1 ⟨o,g.1⟩)))
 done:=fun A s Q E R x Iv st hQ=>by
  obtain⟨⟨Kv,g1⟩,g2,g3⟩:=st
  obtain⟨a,xs,n,e',ha,ho,hl⟩:=g3.listE
  skip;(first|exact VS e'|cases e')
  refine wpAny_pyNext_enum_end (R.none hn) g1 g2 ⟨_,ho,rfl,_,rfl⟩ (aO (ba (hl.size.trans (Fq ps 0).symm))) fun h' hx=> ?_
  have hk: ∀b o,b∉[e,it]→s.heap.get? b=some o→h'.get? b=some o:=fun b o hb e'=>hx b o (fun h=>hb (h▸in1)) e'
  exact hQ _ (gS.rC Iv x (kA he (all1 hi)) hk _) hk
noncomputable def HA(p:PV):Option (List PV):=lx (fun l=>some (BB 0 l)) p
theorem IE.enum(hn:L.exc=none){x:Str}{np pos:cP}{e:aM}{f:List MV→Option PV}(hx:sc.names.lookup x=some .globalImplicit)(hv:L.gl x=some (.type "enumerate"))(he:SE L sc σ k e f)
  (hs: ∀env,starEach [e] env=[(false,eval e env)])(hd:(x==("__debug__":Str))=false:=by decide):IE L sc σ k (.Call (.Name x np) [e] [] pos) true (fun ρ=>(f ρ).bind HA):=by
 intro env A X s ρ ps Q E R F I hf hQ
 replace hf:=Option.bind_eq_some_iff.mp hf
 obtain⟨p,hp,hf⟩:=hf
 replace hf:=i7 hf
 obtain⟨l,rfl,hf⟩:=hf
 skip;(first|exact VS hf|cases hf)
 refine bT (aN (by rw[F.scope];exact F.kind) (by unfold b8.kindOf;rw[F.scope];exact hx) (L.rt s env A x _ _ E I.iA F.globals F.builtins.1 hv ?_) hd)
 have Wu:LE L sc σ k [e] (fun ρ=>(f ρ).bind fun a=>(some []).map (a:: ·)):=LE.cons (g:=fun _=>some []) he LE.nil (fun env=>by rw[hs env];rfl)
 refine sr (.type _) Wu (fun env=>by rw[hs env];rfl) (fun env=>by rw[hs env];rfl) R F I (ps:=[.list l]) (by rw[hp];rfl) fun vs s₁ jE d=> ?_
 obtain⟨v,rfl,nf⟩:=gV.one jE
 refine nf.yF fun ax xs n ha ho hl=> ?_
 refine call_enumerate_list ⟨_,ho,rfl,_,rfl⟩ fun h' k1 k2 ksz kk=>wpAny_pyIter_enum k1 ?_
 have f1:s₁.heap.get? (s₁.heap.objs.size+1)=none:=by
  cases e':s₁.heap.get? (s₁.heap.objs.size+1) with
  |none=>rfl
  |some o=>exact absurd (aH e') (Nat.not_lt.mpr (du _))
 exact qr (wr:=[s₁.heap.objs.size+1,s₁.heap.objs.size]) s₁.toks F.xo d kk (kA f1 (all1 (g9 _))) (k2.elim fun o g=>kA ⟨_,k1⟩ (all1 ⟨o,g.1⟩)) uW hQ fun X' h1 h2 u _=>⟨_,It.enum hn (ax:=ax) (h1 _ uW) (h1 _ in1) (h2 _ uW) (h2 _ in1) (gf _),⟨⟨_,k1⟩,k2,VR.up u (.intro ax ⟨xs,n,rfl,ha,ho,hl⟩)⟩⟩
end
end
section
open PySem PyProof.Rows
structure iI(L:ig)(a:Addr)(fd:FuncData)(sc:Scope)(ns:List Str)(body:List Stmt):Prop where
 obj: ∃o,L.look a=some o∧o.data= .func fd
 code: ∀h:Heap,(∀a o,L.look a=some o→h.get? a=some o)→h.CodeRec fd.code fd.qualname
 body:fd.body= .stmts body
 scope:fd.scope=sc
 globals:fd.globals=mainGlobals
 builtins:fd.builtins=builtinsNs
 closure:fd.closure=[]
 bind: ∀vs:List Value,vs.length=ns.length→bindArgs fd ⟨vs,[]⟩=pure (ns.zip vs)
 host:vR sc=true→fd.code= .ref L.iK
structure sx(sc:Scope)(σ:gO)(own ns:List Str):Prop where
 kind:sc.kind= .function
 gen:sc.isGenerator=false
 co:sc.isCoroutine=false
 nodup:(sc.names.map (·.1)).Nodup
 HB: ∀x∈sc.names,x.2≠ .free
 Kw: ∀x∈own,(sc.names.lookup x=some .local∨sc.names.lookup x=some .cell)∧(x==("__classdict__":Str))=false
 par: ∀(i:Nat) (x:Str),ns[i]? =some x→x∈own
 BC:ns.Nodup
 slot: ∀(x:Str) (i:Nat),σ.lookup x=some i→i<ns.length→ns[i]? =some x
noncomputable def Wv(sc:Scope)(σ:gO)(own ns:List Str):Bool:=
 (sc.kind== .function)&& !sc.isGenerator&& !sc.isCoroutine&&decide (sc.names.map (·.1)).Nodup&&(sc.names.all fun x=>x.2 != .free)&&
 (own.all fun x=>(sc.names.lookup x==some .local||sc.names.lookup x==some .cell)&& !(x==("__classdict__":Str)))&&(ns.all fun x=>own.contains x)&&decide ns.Nodup&&
 (σ.all fun xi=>decide (ns.length≤xi.2)||ns[xi.2]? ==some xi.1)
theorem sx.of{sc:Scope}{σ:gO}{own ns:List Str}(h:Wv sc σ own ns=true):sx sc σ own ns:=
 have h:=j8 h;have h9:=List.all_eq_true.mp h.2;have h:=j8 h.1;have h8:=of_decide_eq_true h.2;have h:=j8 h.1;have h7:=List.all_eq_true.mp h.2;have h:=j8 h.1;have h6:=List.all_eq_true.mp h.2;have h:=j8 h.1;have h5:=List.all_eq_true.mp h.2;have h:=j8 h.1;have h4:=of_decide_eq_true h.2;have h:=j8 h.1;have h':=j8 h.1
 ⟨eq_of_beq h'.1,Fm h'.2,Fm h.2,h4,fun x hx=>bne_iff_ne.mp (h5 x hx),fun x hx=>have t:=j8 (h6 x hx);⟨(Bool.or_eq_true_iff.mp t.1).imp eq_of_beq eq_of_beq,Fm t.2⟩,
  fun i x hi=>List.contains_iff_mem.mp (h7 x (bt hi)),h8,fun x i hi jF=>(Bool.or_eq_true_iff.mp (h9 _ (g7 hi))).elim (fun h=>absurd (of_decide_eq_true h) (Nat.not_le.mpr jF)) eq_of_beq⟩
theorem Dd{kindOf:Str→Option NameKind}{x:Str}: ∀{ns:List Str} {vs:List Value} {m:Str→Option Value},x∉ns→bindL kindOf (ns.zip vs) m x=m x:=by
 intro ns
 induction ns with
 |nil=>intros;rfl
 |cons y r ih=>
  intro vs m hx
  cases vs with
  |nil=>rfl
  |cons u us=>
   refine(ih (vs:=us) fun h=>hx (av _ h)).trans ?_
   split
   ·exact if_neg (fun(e:x=y)=>hx (e▸aA ..))
   ·rfl
theorem qu(kindOf:Str→Option NameKind): ∀(ns:List Str) (vs:List Value) (m:Str→Option Value) (i:Nat) (x:Str) (v:Value),ns.Nodup→ns[i]? =some x→vs[i]? =some v→kindOf x=some .local→bindL kindOf (ns.zip vs) m x=some v:=by
 intro ns
 induction ns with
 |nil=>exact @fun _ _ _ _ _ _ h _ _=>hO h
 |cons y r iu=>exact fun
  |[],_,_,_,_,_,_,h,_=>hO h
  |u::us,m,0,x,v,hn,hx,hv,hk=>by
   obtain rfl:=Option.some.inj hx
   obtain rfl:=Option.some.inj hv
   refine(Dd (ns:=r) (vs:=us) (List.nodup_cons.mp hn).1).trans ?_
   rw[if_pos hk]
   exact if_pos rfl
  |u::us,m,i+1,x,v,hn,hx,hv,hk=>iu us _ i x v (List.nodup_cons.mp hn).2 hx hv hk
theorem De{kindOf:Str→Option NameKind}{x:Str}: ∀{ns:List Str} {vs:List Value} {m:Str→Option Value},x∉ns→bindC kindOf (ns.zip vs) m x=m x:=by
 intro ns
 induction ns with
 |nil=>intros;rfl
 |cons y r ih=>
  intro vs m hx
  cases vs with
  |nil=>rfl
  |cons u us=>
   refine(ih (vs:=us) fun h=>hx (av _ h)).trans ?_
   split
   ·rfl
   ·exact if_neg (fun(e:x=y)=>hx (e▸aA ..))
theorem Ft(kindOf:Str→Option NameKind): ∀(ns:List Str) (vs:List Value) (m:Str→Option Value) (i:Nat) (x:Str) (v:Value),ns.Nodup→ns[i]? =some x→vs[i]? =some v→kindOf x≠some .local→bindC kindOf (ns.zip vs) m x=some v:=by
 intro ns
 induction ns with
 |nil=>exact @fun _ _ _ _ _ _ h _ _=>hO h
 |cons y r iu=>exact fun
  |[],_,_,_,_,_,_,h,_=>hO h
  |u::us,m,0,x,v,hn,hx,hv,hk=>by
   obtain rfl:=Option.some.inj hx
   obtain rfl:=Option.some.inj hv
   refine(De (ns:=r) (vs:=us) (List.nodup_cons.mp hn).1).trans ?_
   rw[if_neg hk]
   exact if_pos rfl
  |u::us,m,i+1,x,v,hn,hx,hv,hk=>iu us _ i x v (List.nodup_cons.mp hn).2 hx hv hk
theorem pZ: ∀(names:List (Str×NameKind)) (n:Nat) (acc:List (Str×Addr)),(cellsFrom n names acc).map (·.1)=((names.filter fun x=>x.2== .cell).map (·.1)).reverse++acc.map (·.1):=by
 intro names
 induction names with
 |nil=>exact @fun _ _=>rfl
 |cons q0 r iu=>
  obtain⟨x,kd⟩:=q0
  intro n acc
  unfold cellsFrom
  by_cases h:kd== .cell
  ·rw[if_pos h,iu,eA (by exact h)];simp
  ·rw[if_neg h,iu,List.filter_cons_of_neg (by exact h)]
theorem uY{names:List (Str×NameKind)}{n:Nat}(h:(names.map (·.1)).Nodup):((cellsFrom n names []).map (·.1)).Nodup:=by
 rw[pZ]
 simp only[List.map_nil,bN]
 exact List.pairwise_reverse.mpr ((h.sublist ((List.filter_sublist (p:=fun x=>x.2==NameKind.cell)).map (fun x:Str×NameKind=>x.1))).imp fun h=>h.symm)
section
variable {L:ig} {sc:Scope} {σ:gO} {own:List Str} {k:Nat}
noncomputable def BD(n m:Nat)(f:List MV→Option (Fl×List MV))(ps:List PV):Option PV:=
 if ps.length=n then(f (ps.map .p++List.replicate m .un)).bind fun r=>match r.1 with| .ret p=>some p| .next=>some .none|_=>none else none
theorem zR{a:Addr}{fd:FuncData}{sc:Scope}{ns own:List Str}{σ:gO}{body:List Stmt}{m:Nat}(D:iI L a fd sc ns body)(S:sx sc σ own ns)
  {A:aF}{X:List Addr}{s:aq}{ps:List PV}{vs:List Value}{Q:Value→aq→Prop}{E:Value→aq→Prop}(R:i5 L (k+1) A)(x:XO L X s.heap)(I:Inv L s)(jE:gV L.prog L.w s.heap X ps vs)(ib:ps.length=ns.length)
  (hb: ∀(env:b8) (Y:List Addr) (s₁:aq),FS L sc σ own env Y X s₁.heap (ps.map .p++List.replicate m .un)→Inv L s₁→(∀y∈Y,s.heap.get? y=none)→(∀b o,s.heap.get? b=some o→s₁.heap.get? b=some o)→s₁.os=s.os→s₁.drawn=s.drawn→env.frame=some env.locals→
   wpAny L.M (A.deeper env) (execs body env) (fun f s'=>Q (match f with| .ret v=>v|_=> .none) s') (fun e s'=>wpAny L.M (A.deeper env) (leaving env e) (fun _ ph=>E e ph) (fun e' ph=>E e' ph) s') s₁):wpAny L.M A (call (.ref a) vs) Q E s:=by
 obtain⟨o,ho,hd⟩:=D.obj
 have VZ:vs.length=ns.length:=by rw[jE.length,ib]
 have uy:fd.scope=sc:=D.scope
 generalize nk:callEnvC fd s.heap.objs.size a=env
 have e1:env.scope=sc:=by rw[←nk];exact uy
 have e2:env.locals=s.heap.objs.size:=by rw[←nk];rfl
 have e3:env.globals=mainGlobals:=by rw[←nk];exact D.globals
 have e4:env.builtins=builtinsNs:=by rw[←nk];exact D.builtins
 have e5:env.cells=cellsFrom (s.heap.objs.size+1) sc.names []:=by rw[←nk,←uy];rfl
 have kindOf: ∀y,env.kindOf y=sc.names.lookup y:=fun y=>by unfold b8.kindOf;rw[e1]
 have vK: ∀y,sc.names.lookup y=some .cell→ ∃c,env.cells.lookup y=some c:=fun y hy=>
  e5▸(nL (n:=s.heap.objs.size+1) (acc:=[]) (g7 hy)).elim fun c hm=>jn hm
 refine f7 (codeAny_call_cells (body:=body) (binds:=ns.zip vs) R.limit (I.iA a o ho) hd (L.noLimit _ I.iA) (D.code _ I.iA) D.body (D.bind vs VZ) D.closure (fun y hy=> ?_) ?_ (by rw[uy];exact S.co) (by rw[uy];exact S.gen) (by rw[uy];exact S.kind))
 ·rw[uy]
  exact(dO (List.of_mem_zip hy).1).elim fun i e=>(S.Kw y.1 (S.par i y.1 e)).1.imp id fun h=>⟨h,by obtain⟨c,hc⟩:=vK y.1 h;rw[←e5,hc];rfl⟩
 rw[nk]
 intro s₁ ni
 obtain⟨h₁,tk,jk⟩:=ni.toInCall.same
 have keep:=ni.toInCall.keep
 have nd:(env.cells.map (·.1)).Nodup:=e5▸uY S.nodup
 generalize Oh:env.locals::env.cells.map (·.2)=Y
 have Ww:env.locals∈Y:=Oh▸aA ..
 have Ox: ∀y c,env.cells.lookup y=some c→c∈Y:=fun y c h=>Oh▸av _ (List.mem_map.mpr ⟨_,g7 h,rfl⟩)
 have QZ: ∀y∈Y,y=env.locals∨ ∃n,(n,y)∈env.cells:=fun y hy=>by
  rw[←Oh] at hy
  exact(List.mem_cons.mp hy).imp id fun h=>(List.mem_map.mp h).elim fun nc h=>⟨nc.1,h.2▸h.1⟩
 have fY: ∀y∈Y,s.heap.get? y=none:=fun y hy=>by
  have Qz:s.heap.objs.size≤y:=(QZ y hy).elim (fun e=>ba (e2.symm.trans e.symm)) fun⟨n,hm⟩=>d6 (e2▸ni.above n y hm)
  cases e:s.heap.get? y with
  |none=>rfl
  |some o=>exact absurd (aH e) (Nat.not_lt.mpr Qz)
 have Fn: ∀y∈Y,∃o,s₁.heap.get? y=some o:=fun y hy=>(QZ y hy).elim (fun e=>ni.toInCall.ns.elim fun o x=>x.elim fun _ x=>x.elim fun _ x=>⟨o,e▸x.1⟩) fun⟨n,hm⟩=>(ni.cell n y (nM nd hm)).elim fun o x=>⟨o,x.1⟩
 have uV:Inv L s₁:=by rw[jk];exact I.keeps (fun b o e=>by have:=keep b o e;rw[jk] at this;exact this) tk
 have qS:XO L (Y++X) s₁.heap:=x.widen keep I.iA (fun b hb=>(List.mem_append.mp hb).elim (fun h=> .inr (fY b h)) .inl) (fun b hb=>au _ hb) fun b hb=>(List.mem_append.mp hb).elim (Fn b) fun h=>(x.there b h).elim fun o ho=>⟨o,keep b o ho⟩
 have Ra: ∀y∈Y,y≠L.tb:=fun y hy e=>x.fresh (fY y hy) (e▸x.tb)
 have up:Up s.heap X s₁.heap (Y++X):=fun b o hb e=>⟨fun hm=>(List.mem_append.mp hm).elim (fun h=>hO ((fY b h).symm.trans e)) hb,keep b o e⟩
 have noOwn: ∀(i:Nat) mv,(ps.map MV.p++List.replicate m MV.un)[i]? =some mv→mv.owned=true→False:=fun i mv h ho=>
  (List.mem_append.mp (bt h)).elim (fun h=>(List.mem_map.mp h).elim fun q x=>Bool.noConfusion (x.2▸ho:(MV.p q).owned=true)) fun h=>Bool.noConfusion ((List.mem_replicate.mp h).2▸ho:MV.un.owned=true)
 have F:FS L sc σ own env Y X s₁.heap (ps.map .p++List.replicate m .un):=by
  refine⟨⟨e1,S.kind,e3,⟨e4,fun h=>by rw[←nk];exact D.host h,fun _=>by rw[e2,←nk];rfl⟩,qS,⟨Ra _ Ww,Fn _ Ww⟩,fun y c h=>⟨Ra _ (Ox y c h),Fn _ (Ox y c h)⟩,fun y hy=>hy.elim (vK y) fun h=>absurd rfl (S.HB _ (g7 h)),fun y i hi mv jC hu=> ?_⟩,Ww,⟨_,ni.toInCall.ns⟩,fun y hy=> ?_,fun y hy hz=>x.fresh (fY y hy) hz,
   fun x i mv a H=>(noOwn i mv H.val H.ow).elim,fun x y i j mv nh a H _=>(noOwn i mv H.val H.ow).elim⟩
  ·have MJ:i<ps.length:=by
    rcases bZ i ps.length with h|h
    ·exact h
    ·rw[gA (by rw[aD];exact h)] at jC
     exact absurd (List.mem_replicate.mp (bt jC)).2 hu
   rw[ed (by rw[aD];exact MJ),aL] at jC
   obtain⟨q,hq,rfl⟩:=Option.map_eq_some_iff.mp jC
   obtain⟨v,hv,v8⟩:=jE.get hq
   have Wx:=S.slot y i hi (ib▸MJ)
   have hk:=S.Kw y (S.par i y Wx)
   refine⟨v,hk.1.elim (fun h=> .inl ⟨(kindOf y).trans h,_,ni.toInCall.ns,qu _ ns vs _ i y v S.BC Wx hv ((kindOf y).trans h)⟩) fun h=> ?_,v8.up up⟩
   obtain⟨c,hc⟩:=vK y h
   exact .inr ⟨.inl ((kindOf y).trans h),hk.2,c,hc,Ft _ ns vs _ i y v S.BC Wx hv (fun e=>nomatch ((kindOf y).trans h).symm.trans e)▸ni.cell y c hc⟩
  ·have hk:=S.Kw y hy
   refine hk.1.imp id fun h=> ?_
   obtain⟨c,hc⟩:=vK y h
   exact⟨h,hk.2,c,hc,Ox y c hc,⟨_,ni.cell y c hc⟩,fun z hz he=>hz (name_of_addr ni.apart (g7 he) (g7 hc))⟩
 exact hb env Y s₁ F uV fY keep (by rw[jk]) (by rw[jk]) (by rw[e2,←nk];rfl)
theorem Rb{a:Addr}{fd:FuncData}{sc:Scope}{ns own:List Str}{σ:gO}{body:List Stmt}{g:Bool}{m:Nat}{f:List MV→Option (Fl×List MV)}(D:iI L a fd sc ns body)(S:sx sc σ own ns)(hb:SS L sc σ own k g body f):
  iM L (k+1) (.ref a) (BD ns.length m f):=by
 intro A X s ps vs r Q E R x I jE hg hQ
 replace hg:=zz hg
 obtain⟨ib,hg⟩:=hg
 obtain⟨⟨fl,ρ'⟩,hf,hr⟩:=Option.bind_eq_some_iff.mp hg
 refine zR (m:=m) D S R x I jE ib fun env Y s₁ F uV fY keep hos Wy _=>hb env (A.deeper env) Y X s₁ _ ρ' fl _ _ (R.deeper env) F uV x.tb x.sm hf fun fv Y' s' qE F' Qi _ d'=> ?_
 have dd:gN L X s s':=⟨fun b o hb e=>d'.keep b o hb (fun h=>hO ((fY b h).symm.trans e)) (keep b o e),d'.inv,F'.fr.xo.sub (fun b hb=>au _ hb) x.tb x.sm,d'.os.trans hos,d'.drawn.trans Wy⟩
 cases fl with
 |next=>(first|exact VS qE|cases qE);(first|exact VS hr|cases hr);exact hQ _ _ rfl dd
 |brk=>exact hO hr
 |cont=>exact hO hr
 |ret p=>obtain⟨v,rfl,hv⟩:=qE;(first|exact VS hr|cases hr);exact hQ _ _ hv dd
end
end
section
open PySem PyProof.Rows
section
variable {L:ig} {sc:Scope} {σ:gO} {own:List Str} {k:Nat}
noncomputable def OE(L:ig)(sc:Scope)(σ:gO)(k:Nat)(e:aM)(f:List MV→Option MV):Prop:=
 ∀(env:b8) (A:aF) (X:List Addr) (s:aq) (ρ:List MV) (r:MV) (Q:Value→aq→Prop) (E:Value→aq→Prop),
  i5 L k A→FR L sc σ env X s.heap ρ→Inv L s→f ρ=some r→(∀a s',s.heap.get? a=none→gN L (a::X) s s'→r.owned=true→ru L s'.heap (a::X) r (.ref a)→Q (.ref a) s')→wpAny L.M A (eval e env) Q E s
theorem OE.nil{pos:cP}:OE L sc σ k (.List [] pos) (fun _=>some (.ol [])):=by
 intro env A X s ρ r Q E R F I hf hQ
 skip;(first|exact VS hf|cases hf)
 exact wpAny_List (cW ⟨aE _,hQ _ _ (g9 _) (gN.Bz (tk:=s.toks) I F.xo (g9 _) (iq _ _) ⟨_,aB _ rfl⟩) rfl ⟨_,#[],0,rfl,aA ..,fun e=>F.xo.size (e▸F.xo.tb),fun e=>F.xo.size (e▸F.xo.sm),aB _ rfl,gV.nil⟩⟩)
theorem OE.ja{pos:cP}:OE L sc σ k (.Dict [] [] pos) (fun _=>some (.zv [] [])):=by
 intro env A X s ρ r Q E R F I hf hQ
 skip;(first|exact VS hf|cases hf)
 exact wpAny_Dict_empty (hQ _ _ (g9 _) (gN.Bz (tk:=s.toks) I F.xo (g9 _) (iq _ _) ⟨_,aB _ rfl⟩) rfl ⟨_,[],rfl,aA ..,fun e=>F.xo.size (e▸F.xo.tb),fun e=>F.xo.size (e▸F.xo.sm),Heap.DictOf.new _,rfl,gV.nil⟩)
theorem OE.call{x:Str}{np pos:cP}{e:aM}{es:List aM}{v:Value}{f:List MV→Option (List PV)}{g:List PV→Option MV}(hx:sc.names.lookup x=some .globalImplicit)(hv:L.gl x=some v)(hc:Callee L v)(hf:oP L k v g)(ha:LE L sc σ k (e::es) f)
  (he: ∀env,starEach (e::es) env=(false,eval e env)::starEach es env)(qD: ∀env,(starEach (e::es) env).any (·.1)=false)(hd:(x==("__debug__":Str))=false):OE L sc σ k (.Call (.Name x np) (e::es) [] pos) (fun ρ=>(f ρ).bind g):=by
 intro env A X s ρ p Q E R F I MS hQ
 obtain⟨ps,hps,hg⟩:=Option.bind_eq_some_iff.mp MS
 refine bT (aN (by rw[F.scope];exact F.kind) (by unfold b8.kindOf;rw[F.scope];exact hx) (L.rt s env A x v _ E I.iA F.globals F.builtins.1 hv ?_) hd)
 exact sr hc ha he qD R F I hps fun vs s₁ jE d=>hf A X s₁ ps vs p Q E R d.xo d.inv jE hg fun a s' ha d' ho hm=>hQ a s' (d.fresh F.xo ha) ⟨fun b o hb e=>d'.keep b o hb (d.keep b o hb e),d'.inv,d'.xo,d'.os.trans d.os,d'.drawn.trans d.drawn⟩ ho hm
theorem oP.less{j:Nat}{v:Value}{g:List PV→Option MV}(h:oP L j v g)(hk:j≤k):oP L k v g:=fun A X s ps vs r Q E R=>h A X s ps vs r Q E (R.less hk)
noncomputable def HC(σ:gO):Bool:=decide (σ.map (·.1)).Nodup&&(List.range σ.length).all fun j=>σ.any fun x=>x.2==j
noncomputable def Fu(n i:Nat)(f:List MV→Option MV)(ρ:List MV):Option (Fl×List MV):=if ρ.length≤n then(f ρ).map fun mv=>(.next,ρ.set i mv) else none
theorem S1.Wz{e:aM}{x:Str}{p pos:cP}{i:Nat}{f:List MV→Option MV}(he:OE L sc σ k e f)(hx:x∈own)(hi:lb σ x i)(MW:HC σ=true)(hs: ∀env,env.scope=sc→swapsWith e (some (.Name x p)) pos.line env=pure false):
  S1 L sc σ own k true (.Assign [.Name x p] e pos) (Fu σ.length i f):=by
 intro env A Y Z s ρ ρ' fl Q E R F I kH kh hf hQ
 replace hf:=zz hf
 obtain⟨ib,hf⟩:=hf
 obtain⟨mv,jC,e'⟩:=Option.map_eq_some_iff.mp hf
 skip;(first|exact VS e'|cases e')
 refine eH (hs:=hs env F.fr.scope) (he env A _ s ρ mv _ E R F.fr I jC fun a s₁ ha d ho hm=> ?_)
 have jq:=F.Hb ha d
 have Ef:a∉Y++Z:=F.fr.xo.fresh ha
 have new: ∀b∈a::Y,b∈Y∨s.heap.get? b=none:=fun b hb=>(List.mem_cons.mp hb).elim (fun e=> .inr (e▸ha)) .inl
 refine jq.storeName hx fun D h' tk hD yP Ee S=> ?_
 have jK:FS L sc σ own env (a::Y) Z h' (ρ.set i mv):=jq.N6 hi.1 hi.2 hD yP Ee S (aA ..) (fun e=>Ef (az _ (e▸F.tq))) (fun z j nh _ H=>(F.fr.rd z j H.lk nh H.val (nr H.ow)).elim fun v r=>
  (r.2.addr H.ow).elim fun b x=>x.elim fun o x=>Ef (Value.ref.inj (x.1.symm.trans ((r.1.up (fun o e=>d.keep _ o F.fr.locals.1 e) fun c o hc e=>d.keep c o (F.fr.cells z c hc).1 e).unique H.rd))▸x.2.1)) hm
 exact hQ .next (a::Y) _ rfl jK new (fun h=>nomatch h) ((gS.jQ d).trans new ⟨fun b o _ hb e=>S.keep b o (fun e=>hb (e▸hD)) e,⟨fun b o e=>S.keep b o (fun h=>hO ((jq.fr.xo.look D (az _ hD)).symm.trans (h▸e))) (d.inv.iA b o e),d.inv.bare⟩,rfl,rfl⟩)
theorem FS.zS{env:b8}{Y Z:List Addr}{ρ:List MV}{s s₁:aq}{x:Str}{i:Nat}{mv nv:MV}{a:Addr}{h':Heap}{tk:Nat}(F:FS L sc σ own env Y Z s₁.heap ρ)(d:gS L Y s s₁)(hi:lb σ x i)(jC:ρ[i]? =some mv)(ho:mv.owned=true)(hr:Reads env s₁.heap x (.ref a))
  (hk: ∀b o,b≠a→s₁.heap.get? b=some o→h'.get? b=some o)(qD:nv.owned=true)(hv:ru L h' (Y++Z) nv (.ref a)):FS L sc σ own env Y Z h' (ρ.set i nv)∧gS L Y s {s₁ with heap:=h',toks:=tk}:=by
 have Ef:=(F.Fg _ _ _ _ ⟨hi.1,jC,ho,hr⟩).1
 exact⟨F.mut hi.1 hi.2 jC ho hr hk qD hv,d.trans (fun b h=> .inl h) ⟨fun b o _ hb e=>hk b o (fun e=>hb (e▸Ef)) e,⟨fun b o e=>hk b o (fun h=>hO ((F.fr.xo.look a (az _ Ef)).symm.trans (h▸e))) (d.inv.iA b o e),d.inv.bare⟩,rfl,rfl⟩⟩
theorem FS.oQ{env:b8}{Y Z:List Addr}{ρ:List MV}{h:Heap}{x:Str}{i:Nat}{mv:MV}(F:FS L sc σ own env Y Z h ρ)(hi:σ.lookup x=some i)(jC:ρ[i]? =some mv)(ho:mv.owned=true): ∃a,Reads env h x (.ref a)∧ru L h (Y++Z) mv (.ref a):=
 (F.fr.rd x i hi mv jC (nr ho)).elim fun v r=>(r.2.addr ho).elim fun a x=>x.elim fun o x=>⟨a,x.1▸r.1,x.1▸r.2⟩
noncomputable def MV.ol?:MV→Option (List PV)
 | .ol l=>some l
 |_=>none
noncomputable def Oy(ρ:List MV)(i:Nat):Option (List PV):=(ρ[i]?).bind MV.ol?
theorem HD{ρ:List MV}{i:Nat}{l:List PV}(h:Oy ρ i=some l):ρ[i]? =some (.ol l):=by
 obtain⟨mv,h1,h2⟩:=Option.bind_eq_some_iff.mp h
 cases mv<;>first|exact hO h2|exact h1.trans (congrArg (fun l=>some (MV.ol l)) (Option.some.inj h2))
noncomputable def qv(i:Nat)(f:List MV→Option PV)(ρ:List MV):Option (Fl×List MV):=
 (Oy ρ i).bind fun l=>if l.length≤100000 then(f ρ).map fun v=>(.next,ρ.set i (.ol (l++[v]))) else none
theorem qa{env:b8}(h:env.scope.kind= .function):interactive env=false:=by unfold interactive;rw[h];rfl
theorem Kx{e:aM}{pos:cP}{env:b8}(qD:(starEach [e] env).any (·.1)=false):((backTo pos (starEach [e] env)).all (fun x=> !x.1)&&(backToKw pos (keywordEach [] env)).all (fun x=>x.1.isSome)&&decide (([e]:List aM).length+([]:List Keyword).length+(if ([]:List Keyword).isEmpty then 0 else 1)<30))=true:=by
 have h1:(backTo pos (starEach [e] env)).all (fun x=> !x.1)=true:=List.all_map.trans (List.all_eq_true.mpr fun x hx=>congrArg (fun b=> !b) (Bool.eq_false_iff.mpr (List.any_eq_false.mp qD x hx)))
 rw[h1];rfl
theorem Ky{e:aM}{x name:Str}{id:String}{xp apos pos Bt:cP}{i:Nat}{f:List MV→Option PV}(he:SE L sc σ k e f)(hi:lb σ x i)(hs: ∀env,starEach [e] env=[(false,eval e env)])(wy:(apos.endLine==pos.line)=true)(hd:(x==("__debug__":Str))=false)(hsw: ∀env,swapsWith (.Call (.Attribute (.Name x xp) name apos) [e] [] pos) none Bt.line env=pure false)
  (Rc:Slot "list" name id)(WA:typeOf (.builtin id)=pure (.type "method_descriptor")){env:b8}{A:aF}{Y Z:List Addr}{s:aq}{ρ:List MV}{l:List PV}{v:PV}{Q:Flow→aq→Prop}{E:Value→aq→Prop}(R:i5 L k A)(F:FS L sc σ own env Y Z s.heap ρ)(I:Inv L s)(hl:ρ[i]? =some (.ol l))(hv:f ρ=some v)
  (hQ: ∀a xs n y s₁,gN L (Y++Z) s s₁→Reads env s₁.heap x (.ref a)→a∈Y++Z→a≠L.tb→a≠sysModules→s₁.heap.get? a=some {cls:= .type "list",data:= .seq xs n}→gV L.prog L.w s₁.heap (Y++Z) l xs.toList→VR L.prog L.w s₁.heap (Y++Z) v y→wpAny L.M A (call (.builtin id) [.ref a,y]) (fun v s'=>match v with| .ref _=>False|_=>Q .next s') E s₁):
  wpAny L.M A (exec (.Expr (.Call (.Attribute (.Name x xp) name apos) [e] [] pos) Bt) env) Q E s:=by
 obtain⟨a,hr,hm⟩:=F.oQ hi.1 hl rfl
 have qD: ∀env,(starEach [e] env).any (·.1)=false:=fun env=>by rw[hs env];rfl
 have sa:env.scope.kind= .function:=by rw[F.fr.scope];exact F.fr.kind
 refine wpAny_Expr (hi:=qa sa) (hs:=hsw env) (wpAny_Call_method_late (nY rfl) (Kx (qD env)) wy rfl (hr.eval sa ?_ hd))
 obtain⟨a',xs,n,ea,rZ,hat,tA,hg,Vi⟩:=hm
 skip;(first|exact VS ea|cases ea)
 refine⟨"list",id,PySem.F.plainAttrs_list,Rc,WA,⟨_,hg,rfl⟩,fun b hb=>by (first|exact VS hb|cases hb);exact⟨_,hg,rfl⟩,?_⟩
 have Wu:LE L sc σ k [e] (fun ρ=>(f ρ).bind fun a=>(some []).map (a:: ·)):=LE.cons (g:=fun _=>some []) he LE.nil (fun env=>by rw[hs env];rfl)
 refine sr (.builtin _) Wu (fun env=>by rw[hs env];rfl) qD R F.fr I (ps:=[v]) (by rw[hv];rfl) fun vs s₁ jE d=> ?_
 obtain⟨y,rfl,hy⟩:=gV.one jE
 exact hQ a xs n y s₁ d (hr.up (fun o e=>d.keep _ o F.fr.locals.1 e) fun c o hc e=>d.keep c o (F.fr.cells x c hc).1 e) rZ hat tA (d.keep _ _ hat hg) (Vi.up d.up) hy
theorem S1.append{e:aM}{x:Str}{xp apos pos Bt:cP}{i:Nat}{f:List MV→Option PV}(he:SE L sc σ k e f)(hi:lb σ x i)(hs: ∀env,starEach [e] env=[(false,eval e env)])(wy:(apos.endLine==pos.line)=true)(hd:(x==("__debug__":Str))=false)(hsw: ∀env,swapsWith (.Call (.Attribute (.Name x xp) "append" apos) [e] [] pos) none Bt.line env=pure false):
  S1 L sc σ own k false (.Expr (.Call (.Attribute (.Name x xp) "append" apos) [e] [] pos) Bt) (qv i f):=by
 intro env A Y Z s ρ ρ' fl Q E R F I kH kh hf hQ
 replace hf:=Option.bind_eq_some_iff.mp hf
 obtain⟨l,hl,hf⟩:=hf
 replace hf:=zz hf
 obtain⟨hsz,hf⟩:=hf
 obtain⟨v,hv,e'⟩:=Option.map_eq_some_iff.mp hf
 skip;(first|exact VS e'|cases e')
 have hl:=HD hl
 refine Ky he hi hs wy hd hsw PySem.F.slot_list_append PySem.F.type_list_append R F I hl hv fun a xs n y s₁ d hr rZ hat tA hg Vi hy=> ?_
 have e1:=Vi.size
 refine wpAny_list_append_plain ⟨n,hg⟩ (fun h' jB km=> ?_) (by show _≤16777216;omega)
 obtain⟨n',jB⟩:=jB
 have hk: ∀b o,b≠a→s₁.heap.get? b=some o→h'.get? b=some o:=fun b o hb e=>km.extBut b o hb e
 have u:Up s₁.heap (Y++Z) h' (Y++Z):=fun b o hb e=>⟨hb,hk b o (fun h=>hb (h▸rZ)) e⟩
 have k:=(F.done d).zS (nv:= .ol (l++[v])) (tk:=s₁.toks) (gS.jQ d) hi hl rfl hr hk rfl ⟨a,xs.push y,n',rfl,rZ,hat,tA,jB,by rw[dy];exact(Vi.up u).append (gV.cons (hy.up u) gV.nil)⟩
 exact hQ.one rfl k.1 k.2
end
end
section
open PySem PyProof.Rows
section
variable {L:ig} {sc:Scope} {σ:gO} {own:List Str} {k:Nat}
noncomputable def HE:MV→PV→Option PV
 | .Ba ks vs,.int n=>kl ks vs n
 | .zv ks vs,.str s=>kl ks vs s
 | .ol l,.int n=>if small n then(seqIndex? n l.length).bind (l[·]?) else none
 |_,_=>none
noncomputable def kR(i:Nat)(g:List MV→Option PV)(ρ:List MV):Option PV:=(ρ[i]?).bind fun mv=>(g ρ).bind fun q=>HE mv q
inductive Et:MV→PV→PV→Prop
 |ol {l i j r}:small i=true→seqIndex? i l.length=some j→l[j]? =some r→Et (.ol l) (.int i) r
 |Ba {ks vs i r}:kl ks vs i=some r→Et (.Ba ks vs) (.int i) r
 |zv {ks vs i r}:kl ks vs i=some r→Et (.zv ks vs) (.str i) r
theorem HF{m:MV}{q r:PV}(h:HE m q=some r):Et m q r:=by
 cases m<;>try exact hO h
 all_goals (cases q<;>try exact hO h)
 ·replace h:=zz h
  obtain⟨hs,h⟩:=h
  replace h:=Option.bind_eq_some_iff.mp h
  obtain⟨j,hj,h⟩:=h
  exact .ol hs hj h
 ·exact .Ba h
 ·exact .zv h
theorem SE.Kz{x:Str}{xp pos:cP}{ix:aM}{i:Nat}{g:List MV→Option PV}(hi:σ.lookup x=some i)(hd:(x==("__debug__":Str))=false)(WB:SE L sc σ k ix g)(hs: ∀o i',subscripted ix false o i'=operate [o,i'] (getItem o i')):
  SE L sc σ k (.Subscript (.Name x xp) ix pos) (kR i g):=by
 intro env A X s ρ p Q E R F I hf hQ
 replace hf:=Option.bind_eq_some_iff.mp hf
 obtain⟨mv,jC,hf⟩:=hf
 replace hf:=Option.bind_eq_some_iff.mp hf
 obtain⟨q,hq,hf⟩:=hf
 have sa:env.scope.kind= .function:=by rw[F.scope];exact F.kind
 have hu:mv≠ .un:=by rintro rfl;(first|exact VS hf|cases hf)
 obtain⟨v,r,m⟩:=F.rd x i hi mv jC hu
 refine tj (r.eval sa (WB env A X s ρ q _ E R F I hq fun u s₁ hu d=> ?_) hd) (fun o i=> .inl (hs o i))
 cases HF hf with
 |ol kh hj h=>
  refine hu.sg fun t=> ?_
  obtain⟨a,xs,c,rfl,rZ,hat,_,hg,hl⟩:=m
  have Eh:=hl.up d.up
  have MX:=d.keep _ _ hat hg
  refine Eh.zy h fun y hy hr=> ?_
  exact⟨"list",_,fL,⟨_,MX,rfl⟩,qO MX kh (Eh.size▸hj) hy (hQ _ _ hr d)⟩
 |Ba h=>
  refine hu.sg fun t=> ?_
  obtain⟨a,kvs,rfl,rZ,hat,_,Dg,hk,hl⟩:=m
  exact lU (isInt_self _ t) (jl Dg fun o e=>d.keep _ o hat e) hk (hl.up d.up) h d.xo d.inv fun y s' hy d'=>hQ y s' hy (d.trans d')
 |zv h=>
  refine hu.E8 fun t=> ?_
  obtain⟨a,kvs,rfl,rZ,hat,_,Dg,hk,hl⟩:=m
  exact lU (isStrOf_self _ t) (jl Dg fun o e=>d.keep _ o hat e) hk (hl.up d.up) h d.xo d.inv fun y s' hy d'=>hQ y s' hy (d.trans d')
noncomputable def MV.Oz:MV→Option (List Str×List PV)
 | .zv ks vs=>some (ks,vs)
 |_=>none
theorem MV.Eu{mv:MV}{r:List Str×List PV}(h:mv.Oz=some r):mv= .zv r.1 r.2:=by
 cases mv<;>first|exact hO h|exact Option.some.inj h▸rfl
noncomputable def HG(i:Nat)(g:List MV→Option PV)(ρ:List MV):Option PV:=(g ρ).bind fun q=>((ρ[i]?).bind MV.Oz).bind fun r=>onStr (fun s=>some (.bool (r.1.any (· ==s)))) q
theorem TE.Rd{x:Str}{xp pos:cP}{e:aM}{i:Nat}{g:List MV→Option PV}(he:SE L sc σ k e g)(hi:σ.lookup x=some i)(hd:(x==("__debug__":Str))=false):TE L sc σ k (.Compare e [.In] [.Name x xp] pos) (fun ρ=>(HG i g ρ).bind mJ):=by
 intro env A X s ρ b Q E R F I hf hQ
 obtain⟨p,hp,hb⟩:=Option.bind_eq_some_iff.mp hf
 replace hp:=Option.bind_eq_some_iff.mp hp
 obtain⟨q,hq,hp⟩:=hp
 replace hp:=Option.bind_eq_some_iff.mp hp
 obtain⟨ks,jC,hp⟩:=hp
 replace jC:=Option.bind_eq_some_iff.mp jC
 obtain⟨mv,jC,h⟩:=jC
 obtain rfl:=MV.Eu h
 replace hp:=j9 hp
 obtain⟨key,rfl,hp⟩:=hp
 skip;(first|exact VS hp|cases hp)
 skip;(first|exact VS hb|cases hb)
 have sa:env.scope.kind= .function:=by rw[F.scope];exact F.kind
 refine wpAny_isTrue_Compare1 (hm:=rfl) (he env A X s ρ _ _ E R F I hq fun u s₁ hu d=> ?_)
 have jq:=F.done d
 obtain⟨v,r,m⟩:=jq.rd x i hi _ jC (by intro h;(first|exact VS h|cases h))
 refine r.eval sa ?_ hd
 obtain⟨t,rfl⟩:=hu.lY
 obtain⟨a,kvs,rfl,rZ,hat,kh,Dg,hk,hl⟩:=m
 refine wpAny_in_of (knd:=strKind L.prog L.w) (k:=key) (isStrOf_self key t) (by simpa using kh) Dg.mapOf ?_
 rw[wb,hk]
 exact cZ (hQ _ (d.trans (gN.toks d.inv d.xo _)))
noncomputable def Rf:PV→Option PV
 | .int i=>some (.int i)
 | .bool b=>some (.bool b)
 | .str s=>some (.str s)
 |_=>none
theorem KA{p q:PV}(hs:Rf p=some q){h:Heap}{X X':List Addr}{v:Value}(x:VR L.prog L.w h X p v):VR L.prog L.w h X' q v:=by
 cases p<;>first|exact hO hs|exact Option.some.inj hs▸x
noncomputable def WC(i:Nat)(f:List MV→Option PV)(ρ:List MV):Option PV:=((ρ[i]?).bind MV.CR).bind fun q=>(f ((ρ.map MV.mm).set i (.p q))).bind Rf
theorem dict_cls{h:Heap}{K:Type}[DecidableEq K]{knd:KeyKind L.prog L.w K}{a:Addr}{kvs:List (K×Value)}(x:h.DictOf knd a kvs): ∃o,h.get? a=some o∧(o.cls= .type "list"∨o.cls= .type "dict"):=
 x.elim fun o x=>x.elim fun es x=>x.elim fun ep x=>⟨o,x.1,.inr x.2.1.1⟩
theorem FR.view{env:b8}{X:List Addr}{h:Heap}{ρ:List MV}{x:Str}{i:Nat}{mv:MV}{q:PV}(F:FR L sc σ env X h ρ)(hi:lb σ x i)(jC:ρ[i]? =some mv)(Fv:mv.CR=some q):
  ∃a X',(∀b∈X',b∈X)∧(∀b∈X,b≠a→b∈X')∧a≠L.tb∧ru L h X mv (.ref a)∧(∃o,h.get? a=some o∧(o.cls= .type "list"∨o.cls= .type "dict"))∧FR L sc σ env X' h ((ρ.map MV.mm).set i (.p q)):=by
 have ho:mv.owned=true:=by cases mv<;>first|rfl|exact hO Fv
 obtain⟨v,r,m⟩:=F.rd x i hi.1 mv jC (nr ho)
 have key: ∃a,v= .ref a∧a≠L.tb∧a≠sysModules∧(∃o,h.get? a=some o∧(o.cls= .type "list"∨o.cls= .type "dict"))∧ ∀X',(∀b∈X',b∈X)→a∉X'→VR L.prog L.w h X' q v:=by
  cases mv<;>try exact hO Fv
  ·(first|exact VS Fv|cases Fv);exact m.elim fun a m=>m.elim fun xs m=>m.elim fun n m=>⟨a,m.1,m.2.2.1,m.2.2.2.1,⟨_,m.2.2.2.2.1,.inl rfl⟩,fun X' hs ha=> .intro a ⟨xs,n,m.1,ha,m.2.2.2.2.1,m.2.2.2.2.2.same hs⟩⟩
  ·(first|exact VS Fv|cases Fv);exact m.elim fun a m=>m.elim fun kvs m=>⟨a,m.1,m.2.2.1,m.2.2.2.1,dict_cls m.2.2.2.2.1,fun X' hs ha=> .intro a ⟨kvs,m.1,ha,m.2.2.2.2.1,m.2.2.2.2.2.1,m.2.2.2.2.2.2.same hs⟩⟩
  ·(first|exact VS Fv|cases Fv);exact m.elim fun a m=>m.elim fun kvs m=>⟨a,m.1,m.2.2.1,m.2.2.2.1,dict_cls m.2.2.2.2.1,fun X' hs ha=> .intro a ⟨kvs,m.1,ha,m.2.2.2.2.1,m.2.2.2.2.2.1,m.2.2.2.2.2.2.same hs⟩⟩
 obtain⟨a,rfl,hat,tA,JW,Rg⟩:=key
 have hs: ∀b∈X.filter (· !=a),b∈X:=fun b hb=>(List.mem_filter.mp hb).1
 have yJ: ∀b∈X,b≠a→b∈X.filter (· !=a):=fun b hb js=>List.mem_filter.mpr ⟨hb,bne_iff_ne.mpr js⟩
 refine⟨a,X.filter (· !=a),hs,yJ,hat,m,JW,F.scope,F.kind,F.globals,F.builtins,F.xo.sub hs (yJ _ F.xo.tb (Ne.symm hat)) (yJ _ F.xo.sm (Ne.symm tA)),F.locals,F.cells,F.has,fun y j hj nh OA hu=> ?_⟩
 by_cases e:j=i
 ·subst e
  obtain rfl:=we OA
  exact⟨_,hi.2 y hj▸r,Rg _ hs fun h=>absurd rfl (bne_iff_ne.mp (List.mem_filter.mp h).2)⟩
 ·rw[eX (Ne.symm e),aL] at OA
  obtain⟨MO,h0,rfl⟩:=Option.map_eq_some_iff.mp OA
  obtain⟨q',rfl⟩:=Em hu
  exact(F.rd y j hj _ h0 (fun h=>nomatch h)).elim fun v' r'=>⟨v',r'.1,VR.up (Up.sub _ hs) (show VR L.prog L.w h X q' v' from r'.2)⟩
theorem XO.OB{X X' W:List Addr}{a:Addr}{h h':Heap}(x:XO L X h)(yJ: ∀b∈X,b≠a→b∈X')(hat:a≠L.tb)(JW: ∃o,h.get? a=some o∧(o.cls= .type "list"∨o.cls= .type "dict"))(hk: ∀b o,b≠L.tb→h.get? b=some o→h'.get? b=some o)(xo:XO L (W++X') h'):XO L (W++X) h':=by
 obtain⟨oa,JW,WD⟩:=JW
 refine⟨au _ x.tb,au _ x.sm,fun b hb=>(List.mem_append.mp hb).elim (fun h=>xo.there b (az _ h)) fun h=> ?_,fun b hb=>(List.mem_append.mp hb).elim (fun h=>xo.look b (az _ h)) (x.look b),xo.tab.elim fun fp t=>⟨fp,t.1,fun b hb hX=>(List.mem_append.mp hX).elim (fun h=>t.2 b hb (az _ h)) fun h=> ?_⟩⟩
 ·by_cases e:b=a
  ·exact⟨oa,e▸hk a oa hat JW⟩
  ·exact xo.there b (au _ (yJ b h e))
 ·by_cases e:b=a
  ·have h1:=L.GK _ _ t.1 b hb oa (e▸hk a oa hat JW)
   exact WD.elim h1.1 h1.2
  ·exact t.2 b hb (au _ (yJ b h e))
theorem SE.CR{e:aM}{x:Str}{i:Nat}{f:List MV→Option PV}(h:SE L sc σ k e f)(hi:lb σ x i):SE L sc σ k e (WC i f):=by
 intro env A X s ρ p Q E R F I hf hQ
 replace hf:=Option.bind_eq_some_iff.mp hf
 obtain⟨q,hq,hf⟩:=hf
 obtain⟨mv,jC,Fv⟩:=Option.bind_eq_some_iff.mp hq
 obtain⟨p',zE,uy⟩:=Option.bind_eq_some_iff.mp hf
 obtain⟨a,X',hs,yJ,hat,_,JW,F'⟩:=F.view hi jC Fv
 exact h env A X' s _ p' Q E R F' I zE fun y s' hy d=>hQ y s' (KA uy hy) ⟨d.keep,d.inv,F.xo.OB (W:=[]) yJ hat JW d.keep d.xo,d.os,d.drawn⟩
end
end
section
open PySem PyProof.Rows
section
variable {L:ig} {sc:Scope} {σ:gO} {own:List Str} {k:Nat}
noncomputable def nt(i:Nat)(f:List MV→Option (Fl×List MV))(ρ:List MV):Option (Fl×List MV):=((ρ[i]?).bind MV.CR).bind fun q=>f (ρ.set i (.p q))
theorem SS.freeze{g:Bool}{body:List Stmt}{x:Str}{i:Nat}{f:List MV→Option (Fl×List MV)}(h:SS L sc σ own k g body f)(hi:lb σ x i):SS L sc σ own k true body (nt i f):=by
 intro env A Y Z s ρ ρ' fl Q E R F I kH kh hf hQ
 replace hf:=Option.bind_eq_some_iff.mp hf
 obtain⟨q,hq,hf⟩:=hf
 obtain⟨mv,jC,Fv⟩:=Option.bind_eq_some_iff.mp hq
 have ho:mv.owned=true:=by cases mv<;>first|rfl|exact hO Fv
 obtain⟨v,r,m⟩:=F.fr.rd x i hi.1 mv jC (nr ho)
 obtain⟨a,oa,rfl,rZ,hat,JW,Qg⟩:=m.addr ho
 have H:Holds σ env s.heap ρ x i mv a:=⟨hi.1,jC,ho,r⟩
 obtain⟨Ef,Ha⟩:=F.Fg _ _ _ _ H
 let Y':=Y.filter (· !=a)
 have Vj: ∀b∈Y',b∈Y:=fun b hb=>(List.mem_filter.mp hb).1
 have hs: ∀b∈Y'++Z,b∈Y++Z:=fun b hb=>(List.mem_append.mp hb).elim (fun h=>az _ (Vj b h)) (au _)
 have OC:a∉Y'++Z:=fun hm=>(List.mem_append.mp hm).elim (fun h=>absurd rfl (bne_iff_ne.mp (List.mem_filter.mp h).2)) (F.apart a Ef)
 have yJ: ∀b∈Y,b≠a→b∈Y':=fun b hb js=>List.mem_filter.mpr ⟨hb,bne_iff_ne.mpr js⟩
 have Rg:VR L.prog L.w s.heap (Y'++Z) q (.ref a):=by
  cases mv<;>try exact hO Fv
  ·(first|exact VS Fv|cases Fv);exact m.elim fun a' m=>m.elim fun xs m=>m.elim fun n m=> .intro a ⟨xs,n,rfl,OC,Value.ref.inj m.1▸m.2.2.2.2.1,m.2.2.2.2.2.same hs⟩
  ·(first|exact VS Fv|cases Fv);exact m.elim fun a' m=>m.elim fun kvs m=> .intro a ⟨kvs,rfl,OC,Value.ref.inj m.1▸m.2.2.2.2.1,m.2.2.2.2.2.1,m.2.2.2.2.2.2.same hs⟩
  ·(first|exact VS Fv|cases Fv);exact m.elim fun a' m=>m.elim fun kvs m=> .intro a ⟨kvs,rfl,OC,Value.ref.inj m.1▸m.2.2.2.2.1,m.2.2.2.2.2.1,m.2.2.2.2.2.2.same hs⟩
 have F':FS L sc σ own env Y' Z s.heap (ρ.set i (.p q)):=by
  refine F.gen i (F.fr.xo.sub hs (au _ kH) (au _ kh)) (yJ _ F.tq (Ne.symm Ha)) F.ns (fun y c hc=>⟨(F.fr.cells y c hc).2,fun u G4 hu=>⟨yJ c G4 fun e=> ?_,u,hu⟩⟩) (fun y hy=>F.apart y (Vj y hy)) (Up.sub _ hs) (fun j mv hj e _=>yO hj▸e) (fun _ _ _ _ _ r=>r)
   (fun y j nh b o hj H' _ hg _=>⟨yJ b (F.Fg _ _ _ _ H').1 fun e=>hj (F.sep _ _ _ _ _ _ _ (e▸H') H),hg⟩) (fun y nh hy e _=>⟨.ref a,hi.2 y hy▸r,we e▸Rg⟩) fun y nh b H'=>Bool.noConfusion (we H'.val▸H'.ow:(MV.p q).owned=true)
  subst e
  exact hu.elim fun o x=>Qg u (Option.some.inj (JW.symm.trans x.1)▸x.2)
 exact h env A Y' Z s _ ρ' fl Q E R F' I kH kh hf fun fv Vk s' qE Vh WE _ d=>hQ fv Vk s' qE Vh (fun b hb=>(WE b hb).imp (Vj b) id) (fun h=>nomatch h) ⟨fun b o h1 h2 e=>d.keep b o h1 (fun h=>h2 (Vj b h)) e,d.inv,d.os,d.drawn⟩
noncomputable def kB{K:Type}[DecidableEq K]:List K→List PV→K→PV→List K×List PV
 |k::ks,v::vs,x,p=>if k=x then(k::ks,p::vs) else let r:=kB ks vs x p;(k::r.1,v::r.2)
 |ks,vs,x,p=>(ks++[x],vs++[p])
theorem yV{K:Type}[DecidableEq K]{h:Heap}{X:List Addr}{x:K}{p:PV}{u:Value}(hp:VR L.prog L.w h X p u): ∀{kvs:List (K×Value)} {ks:List K} {vs:List PV},(kvs.map (·.1)).Nodup→kvs.map (·.1)=ks→gV L.prog L.w h X vs (kvs.map (·.2))→
  (stored kvs x u).map (·.1)=(kB ks vs x p).1∧gV L.prog L.w h X (kB ks vs x p).2 ((stored kvs x u).map (·.2)):=by
 intro kvs
 induction kvs with
 |nil=>
  intro ks vs _ hk hv
  skip;(first|exact VS hk|cases hk)
  cases vs with
  |nil=>exact⟨rfl,gV.cons hp gV.nil⟩
  |cons q qs=>exact absurd hv.length.symm (bB _)
 |cons k0 kvs ih=>
  obtain⟨k,y⟩:=k0
  intro ks vs hn hk hv
  skip;(first|exact VS hk|cases hk)
  cases vs with
  |nil=>exact absurd hv.length (bB _)
  |cons q vs=>
   obtain⟨h1,h2⟩:=List.nodup_cons.mp hn
   obtain⟨_,_,e,hq,hr⟩:=hv
   obtain⟨rfl,rfl⟩:=List.cons.inj e
   show _=(if k=x then _ else _:List K×List PV).1∧gV L.prog L.w h X (if k=x then _ else _:List K×List PV).2 _
   by_cases e:k=x
   ·subst e
    have qD:(kvs.map fun kv=>if kv.1=k then(kv.1,u) else kv)=kvs:=map_store_of_not_mem kvs k u h1
    have:stored ((k,y)::kvs) k u=(k,u)::kvs:=by unfold stored;simp only[fk,decide_true,eJ,if_true,aU,qD]
    rw[this,if_pos rfl]
    exact⟨rfl,gV.cons hp hr⟩
   ·have:stored ((k,y)::kvs) x u=(k,y)::stored kvs x u:=by
     unfold stored
     simp only[fk,e,decide_false,Bool.false_or,aU,if_false]
     split<;>rfl
    obtain⟨i1,i2⟩:=ih h2 rfl hr
    rw[this,if_neg e]
    exact⟨congrArg (k:: ·) i1,gV.cons hq i2⟩
noncomputable def Rh:MV→PV→PV→Option MV
 | .Ba ks vs,q,v=>pY (fun n=>if ks.length≤100000 then some (.Ba (kB ks vs n v).1 (kB ks vs n v).2) else none) q
 | .zv ks vs,q,v=>onStr (fun n=>if ks.length≤100000 then some (.zv (kB ks vs n v).1 (kB ks vs n v).2) else none) q
 |_,_,_=>none
noncomputable def uZ(i:Nat)(ke ve:List MV→Option PV)(ρ:List MV):Option (Fl×List MV):=(ve ρ).bind fun v=>(ke ρ).bind fun q=>((ρ[i]?).bind fun mv=>Rh mv q v).map fun nh=>(.next,ρ.set i nh)
theorem wB{K:Type}[DecidableEq K]{knd:KeyKind L.prog L.w K}{n:K}{ue:Value}{a:Addr}{kvs:List (K×Value)}{ks:List K}{vs:List PV}{v:PV}{y:Value}{A:aF}{X:List Addr}{s:aq}{Q:Unit→aq→Prop}{E:Value→aq→Prop}(G3:knd.is n ue=true)(rZ:a∈X)(Dg:s.heap.DictOf knd a kvs)(hkk:kvs.map (·.1)=ks)(hl:gV L.prog L.w s.heap X vs (kvs.map (·.2)))(hy:VR L.prog L.w s.heap X v y)(hsz:ks.length≤100000)
  (hQ: ∀h' kP,(∀b o,b≠a→s.heap.get? b=some o→h'.get? b=some o)→h'.DictOf knd a kP→kP.map (·.1)=(kB ks vs n v).1→gV L.prog L.w h' X (kB ks vs n v).2 (kP.map (·.2))→Q () {s with heap:=h',toks:=s.toks+1}):wpAny L.M A (setItem (.ref a) ue y) Q E s:=by
 refine wpAny_setItem_pairs (knd:=knd) (k:=n) G3 Dg (fun h' vI km=> ?_) (by rw[←hkk,aD] at hsz;exact Nat.le_trans hsz (by decide))
 have hk: ∀b o,b≠a→s.heap.get? b=some o→h'.get? b=some o:=fun b o hb e=>km.extBut b o hb e
 have up:Up s.heap X h' X:=fun b o hb e=>⟨hb,hk b o (fun h=>hb (h▸rZ)) e⟩
 have k:=yV (p:=v) (x:=n) (hy.up up) (oM Dg) hkk (hl.up up)
 exact hQ h' _ hk vI k.1 k.2
theorem S1.put{x:Str}{xp sp pos:cP}{ke ve:aM}{i:Nat}{f g:List MV→Option PV}(hv:SE L sc σ k ve f)(hk:SE L sc σ k ke g)(hi:lb σ x i)(hd:(x==("__debug__":Str))=false)(hs: ∀env,env.scope=sc→swapsWith ve (some (.Subscript (.Name x xp) ke sp)) pos.line env=pure false):
  S1 L sc σ own k false (.Assign [.Subscript (.Name x xp) ke sp] ve pos) (uZ i g f):=by
 intro env A Y Z s ρ ρ' fl Q E R F I kH kh hf hQ
 replace hf:=Option.bind_eq_some_iff.mp hf
 obtain⟨v,nf,hf⟩:=hf
 replace hf:=Option.bind_eq_some_iff.mp hf
 obtain⟨q,hq,hf⟩:=hf
 obtain⟨nh,Ki,e⟩:=Option.map_eq_some_iff.mp hf
 clear hf
 skip;(first|exact VS e|cases e)
 obtain⟨mv,jC,hf⟩:=Option.bind_eq_some_iff.mp Ki
 have ho:mv.owned=true:=by cases mv<;>first|rfl|exact hO hf
 have sa:env.scope.kind= .function:=by rw[F.fr.scope];exact F.fr.kind
 refine wpAny_Assign_Subscript (hs:=hs env F.fr.scope) (hv env A _ s ρ v _ E R F.fr I nf fun y s₁ hy d=> ?_)
 have jq:=F.done d
 obtain⟨a,hr,hm⟩:=jq.oQ hi.1 jC ho
 refine hr.eval sa ?_ hd
 refine hk env A _ s₁ ρ _ _ E R jq.fr d.inv hq fun u gZ hu gW=> ?_
 have jK:=jq.done gW
 have Ri:Reads env gZ.heap x (.ref a):=hr.up (fun o e=>gW.keep _ o jq.fr.locals.1 e) fun c o hc e=>gW.keep c o (jq.fr.cells x c hc).1 e
 have yN:ru L gZ.heap (Y++Z) mv (.ref a):=hm.up gW.up fun b hb js=>⟨hb,fun o e=>gW.keep b o js e⟩
 have fin: ∀h' nv,nv.owned=true→(∀b o,b≠a→gZ.heap.get? b=some o→h'.get? b=some o)→ru L h' (Y++Z) nv (.ref a)→nv=nh→Q .next {gZ with heap:=h',toks:=gZ.toks+1}:=fun h' nv qD hkp CQ e=>by
  subst e
  have k:=jK.zS (tk:=gZ.toks+1) ((gS.jQ d).trans (fun b h=> .inl h) (gS.jQ gW)) hi jC ho Ri hkp qD CQ
  exact hQ.one rfl k.1 k.2
 cases mv<;>try exact hO hf
 ·replace hf:=ly hf
  obtain⟨n,rfl,hf⟩:=hf
  replace hf:=kg hf
  obtain⟨hsz,e⟩:=hf
  refine hu.sg fun t=> ?_
  obtain⟨a',kvs,ea,rZ,hat,tA,Dg,hkk,hl⟩:=yN
  skip;(first|exact VS ea|cases ea)
  exact wB (isInt_self n t) rZ Dg hkk hl (hy.up gW.up) hsz fun h' kP k1 k2 k3 k4=>fin h' (.Ba _ _) rfl k1 ⟨a,kP,rfl,rZ,hat,tA,k2,k3,k4⟩ e.symm
 ·replace hf:=j9 hf
  obtain⟨n,rfl,hf⟩:=hf
  replace hf:=kg hf
  obtain⟨hsz,e⟩:=hf
  refine hu.E8 fun t=> ?_
  obtain⟨a',kvs,ea,rZ,hat,tA,Dg,hkk,hl⟩:=yN
  skip;(first|exact VS ea|cases ea)
  exact wB (isStrOf_self n t) rZ Dg hkk hl (hy.up gW.up) hsz fun h' kP k1 k2 k3 k4=>fin h' (.zv _ _) rfl k1 ⟨a,kP,rfl,rZ,hat,tA,k2,k3,k4⟩ e.symm
end
end
section
open PySem PyProof.Rows
open Builtin Builtin.Str
section
variable {L:ig}
noncomputable def qb:List PV→Option (List Str)
 |[]=>some []
 | .str s::r=>(qb r).map (s:: ·)
 |_=>none
theorem BE{h:Heap}{X:List Addr}{l:List PV}: ∀{vs:List Value} {ns:List Str},gV L.prog L.w h X l vs→qb l=some ns→ ∃ts:List (Str×gj),vs=strValues ts∧ts.map (·.1)=ns:=by
 induction l with
 |nil=>intro vs ns x h;(first|exact VS x|cases x);(first|exact VS h|cases h);exact⟨[],rfl,rfl⟩
 |cons p ps ih=>
  intro vs ns x h
  obtain⟨v,r,rfl,hv,hr⟩:=x.inv
  cases p<;>try exact hO h
  rename_i i
  obtain⟨t,rfl⟩:=hv.lY
  obtain⟨ms,hi,rfl⟩:=Option.map_eq_some_iff.mp h
  obtain⟨ts,h1,h2⟩:=ih hr hi
  exact⟨(i,t)::ts,by rw[h1];rfl,by rw[←h2];rfl⟩
theorem Dh{h:Heap}{X:List Addr}: ∀{ts:List (Str×gj)},gV L.prog L.w h X (ts.map fun p=> .str p.1) (strValues ts):=by
 intro ts
 induction ts with
 |nil=>exact gV.nil
 |cons q0 r iu=>obtain⟨s,t⟩:=q0;exact gV.cons (VR.mkStr _ _) (iu)
noncomputable def isStr(a:Str):Value→Bool
 | .str b _=>b==a
 |_=>false
theorem Di: ∀{l:List PV} {ns:List Str},qb l=some ns→l=ns.map .str:=by
 intro l
 induction l with
 |nil=>exact @fun _ h=>j7 h▸rfl
 |cons p l iu=>
  intro ns h
  cases p<;>try exact hO h
  obtain⟨ms,hm,rfl⟩:=Option.map_eq_some_iff.mp h
  rw[iu hm];rfl
noncomputable def OD(l:List PV):PV→Option PV
 | .int a=>(kz l).bind fun ns=>(ns.findIdx? (· ==a)).bind fun j=>if l.length≤1000 then some (.int j) else none
 | .str a=>(qb l).bind fun ns=>(ns.findIdx? (· ==a)).bind fun j=>if l.length≤1000 then some (.int j) else none
 |_=>none
noncomputable def kS(p:PV)(ps:List PV):Option PV:=lx (fun l=>A3 (OD l) ps) p
theorem wC{α:Type}{mk:α→PV}{key:α→Bool}{OF:Value→Bool}{A:aF}{s:aq}{h:Heap}{X:List Addr}{ns:List α}{a:Addr}{xs:Array Value}{n j:Nat}{v:Value}{Q:Value→aq→Prop}{E:Value→aq→Prop}(ho:s.heap.get? a=some {cls:= .type "list",data:= .seq xs n})(hl:gV L.prog L.w h X (ns.map mk) xs.toList)
  (hE: ∀x u,VR L.prog L.w h X (mk x) u→OF u=key x∧ ∀(A:aF) (s:aq),SeqAt.EqAt A s u v (OF u))(hj:ns.findIdx? key=some j)(hf:(ns.map mk).length≤1000)(hQ:Q (.int j s.toks) {s with toks:=s.toks+1}):wpAny L.M A (call (.builtin "list.index") [.ref a,v]) Q E s:=by
 obtain⟨jF,WG,qD⟩:=List.findIdx?_eq_some_iff_getElem.mp hj
 have hsz:=hl.size
 rw[aD] at hsz hf
 have at_: ∀m (hm:m<xs.size) (hn:m<ns.length),OF xs[m]=key ns[m]∧ ∀(A:aF) (s:aq),SeqAt.EqAt A s xs[m] v (OF xs[m]):=fun m hm hn=>by
  obtain⟨p,hp,hv⟩:=hl.pQ hm
  rw[aL,aG hn] at hp
  exact hE _ _ (j7 hp▸hv)
 refine ff F.slot_list_index ⟨_,ho,rfl⟩ F.entry_list_index (F.args_list_index_2 _ _) (SeqAt.list_indexAt a xs n none #[] v OF j (hsz▸jF) (by have:=bP jF hf;omega) ((at_ j (hsz▸jF) jF).1.trans WG) fun m hm hmj=>(at_ m hm (hsz▸hm)).1.trans (bY _▸qD m hmj)) ⟨ho,fun y hy=> ?_,hQ⟩
 obtain⟨m,hm,rfl⟩:=Array.getElem_of_mem hy
 exact(at_ m hm (hsz▸hm)).2 _ _
theorem wD:nN L "index" kS:=by
 intro X s p u x I hp hex
 obtain⟨wF,Hc,h0⟩:=hex
 obtain⟨l,rfl,_⟩:=i7 h0
 obtain⟨a,xs,n,rfl,ha,ho,hl⟩:=hp.listE
 refine⟨"list","list.index",F.plainAttrs_list,F.slot_list_index,F.type_list_index,⟨_,ho,rfl⟩,fun b hb=> ?_,?_⟩
 ·(first|exact VS hb|cases hb);exact⟨_,ho,rfl⟩
 intro A s' ps vs r Q E R d jE hg hQ
 have lr:=(d.up _ _ ha ho).2
 have jB:=hl.up d.up
 replace hg:=lV hg
 obtain⟨q,rfl,hg⟩:=hg
 obtain⟨v,rfl,hv⟩:=gV.one jE
 cases q<;>try exact hO hg
 ·replace hg:=Option.bind_eq_some_iff.mp hg
  obtain⟨ns,xN,hg⟩:=hg
  replace hg:=Option.bind_eq_some_iff.mp hg
  obtain⟨j,hj,hg⟩:=hg
  replace hg:=kg hg
  obtain⟨hf,rfl⟩:=hg
  obtain⟨t,rfl⟩:=hv.ki
  cases oO xN
  exact wC (OF:=isInt _) lr jB (fun x u hu=>by obtain⟨t',rfl⟩:=hu.ki;exact⟨rfl,fun _ _=>SeqAt.EqAt.int_int _ _ _ _⟩) hj hf (hQ _ _ (VR.mkInt _ _) (gN.toks d.inv d.xo _))
 ·replace hg:=Option.bind_eq_some_iff.mp hg
  obtain⟨ns,xN,hg⟩:=hg
  replace hg:=Option.bind_eq_some_iff.mp hg
  obtain⟨j,hj,hg⟩:=hg
  replace hg:=kg hg
  obtain⟨hf,rfl⟩:=hg
  obtain⟨t,rfl⟩:=hv.lY
  cases Di xN
  exact wC (OF:=isStr _) lr jB (fun x u hu=>by obtain⟨t',rfl⟩:=hu.lY;exact⟨rfl,fun _ _=>SeqAt.EqAt.str_str _ _ _ _⟩) hj hf (hQ _ _ (VR.mkInt _ _) (gN.toks d.inv d.xo _))
noncomputable def Rj(ks:List Int)(vs:List PV):PV→PV→Option PV
 | .int a,q=>some ((kl ks vs a).getD q)
 |_,_=>none
noncomputable def Dj:PV→List PV→Option PV
 | .kj ks vs,ps=>Kt (Rj ks vs) ps
 |_,_=>none
theorem Dk{K:Type}[DecidableEq K]{h:Heap}{X:List Addr}{x:K}{kvs:List (K×Value)}: ∀{vs:List PV},gV L.prog L.w h X vs (kvs.map (·.2))→kl (kvs.map (·.1)) vs x=none→valueAt kvs x=none:=by
 induction kvs with
 |nil=>exact fun _ _=>rfl
 |cons p0 kvs ih=>
  intro vs hv h
  cases vs with
  |nil=>exact absurd hv.length (bB _)
  |cons q vs=>
   obtain⟨_,_,e,hq,hr⟩:=hv.inv
   skip;(first|exact VS e|cases e)
   have h:(if p0.1=x then some q else kl (kvs.map (·.1)) vs x)=none:=h
   by_cases e:p0.1=x
   ·rw[if_pos e] at h;(first|exact VS h|cases h)
   ·rw[if_neg e] at h
    have:=ih hr h
    unfold valueAt at this ⊢
    rw[List.find?_cons_of_neg (p:=fun kv:K×Value=>decide (kv.1=x)) (fun h=>e (of_decide_eq_true h))]
    exact this
theorem HH{p r:PV}{ps:List PV}(h:Dj p ps=some r): ∃ks vs,p= .kj ks vs:=by
 cases p<;>first|exact⟨_,_,rfl⟩|exact hO h
theorem OG:nN L "get" Dj:=by
 intro X s p u x I hp hex
 obtain⟨wF,Hc,h0⟩:=hex
 obtain⟨ks,vs,rfl⟩:=HH h0
 obtain⟨a,kvs,rfl,ha,hd,rfl,hl⟩:=hp.GW
 refine⟨"dict","dict.get",F.plainAttrs_dict,F.slot_dict_get,F.type_dict_get,hd.typeIs,fun b hb=> ?_,?_⟩
 ·(first|exact VS hb|cases hb)
  obtain⟨o,es,ep,ho,hx,_⟩:=hd
  exact⟨o,ho,hx.2.1⟩
 intro A s' ps us r Q E R d jE hg hQ
 replace hg:=su hg
 obtain⟨b,q,rfl,hg⟩:=hg
 obtain⟨v,v',rfl,hv,nf⟩:=gV.two jE
 obtain⟨b,rfl⟩: ∃i,b= .int i:=by cases b<;>first|exact⟨_,rfl⟩|exact hO hg
 obtain rfl:=j7 hg
 obtain⟨t,rfl⟩:=hv.ki
 have vI:=jl hd fun o e=>(d.up _ o ha e).2
 have jB:=hl.up d.up
 refine call_meetsIn F.slot_dict_get vI.typeIs F.entry_dict_get (F.args_dict_get_3 _ _ _) (meets_dict_get_default (intKind L.prog L.w) a (k:=b) (key:= .int b t) (isInt_self b t) (wa x.sm ha) v') ⟨_,vI.mapOf,hQ _ _ ?_ (gN.toks d.inv d.xo _)⟩
 have dt:=(gN.toks d.inv d.xo (s'.toks+1)).up
 cases Rk:kl (kvs.map (·.1)) vs b with
 |some y=>
  obtain⟨z,hz,hr⟩:=wc rfl jB Rk
  rw[hz]
  exact hr.up dt
 |none=>
  rw[Dk jB Rk]
  exact nf.up dt
noncomputable def KC(g:Str→PV→Option PV)(p:PV)(ps:List PV):Option PV:=onStr (fun x=>A3 (g x) ps) p
theorem zT{name:Str}{id:String}{g:Str→PV→Option PV}(pl:PlainAttrs "str")(sl:Slot "str" name id)(ty:typeOf (.builtin id)=pure (.type "method_descriptor"))
  (H: ∀{A:aF} {X:List Addr} {s:aq} {x:Str} {t:Nat} {q r:PV} {v:Value},At L A X s→VR L.prog L.w s.heap X q v→g x q=some r→Gives L A X s r (call (.builtin id) [.str x t,v])):nN L name (KC g):=by
 intro X s p u x I hp hex
 obtain⟨wF,Hc,h0⟩:=hex
 obtain⟨l,rfl,_⟩:=j9 h0
 obtain⟨t,rfl⟩:=hp.lY
 refine⟨"str",id,pl,sl,ty,fe _ _ _,(fun b hb=>nomatch hb),?_⟩
 intro A s' ps vs r Q E R d jE hg hQ
 replace hg:=lV hg
 obtain⟨q,rfl,hg⟩:=hg
 obtain⟨v,rfl,hv⟩:=gV.one jE
 exact H ⟨R,d.xo,d.inv⟩ hv hg Q E hQ
noncomputable def vL(p:PV)(ps:List PV):Option PV:=KC (fun x=>onStr fun y=>some (.int (Txt.count x y))) p ps
theorem HJ:nN L "count" vL:=zT gv F.slot_str_count F.type_str_count fun c hv hg Q E hQ=>by
 replace hg:=j9 hg
 obtain⟨y,rfl,hg⟩:=hg
 obtain⟨t',rfl⟩:=hv.lY
 exact SC.count (hQ _ _ (j7 hg▸VR.mkInt _ _) (gN.toks c.I c.x _))
noncomputable def tB(p:PV)(ps:List PV):Option PV:=KC (fun s=>lx fun l=>(qb l).bind fun ts=>if JoinOk s ts then some (.str (Txt.join s ts)) else none) p ps
theorem Ew:nN L "join" tB:=zT gv F.slot_str_join F.type_str_join fun c hv hg Q E hQ=>by
 replace hg:=i7 hg
 obtain⟨l,rfl,hg⟩:=hg
 replace hg:=Option.bind_eq_some_iff.mp hg
 obtain⟨ts,GB,hg⟩:=hg
 replace hg:=kg hg
 obtain⟨GC,rfl⟩:=hg
 obtain⟨a,xs,n,rfl,ha,ho,hl⟩:=hv.listE
 obtain⟨us,h1,h2⟩:=BE hl GB
 exact SC.join (l:=us) ⟨_,ho,rfl,n,by rw[←h1]⟩ h2 GC fun t' k=>hQ _ _ (VR.mkStr _ _) (gN.toks c.I c.x _)
noncomputable def qw(p:PV)(ps:List PV):Option PV:=KC (fun x=>onStr fun y=>if (y.length==0)=false∧x.length≤100000∧(partsBetween x (occurrences x y 0 x.length (x.length+1)) y.length).length≤100000 then some (.list ((Txt.split x y).map .str)) else none) p ps
theorem BF:nN L "split" qw:=zT gv eQ F.type_str_split fun{_ _ s' l t _ _ _} c hv hg Q E hQ=>by
 replace hg:=j9 hg
 obtain⟨b,rfl,hg⟩:=hg
 replace hg:=kg hg
 obtain⟨GC,rfl⟩:=hg
 obtain⟨t',rfl⟩:=hv.lY
 have fin: ∀(z:List (Str×gj)) tk,z.map (·.1)=Txt.split l b→Q (.ref s'.heap.objs.size) {s' with toks:=tk,heap:=s'.heap.push {cls:= .type "list",data:= .seq (strValues z).toArray}}:=fun ts tk h=>by
  refine hQ _ _ ?_ (gN.push c.I c.x _ _)
  rw[←h,bL]
  exact newList c.I c.x (Dh (ts:=ts)) _
 cases h1:(decide (l.length<b.length)||decide (aC.Str.strKind l<aC.Str.strKind b))
 ·cases hf:(occurrences l b 0 l.length (l.length+1)).isEmpty
  ·refine ff eQ (fe _ _ _) gi (fT _ _) (meets_str_split_sep l b t t' h1 GC.1 hf (mL GC.2.1) (mL GC.2.2)) ?_
   show wants Q E _ {s' with toks:=_,heap:=s'.heap.push {cls:= .type "list",data:= .seq (strsFrom s'.toks (partsBetween l (occurrences l b 0 l.length (l.length+1)) b.length)).toArray}}
   rw[strsFrom_eq]
   exact fin (numbered s'.toks _) _ ((numbered_texts _ _).trans ((if_neg (ne_true_of_eq_false h1)).trans (if_neg (ne_true_of_eq_false hf))).symm)
  ·exact ff eQ (fe _ _ _) gi (fT _ _) (meets_str_split_not_found l b t t' h1 GC.1 hf)
    (fin [(l,t)] _ ((if_neg (ne_true_of_eq_false h1)).trans (if_pos hf)).symm)
 ·exact ff eQ (fe _ _ _) gi (fT _ _) (meets_str_split_cannot_occur l b t t' h1)
   (fin [(l,t)] _ (if_pos h1).symm)
end
end
section
open PySem PyProof.Rows
section
variable {prog:Program} {w:dw} {A:aF} {E:Value→aq→Prop} {s:aq}
theorem sy{it t:Addr}{i:Nat}{items:Array Value}{x:Value}{Q:Value→aq→Prop}(hit:s.heap.IsTupleIter it t i)(ht:s.heap.IsTuple t items)(hx:items[i]? =some x)
  (hQ: ∀h',h'.IsTupleIter it t (i+1)→fJ it s.heap h'→Q x {s with heap:=h'}):wpAny (model prog w) A (aC.SmallTypes.nextOf (.ref it)) Q E s:=by
 obtain⟨o,ho,hc,hd⟩:=id hit
 obtain⟨ol,Kj,_,nl,Kk⟩:=ht
 unfold aC.SmallTypes.nextOf
 refine ao (bq (name:=Str.ofString "__next__") hit.typeIs cz
  (bw cz hit.typeIs cY ?_ (cT _)))
 show wpAny _ _ (field (.ref it) 0>>= _) _ _ s
 refine ao (aT ho hd (x:= .ref t) rfl ?_)
 show wpAny _ _ (if (Value.ref t==Value.none)=true then _ else _) _ _ s
 rw[if_neg (show ¬ ((Value.ref t==Value.none)=true) from bk)]
 show wpAny _ _ (field (.ref it) 1>>= _) _ _ s
 refine ao (aT ho hd (x:= .int i 0) rfl ?_)
 show wpAny _ _ (seqItems? (.ref t)>>= _) _ _ s
 refine ao (aW Kj Kk ?_)
 simp only[bG,hx]
 refine ao (cC ho hd (by simp) (aw ⟨x,rfl,aw (hQ _ ?_ (Heap.SameBut.update ..))⟩))
 exact⟨_,aQ _ ho (Obj.isFreed_of_fields (Obj.data_mapFields hd _)),(Obj.cls_mapFields ..).trans hc,by
  rw[Obj.data_mapFields hd];simp[rawInt]⟩
theorem Dl{α β:Type}{f:α→β→Sem (ForInStep β)}{b:β}(l:List α): ∀(P:Nat→aq→Prop) (n:Nat) (Q:β→aq→Prop) (s:aq),P 0 s→n≤l.length→
  (∀m a s Q',m<n→l[m]? =some a→P m s→(∀s',P (m+1) s'→Q' (.yield b) s')→wpAny (model prog w) A (f a b) Q' E s)→(∀a s Q',l[n]? =some a→P n s→wpAny (model prog w) A (f a b) Q' E s)→(n=l.length→ ∀s',P n s'→Q b s')→wpAny (model prog w) A (forIn l b f) Q E s:=by
 induction l with
 |nil=>
  intro P n Q s h hn _ _ hq
  obtain rfl:=Nat.le_zero.mp hn
  rw[eY];exact aw (hq rfl _ h)
 |cons a l ih=>
  intro P n Q s h hn st hs hq
  rw[dS]
  cases n with
  |zero=>exact ao (hs a s _ rfl h)
  |succ n=>exact ao (st 0 a s _ (Nat.succ_pos _) rfl h fun s' h'=>ih (fun m=>P (m+1)) n Q s' h' (Nat.le_of_succ_le_succ hn) (fun m a s Q' hm e hp Dm=>st (m+1) a s Q' (Nat.succ_lt_succ hm) e hp Dm) (fun a s Q' e hp=>hs a s Q' e hp) fun e ph=>hq (congrArg (· +1) e) ph)
end
section
variable {L:ig}
noncomputable def yW(L:ig)(X:List Addr)(h:Heap)(i:Addr)(r:Bool×Addr)(k:Nat)(ps:List PV):Prop:=
 (r.1=false∧h.IsListIter i r.2 k∧VR L.prog L.w h X (.list ps) (.ref r.2))∨(r.1=true∧h.IsTupleIter i r.2 k∧VR L.prog L.w h X (.tup ps) (.ref r.2))
theorem yW.there{X:List Addr}{h:Heap}{i:Addr}{r:Bool×Addr}{k:Nat}{ps:List PV}(x:yW L X h i r k ps): ∃o,h.get? i=some o:=
 x.elim (fun x=>x.2.1.elim fun o y=>⟨o,y.1⟩) fun x=>x.2.1.elim fun o y=>⟨o,y.1⟩
theorem yW.up{X:List Addr}{h h':Heap}{i:Addr}{r:Bool×Addr}{k:Nat}{ps:List PV}(x:yW L X h i r k ps)(hi: ∀o,h.get? i=some o→h'.get? i=some o)(hk:Up h X h' X):yW L X h' i r k ps:=
 x.imp (fun x=>⟨x.1,x.2.1.at hi,x.2.2.up hk⟩) fun x=>⟨x.1,x.2.1.at hi,x.2.2.up hk⟩
theorem kx{X:List Addr}{h h':Heap}{i:Addr}(hi:i∈X)(hk:cX i h h'):Up h X h' X:=fun a o ha e=>⟨ha,hk a o (fun x=>ha (x▸hi)) e⟩
theorem yW.item{A:aF}{E:Value→aq→Prop}{X:List Addr}{s:aq}{i:Addr}{r:Bool×Addr}{k:Nat}{ps:List PV}{p:PV}{Q:Value→aq→Prop}(x:yW L X s.heap i r k ps)(hi:i∈X)(hp:ps[k]? =some p)
  (hQ: ∀v h',VR L.prog L.w h' X p v→yW L X h' i r (k+1) ps→fJ i s.heap h'→Q v {s with heap:=h'}):wpAny L.M A (aC.SmallTypes.nextOf (.ref i)) Q E s:=by
 rcases x with⟨er,h1,h2⟩|⟨er,h1,h2⟩
 ·obtain⟨a,xs,n,e,ha,ho,hl⟩:=h2.listE
  have ho:=Value.ref.inj e▸ho
  exact hl.zy hp fun v hv hr=>wpAny_nextOf_list_item h1 ⟨_,ho,rfl,_,rfl⟩ hv fun h' md km=>have u:=kx hi km.extBut;hQ v h' (hr.up u) (.inl ⟨er,md,h2.up u⟩) km
 ·obtain⟨a,xs,n,e,ha,ho,hl⟩:=h2.mK
  have ho:=Value.ref.inj e▸ho
  exact hl.zy hp fun v hv hr=>sy h1 ⟨_,ho,rfl,_,rfl⟩ hv fun h' md km=>have u:=kx hi km.extBut;hQ v h' (hr.up u) (.inr ⟨er,md,h2.up u⟩) km
theorem yW.ends{A:aF}{E:Value→aq→Prop}{X:List Addr}{s:aq}{i:Addr}{r:Bool×Addr}{k:Nat}{ps:List PV}{Q:Value→aq→Prop}(x:yW L X s.heap i r k ps)(hh:Hd L A)(Iv:HI L s)(hi:L.exc≠none→L.look i=none)(hp:ps[k]? =none)
  (hE: ∀h' e,cX i s.heap h'→(∃o,h'.get? e=some o∧o.cls= .type "StopIteration")→E (.ref e) {s with heap:=h'}):wpAny L.M A (aC.SmallTypes.nextOf (.ref i)) Q E s:=by
 rcases x with⟨er,h1,h2⟩|⟨er,h1,h2⟩
 ·obtain⟨a,xs,n,e,ha,ho,hl⟩:=h2.listE
  have ho:=Value.ref.inj e▸ho
  exact uz bS ck (cD _) h1.typeIs (nX hh Iv h1 hi ⟨_,ho,rfl,_,rfl⟩ (aO (hl.size▸List.getElem?_eq_none_iff.mp hp))) hE
 ·obtain⟨a,xs,n,e,ha,ho,hl⟩:=h2.mK
  have ho:=Value.ref.inj e▸ho
  exact uz cz cY (cT _) h1.typeIs (rA hh Iv h1 hi ⟨_,ho,rfl,_,rfl⟩ (aO (hl.size▸List.getElem?_eq_none_iff.mp hp))) hE
end
end
section
open PySem PyProof.Rows
section
variable {L:ig}
structure WH(L:ig)(X:List Addr)(sq:Heap)(z TI TO:Addr)(its:List Addr)(rs:Nat→Bool×Addr)(qT:List (List PV))(row:List PV)(k:Nat)(j:Nat)(h:Heap):Prop where
 hz:fD h z TI TO .ellipsis
 zU: ∃xs:Array Value,h.get? TO=some {cls:= .type "tuple",data:= .seq xs}∧xs.size=its.length∧ ∀(m:Nat) p,m<j→row[m]? =some p→ ∃v,xs[m]? =some v∧VR L.prog L.w h X p v
 KD: ∀(m:Nat) i ps,its[m]? =some i→qT[m]? =some ps→yW L X h i (rs m) (if m<j then k+1 else k) ps
 kI: ∀b o,b∉z::TO::its→sq.get? b=some o→h.get? b=some o
 uC:h.objs.size=sq.objs.size
theorem KG{A:aF}{E:Value→aq→Prop}{s:aq}{T:Addr}{xs:Array Value}{x:Value}{k:Nat}{Q:Unit→aq→Prop}(hT:s.heap.get? T=some {cls:= .type "tuple",data:= .seq xs})(hsz:xs.size≤100)
  (h: ∀h',h'.get? T=some {cls:= .type "tuple",data:= .seq (xs.setIfInBounds k x)}→fJ T s.heap h'→Q () {s with heap:=h'}):
  wpAny L.M A (updateSeq T (·.setIfInBounds k x)) Q E s:=by
 refine cF hT rfl (h _ ?_ (Heap.SameBut.update ..)) (Nat.le_trans hsz (by decide)) (by rw[Array.size_setIfInBounds];exact Nat.le_trans hsz (by decide))
 rw[aQ _ hT rfl]
 simp[Obj.mapSeq]
theorem sz{A:aF}{E:Value→aq→Prop}{X:List Addr}{s:aq}{z TI TO:Addr}{its:List Addr}{rs:Nat→Bool×Addr}{qT:List (List PV)}{row:List PV}{n k:Nat}{kJ:Array Value}{Q:Value→aq→Prop}
  (hh:Hd L A)(Iv:HI L s)(Rk:L.exc≠none→ ∀a∈z::TO::its,L.look a=none)(hz:fD s.heap z TI TO .none)(Dn:s.heap.get? TI=some {cls:= .type "tuple",data:= .seq (its.map Value.ref).toArray})(A4:s.heap.get? TO=some {cls:= .type "tuple",data:= .seq kJ})(hx:kJ.size=its.length)
  (hn:(z::TO::its).Nodup)(js:its≠[])(ib:its.length≤100)(hX: ∀a∈z::TO::its,a∈X)(hp:qT.length=its.length)(Vl:row.length=its.length)(GD:n≤its.length)(src: ∀(m:Nat) i ps,its[m]? =some i→qT[m]? =some ps→yW L X s.heap i (rs m) k ps)
  (HK: ∀(m:Nat) ps,m<n→qT[m]? =some ps→ ∃q,ps[k]? =some q∧row[m]? =some q)(HL: ∀ps,qT[n]? =some ps→ps[k]? =none)
  (hQ:n=its.length→ ∀h' xs,fD h' z TI TO (rawInt s.heap.objs.size)→h'.get? s.heap.objs.size=some {cls:= .type "tuple",data:= .seq xs}→gV L.prog L.w h' X row xs.toList→(∃qC:Array Value,h'.get? TO=some {cls:= .type "tuple",data:= .seq qC}∧qC.size=its.length)→
   (∀(m:Nat) i ps,its[m]? =some i→qT[m]? =some ps→yW L X h' i (rs m) (k+1) ps)→(∀b o,b∉z::TO::its→s.heap.get? b=some o→h'.get? b=some o)→Q (.ref s.heap.objs.size) {s with heap:=h'})
  (hE:n<its.length→ ∀h' e,(∀b o,b∉z::TO::its→s.heap.get? b=some o→h'.get? b=some o)→(∃o,h'.get? e=some o∧o.cls= .type "StopIteration")→E (.ref e) {s with heap:=h'}):
  wpAny L.M A (aC.«zip.__next__» ⟨[.ref z],[]⟩) (fun fin s'=> ∃v,fin= .done (.ret v)∧Q v s') E s:=by
 have mz:z∈z::TO::its:=aA ..
 have mT:TO∈z::TO::its:=av _ (aA ..)
 have mi: ∀{m:Nat} {i:Addr},its[m]? =some i→i∈z::TO::its:=fun h=>av _ (av _ (bt h))
 have WI:=List.nodup_cons.mp hn
 have Vm:=List.nodup_cons.mp WI.2
 have iz: ∀(m:Nat) i,its[m]? =some i→i≠z:=fun m i hi e=>WI.1 (e▸av _ (bt hi))
 have iT: ∀(m:Nat) i,its[m]? =some i→i≠TO:=fun m i hi e=>Vm.1 (e▸bt hi)
 have OH:TO≠z:=fun e=>WI.1 (e▸aA ..)
 show wpAny _ _ (field (.ref z) 2>>= _) _ _ _
 refine ao (aT hz rfl (x:= .bool false) rfl ?_)
 show wpAny _ _ (field (.ref z) 3>>= _) _ _ _
 refine ao (aT hz rfl (x:= .ref TI) rfl ?_)
 refine ao (aW Dn rfl ?_)
 dsimp only
 rw[if_neg (by cases its with|nil=>exact absurd rfl js|cons a r=>exact bk)]
 refine ao ?_
 unfold aC.SmallTypes.ownedTupleIsFree
 refine ao (aT hz rfl (x:= .none) rfl (aw ?_))
 simp only[if_true]
 refine ao (cR ?_)
 refine ao (aT hz rfl (x:= .ref TO) rfl ?_)
 refine ao (el hz (by simp) fun h₁ HM jk=> ?_)
 replace HM:fD h₁ z TI TO .ellipsis:=HM
 refine ao ?_
 refine Dl (List.map Value.ref its).zipIdx (fun j s'=> ∃h,s'={s with heap:=h}∧WH L X s.heap z TI TO its rs qT row k j h) n _ _ ⟨h₁,rfl,?_⟩ (by rw[List.length_zipIdx,aD];exact GD) (fun m a s' Q' hmn ha hP Dm=> ?_) (fun a s' Q' ha hP=> ?_) (fun GD s' hP=> ?_)
 ·exact⟨HM,⟨kJ,jk.extBut _ _ OH A4,hx,fun m p h=>absurd h (dW _)⟩,fun m i ps hi hps=>(if_neg (dW m)).symm▸(src m i ps hi hps).up (fun o e=>jk.extBut _ o (iz m i hi) e) (kx (hX z mz) jk.extBut),fun b o hb e=>jk.extBut b o (fun x=>hb (x▸mz)) e,jk.1⟩
 ·obtain⟨h,rfl,am⟩:=hP
  rw[List.getElem?_zipIdx,aL,Option.map_map] at ha
  obtain⟨i,hi,rfl⟩:=Option.map_eq_some_iff.mp ha
  have hml:m<qT.length:=by rw[hp];exact(List.getElem?_eq_some_iff.mp hi).1
  have hps:qT[m]? =some qT[m]:=aG hml
  obtain⟨q,hq,hrq⟩:=HK m _ hmn hps
  have Rl:=am.KD m i _ hi hps
  rw[if_neg (bE _)] at Rl
  have hiX:i∈X:=hX i (mi hi)
  refine ao (fV ?_)
  show wpAny _ _ (aC.SmallTypes.nextOf (.ref i)>>= _) _ _ _
  refine ao (Rl.item hiX hq fun v h₂ hv KH sA=>aw ?_)
  obtain⟨xs,Vn,KI,WJ⟩:=am.zU
  have HN:h₂.get? TO=some {cls:= .type "tuple",data:= .seq xs}:=sA.extBut _ _ (iT m i hi).symm Vn
  show wpAny _ _ (seqItems? (.ref TO)>>= _) _ _ _
  refine ao (aW HN rfl ?_)
  show wpAny _ _ (updateSeq TO (·.setIfInBounds (0+m) v)>>= _) _ _ _
  rw[de]
  refine ao (KG HN (by rw[KI];exact ib) fun h₃ OI sC=> ?_)
  refine ao (cI (aw (Dm _ ⟨h₃,rfl,?_⟩)))
  have KJ:Up h₂ X h₃ X:=kx (hX TO mT) sC.extBut
  have KL:Up h X h₂ X:=kx hiX sA.extBut
  refine⟨sC.extBut _ _ OH.symm (sA.extBut _ _ (iz m i hi).symm am.hz),⟨_,OI,by rw[Array.size_setIfInBounds];exact KI,fun m' p CQ hr=> ?_⟩,fun m' i' JX HO Rn=> ?_,fun b o hb e=>sC.extBut _ _ (fun x=>hb (x▸mT)) (sA.extBut _ _ (fun x=>hb (x▸mi hi)) (am.kI b o hb e)),sC.1.trans (sA.1.trans am.uC)⟩
  ·by_cases e:m'=m
   ·subst e
    obtain rfl:=Option.some.inj (hrq.symm.trans hr)
    exact⟨v,by rw[cU (by rw[KI,←hp];exact hml)],hv.up KJ⟩
   ·obtain⟨v',nf,v8⟩:=WJ m' p (fC (dD CQ) e) hr
    exact⟨v',(fK (Ne.symm e)).trans nf,(v8.up KL).up KJ⟩
  ·by_cases e:m'=m
   ·subst e
    obtain rfl:=Option.some.inj (hi.symm.trans HO)
    obtain rfl:=Option.some.inj (hps.symm.trans Rn)
    rw[if_pos (dM _)]
    exact KH.up (fun o e=>sC.extBut _ o (iT m' i hi) e) KJ
   ·have:=am.KD m' i' JX HO Rn
    have he:(m'<m+1)=(m'<m):=propext ⟨fun h=>fC (dD h) e,fun h=>ef h⟩
    simp only[he]
    exact(this.up (fun o x=>sA.extBut _ o (fun x=>e ((List.getElem?_inj (List.getElem?_eq_some_iff.mp HO).1 Vm.2).mp (HO.trans (x▸hi.symm)))) x) KL).up (fun o e=>sC.extBut _ o (iT m' i' HO) e) KJ
 ·obtain⟨h,rfl,am⟩:=hP
  rw[List.getElem?_zipIdx,aL,Option.map_map] at ha
  obtain⟨i,hi,rfl⟩:=Option.map_eq_some_iff.mp ha
  have GD:n<its.length:=(List.getElem?_eq_some_iff.mp hi).1
  have hps:qT[n]? =some (qT[n]'(hp▸GD)):=aG _
  have Rl:=am.KD n _ _ hi hps
  rw[if_neg (bE _)] at Rl
  refine ao (fV ?_)
  show wpAny _ _ (aC.SmallTypes.nextOf (.ref i)>>= _) _ _ _
  refine ao (Rl.ends hh (fun x=>⟨fun a o e=>am.kI a o (fun hm=>hO ((Rk x a hm).symm.trans e)) ((Iv x).iA a o e),(Iv x).bare⟩) (fun x=>Rk x _ (mi hi)) (HL _ hps) fun h₂ e sA he=> ?_)
  obtain⟨oe,WK,MH⟩:=he
  have MY:fD h₂ z TI TO .ellipsis:=sA _ _ (iz n _ hi).symm am.hz
  have hez:e≠z:=fun x=>by subst x;rw[MY] at WK;(first|exact VS WK|cases WK);exact absurd (Value.type.inj MH) (by decide)
  exact el MY (by simp) fun h₃ _ sC=>hE GD h₃ e (fun b o hb x=>sC.extBut _ _ (fun x=>hb (x▸mz)) (sA _ _ (fun x=>hb (x▸mi hi)) (am.kI b o hb x))) ⟨oe,sC.extBut _ _ hez WK,MH⟩
 ·obtain⟨h,rfl,am⟩:=hP
  rw[List.length_zipIdx,aD] at GD
  obtain⟨xs,Vn,KI,WJ⟩:=am.zU
  show wpAny _ _ (seqItems? (.ref TO)>>= _) _ _ _
  refine ao (aW Vn rfl ?_)
  refine ao (wpAny_newTuple ?_ (by rw[aS,KI];exact Nat.le_trans ib (by decide)))
  show wpAny _ _ (aC.SmallTypes.ownedTupleHandOut (.ref z) (.ref h.objs.size)>>= _) _ _ _
  refine ao ?_
  unfold aC.SmallTypes.ownedTupleHandOut
  have Ro:fD (h.push {cls:= .type "tuple",data:= .seq xs.toList.toArray}) z TI TO .ellipsis:=ay _ am.hz
  refine ao (el Ro (by simp) fun WL HP MZ=> ?_)
  replace HP:fD WL z TI TO (rawInt h.objs.size):=HP
  refine el HP (by simp) fun HQ Ex M0=> ?_
  replace Ex:fD HQ z TI TO (rawInt h.objs.size):=Ex
  have up: ∀c o,c≠z→h.get? c=some o→HQ.get? c=some o:=fun c o c1 e=>M0.extBut _ _ c1 (MZ.extBut _ _ c1 (ay _ e))
  have Rp:h.objs.size≠z:=d4 (aH am.hz)
  have M1:HQ.get? h.objs.size=some {cls:= .type "tuple",data:= .seq xs.toList.toArray}:=M0.extBut _ _ Rp (MZ.extBut _ _ Rp (aB _ rfl))
  have u:Up h X HQ X:=fun a o ha e=>⟨ha,up a o (fun x=>ha (x▸hX z mz)) e⟩
  rw[am.uC] at Ex M1
  refine aw ⟨_,rfl,?_⟩
  show Q (.ref h.objs.size) _
  rw[am.uC]
  refine hQ GD HQ _ Ex M1 (gV.MU (by rw[bM,aS,KI,Vl]) fun j p v hp hv=> ?_) ⟨xs,up _ _ OH Vn,KI⟩ (fun m i ps hi hps=> ?_) fun b o hb e=>up b o (fun x=>hb (x▸mz)) (am.kI b o hb e)
  ·obtain⟨v',nf,v8⟩:=WJ j p (by rw[GD,←Vl];exact(List.getElem?_eq_some_iff.mp hp).1) hp
   rw[bM,bz,nf] at hv
   exact Option.some.inj hv▸v8.up u
  ·have:=am.KD m i ps hi hps
   rw[if_pos (GD▸(List.getElem?_eq_some_iff.mp hi).1)] at this
   exact this.up (fun o e=>up _ o (iz m i hi) e) u
end
end
section
open PySem PyProof.Rows
section
variable {L:ig}
structure Rows(qT:List (List PV))(ps:List PV):Prop where
 row: ∀(k:Nat) p,ps[k]? =some p→ ∃row,p= .tup row∧row.length=qT.length∧ ∀(m:Nat) l,qT[m]? =some l→ ∃q,l[k]? =some q∧row[m]? =some q
 stop: ∃n,(∀(m:Nat) l,m<n→qT[m]? =some l→ ∃q,l[ps.length]? =some q)∧ ∃l,qT[n]? =some l∧l[ps.length]? =none
theorem It.zip{X:List Addr}{z TI TO:Addr}{its:List Addr}{rs:Nat→Bool×Addr}{qT:List (List PV)}{ps:List PV}(hn:(z::TO::its).Nodup)(js:its≠[])(ib:its.length≤100)(hX: ∀a∈z::TO::its,a∈X)(Rq:TI∉X)(kH:L.tb∉z::TO::its)(hp:qT.length=its.length)(hr:Rows qT ps):
  It L X (z::TO::its) z ps (fun k h=>fD h z TI TO .none∧h.get? TI=some {cls:= .type "tuple",data:= .seq (its.map Value.ref).toArray}∧(∃kJ:Array Value,h.get? TO=some {cls:= .type "tuple",data:= .seq kJ}∧kJ.size=its.length)∧
   ∀(m:Nat) i l,its[m]? =some i→qT[m]? =some l→yW L X h i (rs m) k l) true where
 N8:=hX
 there:=fun k h st=>st.2.2.1.elim fun xs h3=>kA ⟨_,st.1⟩ (kA ⟨_,h3.1⟩ fun a ha=>(dO ha).elim fun m e=>(st.2.2.2 m a _ e (aG (hp▸(List.getElem?_eq_some_iff.mp e).1))).there)
 frame:=fun k h h' st hk=>⟨hk z _ (fun _=>uW) st.1,hk TI _ (fun h=>absurd h Rq) st.2.1,st.2.2.1.elim fun xs h3=>⟨xs,hk TO _ (fun _=>in1) h3.1,h3.2⟩,fun m i l hi hl=>(st.2.2.2 m i l hi hl).up (fun o e=>hk i o (fun _=>av _ (av _ (bt hi))) e) fun a o ha e=>⟨ha,hk a o (fun h=>absurd h ha) e⟩⟩
 self:=fun A k s Q E st hQ=>dT st.1 hQ
 turn:=fun A k s p Q E Hf R x Iv st hpk Q9 hQ=>by
  obtain⟨h1,h2,⟨xs,h3,WM⟩,h4⟩:=st
  obtain⟨row,rfl,Vl,HK⟩:=hr.row k p hpk
  obtain⟨es,kk,pp,rfl⟩:=rB (Q9 rfl)
  have HR:s.TypeIs (.ref z) "zip":=⟨_,h1,rfl⟩
  unfold pyNext
  refine ao (dv (bq (name:=Str.ofString "__next__") HR cE
   (bw cE HR eR (sz (n:=its.length) R.handled (fun _=>Iv) (fun _ a ha=>x.look a (hX a ha)) h1 h2 h3 WM hn js ib hX hp (Vl.trans hp) (bu _) h4 (fun m l _ hl=>HK m l hl) (fun l hl=>hO ((cQ (ba hp)).symm.trans hl)) (fun _ h' qC k1 k2 k3 k4 k5 k6=> ?_) fun h=>absurd h (bE _)) (eB _))))
  refine aw ⟨_,rfl,wpAny_letOwnedTupleGo_zip k1 fun nI l1 ls=> ?_⟩
  have hk: ∀b o,b∉z::TO::its→s.heap.get? b=some o→nI.get? b=some o:=fun b o hb e=>ls.extBut b o (fun x=>hb (x▸uW)) (k6 b o hb e)
  have hu2:Up h' X nI X:=kx (hX z uW) ls.extBut
  have Rr:TO≠z:=fun e=>(List.nodup_cons.mp hn).1 (e▸uW)
  obtain⟨ys,k4a,k4b⟩:=k4
  have Rt: ∀(m:Nat) i l,its[m]? =some i→qT[m]? =some l→yW L X nI i (rs m) (k+1) l:=fun m i l hi hl=>(k5 m i l hi hl).up (fun o e=>ls.extBut _ o (fun e=>(List.nodup_cons.mp hn).1 (e▸av _ (bt hi))) e) hu2
  exact hQ _ _ (.intro _ ⟨_,_,rfl,x.size,ls.extBut _ _ (d4 (aH h1)) k2,k3.up hu2⟩) ⟨l1,hk _ _ (fun h=>Rq (hX _ h)) h2,⟨ys,ls.extBut _ _ Rr k4a,k4b⟩,Rt⟩ (gS.rC Iv x hX hk _)
   (x.rC hX hk kH (kA ⟨_,l1⟩ (kA ⟨_,ls.extBut _ _ Rr k4a⟩ fun a ha=>(dO ha).elim fun m e=>(Rt m a _ e (aG (hp▸(List.getElem?_eq_some_iff.mp e).1))).there)))
 done:=fun A s Q E R x Iv st hQ=>by
  obtain⟨h1,h2,⟨xs,h3,WM⟩,h4⟩:=st
  obtain⟨n,HK,l,hl,HL⟩:=hr.stop
  have GD:n<its.length:=hp▸(List.getElem?_eq_some_iff.mp hl).1
  have HR:s.TypeIs (.ref z) "zip":=⟨_,h1,rfl⟩
  unfold pyNext
  refine ao (dv (bq (name:=Str.ofString "__next__") HR cE
   (bw cE HR eR (sz (n:=n) (row:=qT.map fun l=>l.getD ps.length .none) R.handled (fun _=>Iv) (fun _ a ha=>x.look a (hX a ha)) h1 h2 h3 WM hn js ib hX hp ((aD _).trans hp) (d6 GD) h4
    (fun m l hm hl=>(HK m l hm hl).elim fun q hq=>⟨q,hq,by rw[aL,hl,eD,aY,hq];rfl⟩) (fun l' jB=>Option.some.inj (hl.symm.trans jB)▸HL) (fun e=>absurd e (dC GD)) fun _ h' e hk he=> ?_) (eB _))))
  obtain⟨o,ho,hc⟩:=he
  exact ao (dj (T:="StopIteration") (b:=true) ⟨o,ho,hc⟩ fA (aw (hQ _ (gS.rC Iv x hX hk _) hk)))
end
end
section
open PySem PyProof.Rows
theorem wG(a b c:Value):checkTypeCall "zip" ⟨[a,b,c],[]⟩=pure ():= (by kernel_rfl)
theorem xX(a b c:Value):checkBuiltinCall "zip.__new__" ⟨[.type "zip",a,b,c],[]⟩=pure ():= (by kernel_rfl)
theorem rF(a b c d:Value):argsOk "object.__init__" ⟨[a,b,c,d],[]⟩:=by
 unfold argsOk;rw[signature?_of (id:="object.__init__") (n:=['_','_','t','i','n','i','_','_']) (o:=['t','c','e','j','b','o']) (by kernel_rfl) F.owner_object];kernel_rfl
noncomputable def seqObj(t:Bool)(xs:Array Value)(n:Nat):Obj:={cls:= .type (if t then "tuple" else "list"),data:= .seq xs n}
noncomputable def nZ(t:Bool)(a:Addr):Obj:={cls:= .type (if t then "tuple_iterator" else "list_iterator"),data:= .fields #[.ref a,.int 0 0]}
theorem mP{prog:Program}{w:dw}{A:aF}{E:Value→aq→Prop}{s:aq}{t:Bool}{a:Addr}{xs:Array Value}{n:Nat}{Q:Value→aq→Prop}(h:s.heap.get? a=some (seqObj t xs n))
  (hQ:Q (.ref s.heap.objs.size) {s with heap:=s.heap.push (nZ t a)}):wpAny (model prog w) A (pyIter (.ref a)) Q E s:=by
 skip;(first|exact VS t|cases t)
 ·exact cG ⟨_,h,rfl,_,rfl⟩ hQ
 ·exact wpAny_pyIter_tuple ⟨_,h,rfl,_,rfl⟩ hQ
noncomputable abbrev n0(h:Heap)(t:Bool)(a:Addr):Heap:=h.push (nZ t a)
noncomputable abbrev WN(h:Heap)(t1 t2:Bool)(a b:Addr):Heap:=
 (((n0 (n0 h t1 a) t2 b).push {cls:= .type "tuple",data:= .seq #[.ref h.objs.size,.ref (n0 h t1 a).objs.size]}).push {cls:= .type "tuple",data:= .seq #[.none,.none]})
noncomputable abbrev WO(h:Heap)(t1 t2 t3:Bool)(a b c:Addr):Heap:=
 (((n0 (n0 (n0 h t1 a) t2 b) t3 c).push {cls:= .type "tuple",data:= .seq #[.ref h.objs.size,.ref (n0 h t1 a).objs.size,.ref (n0 (n0 h t1 a) t2 b).objs.size]}).push {cls:= .type "tuple",data:= .seq #[.none,.none,.none]})
theorem HS(t1 t2:Bool)(a b:Addr)(xs ys:Array Value)(n m:Nat):
  Meets (aC.«zip.__new__» ⟨[.type "zip",.ref a,.ref b],[]⟩) (fun _ R s=>s.heap.get? a=some (seqObj t1 xs n)∧s.heap.get? b=some (seqObj t2 ys m)∧
   R (.ok (.ret (.ref (WN s.heap t1 t2 a b).objs.size))) {s with heap:=(WN s.heap t1 t2 a b).push {cls:= .type "zip",data:= .fields #[.none,.bool false,.bool false,.ref (n0 (n0 s.heap t1 a) t2 b).objs.size,.ref ((n0 (n0 s.heap t1 a) t2 b).push {cls:= .type "tuple",data:= .seq #[.ref s.heap.objs.size,.ref (n0 s.heap t1 a).objs.size]}).objs.size]}}):=
 .of_wp fun prog w A R s h=>by
  obtain⟨hp,g,d,tk,os⟩:=s;obtain⟨JY,KN,h⟩:=h
  have KO:=sub_zip
  have WQ:Heap.get? (aq.heap ⟨hp,g,d,tk,os⟩) a=some (seqObj t1 xs n):=JY
  have WR:Heap.get? (aq.heap ⟨hp.push (nZ t1 a),g,d,tk,os⟩) b=some (seqObj t2 ys m):=ay _ KN
  wp_walk using mP WQ,mP WR
  exact⟨_,rfl,h⟩
set_option maxHeartbeats 4000000 in
theorem HT(t1 t2 t3:Bool)(a b c:Addr)(xs ys zs:Array Value)(n m l:Nat):
  Meets (aC.«zip.__new__» ⟨[.type "zip",.ref a,.ref b,.ref c],[]⟩) (fun _ R s=>s.heap.get? a=some (seqObj t1 xs n)∧s.heap.get? b=some (seqObj t2 ys m)∧s.heap.get? c=some (seqObj t3 zs l)∧
   R (.ok (.ret (.ref (WO s.heap t1 t2 t3 a b c).objs.size))) {s with heap:=(WO s.heap t1 t2 t3 a b c).push {cls:= .type "zip",data:= .fields #[.none,.bool false,.bool false,.ref (n0 (n0 (n0 s.heap t1 a) t2 b) t3 c).objs.size,.ref ((n0 (n0 (n0 s.heap t1 a) t2 b) t3 c).push {cls:= .type "tuple",data:= .seq #[.ref s.heap.objs.size,.ref (n0 s.heap t1 a).objs.size,.ref (n0 (n0 s.heap t1 a) t2 b).objs.size]}).objs.size]}}):=
 .of_wp fun prog w A R s h=>by
  obtain⟨hp,g,d,tk,os⟩:=s;obtain⟨JY,KN,hl3,h⟩:=h
  have KO:=sub_zip
  have WQ:Heap.get? (aq.heap ⟨hp,g,d,tk,os⟩) a=some (seqObj t1 xs n):=JY
  have WR:Heap.get? (aq.heap ⟨hp.push (nZ t1 a),g,d,tk,os⟩) b=some (seqObj t2 ys m):=ay _ KN
  have hL3:Heap.get? (aq.heap ⟨(hp.push (nZ t1 a)).push (nZ t2 b),g,d,tk,os⟩) c=some (seqObj t3 zs l):=ay _ (ay _ hl3)
  wp_walk using mP WQ,mP WR,mP hL3
  exact⟨_,rfl,h⟩
end
section
open PySem PyProof.Rows
structure sD(h:Heap)(ts:List (Bool×Addr))(h':Heap)(z:Addr)(TI TO:Addr)(its:List Addr):Prop where
 hz:fD h' z TI TO .none
 Dn:h'.get? TI=some {cls:= .type "tuple",data:= .seq (its.map Value.ref).toArray}
 A4: ∃kJ:Array Value,h'.get? TO=some {cls:= .type "tuple",data:= .seq kJ}∧kJ.size=its.length
 nd:(z::TO::its).Nodup
 apart:TI∉z::TO::its
 len:its.length=ts.length
 KP: ∀(m:Nat) i t,its[m]? =some i→ts[m]? =some t→h'.get? i=some (nZ t.1 t.2)
 new: ∀a,a=TI∨a∈z::TO::its→h.objs.size≤a
 keep: ∀b o,h.get? b=some o→h'.get? b=some o
theorem ndm(n:Nat){l:List Nat}(h:l.Nodup):(l.map (n+ ·)).Nodup:=List.Pairwise.map _ (fun _ _ GQ e=>GQ (Nat.add_left_cancel e)) h
theorem nmm{n k:Nat}{l:List Nat}(h:k∉l):n+k∉l.map (n+ ·):=fun x=>(List.mem_map.mp x).elim fun _ y=>h (Nat.add_left_cancel y.2▸y.1)
theorem gem{n k a:Nat}{l:List Nat}(h:a=n+k∨a∈l.map (n+ ·)):n≤a:=h.elim (fun e=>e▸df ..) fun x=>(List.mem_map.mp x).elim fun _ y=>y.2▸df ..
theorem Vm(n:Nat):([n+4,n+3,n,n+1]:List Nat).Nodup:=ndm n (l:=[4,3,0,1]) (by decide)
theorem nm2(n:Nat):n+2∉([n+4,n+3,n,n+1]:List Nat):=nmm (l:=[4,3,0,1]) (by decide)
theorem ge2(n a:Nat)(h:a=n+2∨a∈([n+4,n+3,n,n+1]:List Nat)):n≤a:=gem (l:=[4,3,0,1]) h
theorem nd3(n:Nat):([n+5,n+4,n,n+1,n+2]:List Nat).Nodup:=ndm n (l:=[5,4,0,1,2]) (by decide)
theorem nm3(n:Nat):n+3∉([n+5,n+4,n,n+1,n+2]:List Nat):=nmm (l:=[5,4,0,1,2]) (by decide)
theorem ge3(n a:Nat)(h:a=n+3∨a∈([n+5,n+4,n,n+1,n+2]:List Nat)):n≤a:=gem (l:=[5,4,0,1,2]) h
theorem yX{prog:Program}{w:dw}{A:aF}{E:Value→aq→Prop}{s:aq}{t1 t2:Bool}{a b:Addr}{xs ys:Array Value}{n m:Nat}{Q:Value→aq→Prop}(h1:s.heap.get? a=some (seqObj t1 xs n))(h2:s.heap.get? b=some (seqObj t2 ys m))
  (hQ: ∀h' z TI TO its,sD s.heap [(t1,a),(t2,b)] h' z TI TO its→Q (.ref z) {s with heap:=h'}):wpAny (model prog w) A (call (.type "zip") [.ref a,.ref b]) Q E s:=by
 refine callType_new F.called_zip (by decide) (F.typeCall_zip_2 _ _) (F.newCall_zip_2 _ _) (fun obj=>F.args_object_init_3 obj _ _) F.entry_zip_new
  (HS t1 t2 a b xs ys n m) ⟨h1,h2,?_⟩
 have z1:(n0 s.heap t1 a).objs.size=s.heap.objs.size+1:=aZ ..
 have z2:(n0 (n0 s.heap t1 a) t2 b).objs.size=s.heap.objs.size+2:=by rw[aZ,z1]
 generalize e3:(n0 (n0 s.heap t1 a) t2 b).push {cls:= .type "tuple",data:= .seq #[.ref s.heap.objs.size,.ref (n0 s.heap t1 a).objs.size]}=H3
 have z3:H3.objs.size=s.heap.objs.size+3:=by rw[←e3,aZ,z2]
 have WS:WN s.heap t1 t2 a b=H3.push {cls:= .type "tuple",data:= .seq #[.none,.none]}:=by rw[←e3]
 rw[WS]
 have z4:(H3.push {cls:= .type "tuple",data:= .seq #[.none,.none]}).objs.size=s.heap.objs.size+4:=by rw[aZ,z3]
 rw[z4,z3,z2]
 have k3: ∀c o,s.heap.get? c=some o→H3.get? c=some o:=fun c o x=>by rw[←e3];exact ay _ (ay _ (ay _ x))
 have g1:H3.get? s.heap.objs.size=some (nZ t1 a):=by rw[←e3];exact ay _ (ay _ (aB _ rfl))
 have g2:H3.get? (s.heap.objs.size+1)=some (nZ t2 b):=by rw[←e3,←z1];exact ay _ (aB _ rfl)
 have g3:H3.get? (s.heap.objs.size+2)=some {cls:= .type "tuple",data:= .seq #[.ref s.heap.objs.size,.ref (s.heap.objs.size+1)]}:=by rw[←e3,←z2,←z1];exact aB _ rfl
 have up: ∀(o1 o2:Obj) c o,H3.get? c=some o→((H3.push o1).push o2).get? c=some o:=fun o1 o2 c o x=>ay _ (ay _ x)
 have Ru:((H3.push {cls:= .type "tuple",data:= .seq #[.none,.none]}).push {cls:= .type "zip",data:= .fields #[.none,.bool false,.bool false,.ref (s.heap.objs.size+2),.ref (s.heap.objs.size+3)]}).get? (s.heap.objs.size+4)=some {cls:= .type "zip",data:= .fields #[.none,.bool false,.bool false,.ref (s.heap.objs.size+2),.ref (s.heap.objs.size+3)]}:=by rw[←z4];exact aB _ rfl
 refine⟨⟨_,Ru,rfl⟩,hQ _ (s.heap.objs.size+4) (s.heap.objs.size+2) (s.heap.objs.size+3) [s.heap.objs.size,s.heap.objs.size+1] ⟨Ru,up _ _ _ _ g3,⟨#[.none,.none],by rw[←z3];exact ay _ (aB _ rfl),rfl⟩,?_,?_,rfl,fun j i t hi ht=> ?_,fun a ha=> ?_,fun c o x=>up _ _ c o (k3 c o x)⟩⟩
 ·exact Vm _
 ·exact nm2 _
 ·match j,hi,ht with
  |0,hi,ht=>(first|exact VS hi|cases hi);(first|exact VS ht|cases ht);exact up _ _ _ _ g1
  |1,hi,ht=>(first|exact VS hi|cases hi);(first|exact VS ht|cases ht);exact up _ _ _ _ g2
  |j+2,hi,_=>simp at hi
 ·exact ge2 _ _ ha
theorem Fw{prog:Program}{w:dw}{A:aF}{E:Value→aq→Prop}{s:aq}{t1 t2 t3:Bool}{a b d:Addr}{xs ys zs:Array Value}{n m l:Nat}{Q:Value→aq→Prop}(h1:s.heap.get? a=some (seqObj t1 xs n))(h2:s.heap.get? b=some (seqObj t2 ys m))(h3:s.heap.get? d=some (seqObj t3 zs l))
  (hQ: ∀h' z TI TO its,sD s.heap [(t1,a),(t2,b),(t3,d)] h' z TI TO its→Q (.ref z) {s with heap:=h'}):wpAny (model prog w) A (call (.type "zip") [.ref a,.ref b,.ref d]) Q E s:=by
 refine callType_new F.called_zip (by decide) (wG _ _ _) (xX _ _ _) (fun obj=>rF obj _ _ _) F.entry_zip_new
  (HT t1 t2 t3 a b d xs ys zs n m l) ⟨h1,h2,h3,?_⟩
 have z1:(n0 s.heap t1 a).objs.size=s.heap.objs.size+1:=aZ ..
 have z2:(n0 (n0 s.heap t1 a) t2 b).objs.size=s.heap.objs.size+2:=by rw[aZ,z1]
 have WT:(n0 (n0 (n0 s.heap t1 a) t2 b) t3 d).objs.size=s.heap.objs.size+3:=by rw[aZ,z2]
 generalize e3:(n0 (n0 (n0 s.heap t1 a) t2 b) t3 d).push {cls:= .type "tuple",data:= .seq #[.ref s.heap.objs.size,.ref (n0 s.heap t1 a).objs.size,.ref (n0 (n0 s.heap t1 a) t2 b).objs.size]}=H3
 have z3:H3.objs.size=s.heap.objs.size+4:=by rw[←e3,aZ,WT]
 have WS:WO s.heap t1 t2 t3 a b d=H3.push {cls:= .type "tuple",data:= .seq #[.none,.none,.none]}:=by rw[←e3]
 rw[WS]
 have z4:(H3.push {cls:= .type "tuple",data:= .seq #[.none,.none,.none]}).objs.size=s.heap.objs.size+5:=by rw[aZ,z3]
 rw[z4,z3,WT]
 have k3: ∀c o,s.heap.get? c=some o→H3.get? c=some o:=fun c o x=>by rw[←e3];exact ay _ (ay _ (ay _ (ay _ x)))
 have g1:H3.get? s.heap.objs.size=some (nZ t1 a):=by rw[←e3];exact ay _ (ay _ (ay _ (aB _ rfl)))
 have g2:H3.get? (s.heap.objs.size+1)=some (nZ t2 b):=by rw[←e3,←z1];exact ay _ (ay _ (aB _ rfl))
 have g2':H3.get? (s.heap.objs.size+2)=some (nZ t3 d):=by rw[←e3,←z2];exact ay _ (aB _ rfl)
 have g3:H3.get? (s.heap.objs.size+3)=some {cls:= .type "tuple",data:= .seq #[.ref s.heap.objs.size,.ref (s.heap.objs.size+1),.ref (s.heap.objs.size+2)]}:=by rw[←e3,←WT,←z2,←z1];exact aB _ rfl
 have up: ∀(o1 o2:Obj) c o,H3.get? c=some o→((H3.push o1).push o2).get? c=some o:=fun o1 o2 c o x=>ay _ (ay _ x)
 have Ru:((H3.push {cls:= .type "tuple",data:= .seq #[.none,.none,.none]}).push {cls:= .type "zip",data:= .fields #[.none,.bool false,.bool false,.ref (s.heap.objs.size+3),.ref (s.heap.objs.size+4)]}).get? (s.heap.objs.size+5)=some {cls:= .type "zip",data:= .fields #[.none,.bool false,.bool false,.ref (s.heap.objs.size+3),.ref (s.heap.objs.size+4)]}:=by rw[←z4];exact aB _ rfl
 refine⟨⟨_,Ru,rfl⟩,hQ _ (s.heap.objs.size+5) (s.heap.objs.size+3) (s.heap.objs.size+4) [s.heap.objs.size,s.heap.objs.size+1,s.heap.objs.size+2] ⟨Ru,up _ _ _ _ g3,⟨#[.none,.none,.none],by rw[←z3];exact ay _ (aB _ rfl),rfl⟩,?_,?_,rfl,fun j i t hi ht=> ?_,fun a ha=> ?_,fun c o x=>up _ _ c o (k3 c o x)⟩⟩
 ·exact nd3 _
 ·exact nm3 _
 ·match j,hi,ht with
  |0,hi,ht=>(first|exact VS hi|cases hi);(first|exact VS ht|cases ht);exact up _ _ _ _ g1
  |1,hi,ht=>(first|exact VS hi|cases hi);(first|exact VS ht|cases ht);exact up _ _ _ _ g2
  |2,hi,ht=>(first|exact VS hi|cases hi);(first|exact VS ht|cases ht);exact up _ _ _ _ g2'
  |j+3,hi,_=>simp at hi
 ·exact ge3 _ _ ha
end
section
open PySem PyProof.Rows
section
variable {L:ig} {sc:Scope} {σ:gO} {own:List Str} {k:Nat}
noncomputable def wH:List PV→List PV→List PV
 |a::as,b::bs=> .tup [a,b]::wH as bs
 |_,_=>[]
noncomputable def zV:List PV→List PV→List PV→List PV
 |a::as,b::bs,c::cs=> .tup [a,b,c]::zV as bs cs
 |_,_,_=>[]
theorem HU: ∀(a b:List PV) (k:Nat) p,(wH a b)[k]? =some p→ ∃x y,a[k]? =some x∧b[k]? =some y∧p= .tup [x,y]:=by
 intro a
 induction a with
 |nil=>exact @fun _ _ _ h=>hO h
 |cons x as iu=>exact fun
  |y::bs,0,p,h=>⟨x,y,rfl,rfl,(Option.some.inj h).symm⟩
  |y::bs,k+1,p,h=>iu bs k p h
  |[],_,_,h=>hO h
theorem Fx: ∀(a b:List PV),a[(wH a b).length]? =none∨(∃x,a[(wH a b).length]? =some x)∧b[(wH a b).length]? =none:=by
 intro a
 induction a with
 |nil=>exact @fun _=> .inl rfl
 |cons q0 as iu=>exact fun
  |_::bs=>iu bs
  |[]=> .inr ⟨⟨q0,rfl⟩,rfl⟩
theorem HV: ∀(a b c:List PV) (k:Nat) p,(zV a b c)[k]? =some p→ ∃x y z,a[k]? =some x∧b[k]? =some y∧c[k]? =some z∧p= .tup [x,y,z]:=by
 intro a
 induction a with
 |nil=>exact @fun _ _ _ _ h=>hO h
 |cons x as iu=>exact fun
  |y::bs,z::cs,0,p,h=>⟨x,y,z,rfl,rfl,rfl,(Option.some.inj h).symm⟩
  |y::bs,z::cs,k+1,p,h=>iu bs cs k p h
  |[],_,_,_,h=>hO h
  |_::_,[],_,_,h=>hO h
theorem Fy: ∀(a b c:List PV),a[(zV a b c).length]? =none∨(∃x,a[(zV a b c).length]? =some x)∧(b[(zV a b c).length]? =none∨(∃x,b[(zV a b c).length]? =some x)∧c[(zV a b c).length]? =none):=by
 intro a
 induction a with
 |nil=>exact @fun _ _=> .inl rfl
 |cons q0 as iu=>exact fun
  |_::bs,_::cs=>iu bs cs
  |[],_=> .inr ⟨⟨q0,rfl⟩,.inl rfl⟩
  |y::_,[]=> .inr ⟨⟨q0,rfl⟩,.inr ⟨⟨y,rfl⟩,rfl⟩⟩
theorem Rows.two(a b:List PV):Rows [a,b] (wH a b) where
 row:=fun k p h=>(HU a b k p h).elim fun x h=>h.elim fun y h=>⟨_,h.2.2,rfl,fun
  |0,l,hl=>⟨x,Option.some.inj hl▸h.1,rfl⟩
  |1,l,hl=>⟨y,Option.some.inj hl▸h.2.1,rfl⟩
  |_+2,_,hl=>hO hl⟩
 stop:=(Fx a b).elim (fun h=>⟨0,fun m l hm=>absurd hm (dW _),a,rfl,h⟩) fun h=>⟨1,fun
  |0,l,_,hl=>Option.some.inj hl▸h.1
  |_+1,_,hm,_=>absurd hm (Nat.not_lt.mpr (eE (aE _))),b,rfl,h.2⟩
theorem Rows.three(a b c:List PV):Rows [a,b,c] (zV a b c) where
 row:=fun k p h=>(HV a b c k p h).elim fun x h=>h.elim fun y h=>h.elim fun z h=>⟨_,h.2.2.2,rfl,fun
  |0,l,hl=>⟨x,Option.some.inj hl▸h.1,rfl⟩
  |1,l,hl=>⟨y,Option.some.inj hl▸h.2.1,rfl⟩
  |2,l,hl=>⟨z,Option.some.inj hl▸h.2.2.1,rfl⟩
  |_+3,_,hl=>hO hl⟩
 stop:=(Fy a b c).elim (fun h=>⟨0,fun m l hm=>absurd hm (dW _),a,rfl,h⟩) fun h=>h.2.elim (fun h2=>⟨1,fun
  |0,l,_,hl=>Option.some.inj hl▸h.1
  |_+1,_,hm,_=>absurd hm (Nat.not_lt.mpr (eE (aE _))),b,rfl,h2⟩) fun h2=>⟨2,fun
  |0,l,_,hl=>Option.some.inj hl▸h.1
  |1,l,_,hl=>Option.some.inj hl▸h2.1
  |_+2,_,hm,_=>absurd hm (Nat.not_lt.mpr (eE (eE (aE _)))),c,rfl,h2.2⟩
noncomputable def OJ(t:Bool)(l:List PV):PV:=if t then .tup l else .list l
theorem n5{h:Heap}{X:List Addr}{p:PV}{l:List PV}{v:Value}(hp:lj p=some l)(hv:VR L.prog L.w h X p v): ∃t a xs n,v= .ref a∧h.get? a=some (seqObj t xs n)∧VR L.prog L.w h X (OJ t l) (.ref a):=by
 cases p<;>try exact hO hp
 ·(first|exact VS hp|cases hp);exact hv.elim fun a x=>x.elim fun xs x=>x.elim fun n x=>⟨true,a,xs,n,x.1,x.2.2.1,x.1▸hv⟩
 ·(first|exact VS hp|cases hp);exact hv.elim fun a x=>x.elim fun xs x=>x.elim fun n x=>⟨false,a,xs,n,x.1,x.2.2.1,x.1▸hv⟩
theorem yW.start{X:List Addr}{h:Heap}{i a:Addr}{t:Bool}{l:List PV}(hi:h.get? i=some (nZ t a))(hv:VR L.prog L.w h X (OJ t l) (.ref a)):yW L X h i (t,a) 0 l:=by
 skip;(first|exact VS t|cases t)
 ·exact .inl ⟨rfl,⟨_,hi,rfl,rfl⟩,hv⟩
 ·exact .inr ⟨rfl,⟨_,hi,rfl,rfl⟩,hv⟩
theorem BG{X:List Addr}{s s₁:aq}{h':Heap}{ts:List (Bool×Addr)}{z TI TO:Addr}{its:List Addr}{qT:List (List PV)}{ps:List PV}{Q:Value→aq→Prop}(M:sD s₁.heap ts h' z TI TO its)(WU:XO L X s.heap)(d:gN L X s s₁)(hr:Rows qT ps)(hp:qT.length=ts.length)(js:ts≠[])(ib:ts.length≤100)
  (GB: ∀(m:Nat) t l,ts[m]? =some t→qT[m]? =some l→VR L.prog L.w s₁.heap X (OJ t.1 l) (.ref t.2))
  (hQ: ∀I wr gZ,gN L X s gZ→XO L (wr++X) gZ.heap→(∀a∈wr,s.heap.get? a=none)→I∈wr→
   (∀X',(∀a∈X',a∈X∨a∈wr∨gZ.heap.get? a=none)→(∀a∈wr,a∈X')→ ∃St,It L X' wr I ps St true∧St 0 gZ.heap)→Q (.ref I) gZ):Q (.ref z) {s₁ with heap:=h'}:=by
 have Rv: ∀a,s₁.heap.objs.size≤a→s₁.heap.get? a=none:=fun a ha=>by
  cases e':s₁.heap.get? a with
  |none=>rfl
  |some o=>exact absurd (aH e') (Nat.not_lt.mpr ha)
 obtain⟨kJ,A4,wI⟩:=M.A4
 refine qr (wr:=z::TO::its) s₁.toks WU d M.keep (fun a ha=>Rv a (M.new a (.inr ha))) (kA ⟨_,M.hz⟩ (kA ⟨_,A4⟩ fun a ha=>(dO ha).elim fun m e=>⟨_,M.KP m _ _ e (aG (M.len▸(List.getElem?_eq_some_iff.mp e).1))⟩)) uW hQ fun X' h1 h2 u hX=> ?_
 refine⟨_,It.zip (rs:=fun m=>(ts[m]?).getD (false,0)) (qT:=qT) M.nd (fun e=>js (bp (M.len▸e▸rfl))) (M.len▸ib) h1 (fun hm=>(hX TI hm).elim (d.xo.fresh (Rv TI (M.new TI (.inl rfl)))) fun h=>h.elim M.apart fun h=>hO (h.symm.trans M.Dn)) (fun h=>h2 _ h rfl) (hp.trans M.len.symm) hr,M.hz,M.Dn,⟨kJ,A4,wI⟩,fun m i l hi hl=> ?_⟩
 have ht:ts[m]? =some (ts[m]'(M.len▸(List.getElem?_eq_some_iff.mp hi).1)):=aG _
 show yW L X' h' i ((ts[m]?).getD (false,0)) 0 l
 rw[ht]
 exact yW.start (M.KP m i _ hi ht) (VR.up u (GB m _ l ht hl))
noncomputable def sE:List PV→Option (List PV)
 |[a,b]=>(lj a).bind fun x=>(lj b).map fun y=>wH x y
 |[a,b,c]=>(lj a).bind fun x=>(lj b).bind fun y=>(lj c).map fun z=>zV x y z
 |_=>none
theorem IE.zip{x:Str}{np pos:cP}{e:aM}{es:List aM}{f:List MV→Option (List PV)}(hx:sc.names.lookup x=some .globalImplicit)(hv:L.gl x=some (.type "zip"))(ha:LE L sc σ k (e::es) f)
  (he: ∀env,starEach (e::es) env=(false,eval e env)::starEach es env)(qD: ∀env,(starEach (e::es) env).any (·.1)=false)(hd:(x==("__debug__":Str))=false:=by decide):IE L sc σ k (.Call (.Name x np) (e::es) [] pos) true (fun ρ=>(f ρ).bind sE):=by
 intro env A X s ρ ps Q E R F I hf hQ
 replace hf:=Option.bind_eq_some_iff.mp hf
 obtain⟨qs,QR,hf⟩:=hf
 refine bT (aN (by rw[F.scope];exact F.kind) (by unfold b8.kindOf;rw[F.scope];exact hx) (L.rt s env A x _ _ E I.iA F.globals F.builtins.1 hv ?_) hd)
 refine sr (.type _) ha he qD R F I QR fun vs s₁ jE d=> ?_
 rcases qs with _|⟨q1,_|⟨q2,_|⟨q3,_|⟨_,_⟩⟩⟩⟩
 ·exact hO hf
 ·exact hO hf
 ·replace hf:=Option.bind_eq_some_iff.mp hf
  obtain⟨l1,h1,hf⟩:=hf
  obtain⟨l2,h2,rfl⟩:=Option.map_eq_some_iff.mp hf
  obtain⟨v,u,rfl,hv,hu⟩:=gV.two jE
  obtain⟨t1,a,xs,n,rfl,BH,Rw⟩:=n5 h1 hv
  obtain⟨t2,b,ys,m,rfl,JZ,hr2⟩:=n5 h2 hu
  exact yX BH JZ fun h' z TI TO its M=>dT M.hz (BG M F.xo d (Rows.two l1 l2) rfl (c8 _ _) (by decide:2≤100) (fun
   |0,t,l,ht,hl=>by (first|exact VS ht|cases ht);(first|exact VS hl|cases hl);exact Rw
   |1,t,l,ht,hl=>by (first|exact VS ht|cases ht);(first|exact VS hl|cases hl);exact hr2
   |_+2,_,_,ht,_=>hO ht) hQ)
 ·replace hf:=Option.bind_eq_some_iff.mp hf
  obtain⟨l1,h1,hf⟩:=hf
  replace hf:=Option.bind_eq_some_iff.mp hf
  obtain⟨l2,h2,hf⟩:=hf
  obtain⟨l3,h3,rfl⟩:=Option.map_eq_some_iff.mp hf
  obtain⟨v,u,y,rfl,hv,hu,hy⟩:=gV.three jE
  obtain⟨t1,a,xs,n,rfl,BH,Rw⟩:=n5 h1 hv
  obtain⟨t2,b,ys,m,rfl,JZ,hr2⟩:=n5 h2 hu
  obtain⟨t3,c,zs,l,rfl,WV,hr3⟩:=n5 h3 hy
  exact Fw BH JZ WV fun h' z TI TO its M=>dT M.hz (BG M F.xo d (Rows.three l1 l2 l3) rfl (c8 _ _) (by decide:3≤100) (fun
   |0,t,l,ht,hl=>by (first|exact VS ht|cases ht);(first|exact VS hl|cases hl);exact Rw
   |1,t,l,ht,hl=>by (first|exact VS ht|cases ht);(first|exact VS hl|cases hl);exact hr2
   |2,t,l,ht,hl=>by (first|exact VS ht|cases ht);(first|exact VS hl|cases hl);exact hr3
   |_+3,_,_,ht,_=>hO ht) hQ)
 ·exact hO hf
end
end
section
open PySem PySem.SeqAt PySem.MeetsSeq PySem.MeetsSeq2 PySem.MeetsSeq3 PySem.SeqRoads2
open PySem.AutoSeq1 (wpAny_loadPart')
noncomputable def Fz(e o:PV→PV→Option Bool)(gt:Bool):List PV→List PV→Option Bool
 |[],[]=>some false
 |[],_::_=>some (!gt)
 |_::_,[]=>some gt
 |x::xs,y::ys=>(e x y).bind fun b=>if b then Fz e o gt xs ys else o x y
noncomputable def OK(gt:Bool)(k:List PV→List PV→Option Bool):PV→PV→Option Bool
 | .int a,q=>pY (fun b=>some (if gt then decide (b<a) else decide (a<b))) q
 | .list l,q=>lx (k l) q
 |_,_=>none
noncomputable def FA:Nat→Bool→PV→PV→Option Bool
 |0,gt,p,q=>OK gt (fun _ _=>none) p q
 |n+1,gt,p,q=>OK gt (Fz (yI n) (FA n gt) gt) p q
noncomputable def Qj(gt:Bool):CmpOp:=if gt then .Gt else .Lt
noncomputable def BI(gt:Bool):Int:=if gt then 4 else 0
section
variable {L:ig} {A:aF} {R:eL→aq→Prop}
inductive u0 (L:ig) (A:aF) (s:aq) (gt:Bool):List Value→List Value→Bool→Prop
 |nn:u0 L A s gt [] [] false
 |nc {y ys}:u0 L A s gt [] (y::ys) (!gt)
 |cn {x xs}:u0 L A s gt (x::xs) [] gt
 |same {x y xs ys b}:zB L A.in1 s x y true→u0 L A s gt xs ys b→u0 L A s gt (x::xs) (y::ys) b
 |diff {x y xs ys b}:zB L A.in1 s x y false→(∀(E Q:Value→aq→Prop),Q (.bool b) s→wpAny L.M A.in1 (richCompare (Qj gt) x y) Q E s)→u0 L A s gt (x::xs) (y::ys) b
set_option maxHeartbeats 4000000 in
theorem BJ{gt:Bool}{l b:Addr}{xs ys:Array Value}{n n2:Nat}{r:Bool}: ∀(us vs:List Value) (i:Nat) (s:aq),xs.toList.drop i=us→ys.toList.drop i=vs→i≤xs.size→i≤ys.size→
  s.heap.get? l=some {cls:= .type "list",data:= .seq xs n}→s.heap.get? b=some {cls:= .type "list",data:= .seq ys n2}→
  u0 L A s gt us vs r→R (.ok (.ret (.bool r))) s→
  jw L A (aC.«list.__eq__.loop» ⟨[.ref l,.ref b,rawInt i,rawInt (BI gt)],[]⟩) R s:=by
 intro us
 induction us with
 |nil=>
  intro vs i s hu hv hi hj hl hb ho h
  obtain⟨hp,g,d,tk,os⟩:=s
  have e1:xs.size≤i:=by
   have:=List.drop_eq_nil_iff.mp hu
   simpa using this
  have a1:xs[((i:Nat):Int).toNat]? =none:=by simp;omega
  cases gt<;>unfold jw<;>simp only[BI,aV,if_false,if_true]<;>wp_walk using wpAny_loadPart' hl,wpAny_loadPart' hb<;>rw[a1]<;>wp_walk using wpAny_loadPart' hl,wpAny_loadPart' hb
  ·show R (.ok (.ret (.bool (decide (xs.size<ys.size))))) _
   cases ho with
   |nn=>
    have:=List.drop_eq_nil_iff.mp hv
    rw[decide_eq_false (by simp at this;omega)];exact h
   |nc=>
    have:i<ys.size:=by
     rcases bZ i ys.size with h|h
     ·exact h
     ·rw[List.drop_eq_nil_iff.mpr (by simpa using h)] at hv;(first|exact VS hv|cases hv)
    rw[decide_eq_true (by omega)];exact h
  ·show R (.ok (.ret (.bool (decide (xs.size>ys.size))))) _
   cases ho with
   |nn=>
    rw[decide_eq_false (by omega)];exact h
   |nc=>rw[decide_eq_false (by omega)];exact h
 |cons x us ih=>
  intro vs i s hu hv hi hj hl hb ho h
  obtain⟨hp,g,d,tk,os⟩:=s
  have b1:i<xs.size:=by
   rcases bZ i xs.size with h|h
   ·exact h
   ·rw[List.drop_eq_nil_iff.mpr (by simpa using h)] at hu;(first|exact VS hu|cases hu)
  have ex:xs[i]=x∧xs.toList.drop (i+1)=us:=by
   have:xs.toList.drop i=xs[i]::xs.toList.drop (i+1):=by simp[aJ,b1]
   rw[this] at hu
   injection hu with h1 h2
   exact⟨h1,h2⟩
  have a1:xs[((i:Nat):Int).toNat]? =some x:=by simp[b1,ex.1]
  cases ho with
  |cn=>
   have e2:ys.size≤i:=by
    have:=List.drop_eq_nil_iff.mp hv
    simpa using this
   have a2:ys[((i:Nat):Int).toNat]? =none:=by simp;omega
   cases gt<;>unfold jw<;>simp only[BI,aV,if_false,if_true]<;>wp_walk using wpAny_loadPart' hl,wpAny_loadPart' hb<;>rw[a1,a2]<;>wp_walk using wpAny_loadPart' hl,wpAny_loadPart' hb
   ·show R (.ok (.ret (.bool (decide (xs.size<ys.size))))) _
    rw[decide_eq_false (by omega)];exact h
   ·show R (.ok (.ret (.bool (decide (xs.size>ys.size))))) _
    rw[decide_eq_true (by omega)];exact h
  |same he hr=>
   rename_i y vs
   have b2:i<ys.size:=by
    rcases bZ i ys.size with h|h
    ·exact h
    ·rw[List.drop_eq_nil_iff.mpr (by simpa using h)] at hv;(first|exact VS hv|cases hv)
   have ey:ys[i]=y∧ys.toList.drop (i+1)=vs:=by
    have:ys.toList.drop i=ys[i]::ys.toList.drop (i+1):=by simp[aJ,b2]
    rw[this] at hv
    injection hv with h1 h2
    exact⟨h1,h2⟩
   have a2:ys[((i:Nat):Int).toNat]? =some y:=by simp[b2,ey.1]
   have a4:((i:Int)+1)=((i+1:Nat):Int):=by push_cast;rfl
   cases gt<;>unfold jw<;>simp only[BI,aV,if_false,if_true]<;>wp_walk using wpAny_loadPart' hl,wpAny_loadPart' hb<;>rw[a1,a2]<;>refine ao (he _ _ ?_)<;>wp_walk<;>rw[a4]
   ·exact⟨bf plain_eq_loop _,aR entry_eq_loop (by
     rw[aI plain_eq_loop _]
     exact ih vs (i+1) _ ex.2 ey.2 (by omega) (by omega) hl hb hr h)⟩
   ·exact⟨bf plain_eq_loop _,aR entry_eq_loop (by
     rw[aI plain_eq_loop _]
     exact ih vs (i+1) _ ex.2 ey.2 (by omega) (by omega) hl hb hr h)⟩
  |diff he hr=>
   rename_i y vs
   have b2:i<ys.size:=by
    rcases bZ i ys.size with h|h
    ·exact h
    ·rw[List.drop_eq_nil_iff.mpr (by simpa using h)] at hv;(first|exact VS hv|cases hv)
   have ey:ys[i]=y:=by
    have:ys.toList.drop i=ys[i]::ys.toList.drop (i+1):=by simp[aJ,b2]
    rw[this] at hv
    injection hv with h1 h2
   have a2:ys[((i:Nat):Int).toNat]? =some y:=by simp[b2,ey]
   cases gt<;>unfold jw<;>simp only[BI,aV,if_false,if_true]<;>wp_walk using wpAny_loadPart' hl,wpAny_loadPart' hb<;>rw[a1,a2]<;>refine ao (he _ _ ?_)<;>wp_walk using wpAny_loadPart' hl,wpAny_loadPart' hb<;>rw[a1,a2]
   ·refine ao (hr _ _ ?_)
    exact aw h
   ·refine ao (hr _ _ ?_)
    exact aw h
end
end
section
open PySem PySem.SeqAt PySem.MeetsSeq PySem.MeetsSeq2 PySem.MeetsSeq3 PySem.SeqRoads2
open PySem.AutoSeq1 (wpAny_loadPart')
section
variable {L:ig} {X:List Addr}
theorem HW{A:aF}{s:aq}{gt:Bool}{a b:Int}{t u:gj}{E Q:Value→aq→Prop}(h:Q (.bool (if gt then decide (b<a) else decide (a<b))) s):wpAny L.M A (richCompare (Qj gt) (.int a t) (.int b u)) Q E s:=by
 skip;(first|exact VS gt|cases gt)
 ·exact Flt.lt_num (a:= .int a t) (b:= .int b u) (.int _ _) (.int _ _) h
 ·exact Flt.gt_num (a:= .int a t) (b:= .int b u) (.int _ _) (.int _ _) h
theorem sF{A:aF}{s:aq}{r:Bool}{l b:Addr}{xs ys:Array Value}{n n2:Nat}{E Q:Value→aq→Prop}(hl:s.heap.get? l=some {cls:= .type "list",data:= .seq xs n})(hb:s.heap.get? b=some {cls:= .type "list",data:= .seq ys n2})
  (ho:u0 L A s false xs.toList ys.toList r)(h:Q (.bool r) s):wpAny L.M A (call (.builtin "list.__lt__") [.ref l,.ref b]) Q E s:=by
 refine lu F.slot_list_lt ⟨_,hl,rfl⟩ F.entry_list_lt (F.args_list_lt_2 _ _) ?_
 obtain⟨hp,g,d,tk,os⟩:=s
 have f3:=AutoSeq1.sub_list_list
 unfold jw
 wp_walk using wpAny_loadPart' hl,wpAny_loadPart' hb
 exact⟨bf plain_eq_loop _,aR entry_eq_loop (by
  rw[aI plain_eq_loop _]
  exact BJ (gt:=false) _ _ 0 _ rfl rfl (aE _) (aE _) hl hb ho h)⟩
theorem FC{A:aF}{s:aq}{gt r:Bool}{l b:Addr}{xs ys:Array Value}{n n2:Nat}{E Q:Value→aq→Prop}(hl:s.heap.get? l=some {cls:= .type "list",data:= .seq xs n})(hb:s.heap.get? b=some {cls:= .type "list",data:= .seq ys n2})(hu:A.units<cLine)
  (ho:u0 L A s gt xs.toList ys.toList r)(h:Q (.bool r) s):wpAny L.M A (richCompare (Qj gt) (.ref l) (.ref b)) Q E s:=by
 skip;(first|exact VS gt|cases gt)
 ·exact bU (op:= .Lt) ⟨_,hl,rfl⟩ ⟨_,hb,rfl⟩ F.slot_list_lt (sF hl hb ho ⟨nofun,h⟩) hu
 ·refine bU (op:= .Gt) ⟨_,hl,rfl⟩ ⟨_,hb,rfl⟩ F.slot_list_gt (lu F.slot_list_gt ⟨_,hl,rfl⟩ F.entry_list_gt (F.args_list_gt_2 _ _) ?_) hu
  obtain⟨hp,g,d,tk,os⟩:=s
  have f3:=AutoSeq1.sub_list_list
  unfold jw
  wp_walk using wpAny_loadPart' hl,wpAny_loadPart' hb
  exact⟨bf plain_eq_loop _,aR entry_eq_loop (by
   rw[aI plain_eq_loop _]
   exact BJ (gt:=true) _ _ 0 _ rfl rfl (aE _) (aE _) hl hb ho ⟨(fun x=>nomatch x),h⟩)⟩
theorem HX{A:aF}{s:aq}{gt:Bool}{e o:PV→PV→Option Bool}(he: ∀p q v u b,VR L.prog L.w s.heap X p v→VR L.prog L.w s.heap X q u→e p q=some b→zB L A.in1 s v u b)
  (ho: ∀p q v u b,VR L.prog L.w s.heap X p v→VR L.prog L.w s.heap X q u→o p q=some b→ ∀(E Q:Value→aq→Prop),Q (.bool b) s→wpAny L.M A.in1 (richCompare (Qj gt) v u) Q E s):
  ∀{l m:List PV} {vs us:List Value} {r:Bool},gV L.prog L.w s.heap X l vs→gV L.prog L.w s.heap X m us→Fz e o gt l m=some r→u0 L A s gt vs us r:=by
 intro l
 induction l with
 |nil=>
  intro m vs us r hl hm h
  subst hl
  cases m with
  |nil=>(first|exact VS hm|cases hm);(first|exact VS h|cases h);exact .nn
  |cons q qs=>obtain⟨u,us',rfl,_,_⟩:=hm.inv;(first|exact VS h|cases h);exact .nc
 |cons p ps ih=>
  intro m vs us r hl hm h
  obtain⟨v,QA,rfl,hv,jE⟩:=hl.inv
  cases m with
  |nil=>(first|exact VS hm|cases hm);(first|exact VS h|cases h);exact .cn
  |cons q qs=>
   obtain⟨u,us',rfl,hu,WW⟩:=hm.inv
   unfold Fz at h
   replace h:=Option.bind_eq_some_iff.mp h
   obtain⟨b,hb,h⟩:=h
   cases b with
   |true=>exact .same (he _ _ _ _ _ hv hu hb) (ih jE WW h)
   |false=>exact .diff (he _ _ _ _ _ hv hu hb) (ho _ _ _ _ _ hv hu h)
theorem Dp{gt:Bool}: ∀(n:Nat) (A:aF) (s:aq) (p q:PV) (v u:Value) (r:Bool),VR L.prog L.w s.heap X p v→VR L.prog L.w s.heap X q u→FA n gt p q=some r→A.units+n+1<cLine→
  ∀(E Q:Value→aq→Prop),Q (.bool r) s→wpAny L.M A (richCompare (Qj gt) v u) Q E s:=by
 have key: ∀{k:List PV→List PV→Option Bool} {A:aF} {s:aq} {p q:PV} {v u:Value} {r:Bool},VR L.prog L.w s.heap X p v→VR L.prog L.w s.heap X q u→OK gt k p q=some r→A.units<cLine→(∀l m vs us,k l m=some r→gV L.prog L.w s.heap X l vs→gV L.prog L.w s.heap X m us→u0 L A s gt vs us r)→
  ∀(E Q:Value→aq→Prop),Q (.bool r) s→wpAny L.M A (richCompare (Qj gt) v u) Q E s:=by
  intro k A s p q v u r hp hq h hu H E Q hQ
  cases p<;>try exact hO h
  ·obtain⟨b,rfl,h⟩:=ly h
   obtain⟨t,rfl⟩:=hp.ki
   obtain⟨t',rfl⟩:=hq.ki
   skip;(first|exact VS h|cases h)
   exact HW hQ
  ·obtain⟨m,rfl,h⟩:=i7 h
   obtain⟨a,xs,k,rfl,ha,ho,hl⟩:=id hp.listE
   obtain⟨a',qC,k',rfl,xH,lr,jB⟩:=id hq.listE
   exact FC ho lr hu (H _ _ _ _ h hl jB) hQ
 intro n
 induction n with
 |zero=>exact fun A s p q v u r hp hq h hu=>key hp hq h (Nat.lt_of_succ_lt hu) fun l m vs us h=>hO h
 |succ n ih=>
  intro A s p q v u r hp hq h hu
  have yJ:A.in1.units+n+1<cLine:=by show A.units+1+n+1<cLine;omega
  exact key hp hq h (by omega) fun l m vs us h hl hm=>HX (fun p q v u b hv xJ hb=>zB.of (v9 n _ _ _ _ _ _ _ hv xJ hb (by omega))) (fun p q v u b hv xJ hb=>ih _ _ _ _ _ _ _ hv xJ hb yJ) hl hm h
end
end
section
open PySem PySem.SeqAt
section
variable {L:ig} {X:List Addr}
noncomputable def qU(gt:Bool):List PV→PV→Option PV
 |[],b=>some b
 |p::ps,b=>(FA 3 gt p b).bind fun y=>if y then qU gt ps p else qU gt ps b
theorem HY{A:aF}{R:eL→aq→Prop}{ax I S:Addr}{ps:List PV}(hI:I∈X)(hS:S∈X)(zW:I≠S)(hh:A.handled=none)(hu:A.units+6<cLine): ∀(rest:List PV) (i:Nat) (s:aq) (best r:PV) (vb:Value) (c:Nat),ps.drop i=rest→i≤ps.length→
  VR L.prog L.w s.heap X (.list ps) (.ref ax)→s.heap.IsListIter I ax i→s.heap.get? S=some {cls:= .type "list",dict:=none,data:= .seq #[vb,vb] c,slots:= #[]}→VR L.prog L.w s.heap X best vb→qU true rest best=some r→
  (∀v h',VR L.prog L.w h' X r v→(∀b o,b≠I→b≠S→s.heap.get? b=some o→h'.get? b=some o)→R (.ok (.ret v)) {s with heap:=h'})→
  codeAny L.M A (.builtin "max.loop" ⟨[.ref I,.none,.ref S],[]⟩) R s:=by
 have n6:(toString "max"++toString ".loop":String)="max.loop":=by decide
 intro rest
 induction rest with
 |nil=>
  intro i s best r vb c hd hi hv hit hs hb hr hR
  skip;(first|exact VS hr|cases hr)
  obtain⟨a,xs,n,e,ha,ho,hl⟩:=id hv.listE
  skip;(first|exact VS e|cases e)
  have e1:=hl.length
  rw[aS] at e1
  have hn:xs[i]? =none:=by rw[aO];have:=List.drop_eq_nil_iff.mp hd;omega
  refine aR gy ?_
  rw[aI cM _]
  show wpAny _ A.in1 (seqItems? (.ref S)>>= _) _ _ s
  refine ao (aW hs rfl ?_)
  show wpAny _ A.in1 (tryCatch (pyNext (.ref I)) _>>= _) _ _ s
  refine ao (cB (wpAny_pyNext_list_end hh hit ⟨_,ho,rfl,_,rfl⟩ hn fun h' td=> ?_))
  have BK:=td S _ zW.symm hs
  show wpAny _ A.in1 (updateSeq S (fun _=> #[])>>= _) _ _ _
  refine ao ?_
  refine cF BK rfl (ao (cI (aw ?_)))
  have kk: ∀b o,b≠I→b≠S→s.heap.get? b=some o→(h'.update S (Obj.mapSeq fun _=> #[])).get? b=some o:=fun b o h1 h2 e=>(bg _ _ (Ne.symm h2)).trans (td b o h1 e)
  exact hR vb _ (hb.up fun a o ha e=>⟨ha,kk a o (fun x=>ha (x▸hI)) (fun x=>ha (x▸hS)) e⟩) kk
 |cons p rest ih=>
  intro i s best r vb c hd hi hv hit hs hb hr hR
  obtain⟨a,xs,n,e,ha,ho,hl⟩:=id hv.listE
  skip;(first|exact VS e|cases e)
  have jF:i<ps.length:=by
   rcases bZ i ps.length with h|h
   ·exact h
   ·rw[List.drop_eq_nil_iff.mpr h] at hd;(first|exact VS hd|cases hd)
  have Rx:ps.drop i=ps[i]::ps.drop (i+1):=aJ jF
  rw[Rx] at hd
  injection hd with HZ hd2
  have hp:ps[i]? =some p:=by rw[aG jF,HZ]
  obtain⟨v,nf,v8⟩:=hl.get hp
  rw[bz] at nf
  refine aR gy ?_
  rw[aI cM _]
  show wpAny _ A.in1 (seqItems? (.ref S)>>= _) _ _ s
  refine ao (aW hs rfl ?_)
  show wpAny _ A.in1 (tryCatch (pyNext (.ref I)) _>>= _) _ _ s
  refine ao (cB (cm hit ⟨_,ho,rfl,_,rfl⟩ nf fun h' md km=> ?_))
  have BK:=km.extBut S _ zW.symm hs
  have u1:=kx hI km.extBut
  unfold qU at hr
  replace hr:=Option.bind_eq_some_iff.mp hr
  obtain⟨y,hy,hr⟩:=hr
  show wpAny _ A.in1 (tryCatch (holding [v,v] (richCompare .Gt v vb>>= _)) _>>= _) _ _ _
  refine ao (cB (aP (ao (Dp (gt:=true) 3 _ _ p best v vb y (v8.up u1) (hb.up u1) hy (by show A.units+1+3+1<cLine;omega) _ _ ?_))))
  refine ao (aP (cZ ?_))
  refine ao (cI (aw ?_))
  cases y with
  |true=>
   simp only[if_true] at hr ⊢
   refine ao ?_
   refine cF BK rfl (ao (cI ?_))
   rw[n6]
   have kk: ∀b o,b≠S→h'.get? b=some o→(h'.update S (Obj.mapSeq fun _=> #[v,v])).get? b=some o:=fun b o h2 e=>(bg _ _ (Ne.symm h2)).trans e
   have u2:Up h' X (h'.update S (Obj.mapSeq fun _=> #[v,v])) X:=fun a o ha e=>⟨ha,kk a o (fun x=>ha (x▸hS)) e⟩
   exact aw ⟨bf cM _,ih (i+1) _ p r v _ hd2 jF ((hv.up u1).up u2) (md.at fun o e=>kk I o zW e) (aQ _ BK rfl) ((v8.up u1).up u2) hr fun v' nI wJ rG=>hR v' nI wJ fun b o h1 h2 e=>rG b o h1 h2 (kk b o h2 (km.extBut b o h1 e))⟩
  |false=>
   simp only[aV,if_false] at hr ⊢
   refine ao (cI ?_)
   rw[n6]
   exact aw ⟨bf cM _,ih (i+1) _ best r vb c hd2 jF (hv.up u1) md BK (hb.up u1) hr fun v' nI wJ rG=>hR v' nI wJ fun b o h1 h2 e=>rG b o h1 h2 (km.extBut b o h1 e)⟩
end
end
section
open PySem PySem.SeqAt
section
variable {L:ig} {X:List Addr}
theorem H4{A:aF}{R:eL→aq→Prop}{ax I S:Addr}{ps:List PV}(hI:I∈X)(hS:S∈X)(zW:I≠S)(hh:Hd L A)(Ry:L.look I=none)(Vo:L.look S=none)(hu:A.units+6<cLine): ∀(rest:List PV) (i:Nat) (s:aq) (best r:PV) (vb:Value) (c:Nat),Inv L s→ps.drop i=rest→i≤ps.length→
  VR L.prog L.w s.heap X (.list ps) (.ref ax)→s.heap.IsListIter I ax i→s.heap.get? S=some {cls:= .type "list",dict:=none,data:= .seq #[vb,vb] c,slots:= #[]}→VR L.prog L.w s.heap X best vb→qU false rest best=some r→
  (∀v h',VR L.prog L.w h' X r v→(∀b o,b≠I→b≠S→s.heap.get? b=some o→h'.get? b=some o)→R (.ok (.ret v)) {s with heap:=h'})→
  codeAny L.M A (.builtin "min.loop" ⟨[.ref I,.none,.ref S],[]⟩) R s:=by
 have n6:(toString "min"++toString ".loop":String)="min.loop":=by decide
 intro rest
 induction rest with
 |nil=>
  intro i s best r vb c Iv hd hi hv hit hs hb hr hR
  skip;(first|exact VS hr|cases hr)
  obtain⟨a,xs,n,e,ha,ho,hl⟩:=id hv.listE
  skip;(first|exact VS e|cases e)
  have e1:=hl.length
  rw[aS] at e1
  have hn:xs[i]? =none:=by rw[aO];have:=List.drop_eq_nil_iff.mp hd;omega
  refine aR gw ?_
  rw[aI cL _]
  show wpAny _ A.in1 (seqItems? (.ref S)>>= _) _ _ s
  refine ao (aW hs rfl ?_)
  show wpAny _ A.in1 (tryCatch (pyNext (.ref I)) _>>= _) _ _ s
  refine ao (cB (kG bS ck (cD _) hit.typeIs (nX hh (fun _=>Iv) hit (fun _=>Ry) ⟨_,ho,rfl,_,rfl⟩ hn) fun h' td=> ?_))
  have BK:=td S _ zW.symm hs
  show wpAny _ A.in1 (updateSeq S (fun _=> #[])>>= _) _ _ _
  refine ao ?_
  refine cF BK rfl (ao (cI (aw ?_)))
  have kk: ∀b o,b≠I→b≠S→s.heap.get? b=some o→(h'.update S (Obj.mapSeq fun _=> #[])).get? b=some o:=fun b o h1 h2 e=>(bg _ _ (Ne.symm h2)).trans (td b o h1 e)
  exact hR vb _ (hb.up fun a o ha e=>⟨ha,kk a o (fun x=>ha (x▸hI)) (fun x=>ha (x▸hS)) e⟩) kk
 |cons p rest ih=>
  intro i s best r vb c Iv hd hi hv hit hs hb hr hR
  obtain⟨a,xs,n,e,ha,ho,hl⟩:=id hv.listE
  skip;(first|exact VS e|cases e)
  have jF:i<ps.length:=by
   rcases bZ i ps.length with h|h
   ·exact h
   ·rw[List.drop_eq_nil_iff.mpr h] at hd;(first|exact VS hd|cases hd)
  have Rx:ps.drop i=ps[i]::ps.drop (i+1):=aJ jF
  rw[Rx] at hd
  injection hd with HZ hd2
  have hp:ps[i]? =some p:=by rw[aG jF,HZ]
  obtain⟨v,nf,v8⟩:=hl.get hp
  rw[bz] at nf
  refine aR gw ?_
  rw[aI cL _]
  show wpAny _ A.in1 (seqItems? (.ref S)>>= _) _ _ s
  refine ao (aW hs rfl ?_)
  show wpAny _ A.in1 (tryCatch (pyNext (.ref I)) _>>= _) _ _ s
  refine ao (cB (cm hit ⟨_,ho,rfl,_,rfl⟩ nf fun h' md km=> ?_))
  have BK:=km.extBut S _ zW.symm hs
  have u1:=kx hI km.extBut
  have Iv': ∀nI,(∀b o,b≠I→b≠S→s.heap.get? b=some o→nI.get? b=some o)→Inv L {s with heap:=nI}:=fun nI k=>⟨fun a o e=>k a o (by rintro rfl;rw[Ry] at e;(first|exact VS e|cases e)) (by rintro rfl;rw[Vo] at e;(first|exact VS e|cases e)) (Iv.iA a o e),Iv.bare⟩
  unfold qU at hr
  replace hr:=Option.bind_eq_some_iff.mp hr
  obtain⟨y,hy,hr⟩:=hr
  show wpAny _ A.in1 (tryCatch (holding [v,v] (richCompare .Lt v vb>>= _)) _>>= _) _ _ _
  refine ao (cB (aP (ao (Dp (gt:=false) 3 _ _ p best v vb y (v8.up u1) (hb.up u1) hy (by show A.units+1+3+1<cLine;omega) _ _ ?_))))
  refine ao (aP (cZ ?_))
  refine ao (cI (aw ?_))
  cases y with
  |true=>
   simp only[if_true] at hr ⊢
   refine ao ?_
   refine cF BK rfl (ao (cI ?_))
   rw[n6]
   have kk: ∀b o,b≠S→h'.get? b=some o→(h'.update S (Obj.mapSeq fun _=> #[v,v])).get? b=some o:=fun b o h2 e=>(bg _ _ (Ne.symm h2)).trans e
   have u2:Up h' X (h'.update S (Obj.mapSeq fun _=> #[v,v])) X:=fun a o ha e=>⟨ha,kk a o (fun x=>ha (x▸hS)) e⟩
   exact aw ⟨bf cL _,ih (i+1) _ p r v _ (Iv' _ fun b o h1 h2 e=>kk b o h2 (km.extBut b o h1 e)) hd2 jF ((hv.up u1).up u2) (md.at fun o e=>kk I o zW e) (aQ _ BK rfl) ((v8.up u1).up u2) hr fun v' nI wJ rG=>hR v' nI wJ fun b o h1 h2 e=>rG b o h1 h2 (kk b o h2 (km.extBut b o h1 e))⟩
  |false=>
   simp only[aV,if_false] at hr ⊢
   refine ao (cI ?_)
   rw[n6]
   exact aw ⟨bf cL _,ih (i+1) _ best r vb c (Iv' _ fun b o h1 h2 e=>km.extBut b o h1 e) hd2 jF (hv.up u1) md BK (hb.up u1) hr fun v' nI wJ rG=>hR v' nI wJ fun b o h1 h2 e=>rG b o h1 h2 (km.extBut b o h1 e)⟩
theorem FD{A:aF}{R:eL→aq→Prop}{ax I S:Addr}{p:PV}{ps:List PV}(hI:I∈X)(hS:S∈X)(zW:I≠S)(hh:A.handled=none)(hu:A.units+6<cLine){s:aq}{r:PV}{c:Nat}
  (hv:VR L.prog L.w s.heap X (.list (p::ps)) (.ref ax))(hit:s.heap.IsListIter I ax 0)(hs:s.heap.get? S=some {cls:= .type "list",dict:=none,data:= .seq #[] c,slots:= #[]})(hr:qU true ps p=some r)
  (hR: ∀v h',VR L.prog L.w h' X r v→(∀b o,b≠I→b≠S→s.heap.get? b=some o→h'.get? b=some o)→R (.ok (.ret v)) {s with heap:=h'}):
  codeAny L.M A (.builtin "max.loop" ⟨[.ref I,.none,.ref S],[]⟩) R s:=by
 have n6:(toString "max"++toString ".loop":String)="max.loop":=by decide
 obtain⟨a,xs,n,e,ha,ho,hl⟩:=id hv.listE
 skip;(first|exact VS e|cases e)
 obtain⟨v,nf,v8⟩:=hl.get (i:=0) (p:=p) rfl
 rw[bz] at nf
 refine aR gy ?_
 rw[aI cM _]
 show wpAny _ A.in1 (seqItems? (.ref S)>>= _) _ _ s
 refine ao (aW hs rfl ?_)
 show wpAny _ A.in1 (tryCatch (pyNext (.ref I)) _>>= _) _ _ s
 refine ao (cB (cm hit ⟨_,ho,rfl,_,rfl⟩ nf fun h' md km=> ?_))
 have BK:=km.extBut S _ zW.symm hs
 have u1:=kx hI km.extBut
 show wpAny _ A.in1 (updateSeq S (fun _=> #[v,v])>>= _) _ _ _
 refine ao ?_
 refine cF BK rfl ?_
 rw[n6]
 have kk: ∀b o,b≠S→h'.get? b=some o→(h'.update S (Obj.mapSeq fun _=> #[v,v])).get? b=some o:=fun b o h2 e=>(bg _ _ (Ne.symm h2)).trans e
 have u2:Up h' X (h'.update S (Obj.mapSeq fun _=> #[v,v])) X:=fun a o ha e=>⟨ha,kk a o (fun x=>ha (x▸hS)) e⟩
 exact aw ⟨bf cM _,HY hI hS zW hh hu ps 1 _ p r v _ rfl (by simp) ((hv.up u1).up u2) (md.at fun o e=>kk I o zW e) (aQ _ BK rfl) ((v8.up u1).up u2) hr fun v' nI wJ rG=>hR v' nI wJ fun b o h1 h2 e=>rG b o h1 h2 (kk b o h2 (km.extBut b o h1 e))⟩
theorem FE{A:aF}{R:eL→aq→Prop}{ax I S:Addr}{p:PV}{ps:List PV}(hI:I∈X)(hS:S∈X)(zW:I≠S)(hh:Hd L A)(Ry:L.look I=none)(Vo:L.look S=none)(hu:A.units+6<cLine){s:aq}(Iv:Inv L s){r:PV}{c:Nat}
  (hv:VR L.prog L.w s.heap X (.list (p::ps)) (.ref ax))(hit:s.heap.IsListIter I ax 0)(hs:s.heap.get? S=some {cls:= .type "list",dict:=none,data:= .seq #[] c,slots:= #[]})(hr:qU false ps p=some r)
  (hR: ∀v h',VR L.prog L.w h' X r v→(∀b o,b≠I→b≠S→s.heap.get? b=some o→h'.get? b=some o)→R (.ok (.ret v)) {s with heap:=h'}):
  codeAny L.M A (.builtin "min.loop" ⟨[.ref I,.none,.ref S],[]⟩) R s:=by
 have n6:(toString "min"++toString ".loop":String)="min.loop":=by decide
 obtain⟨a,xs,n,e,ha,ho,hl⟩:=id hv.listE
 skip;(first|exact VS e|cases e)
 obtain⟨v,nf,v8⟩:=hl.get (i:=0) (p:=p) rfl
 rw[bz] at nf
 refine aR gw ?_
 rw[aI cL _]
 show wpAny _ A.in1 (seqItems? (.ref S)>>= _) _ _ s
 refine ao (aW hs rfl ?_)
 show wpAny _ A.in1 (tryCatch (pyNext (.ref I)) _>>= _) _ _ s
 refine ao (cB (cm hit ⟨_,ho,rfl,_,rfl⟩ nf fun h' md km=> ?_))
 have BK:=km.extBut S _ zW.symm hs
 have u1:=kx hI km.extBut
 show wpAny _ A.in1 (updateSeq S (fun _=> #[v,v])>>= _) _ _ _
 refine ao ?_
 refine cF BK rfl ?_
 rw[n6]
 have kk: ∀b o,b≠S→h'.get? b=some o→(h'.update S (Obj.mapSeq fun _=> #[v,v])).get? b=some o:=fun b o h2 e=>(bg _ _ (Ne.symm h2)).trans e
 have u2:Up h' X (h'.update S (Obj.mapSeq fun _=> #[v,v])) X:=fun a o ha e=>⟨ha,kk a o (fun x=>ha (x▸hS)) e⟩
 exact aw ⟨bf cL _,H4 hI hS zW hh Ry Vo hu ps 1 _ p r v _ ⟨fun a o e=>kk a o (by rintro rfl;rw[Vo] at e;(first|exact VS e|cases e)) (km.extBut a o (by rintro rfl;rw[Ry] at e;(first|exact VS e|cases e)) (Iv.iA a o e)),Iv.bare⟩ rfl (by simp) ((hv.up u1).up u2) (md.at fun o e=>kk I o zW e) (aQ _ BK rfl) ((v8.up u1).up u2) hr fun v' nI wJ rG=>hR v' nI wJ fun b o h1 h2 e=>rG b o h1 h2 (kk b o h2 (km.extBut b o h1 e))⟩
end
section
variable {L:ig}
noncomputable def H5(gt:Bool):List PV→Option PV
 |p::ps=>qU gt ps p
 |[]=>none
theorem yY{gt:Bool}{l:List PV}{r:PV}(h:H5 gt l=some r): ∃p ps,l=p::ps∧qU gt ps p=some r:=by
 cases l with
 |nil=>exact hO h
 |cons p ps=>exact⟨p,ps,rfl,h⟩
noncomputable def OL(ps:List PV):Option PV:=A3 (lx (H5 true)) ps
theorem Vp(hn:L.exc=none):iM L 0 (.builtin "max") OL:=by
 intro A X s ps vs r Q E R x I jE hg hQ
 have n6:(toString "max"++toString ".loop":String)="max.loop":=by decide
 replace hg:=lV hg
 obtain⟨_,rfl,hg⟩:=hg
 replace hg:=i7 hg
 obtain⟨_,rfl,hg⟩:=hg
 replace hg:=yY hg
 obtain⟨p,ps,rfl,hg⟩:=hg
 obtain⟨v,rfl,hv⟩:=gV.one jE
 obtain⟨a,xs,n,rfl,ha,ho,hl⟩:=id hv.listE
 refine call_function_tree F.kind_max F.plain_max F.entry_max (F.args_max1 _) ?_
 show wpAny _ A.in1 (aC.Builtins.bindParams "max" ["key","default"] 0 ⟨[],[]⟩>>= _) _ _ s
 refine ao (cw (show aC.Builtins.bindParams "max" ["key","default"] 0 ⟨[],[]⟩=pure [none,none] from rfl) ?_)
 refine ao (aw ?_)
 refine ao (cG ⟨_,ho,rfl,_,rfl⟩ ?_)
 refine ao (bl ?_)
 rw[n6]
 generalize eh:(s.heap.push {cls:= .type "list_iterator",data:= .fields #[.ref a,.int 0 0]})=h₁
 have hsz:h₁.objs.size=s.heap.objs.size+1:=by rw[←eh];exact aZ ..
 have k1: ∀b o,s.heap.get? b=some o→h₁.get? b=some o:=fun b o e=>by rw[←eh];exact iq _ _ b o e
 have hit:h₁.IsListIter s.heap.objs.size a 0:=by rw[←eh];exact⟨_,aB _ rfl,rfl,rfl⟩
 let X':List Addr:=s.heap.objs.size::h₁.objs.size::X
 have f1:s.heap.get? s.heap.objs.size=none:=g9 _
 have f2:s.heap.get? h₁.objs.size=none:=by
  cases e:s.heap.get? h₁.objs.size with
  |none=>rfl
  |some o=>have:=aH e;rw[hsz] at this;exact absurd this (Nat.not_lt.mpr (du _))
 have kk: ∀b o,s.heap.get? b=some o→(h₁.push {cls:= .type "list",data:= .seq #[]}).get? b=some o:=fun b o e=>iq _ _ b o (k1 b o e)
 have up:Up s.heap X (h₁.push {cls:= .type "list",data:= .seq #[]}) X':=fun b o hb e=>⟨fun hm=>by
  rcases List.mem_cons.mp hm with rfl|hm
  ·rw[f1] at e;(first|exact VS e|cases e)
  rcases List.mem_cons.mp hm with rfl|hm
  ·rw[f2] at e;(first|exact VS e|cases e)
  ·exact hb hm,kk b o e⟩
 have zW:s.heap.objs.size≠h₁.objs.size:=by rw[hsz];exact(gf _).symm
 have hu:A.units+6<cLine:=by have:=R.units;show A.units+6<9900;omega
 refine aw ⟨bf cM _,?_⟩
 refine FD (X:=X') (aA ..) (av _ (aA ..)) zW (R.none hn) hu (hv.up up) (hit.at fun o e=>iq _ _ _ o e) (aB _ rfl) hg fun v' h' nf oN=> ?_
 have kf: ∀b o,s.heap.get? b=some o→h'.get? b=some o:=fun b o e=>oN b o (fun h=>by rw[h,f1] at e;(first|exact VS e|cases e)) (fun h=>by rw[h,f2] at e;(first|exact VS e|cases e)) (kk b o e)
 exact hQ _ _ (nf.up fun b o hb e=>⟨fun hm=>hb (av _ (av _ hm)),e⟩) (gN.Bv (tk:=s.toks) I x kf)
noncomputable def Dq(ps:List PV):Option PV:=A3 (lx (H5 false)) ps
theorem KQ:iM L 0 (.builtin "min") Dq:=by
 intro A X s ps vs r Q E R x I jE hg hQ
 have n6:(toString "min"++toString ".loop":String)="min.loop":=by decide
 replace hg:=lV hg
 obtain⟨_,rfl,hg⟩:=hg
 replace hg:=i7 hg
 obtain⟨_,rfl,hg⟩:=hg
 replace hg:=yY hg
 obtain⟨p,ps,rfl,hg⟩:=hg
 obtain⟨v,rfl,hv⟩:=gV.one jE
 obtain⟨a,xs,n,rfl,ha,ho,hl⟩:=id hv.listE
 refine call_function_tree F.kind_min F.plain_min F.entry_min (F.args_min1 _) ?_
 show wpAny _ A.in1 (aC.Builtins.bindParams "min" ["key","default"] 0 ⟨[],[]⟩>>= _) _ _ s
 refine ao (cw (show aC.Builtins.bindParams "min" ["key","default"] 0 ⟨[],[]⟩=pure [none,none] from rfl) ?_)
 refine ao (aw ?_)
 refine ao (cG ⟨_,ho,rfl,_,rfl⟩ ?_)
 refine ao (bl ?_)
 rw[n6]
 generalize eh:(s.heap.push {cls:= .type "list_iterator",data:= .fields #[.ref a,.int 0 0]})=h₁
 have hsz:h₁.objs.size=s.heap.objs.size+1:=by rw[←eh];exact aZ ..
 have k1: ∀b o,s.heap.get? b=some o→h₁.get? b=some o:=fun b o e=>by rw[←eh];exact iq _ _ b o e
 have hit:h₁.IsListIter s.heap.objs.size a 0:=by rw[←eh];exact⟨_,aB _ rfl,rfl,rfl⟩
 let X':List Addr:=s.heap.objs.size::h₁.objs.size::X
 have f1:s.heap.get? s.heap.objs.size=none:=g9 _
 have f2:s.heap.get? h₁.objs.size=none:=by
  cases e:s.heap.get? h₁.objs.size with
  |none=>rfl
  |some o=>have:=aH e;rw[hsz] at this;exact absurd this (Nat.not_lt.mpr (du _))
 have kk: ∀b o,s.heap.get? b=some o→(h₁.push {cls:= .type "list",data:= .seq #[]}).get? b=some o:=fun b o e=>iq _ _ b o (k1 b o e)
 have up:Up s.heap X (h₁.push {cls:= .type "list",data:= .seq #[]}) X':=fun b o hb e=>⟨fun hm=>by
  rcases List.mem_cons.mp hm with rfl|hm
  ·rw[f1] at e;(first|exact VS e|cases e)
  rcases List.mem_cons.mp hm with rfl|hm
  ·rw[f2] at e;(first|exact VS e|cases e)
  ·exact hb hm,kk b o e⟩
 have zW:s.heap.objs.size≠h₁.objs.size:=by rw[hsz];exact(gf _).symm
 have hu:A.units+6<cLine:=by have:=R.units;show A.units+6<9900;omega
 refine aw ⟨bf cL _,?_⟩
 refine FE (X:=X') (aA ..) (av _ (aA ..)) zW R.handled (wg I) (by cases e:L.look h₁.objs.size with|none=>rfl|some o=>have:=I.iA _ _ e;rw[f2] at this;(first|exact VS this|cases this)) hu (I.keeps (tk:=s.toks) kk) (hv.up up) (hit.at fun o e=>iq _ _ _ o e) (aB _ rfl) hg fun v' h' nf oN=> ?_
 have kf: ∀b o,s.heap.get? b=some o→h'.get? b=some o:=fun b o e=>oN b o (fun h=>by rw[h,f1] at e;(first|exact VS e|cases e)) (fun h=>by rw[h,f2] at e;(first|exact VS e|cases e)) (kk b o e)
 exact hQ _ _ (nf.up fun b o hb e=>⟨fun hm=>hb (av _ (av _ hm)),e⟩) (gN.Bv (tk:=s.toks) I x kf)
end
end
section
open PySem PySem.SeqAt
theorem FF:typeLookup (.type "list") "keys"=pure none:=by rw[cj,bI];kernel_rfl
end
section
open PySem PySem.SeqAt
theorem qx:plainId "dict.update.loop"=true:=by decide+kernel
theorem yZ:entryFor table "dict.update.loop"=some aC.«dict.update.loop»:=dU (by kernel_rfl)
noncomputable def H6(p:PV):Option (Int×PV):=Ep (Kt fun p v=>pY (fun k=>some (k,v)) p) p
theorem Dr{p:PV}{r:Int×PV}(h:H6 p=some r):p= .tup [.int r.1,r.2]:=
 (tx h).elim fun _ h=>(su h.2).elim fun _ h1=>h1.elim fun _ h1=>(ly h1.2).elim fun _ h2=>by rw[h.1,h1.1,h2.1,←Option.some.inj h2.2]
noncomputable def Ds:List PV→List Int×List PV→Option (List Int×List PV)
 |[],r=>some r
 |p::ps,r=>(H6 p).bind fun kv=>if r.1.length≤1000 then Ds ps (kB r.1 r.2 kv.1 kv.2) else none
section
variable {L:ig} {X:List Addr}
theorem xY{A:aF}{E:Value→aq→Prop}{s:aq}{a:Addr}{xs:Array Value}{n:Nat}{Q:List Value→aq→Prop}(ho:s.heap.get? a=some {cls:= .type "tuple",data:= .seq xs n})(h:Q xs.toList s):
  wpAny L.M A (aC.Dict.pairItems (.ref a)) Q E s:=by
 unfold aC.Dict.pairItems
 refine ao (ee (T:="tuple") ⟨_,ho,rfl⟩ ?_)
 rw[if_pos (by decide)]
 exact ao (aW ho rfl (aw h))
end
end
section
open PySem PySem.SeqAt
section
variable {L:ig}
noncomputable def mh(ps:List PV):Option MV:=A3 (lx fun l=>(Ds l ([],[])).map fun r=> .Ba r.1 r.2) ps
end
end
section
open PySem PyProof.Rows
section
variable {L:ig} {sc:Scope} {σ:gO} {own:List Str} {k:Nat}
theorem KR:ng L (inplaceOp .BitXor) ME:=j6 fun h x I hQ=>PyProof.Rows.ixor_int (hQ _ _ (j7 h▸VR.mkInt _ _) (gN.toks I x _))
theorem OM:ng L (inplaceOp .BitOr) NT:=j6 fun h x I hQ=>PyProof.Rows.ior_int (hQ _ _ (j7 h▸VR.mkInt _ _) (gN.toks I x _))
noncomputable def H7(p q:PV):Option PV:=lZ (fun a b=>some (.int (a+b))) p q
theorem KS:ng L (inplaceOp .Add) H7:=j6 fun h x I hQ=>PyProof.Rows.iadd_int (hQ _ _ (j7 h▸VR.mkInt _ _) (gN.toks I x _))
theorem S1.aug{e:aM}{x:Str}{p pos:cP}{op:Operator}{i:Nat}{f:List MV→Option PV}{g:PV→PV→Option PV}(he:SE L sc σ k e f)(hop:ng L (inplaceOp op) g)(hx:x∈own)(hi:lb σ x i):
  S1 L sc σ own k false (.AugAssign (.Name x p) op e pos) (fun ρ=>(gQ ρ[i]?).bind fun a=>(f ρ).bind fun b=>(g a b).map fun v=>(.next,ρ.set i (.p v))):=by
 intro env A Y Z s ρ ρ' fl Q E R F I kH kh hf hQ
 replace hf:=Option.bind_eq_some_iff.mp hf
 obtain⟨a,ha,hf⟩:=hf
 replace hf:=Option.bind_eq_some_iff.mp hf
 obtain⟨b,hb,hf⟩:=hf
 obtain⟨v,hv,e'⟩:=Option.map_eq_some_iff.mp hf
 skip;(first|exact VS e'|cases e')
 have jC:=qq ha
 obtain⟨va,r,m⟩:=F.fr.rd x i hi.1 _ jC (by intro h;(first|exact VS h|cases h))
 have hk:env.scope.kind= .function:=by rw[F.fr.scope];exact F.fr.kind
 have go:wpAny L.M A (eval e env) (fun v gZ=>wpAny L.M A (inplaceOp op va v) (fun r jc=>wpAny L.M A (storeName env x r) (fun _=>Q .next) E jc) E gZ) E s:=by
  refine he env A _ s ρ b _ E R F.fr I hb fun u s₁ hu d=> ?_
  refine hop A _ s₁ a b v va u _ E (R.less (aE _)) d.xo d.inv ((show VR L.prog L.w s.heap (Y++Z) a va from m).up d.up) hu hv fun y gZ hy gW=> ?_
  refine((F.done d).done gW).bind gW.inv hx hi hy fun jc kQ jb=> ?_
  exact hQ.one rfl kQ ((gS.jQ (d.trans gW)).trans (fun b h=> .inl h) jb)
 refine wpAny_AugAssign_Name ?_
 rcases r with⟨hl,m',hn,hm⟩|⟨hl|hl,hcd,c,hc,hv⟩
 ·exact cH hk hl hn hm go
 ·exact wpAny_loadName_cell hk hl hc hv go
 ·exact wpAny_loadName_free hk hl hc hv go hcd
theorem SS.flag{g g':Bool}{body:List Stmt}{f:List MV→Option (Fl×List MV)}(h:SS L sc σ own k g body f)(hg:g=g'):SS L sc σ own k g' body f:=hg▸h
end
end
section
open PySem PyProof.Rows
section
variable {L:ig} {sc:Scope} {σ:gO} {own:List Str} {k:Nat}
noncomputable def J0(L:ig)(σ:gO)(env:b8)(Y Z:List Addr)(h:Heap)(ρ:List MV)(mv:MV)(v:Value):Prop:=
 ru L h (Y++Z) mv v∧ ∀a,mv.owned=true→v= .ref a→(a∈Y∧a≠env.locals)∧ ∀z j nh,¬ Holds σ env h ρ z j nh a
noncomputable def Qk(q r:MV×Value):Prop:=q.1.owned=true→r.1.owned=true→q.2≠r.2
structure n7(L:ig)(Y Y':List Addr)(s s':aq):Prop where
 FG: ∀b∈Y',b∈Y∨s.heap.get? b=none
 sub: ∀b∈Y,b∈Y'
 keep: ∀b o,b≠L.tb→s.heap.get? b=some o→s'.heap.get? b=some o
 inv:Inv L s'
 os:s'.os=s.os
 drawn:s'.drawn=s.drawn
theorem n7.new{Y Y' X:List Addr}{s s':aq}(g:n7 L Y Y' s s')(x:XO L X s'.heap){b:Addr}(h:s'.heap.get? b=none):s.heap.get? b=none:=by
 cases e:s.heap.get? b with
 |none=>rfl
 |some o=>
  by_cases ht:b=L.tb
  ·exact absurd (ht▸x.tb) (x.fresh h)
  ·exact hO (h.symm.trans (g.keep b o ht e))
theorem n7.trans{Y Y' Vk X:List Addr}{s s' ph:aq}(g:n7 L Y Y' s s')(x:XO L X s'.heap)(g':n7 L Y' Vk s' ph):n7 L Y Vk s ph:=
 ⟨fun b hb=>(g'.FG b hb).elim (g.FG b) fun h=> .inr (g.new x h),fun b hb=>g'.sub b (g.sub b hb),fun b o ht e=>g'.keep b o ht (g.keep b o ht e),g'.inv,g'.os.trans g.os,g'.drawn.trans g.drawn⟩
theorem J0.keep{env:b8}{Y Y' Z:List Addr}{s s':aq}{ρ:List MV}{mv:MV}{v:Value}(p:J0 L σ env Y Z s.heap ρ mv v)(F:FS L sc σ own env Y Z s.heap ρ)(g:n7 L Y Y' s s'):J0 L σ env Y' Z s'.heap ρ mv v:=by
 refine⟨p.1.up (fun b o hb e=>⟨fun hm=>(List.mem_append.mp hm).elim (fun h=>(g.FG b h).elim (fun h=>hb (az _ h)) fun h=>hO (h.symm.trans e)) fun h=>hb (au _ h),g.keep b o (fun h=>hb (h▸F.fr.xo.tb)) e⟩)
  fun b hb ht=>⟨(List.mem_append.mp hb).elim (fun h=>az _ (g.sub b h)) (au _),fun o e=>g.keep b o ht e⟩,fun a ho e=>⟨⟨g.sub a (p.2 a ho e).1.1,(p.2 a ho e).1.2⟩,fun z j nh H=>(p.2 a ho e).2 z j nh ⟨H.lk,H.val,H.ow,?_⟩⟩⟩
 exact(F.fr.rd z j H.lk nh H.val (nr H.ow)).elim fun u r=>(r.1.up (fun o e=>g.keep _ o F.fr.locals.1 e) fun c o hc e=>g.keep c o (F.fr.cells z c hc).1 e).unique H.rd▸r.1
theorem J0.stored{env:b8}{Y Z:List Addr}{h h':Heap}{ρ:List MV}{mv nv:MV}{v w:Value}{x:Str}{i:Nat}{D:Addr}(p:J0 L σ env Y Z h ρ mv w)(F:FS L sc σ own env Y Z h ρ)(hi:lb σ x i)(hD:D∈Y)(Ee:D=env.locals∨ ∃u,h.IsCell D u)(S:rz env x v D h h')(hd:Qk (nv,v) (mv,w)):J0 L σ env Y Z h' (ρ.set i nv) mv w:=by
 refine⟨p.1.vH (fun b o hb e=>⟨hb,S.keep b o (fun h=>hb (h▸az _ hD)) e⟩) fun a o ea ha _ hg hc ho=>⟨ha,S.keep a o (fun e=>Ee.elim (fun h=>(p.2 a ho ea).1.2 (e.trans h)) fun⟨u,o',lr,e'⟩=>hc u (Option.some.inj (hg.symm.trans (e▸lr))▸e')) hg⟩,fun a ho e=>⟨(p.2 a ho e).1,fun z j nh H=> ?_⟩⟩
 by_cases ej:j=i
 ·subst ej
  obtain rfl:=we H.val
  obtain rfl:=hi.2 z H.lk
  exact hd H.ow ho ((S.here.unique H.rd).trans e.symm)
 ·have hv:ρ[j]? =some nh:=yO ej▸H.val
  exact(F.fr.rd z j H.lk nh hv (nr H.ow)).elim fun u r=>(p.2 a ho e).2 z j nh ⟨H.lk,hv,H.ow,(S.others z u (fun e=>ej (Option.some.inj (H.lk.symm.trans (e▸hi.1)))) r.1).unique H.rd▸r.1⟩
inductive Ts (M:Model) (env:b8):List (Value→Sem Unit)→List Str→Prop
 |nil:Ts M env [] []
 |cons {t:Value→Sem Unit} {x:Str} {ts:List (Value→Sem Unit)} {xs:List Str}:(∀(A:aF) (v:Value) (Q:Unit→aq→Prop) (E:Value→aq→Prop) (s:aq),wpAny M A (PySem.storeName env x v) Q E s→wpAny M A (t v) Q E s)→Ts M env ts xs→Ts M env (t::ts) (x::xs)
noncomputable def Rz:List Nat→List MV→List MV→List MV
 |i::is,m::ms,ρ=>Rz is ms (ρ.set i m)
 |_,_,ρ=>ρ
theorem FS.M3{env:b8}{Y Z:List Addr}{A:aF}{E:Value→aq→Prop}{Q:Unit→aq→Prop}{xs:List Str}{is:List Nat}(hn:i4 own σ xs is): ∀{ts:List (Value→Sem Unit)} {ms:List MV} {vs:List Value} {ρ:List MV} {s:aq},Ts L.M env ts xs→xs.length=ms.length→ms.length=vs.length→FS L sc σ own env Y Z s.heap ρ→Inv L s→
  (∀q∈ms.zip vs,J0 L σ env Y Z s.heap ρ q.1 q.2)→(ms.zip vs).Pairwise Qk→(∀s',FS L sc σ own env Y Z s'.heap (Rz is ms ρ)→gS L Y s s'→Q () s')→wpAny L.M A (assignInOrder ts vs) Q E s:=by
 induction hn with
 |nil=>
  intro ts ms vs ρ s ht h1 h2 F I _ _ hQ
  skip;(first|exact VS ht|cases ht)
  cases ms<;>cases vs<;>first|exact absurd h1 (bB _).symm|exact absurd h2 (bB _).symm|exact dq (hQ _ F (gS.refl I))
 |cons hx hi _ ih=>
  intro ts ms vs ρ s ht h1 h2 F I hp hd hQ
  cases ht with
  |cons t ht=>
   cases ms with
   |nil=>exact absurd h1 (bB _)
   |cons m ms=>
    cases vs with
    |nil=>exact absurd h2 (bB _)
    |cons v vs=>
     have hd:=List.pairwise_cons.mp hd
     have p:=hp _ (aA ..)
     refine dh (t A v _ _ _ (F.storeName hx fun D h' tk hD yP Ee S=> ?_))
     have I':Inv L {s with heap:=h',toks:=tk}:=⟨fun b o e=>S.keep b o (fun h=>hO ((F.fr.xo.look D (az _ hD)).symm.trans (h▸e))) (I.iA b o e),I.bare⟩
     exact ih ht (Nat.succ.inj h1) (Nat.succ.inj h2) (F.setG hi.1 hi.2 hD yP Ee S p.1 fun a ho e=>⟨(p.2 a ho e).1,fun z j nh _=>(p.2 a ho e).2 z j nh⟩) I' (fun q hq=>(hp q (av _ hq)).stored F hi hD Ee S (hd.1 q hq)) hd.2
      fun s' F' d'=>hQ s' F' (gS.trans ⟨fun b o _ hb e=>S.keep b o (fun e=>hb (e▸hD)) e,I',rfl,rfl⟩ (fun b h=> .inl h) d')
noncomputable def VL(L:ig)(sc:Scope)(σ:gO)(own:List Str)(k:Nat)(es:List aM)(f:List MV→Option (List MV)):Prop:=
 ∀(env:b8) (A:aF) (Y Z:List Addr) (s:aq) (ρ ms:List MV) (pos:cP) (Q:List Value→aq→Prop) (E:Value→aq→Prop),i5 L k A→FS L sc σ own env Y Z s.heap ρ→Inv L s→f ρ=some ms→
  (∀vs s' Y',FS L sc σ own env Y' Z s'.heap ρ→n7 L Y Y' s s'→ms.length=vs.length→(∀q∈ms.zip vs,J0 L σ env Y' Z s'.heap ρ q.1 q.2∧ ∀a,q.1.owned=true→q.2= .ref a→s.heap.get? a=none)→(ms.zip vs).Pairwise Qk→Q vs s')→wpAny L.M A (spliced (backTo pos (starEach es env))) Q E s
theorem VL.nil:VL L sc σ own k [] (fun _=>some []):=by
 intro env A Y Z s ρ ms pos Q E R F I hf hQ
 skip;(first|exact VS hf|cases hf)
 exact cW (hQ [] s Y F ⟨fun b h=> .inl h,fun _ h=>h,fun _ _ _ e=>e,I,rfl,rfl⟩ rfl (fun _ h=>nomatch h) .nil)
theorem VL.cons{e:aM}{es:List aM}{g:List MV→Option (List MV)}{f:List MV→Option MV}(h: ∀(env:b8) (A:aF) (Y Z:List Addr) (s:aq) (ρ:List MV) (mv:MV) (Q:Value→aq→Prop) (E:Value→aq→Prop),i5 L k A→FS L sc σ own env Y Z s.heap ρ→Inv L s→f ρ=some mv→
   (∀v s' Y',FS L sc σ own env Y' Z s'.heap ρ→n7 L Y Y' s s'→J0 L σ env Y' Z s'.heap ρ mv v→(∀a,mv.owned=true→v= .ref a→s.heap.get? a=none)→Q v s')→wpAny L.M A (eval e env) Q E s)
  (hs:VL L sc σ own k es g)(he: ∀env,starEach (e::es) env=(false,eval e env)::starEach es env):VL L sc σ own k (e::es) (fun ρ=>(f ρ).bind fun a=>(g ρ).map (a:: ·)):=by
 intro env A Y Z s ρ ms pos Q E R F I hf hQ
 replace hf:=Option.bind_eq_some_iff.mp hf
 obtain⟨a,te,hf⟩:=hf
 obtain⟨as,V0,rfl⟩:=Option.map_eq_some_iff.mp hf
 refine di (he:=he env) (h env A Y Z s ρ a _ E R F I te fun v s₁ wu jq FH p new=>hs env A wu Z s₁ ρ as pos _ E R jq FH.inv V0 fun vs gZ WX jK RA hl hp hd=> ?_)
 refine hQ (v::vs) gZ WX jK (FH.trans jq.fr.xo RA) (congrArg (· +1) hl) (List.forall_mem_cons.mpr ⟨⟨p.keep jq RA,new⟩,fun q hq=>⟨(hp q hq).1,fun b ho e=>FH.new jq.fr.xo ((hp q hq).2 b ho e)⟩⟩) (List.pairwise_cons.mpr ⟨fun q hq o1 o2 e=> ?_,hd⟩)
 obtain⟨b,o,eb,_,_,hg,_⟩:=p.1.addr o1
 exact hO (((hp q hq).2 b o2 (e.symm.trans eb)).symm.trans hg)
theorem VL.new{e:aM}{es:List aM}{f:List MV→Option MV}{g:List MV→Option (List MV)}(h:OE L sc σ k e f)(hs:VL L sc σ own k es g)(he: ∀env,starEach (e::es) env=(false,eval e env)::starEach es env):VL L sc σ own k (e::es) (fun ρ=>(f ρ).bind fun a=>(g ρ).map (a:: ·)):=
 VL.cons (fun env A Y Z s ρ mv Q E R F I hf hQ=>h env A _ s ρ mv Q E R F.fr I hf fun a s₁ ha d ho hm=>hQ (.ref a) s₁ (a::Y) (F.Hb ha d) ⟨fun b hb=>(List.mem_cons.mp hb).elim (fun e=> .inr (e▸ha)) .inl,fun b hb=>av _ hb,d.keep,d.inv,d.os,d.drawn⟩
  ⟨hm,fun b _ e=>Value.ref.inj e▸⟨⟨aA ..,fun e=>F.fr.xo.fresh ha (az _ (e▸F.tq))⟩,fun z j nh H=>(F.fr.rd z j H.lk nh H.val (nr H.ow)).elim fun u r=>(r.2.addr H.ow).elim fun b x=>x.elim fun o x=>F.fr.xo.fresh ha (Value.ref.inj (x.1.symm.trans ((r.1.up (fun o e=>d.keep _ o F.fr.locals.1 e) fun c o hc e=>d.keep c o (F.fr.cells z c hc).1 e).unique H.rd))▸x.2.1)⟩⟩
  fun b _ e=>Value.ref.inj e▸ha) hs he
theorem VL.CR{e:aM}{es:List aM}{f:List MV→Option PV}{g:List MV→Option (List MV)}(h:SE L sc σ k e f)(hs:VL L sc σ own k es g)(he: ∀env,starEach (e::es) env=(false,eval e env)::starEach es env):VL L sc σ own k (e::es) (fun ρ=>((f ρ).map MV.p).bind fun a=>(g ρ).map (a:: ·)):=
 VL.cons (fun env A Y Z s ρ mv Q E R F I hf hQ=>by
  obtain⟨p,hp,rfl⟩:=Option.map_eq_some_iff.mp hf
  exact h env A _ s ρ p Q E R F.fr I hp fun v s₁ hv d=>hQ v s₁ Y (F.done d) ⟨fun b hb=> .inl hb,fun _ hb=>hb,d.keep,d.inv,d.os,d.drawn⟩ ⟨hv,fun _ ho=>Bool.noConfusion ho⟩ fun _ ho=>Bool.noConfusion ho) hs he
theorem VL.taken{es:List aM}{ek:Nat}{xZ:cP}{f:List MV→Option (List MV)}(h:VL L sc σ own k es f){env:b8}{A:aF}{Y Z:List Addr}{s:aq}{ρ ms:List MV}{Q:Value→aq→Prop}{E:Value→aq→Prop}(R:i5 L k A)(F:FS L sc σ own env Y Z s.heap ρ)(I:Inv L s)(hf:f ρ=some ms)(hs:ms.length≤100)
  (hQ: ∀tv s',(∀(Q':List Value→aq→Prop) (E':Value→aq→Prop),(∀vs ph Y',FS L sc σ own env Y' Z ph.heap ρ→n7 L Y Y' s ph→ms.length=vs.length→(∀q∈ms.zip vs,J0 L σ env Y' Z ph.heap ρ q.1 q.2)→(ms.zip vs).Pairwise Qk→Q' vs ph)→wpAny L.M A (unpackItems tv ms.length none) Q' E' s')→Q tv s'):wpAny L.M A (eval (.Tuple es ek xZ) env) Q E s:=by
 refine PySem.wpAny_Tuple (h env A Y Z s ρ ms xZ _ E R F I hf fun vs s₁ wu jq FH hl hp hd=>⟨Nat.le_trans (hl▸hs) (by decide),hQ _ _ fun Q' E' Dm=> ?_⟩)
 have gW:gN L (wu++Z) s₁ {s₁ with heap:=s₁.heap.push {cls:= .type "tuple",data:= .seq vs.toArray}}:=gN.push FH.inv jq.fr.xo _ s₁.toks
 rw[show ms.length=vs.toArray.size from hl]
 refine pT (s:={s₁ with heap:=s₁.heap.push {cls:= .type "tuple",data:= .seq vs.toArray}}) R.handled gW.inv ⟨_,aB _ rfl,rfl,_,rfl⟩ fun h₃ hx=> ?_
 have jb:gN L (wu++Z) s₁ {s₁ with heap:=h₃}:=gW.trans (gN.of_keep (s:={s₁ with heap:=s₁.heap.push {cls:= .type "tuple",data:= .seq vs.toArray}}) gW.inv gW.xo (fun b o e=>hx b o (fun e'=>absurd (aH (e'▸e)) (bE _)) e) s₁.toks)
 have RB:n7 L wu wu s₁ {s₁ with heap:=h₃}:=⟨fun b hb=> .inl hb,fun _ hb=>hb,jb.keep,jb.inv,jb.os,jb.drawn⟩
 exact Dm vs _ wu (jq.done jb) (FH.trans jq.fr.xo RB) hl (fun q hq=>(hp q hq).1.keep jq RB) hd
end
end
section
open PySem PyProof.Rows
section
variable {L:ig} {sc:Scope} {σ:gO} {own:List Str} {k:Nat}
theorem Ts.names{M:Model}{env:b8}: ∀xs:List Str,Ts M env (xs.map fun n=>bindName env n) xs:=by
 intro xs
 induction xs with
 |nil=>exact .nil
 |cons _ xs iu=>exact .cons (fun _ _ _ _ _ h=>fW h) (iu)
theorem Ts.elts{M:Model}{env:b8}{es:List aM}{xs:List Str}(h:ia es xs):Ts M env ((assignEach es env).map (·.2)) xs:=by
 induction h with
 |nil=>exact .nil
 |cons _ ih=>exact .cons (fun _ _ _ _ _ h=>cV h) ih
theorem KU{l:List (MV×Value)}(h:l.Pairwise Qk):l.reverse.Pairwise Qk:=List.pairwise_reverse.mpr (h.imp fun h o1 o2 e=>h o2 o1 e.symm)
theorem n7.M4{Y Y' X:List Addr}{s s' ph:aq}(g:n7 L Y Y' s s')(x:XO L X s'.heap)(d:gS L Y' s' ph):gS L Y s ph:=
 gS.trans ⟨fun b o ht _ e=>g.keep b o ht e,g.inv,g.os,g.drawn⟩ g.FG d
noncomputable def RC(n i1 i2 i3:Nat)(f1:List MV→Option MV)(f2:List MV→Option PV)(f3:List MV→Option MV)(ρ:List MV):Option (Fl×List MV):=
 if ρ.length≤n then(f1 ρ).bind fun m1=>(f2 ρ).bind fun p2=>(f3 ρ).map fun m3=>(.next,((ρ.set i3 m3).set i2 (.p p2)).set i1 m1) else none
theorem S1.RD{WY:List aM}{kk ek:Nat}{qF xZ pos:cP}{e1 e2 e3:aM}{x1 x2 x3:Str}{i1 i2 i3:Nat}{f1:List MV→Option MV}{f2:List MV→Option PV}{f3:List MV→Option MV}(h1:OE L sc σ k e1 f1)(h2:SE L sc σ k e2 f2)(h3:OE L sc σ k e3 f3)
  (BH:x1∈own)(JZ:x2∈own)(WV:x3∈own)(WZ:lb σ x1 i1)(W0:lb σ x2 i2)(hi3:lb σ x3 i3)(MW:HC σ=true)(W2: ∀env,starEach [e1,e2,e3] env=(false,eval e1 env)::starEach [e2,e3] env)(W3: ∀env,starEach [e2,e3] env=(false,eval e2 env)::starEach [e3] env)(he3: ∀env,starEach [e3] env=(false,eval e3 env)::starEach [] env)
  (hs: ∀env,env.scope=sc→swapsWithSole [.Tuple WY kk qF] (.Tuple [e1,e2,e3] ek xZ) pos.line env=pure false)(hw: ∀env,env.scope=sc→swappedStores [.Tuple WY kk qF] (.Tuple [e1,e2,e3] ek xZ) env=pure (some [x1,x2,x3])):
  S1 L sc σ own k true (.Assign [.Tuple WY kk qF] (.Tuple [e1,e2,e3] ek xZ) pos) (RC σ.length i1 i2 i3 f1 f2 f3):=by
 intro env A Y Z s ρ ρ' fl Q E R F I kH kh hf hQ
 replace hf:=zz hf
 obtain⟨ib,hf⟩:=hf
 replace hf:=Option.bind_eq_some_iff.mp hf
 obtain⟨m1,RE,hf⟩:=hf
 replace hf:=Option.bind_eq_some_iff.mp hf
 obtain⟨p2,Ql,hf⟩:=hf
 obtain⟨m3,Vq,e'⟩:=Option.map_eq_some_iff.mp hf
 skip;(first|exact VS e'|cases e')
 refine eM (names:=[x1,x2,x3]) (hs:=hs env F.fr.scope) (hw:=hw env F.fr.scope) ((VL.new h1 (VL.CR h2 (VL.new h3 VL.nil he3) W3) W2).taken R F I (ms:=[m1,.p p2,m3]) (by rw[RE,Ql,Vq];rfl) (by decide:3≤100) fun tv s' H=>H _ _ fun vs ph Y' F' g hl hp hd=> ?_)
 have jB:[m1,.p p2,m3].reverse.length=vs.reverse.length:=by rw[d2,d2];exact hl
 have hz:[m1,.p p2,m3].reverse.zip vs.reverse=([m1,.p p2,m3].zip vs).reverse:=(List.reverse_zipWith hl).symm
 exact FS.M3 (.cons WV hi3 (.cons JZ W0 (.cons BH WZ .nil))) (Ts.names [x3,x2,x1]) rfl jB F' g.inv (fun q hq=>hp q (List.mem_reverse.mp (hz▸hq))) (hz▸KU hd) fun jc kQ jb=>hQ .next Y' jc rfl kQ g.FG (fun h=>nomatch h) (g.M4 F'.fr.xo jb)
end
end
section
open PySem PyProof.Rows
section
variable {L:ig} {sc:Scope} {σ:gO} {own:List Str} {k:Nat}
theorem DictAt.at'{K:Type}[DecidableEq K]{prog:Program}{w:dw}{knd:KeyKind prog w K}{h h':Heap}{a:Addr}{kvs:List (K×Value)}{ep:Nat}(x:h.DictAt knd a kvs ep)(e: ∀o,h.get? a=some o→h'.get? a=some o):h'.DictAt knd a kvs ep:=x.elim fun o x=>x.elim fun es x=>⟨o,es,e _ x.1,x.2⟩
theorem qG:entryFor table "dict_itemiterator.__iter__"=some aC.«dict_keyiterator.__iter__»:=entryFor_alias (id':="dict_keyiterator.__iter__") (by kernel_rfl) (by first|rfl|decide+kernel) (by decide+kernel) (by kernel_rfl)
noncomputable def y3:List Str→List PV→List PV
 |k::ks,v::vs=> .tup [.str k,v]::y3 ks vs
 |_,_=>[]
noncomputable def zX:PV→Option (List PV)
 | .ja ks vs=>some (y3 ks vs)
 |_=>none
theorem Dt{p:PV}{ps:List PV}(h:zX p=some ps): ∃ks vs,p= .ja ks vs∧y3 ks vs=ps:=by cases p<;>first|exact hO h|exact⟨_,_,rfl,Option.some.inj h⟩
theorem FI{h:Heap}{X:List Addr}: ∀{kvs:List (Str×Value)} {vs:List PV} (i:Nat) (p:PV),gV L.prog L.w h X vs (kvs.map (·.2))→(y3 (kvs.map (·.1)) vs)[i]? =some p→ ∃k v q,kvs[i]? =some (k,v)∧p= .tup [.str k,q]∧VR L.prog L.w h X q v:=by
 intro kvs
 induction kvs with
 |nil=>intro _ _ _ _ e;exact hO e
 |cons k0 kvs ih=>
  obtain⟨k0,v0⟩:=k0
  intro vs i p x e
  cases vs with
  |nil=>exact absurd x.length (bB _)
  |cons q vs=>
   cases i with
   |zero=>exact x.elim fun v x=>x.elim fun r x=>⟨_,_,q,rfl,(Option.some.inj e).symm,(show v0=v from(List.cons.inj x.1).1)▸x.2.1⟩
   |succ i=>exact x.elim fun v x=>x.elim fun r x=>ih i p ((List.cons.inj x.1).2▸x.2.2) e
theorem FJ{h:Heap}{X:List Addr}: ∀{kvs:List (Str×Value)} {vs:List PV},gV L.prog L.w h X vs (kvs.map (·.2))→(y3 (kvs.map (·.1)) vs).length=kvs.length:=by
 intro kvs
 induction kvs with
 |nil=>intro _ _;rfl
 |cons k0 kvs ih=>
  intro vs x
  cases vs with
  |nil=>exact absurd x.length (bB _)
  |cons q vs=>exact x.elim fun v x=>x.elim fun r x=>congrArg (· +1) (ih ((List.cons.inj x.1).2▸x.2.2))
theorem It.items(hn:L.exc=none){X:List Addr}{it d:Addr}{ep:Nat}{kvs:List (Str×Value)}{vs:List PV}(hi:it∈X)(ht:it≠L.tb)(hd:d∉X):
  It L X [it] it (y3 (kvs.map (·.1)) vs) (fun i h=>(∃ok ov,IsItemIter h it d i kvs.length ep ok ov)∧h.DictAt (strKind L.prog L.w) d kvs ep∧gV L.prog L.w h X vs (kvs.map (·.2))) true where
 N8:=all1 hi
 there:=fun i h st=>st.1.elim fun ok x=>x.elim fun ov h1=>all1 ⟨_,h1⟩
 frame:=fun i h h' st hk=>⟨st.1.elim fun ok x=>x.elim fun ov h1=>⟨ok,ov,hk it _ (fun _=>uW) h1⟩,DictAt.at' st.2.1 fun o e=>hk d o (fun h=>absurd h hd) e,st.2.2.up fun a o ha e=>⟨ha,hk a o (fun h=>absurd h ha) e⟩⟩
 self:=fun A i s Q E st hQ=>st.1.elim fun ok x=>x.elim fun ov h1=>
  have hT:s.TypeIs (.ref it) "dict_itemiterator":=⟨_,h1,rfl⟩
  wpAny_pyIter_slot hT gB (bw gB hT qG (aw ⟨_,rfl,"dict_itemiterator",_,hT,F.slot_dict_itemiterator_next.lookup,hQ⟩) (F.args_dict_itemiterator_iter_1 _))
 turn:=fun A i s p Q E Hf R x Iv st hp Q9 hQ=>by
  obtain⟨⟨ok,ov,h1⟩,h2,h3⟩:=st
  obtain⟨key,v,q,hkv,rfl,hq⟩:=FI i p h3 hp
  obtain⟨es,kk,pp,rfl⟩:=rB (Q9 rfl)
  refine wpAny_pyNext_items_item h1 h2 hkv fun kv h' G3 k1 k2 ksz kk=>⟨_,rfl,?_⟩
  obtain⟨t,rfl⟩:=Value.isStrOf_shape G3
  refine wpAny_letOwnedTupleGo_items k1 fun nI l1 ls=> ?_
  have hw: ∀a∈[it],a∈X:=all1 hi
  have hk: ∀b o,b∉[it]→s.heap.get? b=some o→nI.get? b=some o:=fun b o hb e'=>ls.extBut b o (fun h=>hb (h▸uW)) (kk b o (fun h=>hb (h▸uW)) e')
  have hu:=Ej hw hk
  exact hQ _ _ (.intro _ ⟨_,_,rfl,x.size,ls.extBut _ _ (d4 (aH h1)) k2,gV.cons (VR.mkStr _ _) (gV.cons (hq.up hu) gV.nil)⟩) ⟨⟨_,_,l1⟩,DictAt.at' h2 fun o e=>hk d o (fun h=>hd (List.mem_singleton.mp h▸hi)) e,h3.up hu⟩ (gS.rC Iv x hw hk _) (x.rC hw hk (fun h=>ht (List.mem_singleton.mp h).symm) (all1 ⟨_,l1⟩))
 done:=fun A s Q E R x Iv st hQ=>by
  obtain⟨⟨ok,ov,h1⟩,h2,h3⟩:=st
  rw[FJ h3] at h1
  refine wpAny_pyNext_items_end (R.none hn) h1 h2 (cQ (bu _)) fun h' hx=> ?_
  have hk: ∀b o,b∉[it]→s.heap.get? b=some o→h'.get? b=some o:=fun b o hb e'=>hx b o (fun h=>hb (h▸uW)) e'
  exact hQ _ (gS.rC Iv x (all1 hi) hk _) hk
theorem IE.items(hn:L.exc=none){x:Str}{xp apos pos:cP}{i:Nat}(hi:σ.lookup x=some i)(wy:(apos.endLine==pos.line)=true)(hd:(x==("__debug__":Str))=false):
  IE L sc σ k (.Call (.Attribute (.Name x xp) "items" apos) [] [] pos) true (fun ρ=>(gQ ρ[i]?).bind zX):=by
 intro env A X s ρ ps Q E R F I hf hQ
 replace hf:=Option.bind_eq_some_iff.mp hf
 obtain⟨p,hp,hf⟩:=hf
 obtain⟨ks,vs,rfl,rfl⟩:=Dt hf
 obtain⟨v,r,m⟩:=F.rd x i hi _ (qq hp) (fun h=>nomatch h)
 have hk:env.scope.kind= .function:=by rw[F.scope];exact F.kind
 obtain⟨a,kvs,rfl,ha,J9,hkk,hl⟩:=VR.oL (show VR L.prog L.w s.heap X (.ja ks vs) v from m)
 subst hkk
 obtain⟨o,es,ep,ho,r1⟩:=J9
 have hat:s.heap.DictAt (strKind L.prog L.w) a kvs ep:=⟨o,es,ho,r1⟩
 refine wpAny_Call_items (wa F.xo.sm ha) ⟨o,es,ep,ho,r1⟩ rfl wy (fun Q' hq=>r.eval hk hq hd) ?_
 refine wpAny_pyIter_items (d:=a) (kvs:=kvs) (ep:=ep) ⟨_,aB _ rfl,rfl,rfl⟩ (hat.push _) ?_
 have hsz:(s.heap.push {cls:= .type "dict_items",data:= .fields #[.ref a]}).objs.size=s.heap.objs.size+1:=aZ ..
 have k1: ∀b o,s.heap.get? b=some o→(s.heap.push {cls:= .type "dict_items",data:= .fields #[.ref a]}).get? b=some o:=fun b o e=>iq _ _ b o e
 generalize s.heap.push {cls:= .type "dict_items",data:= .fields #[.ref a]}=h₁ at hsz k1
 have f1:s.heap.get? h₁.objs.size=none:=by
  cases e':s.heap.get? h₁.objs.size with
  |none=>rfl
  |some o=>exact absurd (hsz▸aH e') (Nat.not_lt.mpr (du _))
 have g:=aB (o:={cls:= .type "dict_itemiterator",data:= .fields #[.none,.bool false,.ref a,.int 0 0,.int kvs.length 0,.int ep 0,.none,.none]}) h₁ rfl
 exact qr (s₁:=s) (wr:=[h₁.objs.size]) s.toks F.xo (gN.refl I F.xo) (fun b o e=>iq _ _ b o (k1 b o e)) (all1 f1) (all1 ⟨_,g⟩) uW hQ fun X' h1 h2 u _=>⟨_,It.items hn (kvs:=kvs) (ep:=ep) (h1 _ uW) (h2 _ uW) (u a o ha ho).1,⟨_,_,g⟩,DictAt.at' hat fun o e=>iq _ _ a o (k1 a o e),gV.up u hl⟩
end
end
section
open PySem PyProof.Rows
section
variable {L:ig} {sc:Scope} {σ:gO} {own:List Str} {k:Nat}
theorem gV.M5{h h':Heap}{X X':List Addr}: ∀{l:List Int} {vs:List Value},gV L.prog L.w h X (l.map .int) vs→gV L.prog L.w h' X' (l.map .int) vs:=by
 intro l
 induction l with
 |nil=>exact @fun _ x=>x
 |cons n l iu=>exact @fun _ x=>x.elim fun v x=>x.elim fun r x=> .intro v ⟨r,x.1,x.2.1.elim fun t e=> .intro t e,iu x.2.2⟩
structure J1(z TI TO i1 i2 a b:Addr)(xs ys:Array Value)(k:Nat)(h:Heap):Prop where
 hz:fD h z TI TO .none
 Dn:h.get? TI=some {cls:= .type "tuple",data:= .seq ([i1,i2].map Value.ref).toArray}
 A4: ∃kJ:Array Value,h.get? TO=some {cls:= .type "tuple",data:= .seq kJ}∧kJ.size=[i1,i2].length
 h1:h.IsTupleIter i1 a k
 h2:h.IsTupleIter i2 b k
 ha: ∃n,h.get? a=some {cls:= .type "tuple",data:= .seq xs n}
 hb: ∃n,h.get? b=some {cls:= .type "tuple",data:= .seq ys n}
theorem H8{x y z:Addr}{l:List Addr}:z∈x::y::z::l:= .tail _ in1
theorem J1.at'{z TI TO i1 i2 a b:Addr}{xs ys:Array Value}{k:Nat}{h h':Heap}(x:J1 z TI TO i1 i2 a b xs ys k h)(hk: ∀c∈[z,TI,TO,i1,i2,a,b],∀o,h.get? c=some o→h'.get? c=some o):J1 z TI TO i1 i2 a b xs ys k h' where
 hz:=hk z uW _ x.hz
 Dn:=hk TI in1 _ x.Dn
 A4:=x.A4.elim fun kJ e=>⟨kJ,hk TO H8 _ e.1,e.2⟩
 h1:=x.h1.at fun o e=>hk i1 (.tail _ H8) o e
 h2:=x.h2.at fun o e=>hk i2 (.tail _ (.tail _ H8)) o e
 ha:=x.ha.elim fun n e=>⟨n,hk a (.tail _ (.tail _ (.tail _ H8))) _ e⟩
 hb:=x.hb.elim fun n e=>⟨n,hk b (.tail _ (.tail _ (.tail _ (.tail _ H8)))) _ e⟩
theorem J1.src{z TI TO i1 i2 a b:Addr}{xs ys:Array Value}{k:Nat}{h:Heap}{as bs:List Int}(x:J1 z TI TO i1 i2 a b xs ys k h)(ha:a∉[z,TO,i1,i2])(hb:b∉[z,TO,i1,i2])(hx:gV L.prog L.w h [z,TO,i1,i2] (as.map .int) xs.toList)(hy:gV L.prog L.w h [z,TO,i1,i2] (bs.map .int) ys.toList):
  ∀(m:Nat) i ps,[i1,i2][m]? =some i→[as.map PV.int,bs.map PV.int][m]? =some ps→yW L [z,TO,i1,i2] h i (match m with|0=>(true,a)|_=>(true,b)) k ps:=fun
 |0,i,ps,hi,hp=>by (first|exact VS hi|cases hi);(first|exact VS hp|cases hp);exact x.ha.elim fun n e=> .inr ⟨rfl,x.h1,.intro a ⟨xs,n,rfl,ha,e,hx⟩⟩
 |1,i,ps,hi,hp=>by (first|exact VS hi|cases hi);(first|exact VS hp|cases hp);exact x.hb.elim fun n e=> .inr ⟨rfl,x.h2,.intro b ⟨ys,n,rfl,hb,e,hy⟩⟩
 |_+2,_,_,hi,_=>hO hi
theorem FK{A:aF}(hn:L.exc=none)(hA:A.handled=none){z TI TO i1 i2 a b:Addr}{xs ys:Array Value}{as bs:List Int}(Qe:[z,TO,i1,i2].Nodup)(Dn:TI∉[z,TO,i1,i2])(ha:a∉[z,TO,i1,i2])(hb:b∉[z,TO,i1,i2])(hl:as.length=bs.length)
  (hx: ∀h X,gV L.prog L.w h X (as.map .int) xs.toList)(hy: ∀h X,gV L.prog L.w h X (bs.map .int) ys.toList):
  WalksU L.prog L.w A z [z,TI,TO,i1,i2,a,b] [z,TO,i1,i2] as.length (fun i vals=> ∃p q t t',as[i]? =some p∧bs[i]? =some q∧vals= #[.int p t,.int q t']) (J1 z TI TO i1 i2 a b xs ys)
   (fun i T h=>T∉[z,TO,i1,i2]∧fD h z TI TO (rawInt T)∧ ∀h',(∀c o,c≠z→h.get? c=some o→h'.get? c=some o)→fD h' z TI TO .none→J1 z TI TO i1 i2 a b xs ys (i+1) h') where
 sub:=kA uW (kA H8 (kA (.tail _ H8) (all1 (.tail _ (.tail _ H8)))))
 frame:=fun i h h' st hk=>st.at' hk
 item:=fun i s Q E hi st hQ=>by
  have HR:s.TypeIs (.ref z) "zip":=⟨_,st.hz,rfl⟩
  obtain⟨kJ,A4,wI⟩:=st.A4
  have ea:as[i]? =some as[i]:=aG hi
  have eb:bs[i]? =some (bs[i]'(hl▸hi)):=aG _
  unfold pyNext
  refine ao (dv (bq (name:=Str.ofString "__next__") HR cE
   (bw cE HR eR (sz (L:=L) (X:=[z,TO,i1,i2]) (its:=[i1,i2]) (rs:=fun m=>match m with|0=>(true,a)|_=>(true,b)) (qT:=[as.map .int,bs.map .int]) (row:=[.int as[i],.int (bs[i]'(hl▸hi))]) (n:=2) (k:=i) (by show A.handled=_;rw[hA,hn];rfl) (fun h=>absurd hn h) (fun h=>absurd hn h) st.hz st.Dn A4 wI Qe (c8 _ _) (by decide:2≤100) (fun c h=>h) rfl rfl (bu 2) (st.src ha hb (hx _ _) (hy _ _)) (fun
    |0,ps,_,hp=>by (first|exact VS hp|cases hp);exact⟨.int as[i],by rw[aL,ea];rfl,rfl⟩
    |1,ps,_,hp=>by (first|exact VS hp|cases hp);exact⟨.int (bs[i]'(hl▸hi)),by rw[aL,eb];rfl,rfl⟩
    |_+2,_,_,hp=>hO hp) (fun ps hp=>hO hp) (fun _ h' qC k1 k2 k3 k4 k5 k6=> ?_) fun h=>absurd h (bE 2)) (eB _))))
  refine aw ?_
  obtain⟨v1,v2,e,e1,e2⟩:=gV.two k3
  obtain⟨t1,rfl⟩:=e1.ki
  obtain⟨t2,rfl⟩:=e2.ki
  have Kv: ∀c∈[z,TO,i1,i2],c<s.heap.objs.size:=kA (aH st.hz) (kA (aH A4) (st.h1.elim fun _ g1=>st.h2.elim fun _ g2=>kA (aH g1.1) (all1 (aH g2.1))))
  refine hQ _ _ _ _ ⟨as[i],_,t1,t2,ea,eb,Array.toList_inj.mp e⟩ ⟨_,k2,rfl,_,rfl⟩ ⟨fun hm=>absurd (Kv _ hm) (bE _),k1,fun nI hk W4=> ?_⟩ k6
  have n1: ∀c∈[TO,i1,i2],c≠z:=fun c hc e=>(List.nodup_cons.mp Qe).1 (e▸hc)
  have n2: ∀{c:Addr},c∉[z,TO,i1,i2]→c≠z:=fun h e=>h (e▸uW)
  have s1:h'.IsTupleIter i1 a (i+1):=(k5 0 i1 _ rfl rfl).elim (fun h=>Bool.noConfusion h.1) fun h=>h.2.1
  have s2:h'.IsTupleIter i2 b (i+1):=(k5 1 i2 _ rfl rfl).elim (fun h=>Bool.noConfusion h.1) fun h=>h.2.1
  exact⟨W4,hk _ _ (n2 Dn) (k6 _ _ Dn st.Dn),k4.elim fun ys' g=>⟨ys',hk _ _ (n1 TO uW) g.1,g.2⟩,s1.at fun o e=>hk _ o (n1 i1 in1) e,s2.at fun o e=>hk _ o (n1 i2 H8) e,st.ha.elim fun na g=>⟨na,hk _ _ (n2 ha) (k6 a _ ha g)⟩,st.hb.elim fun nb g=>⟨nb,hk _ _ (n2 hb) (k6 b _ hb g)⟩⟩
 go:=fun elts kk pos i T s Q E hm hQ=>wpAny_letOwnedTupleGo_zip hm.2.1 fun nI l1 ls=>hQ nI (hm.2.2 nI (fun c o hc e=>ls.extBut c o hc e) l1) fun c o hc e=>ls.extBut c o (fun e=>hc (e▸uW)) e
 apart:=fun i T h hm=>hm.1
 done:=fun s Q E st hQ=>by
  have HR:s.TypeIs (.ref z) "zip":=⟨_,st.hz,rfl⟩
  obtain⟨kJ,A4,wI⟩:=st.A4
  unfold pyNext
  refine ao (dv (bq (name:=Str.ofString "__next__") HR cE
   (bw cE HR eR (sz (L:=L) (X:=[z,TO,i1,i2]) (its:=[i1,i2]) (rs:=fun m=>match m with|0=>(true,a)|_=>(true,b)) (qT:=[as.map .int,bs.map .int]) (row:=[.none,.none]) (k:=as.length) (n:=0) (by show A.handled=_;rw[hA,hn];rfl) (fun h=>absurd hn h) (fun h=>absurd hn h) st.hz st.Dn A4 wI Qe (c8 _ _) (by decide:2≤100) (fun c h=>h) rfl rfl (aE _) (st.src ha hb (hx _ _) (hy _ _)) (fun m ps hm=>absurd hm (dW _)) (fun ps hp=>by (first|exact VS hp|cases hp);exact cQ (ba (aD _))) (fun e=>nomatch (e:0=2)) fun _ h' e hk he=> ?_) (eB _))))
  obtain⟨o,ho,hc⟩:=he
  exact ao (dj (T:="StopIteration") (b:=true) ⟨o,ho,hc⟩ fA (aw (hQ _ _ hk)))
 self:=fun i s Q E st hQ=>dT st.hz hQ
end
end
section
open PySem PyProof.Rows
section
variable {L:ig} {sc:Scope} {σ:gO} {own:List Str} {k:Nat}
noncomputable def Du(ps:List PV):Option PV:=Kt (fun p q=>Ep (fun a=>Ep (fun b=>(kz a).bind fun as=>(kz b).bind fun bs=>if as.length=bs.length∧as.length≤1000 then some (.tup ((List.zipWith (· + ·) as bs).map .int)) else none) q) p) ps
theorem H9{α:Type}: ∀{l:List α},l.length=2→ ∃a b,l=[a,b]
 |[a,b],_=>⟨a,b,rfl⟩
theorem BL{h:Heap}{c P:Addr}{ps:Array Value}(x:h.IsCode c P ps): ∃o,h.get? P=some o:=
 x.elim fun _ x=>x.elim fun _ x=>x.elim fun _ x=>x.elim fun _ x=>x.elim fun _ x=>x.elim fun _ x=>x.elim fun _ x=>x.elim fun _ x=>x.elim fun _ x=>x.elim fun op x=>⟨op,x.2.2.2.2.2.2.2.1⟩
structure RF(sc scope:Scope)(xa xb:Str):Prop where
 co:scope.isCoroutine=false
 W5: ∀env,closureFor scope env=pure []
 cell: ∀y∈scope.names,y.2≠ .cell
 dot:scope.names.lookup (".0":Str)=some NameKind.local
 a:scope.names.lookup xa=some .local
 b:scope.names.lookup xb=some .local
 ab:xa≠xb
 kind:scope.kind= .function
 host:vR sc=true
 da:(xa==("__debug__":Str))=false
 db:(xb==("__debug__":Str))=false
theorem BM(n:Nat):passing (fun _=>true) n 0=List.range n:=by simp[passing]
theorem Ia{X:List Addr}{s s₄ rE s':aq}{JX:Array Value}{C:Addr}{wr:List Addr}{g:Nat}{gs:GenState}{Dv:Heap}{tk:Nat}(F:XO L X s.heap)(I:Inv L s)(k4: ∀b o,b≠L.tb→s.heap.get? b=some o→s₄.heap.get? b=some o)(hos:s₄.os=s.os)(Wy:s₄.drawn=s.drawn)(hgn:AllBare s₄.gens)
  (hc:s₄.heap.IsCode L.iK L.tb JX∧s₄.heap.TableAt L.iK L.tb JX∧L.zw JX)(GA: ∀b∈C::wr,s.heap.get? b=none)(e5:rE={s₄ with gens:=s₄.gens.push gs,toks:=tk,heap:=Dv})(hb:gs.bare=true)(k5: ∀b o,s₄.heap.get? b=some o→Dv.get? b=some o)(hm:Moved (C::wr) (GenOnlyQ g) rE s'):
  gN L X s s':=by
 subst e5
 have tbw:L.tb∉C::wr:=fun h=>F.fresh (GA _ h) F.tb
 have up: ∀b o,b∉C::wr→s₄.heap.get? b=some o→s'.heap.get? b=some o:=fun b o h e=>hm.heap b o h (k5 b o e)
 have out: ∀b o,s.heap.get? b=some o→b∉C::wr:=fun b o e h=>hO ((GA b h).symm.trans e)
 have keep: ∀b o,b≠L.tb→s.heap.get? b=some o→s'.heap.get? b=some o:=fun b o hb e=>up b o (out b o e) (k4 b o hb e)
 refine⟨keep,⟨fun a o e=>keep a o (fun h=>hO (L.vU.symm.trans (h▸e))) (I.iA a o e),AllBare.movedS (s':=s') (s:={s₄ with gens:=s₄.gens.push gs,toks:=tk,heap:=Dv}) (AllBare.push hgn hb) hm⟩,⟨F.tb,F.sm,fun a ha=> ?_,F.look,?_⟩,hm.os.trans hos,hm.drawn.trans Wy⟩
 ·by_cases e:a=L.tb
  ·exact(BL hc.1).elim fun o h'=>⟨o,e▸up _ _ tbw h'⟩
  ·exact(F.there a ha).elim fun o ho=>⟨o,keep a o e ho⟩
 ·obtain⟨fp,hf,MS⟩:=L.GN _ _ hc
  obtain⟨oh,ON⟩:=L.vV
  exact⟨fp,L.vS _ _ fp hf fun b o hb e=>up b o (hb.elim (fun h=>h▸tbw) fun h=>MS b h▸out _ _ (I.iA _ _ ON)) e,fun a ha h=>hO ((F.look _ (MS a ha▸h)).symm.trans ON)⟩
theorem zY{A:aF}{E:Value→aq→Prop}{s:aq}{env:b8}{ps:Array Value}{pos:cP}{qualname:Str}{scope:Scope}{Q:Value→aq→Prop}(hc:env.code= .ref L.iK)(GC:s.heap.IsCode L.iK L.tb ps∧s.heap.TableAt L.iK L.tb ps∧L.zw ps)
  (hQ: ∀code h' tk JX,cX L.tb s.heap h'→(h'.IsCode L.iK L.tb JX∧h'.TableAt L.iK L.tb JX∧L.zw JX)→Q code {s with heap:=h',toks:=tk}):
  wpAny L.M A (genexprCode env pos qualname scope) Q E s:=by
 cases M6:codeAmong pos ps.toList with
 |some cv=>exact wpAny_genexprCode_hit hc GC.1 M6 (hQ cv s.heap s.toks ps (Heap.ExtBut.refl _ _) GC)
 |none=>exact wpAny_genexprCodeX hc GC.1 GC.2.1 M6 fun c' h' tk k1 _ _ k2 _ k3 _=>hQ _ h' tk _ k1 ⟨k2,k3,L.GL _ _ GC.2.2⟩
theorem Dw{ps:List PV}{r:PV}(h:Du ps=some r): ∃l1 l2 as bs,ps=[.tup l1,.tup l2]∧kz l1=some as∧kz l2=some bs∧(as.length=bs.length∧as.length≤1000)∧r= .tup ((List.zipWith (· + ·) as bs).map .int):=
 (su h).elim fun p h=>h.elim fun q h=>(tx h.2).elim fun l1 h1=>(tx h1.2).elim fun l2 h2=>(Option.bind_eq_some_iff.mp h2.2).elim fun as h3=>(Option.bind_eq_some_iff.mp h3.2).elim fun bs h4=>⟨l1,l2,as,bs,by rw[h.1,h1.1,h2.1],h3.1,h4.1,kg h4.2⟩
theorem Ib{A:aF}{X:List Addr}{s:aq}{Q E:Value→aq→Prop}{l1 l2:List PV}{as bs:List Int}{vs:List Value}(jE:gV L.prog L.w s.heap X [.tup l1,.tup l2] vs)(ha:kz l1=some as)(hb:kz l2=some bs)
  (k: ∀a b xs ys n m h' z TI TO i1 i2,a∉X→b∉X→s.heap.get? a=some (seqObj true xs n)→s.heap.get? b=some (seqObj true ys m)→(∀h X,gV L.prog L.w h X (as.map .int) xs.toList)→(∀h X,gV L.prog L.w h X (bs.map .int) ys.toList)→sD s.heap [(true,a),(true,b)] h' z TI TO [i1,i2]→Q (.ref z) {s with heap:=h'}):
  wpAny L.M A (PySem.call (.type "zip") vs) Q E s:=
 jE.two.elim fun v h=>h.elim fun u h=>h.2.1.mK.elim fun a h1=>h1.elim fun xs h1=>h1.elim fun n h1=>h.2.2.mK.elim fun b h2=>h2.elim fun ys h2=>h2.elim fun m h2=>by
  rw[h.1,h1.1,h2.1]
  exact yX (t1:=true) (t2:=true) h1.2.2.1 h2.2.2.1 fun h' z TI TO its M=>(H9 M.len).elim fun i1 h3=>h3.elim fun i2 h3=>
   k a b xs ys n m h' z TI TO i1 i2 h1.2.1 h2.2.1 h1.2.2.1 h2.2.2.1 (fun _ _=>gV.M5 (oO ha▸h1.2.2.2)) (fun _ _=>gV.M5 (oO hb▸h2.2.2.2)) (h3▸M)
theorem Ic{h h' h₃:Heap}{z TI TO i1 i2 a b:Addr}{xs ys:Array Value}{n m:Nat}(M:sD h [(true,a),(true,b)] h' z TI TO [i1,i2])(ha:h.get? a=some (seqObj true xs n))(hb:h.get? b=some (seqObj true ys m))(up: ∀c o,h'.get? c=some o→c≠L.tb→h₃.get? c=some o)(OO: ∀c,(c=TI∨c∈[z,TO,i1,i2])→c≠L.tb)(na:a≠L.tb)(nb:b≠L.tb):J1 z TI TO i1 i2 a b xs ys 0 h₃:=
 ⟨up _ _ M.hz (OO z (.inr uW)),up _ _ M.Dn (OO TI (.inl rfl)),M.A4.elim fun kJ g=>⟨kJ,up _ _ g.1 (OO TO (.inr in1)),g.2⟩,⟨_,up _ _ (M.KP 0 i1 _ rfl rfl) (OO i1 (.inr H8)),rfl,rfl⟩,⟨_,up _ _ (M.KP 1 i2 _ rfl rfl) (OO i2 (.inr (.tail _ H8))),rfl,rfl⟩,⟨n,up _ _ (M.keep _ _ ha) na⟩,⟨m,up _ _ (M.keep _ _ hb) nb⟩⟩
theorem KV{h₃:Heap}{z TI TO i1 i2 a b:Addr}{xs ys:Array Value}{i:Nat}(st:J1 z TI TO i1 i2 a b xs ys i h₃): ∀c∈[z,TI,TO,i1,i2,a,b],c<h₃.objs.size:=
 kA (aH st.hz) (kA (aH st.Dn) (st.A4.elim fun _ g=>kA (aH g.1) (st.h1.elim fun _ g1=>st.h2.elim fun _ g2=>kA (aH g1.1) (kA (aH g2.1) (st.ha.elim fun _ ga=>st.hb.elim fun _ gb=>kA (aH ga) (all1 (aH gb)))))))
theorem SE.OP(hn:L.exc=Option.none){tn zn xa xb:Str}{np zp p1 p2 p3 pa pb pt cp pos pos':cP}{kt:Nat}{scope:Scope}{e:aM}{es:List aM}{f:List MV→Option (List PV)}
  (ht:sc.names.lookup tn=some .globalImplicit)(htv:L.gl tn=some (.type "tuple"))(hz:sc.names.lookup zn=some .globalImplicit)(hzv:L.gl zn=some (.type "zip"))(ok:RF sc scope xa xb)(ha:LE L sc σ k (e::es) f)
  (he: ∀env,starEach (e::es) env=(false,eval e env)::starEach es env)(qD: ∀env,(starEach (e::es) env).any (·.1)=false)
  (hg: ∀env x,genFold (.Call (.Name zn zp) (e::es) [] cp) env x=pure x)(HZ:(tn==("__debug__":Str))=false)(hd2:(zn==("__debug__":Str))=false):
  SE L sc σ k (.Call (.Name tn np) [.GeneratorExp (.BinOp (.Name xa p1) .Add (.Name xb p2) p3) [⟨.Tuple [.Name xa pa,.Name xb pb] kt pt,.Call (.Name zn zp) (e::es) [] cp,[],0⟩] scope pos] [] pos') (fun ρ=>(f ρ).bind Du):=by
 intro env A X s ρ r Q E R F I hf hQ
 refine(Option.bind_eq_some_iff.mp hf).elim fun qs hf=>(Dw hf.2).elim fun l1 h=>h.elim fun l2 h=>h.elim fun as h=>h.elim fun bs h=> ?_
 have ib:=h.2.2.2.1
 have hh:=R.none hn
 have sa:env.scope.kind= .function:=by rw[F.scope];exact F.kind
 refine bT (aN sa (by unfold b8.kindOf;rw[F.scope];exact ht) (L.rt s env A tn _ _ E I.iA F.globals F.builtins.1 htv ?_) HZ)
 suffices key:wpAny L.M A (spliced (backTo pos' (starEach [aM.GeneratorExp (.BinOp (.Name xa p1) .Add (.Name xb p2) p3) [⟨.Tuple [.Name xa pa,.Name xb pb] kt pt,.Call (.Name zn zp) (e::es) [] cp,[],0⟩] scope pos] env))) (fun vs s'=>wpAny L.M A (PySem.call (.type "tuple") vs) Q E s') E s from
  PySem.callWith_type rfl (b7 (rest:=[]) key)
 refine di (rest:=[]) (he:=rfl) ?_
 refine wpAny_GeneratorExp_walksQTD hh ok.co (ok.W5 env) ok.cell ok.dot ok.a ok.b ok.ab ok.kind R.limit ?_ (hg env)
 refine bT (aN sa (by unfold b8.kindOf;rw[F.scope];exact hz) (L.rt s env A zn _ _ E I.iA F.globals F.builtins.1 hzv ?_) hd2)
 refine sr (.type _) ha he qD R F I hf.1 fun vs s₁ jE d=> ?_
 refine Ib (h.1▸jE) h.2.1 h.2.2.1 fun a b xs ys n m h' z TI TO i1 i2 rZ hbX BH JZ Rw hr2 M=> ?_
 refine dT M.hz ?_
 have Ie: ∀a o,L.look a=some o→h'.get? a=some o:=fun a o e=>M.keep a o (d.inv.iA a o e)
 refine⟨L.noLimit _ Ie,?_⟩
 obtain⟨fp,MS,_⟩:=d.xo.tab
 obtain⟨wF,Ig⟩:=L.zx _ _ MS
 have OQ:h'.IsCode L.iK L.tb wF∧h'.TableAt L.iK L.tb wF∧L.zw wF:=⟨Ig.1.keeps M.keep,Ig.2.1.keeps M.keep,Ig.2.2⟩
 refine zY (F.builtins.2.1 ok.host) OQ fun code h₃ RG JX KW M7=> ?_
 have M8: ∀a o,L.look a=some o→a≠L.tb:=fun a o e h=>by rw[h,L.vU] at e;(first|exact VS e|cases e)
 rw[F.globals,F.builtins.1]
 refine L.Ka _ _ _ _ (fun a o e=>KW a o (M8 a o e) (Ie a o e)) ?_
 have new: ∀c,(c=TI∨c∈[z,TO,i1,i2])→s₁.heap.get? c=Option.none:=fun c hc=>by
  cases e':s₁.heap.get? c with
  |none=>rfl
  |some o=>exact absurd (aH e') (Nat.not_lt.mpr (M.new c hc))
 have W6: ∀c,c∈[z,TO,i1,i2]→s.heap.get? c=Option.none:=fun c hc=>d.fresh F.xo (new c (.inr hc))
 have OO: ∀c,(c=TI∨c∈[z,TO,i1,i2])→c≠L.tb:=fun c hc e=>d.xo.fresh (new c hc) (e▸d.xo.tb)
 have na:a∉[z,TO,i1,i2]:=fun h=>hO ((new a (.inr h)).symm.trans BH)
 have nb:b∉[z,TO,i1,i2]:=fun h=>hO ((new b (.inr h)).symm.trans JZ)
 have st:J1 z TI TO i1 i2 a b xs ys 0 h₃:=Ic (L:=L) M BH JZ (fun c o e hc=>KW c o hc e) OO (fun e=>rZ (e▸d.xo.tb)) (fun e=>hbX (e▸d.xo.tb))
 have KY:h₃.NoLimit:=L.noLimit _ fun a o e=>KW a o (M8 a o e) (Ie a o e)
 refine⟨z,[z,TI,TO,i1,i2,a,b],[z,TO,i1,i2],as.length,_,_,_,fun _=>true,fun i y=> ∃p q t,as[i]? =some p∧bs[i]? =some q∧y= .int (p+q) t,rfl,fun A' hA=>FK hn hA M.nd M.apart na nb ib.1 Rw hr2,fun i vals hv=>by obtain⟨_,_,_,_,_,_,e⟩:=hv;exact⟨_,_,e⟩,st,KV st,KY,fun hm=> ?_,fun abN _=>⟨?_,?_⟩,?_⟩
 ·obtain⟨_,xN,_⟩:=L.noLimit s₁.heap d.inv.iA
  have:=xN.lt
  exact absurd (M.new _ (.inr hm)) (Nat.not_le.mpr this)
 ·intro A' E' i va vb gZ N3 _ _ _ _ _ _ _ _
  rw[eY]
  exact aw ⟨rfl,_,_,rfl,fun _ _ e=>e⟩
 ·intro A' E' i va vb gZ N3 _ _ _ hP _ xN ha2 RH _
  obtain⟨p,q,t,t',hp,hq,e⟩:=hP
  obtain⟨e1,e2⟩:va= .int p t∧vb= .int q t':=by simpa using congrArg Array.toList e
  subst e1 e2
  refine wpAny_BinOp (f9 (cH ok.kind ok.a xN ha2 (f9 (cH ok.kind ok.b xN RH ?_) ok.db)) ok.da)
  exact gk ⟨⟨p,q,_,hp,hq,rfl⟩,_,_,rfl,fun _ _ e=>e⟩
 ·intro abP Dv tk gs RI jF W7 k5 W RJ
  refine cW ?_
  rw[BM,dA] at W
  refine call_tuple_gen W.in4_3 (fun i s st=>st.1.typeIs) RJ (fun c hc=> ?_) (aA ..) (fun s' acc hm xR=> ?_) (by show _≤16777216;omega)
  ·show c<Dv.objs.size
   rw[W7]
   exact(List.mem_cons.mp hc).elim (fun h=>h▸dM _) fun h=>(List.mem_cons.mp h).elim (fun h=>h▸ef jF) fun h=>ef (bO (List.mem_range.mp h) jF)
  ·have M9: ∀b o,b≠L.tb→s.heap.get? b=some o→h₃.get? b=some o:=fun b o hb e=>KW b o hb (M.keep b o (d.keep b o hb e))
   have hC:s.heap.get? h₃.objs.size=Option.none:=by
    cases e':s.heap.get? h₃.objs.size with
    |none=>rfl
    |some o=>
     by_cases h:h₃.objs.size=L.tb
     ·exact(BL M7.1).elim fun o h2=>absurd (aH h2) (h▸bE _)
     ·exact absurd (aH (M9 _ _ h e')) (bE _)
   have D:=Ia (s₄:={s₁ with heap:=h₃,toks:=RG}) F.xo I M9 d.os d.drawn d.inv.bare M7 (kA hC W6) rfl RI k5 hm
   refine hQ _ _ (h.2.2.2.2▸ .intro _ ⟨_,_,rfl,D.xo.size,aB _ rfl,gV.MU ?_ fun j p v hp hv=> ?_⟩) (D.trans (gN.push D.inv D.xo _ s'.toks))
   ·rw[bM,aS,xR.1,aD,List.length_zipWith,←ib.1,d5]
   ·rw[bM,bz] at hv
    obtain⟨i,hi,x,y,t,hx,hy,rfl⟩:=xR.2 j v hv
    obtain rfl:j=i:=by obtain⟨h,e⟩:=List.getElem?_eq_some_iff.mp hi;rw[cN] at e;exact e
    rw[aL,List.getElem?_zipWith,hx,hy] at hp
    exact Option.some.inj hp▸VR.mkInt _ _
end
end
section
open PySem PyProof.Rows
section
variable {L:ig} {sc:Scope} {σ:gO} {own:List Str} {k:Nat}
noncomputable def BN(i:Nat)(ke ve:List MV→Option PV)(ρ:List MV):Option (Fl×List MV):=(ke ρ).bind fun q=>((ρ[i]?).bind MV.Oz).bind fun r=>
 onStr (fun n=>if r.1.length≤100000 then(kl r.1 r.2 n).bind fun o=>(ve ρ).bind fun v=>(H7 o v).map fun p=>(.next,ρ.set i (.zv (kB r.1 r.2 n p).1 (kB r.1 r.2 n p).2)) else none) q
theorem S1.KZ{x:Str}{xp sp pos:cP}{ke ve:aM}{i:Nat}{f g:List MV→Option PV}(hv:SE L sc σ k ve f)(hk:SE L sc σ k ke g)(hi:lb σ x i)(hd:(x==("__debug__":Str))=false)(ha: ∀ov iv new,augStore ke ov iv new=(do holding [new,ov,iv] (setItem ov iv new);release [new,ov,iv] [];pure .next)):
  S1 L sc σ own k false (.AugAssign (.Subscript (.Name x xp) ke sp) .Add ve pos) (BN i g f):=by
 intro env A Y Z s ρ ρ' fl Q E R F I kH kh hf hQ
 replace hf:=Option.bind_eq_some_iff.mp hf
 obtain⟨q,hq,hf⟩:=hf
 have sa:env.scope.kind= .function:=by rw[F.fr.scope];exact F.fr.kind
 replace hf:=Option.bind_eq_some_iff.mp hf
 obtain⟨rr,jC,hf⟩:=hf
 replace jC:=Option.bind_eq_some_iff.mp jC
 obtain⟨mv,jC,h'⟩:=jC
 obtain rfl:=MV.Eu h'
 replace hf:=j9 hf
 obtain⟨n,rfl,hf⟩:=hf
 replace hf:=zz hf
 obtain⟨hsz,hf⟩:=hf
 replace hf:=Option.bind_eq_some_iff.mp hf
 obtain⟨o,ho,hf⟩:=hf
 replace hf:=Option.bind_eq_some_iff.mp hf
 obtain⟨v,nf,hf⟩:=hf
 obtain⟨r,v8,e'⟩:=Option.map_eq_some_iff.mp hf
 clear hf
 skip;(first|exact VS e'|cases e')
 refine wpAny_AugAssign_SubscriptAny ?_ ha
 obtain⟨a,hr,hm⟩:=F.oQ hi.1 jC rfl
 refine hr.eval sa ?_ hd
 refine hk env A _ s ρ _ _ E R F.fr I hq fun u s₁ hu iE=> ?_
 refine hu.E8 fun t=> ?_
 have jq:=F.done iE
 obtain⟨a',kvs,e,rZ,hat,tA,Dg,hkk,hl⟩:=hm
 skip;(first|exact VS e|cases e)
 have RK:=jl Dg fun o e=>iE.keep _ o hat e
 obtain⟨y,hy,hyr⟩:=wc hkk (hl.up iE.up) ho
 have dt:=gN.toks iE.inv iE.xo (s₁.toks+1)
 refine wpAny_getItem_of (knd:=strKind L.prog L.w) (isStrOf_self n t) RK.mapOf hy ?_
 have RL:=jq.done dt
 refine hv env A _ _ ρ _ _ E R RL.fr dt.inv nf fun KL gZ RM gW=> ?_
 refine KS A _ gZ o v r y KL _ E (R.less (aE _)) gW.xo gW.inv ((hyr.up dt.up).up gW.up) RM v8 fun w jc hw jb=> ?_
 have dd:=((iE.trans dt).trans gW).trans jb
 have kQ:=F.done dd
 have RN:Reads env jc.heap x (.ref a):=hr.up (fun o e=>dd.keep _ o F.fr.locals.1 e) (fun c o hc e=>dd.keep c o (F.fr.cells x c hc).1 e)
 have Ey:=jl Dg fun o e=>dd.keep _ o hat e
 refine wB (isStrOf_self n t) rZ Ey hkk (hl.up dd.up) hw hsz fun h' kP k1 k2 k3 k4=> ?_
 have k:=kQ.zS (nv:= .zv _ _) (tk:=jc.toks+1) (gS.jQ dd) hi jC rfl RN k1 rfl ⟨a,kP,rfl,rZ,hat,tA,k2,k3,k4⟩
 exact hQ.one rfl k.1 k.2
end
end
section
open PySem PyProof.Rows
noncomputable def sG(h:Heap)(e:Addr):Prop:= ∃o vs a0,h.get? e=some o∧o.cls= .type "StopIteration"∧o.data= .fields vs∧vs[0]? =some a0∧vs[1]? =some .none∧vs[2]? =some .none
section
variable {L:ig} {A:aF} {E:Value→aq→Prop} {s:aq}
theorem OR{α:Type}{Q:α→aq→Prop}(hH:A.handled=none)(h: ∀h' e,(∀b o,s.heap.get? b=some o→h'.get? b=some o)→s.heap.get? e=none→sG h' e→E (.ref e) {s with heap:=h'}):
  wpAny L.M A (newExc (.type "StopIteration") []>>= fun e=>(raiseNew e:Sem α)) Q E s:=by
 refine ao ?_
 simp only[newExc,newTuple]
 refine ao (bl ?_ (by size_fits))
 refine ao (m:=firstArgMember _ _) (cw (a:=Value.none) (by first|rfl|(simp only[firstArgMember];rfl)) ?_)
 refine bl ?_ (by size_fits)
 unfold raiseNew
 refine ao (wpAny_handled ?_)
 rw[hH]
 refine ao (aw (fx (h _ _ (fun b o e=>ay _ (ay _ e)) ?_ ⟨_,_,_,aB _ rfl,rfl,rfl,rfl,rfl,rfl⟩)))
 cases e:s.heap.get? (s.heap.push {cls:= .type "tuple",data:= .seq #[]}).objs.size with
 |none=>rfl
 |some o=>exact absurd (aH (ay _ e)) (bE _)
theorem FL{it l:Addr}{i:Nat}{items:Array Value}{x:Value}{Q:Value→aq→Prop}(hit:s.heap.IsListIter it l i)(hl:s.heap.IsList l items)(hx:items[i]? =some x)
  (hQ: ∀h',h'.IsListIter it l (i+1)→fJ it s.heap h'→Q x {s with heap:=h'}):wpAny L.M A (call (.builtin "next") [.ref it]) Q E s:=by
 refine cx (by decide+kernel) (by decide+kernel) PySem.W.kdk_entry_next (PySem.W.kdk_args_next _) ?_
 unfold aC.«next»
 refine ao (m:=someArgs "next" 1 2 _) (cw (a:=[Value.ref it]) (by first|rfl|kernel_rfl!) ?_)
 show wpAny _ _ (specialOf (.ref it) "__next__">>= _) _ _ s
 refine ao (bF hit.typeIs bS.lookup ?_)
 simp only[Option.isNone_some,aV,if_false]
 show wpAny _ _ (callSpecial? (.ref it) (Str.ofString "__next__")>>= _) _ _ s
 obtain⟨o,ho,hc,hd⟩:=id hit
 obtain⟨ol,Kj,_,nl,Kk⟩:=hl
 refine ao (bq (name:=Str.ofString "__next__") hit.typeIs bS
  (bw bS hit.typeIs ck ?_ (cD _)))
 show wpAny _ _ (field (.ref it) 0>>= _) _ _ s
 refine ao (aT ho hd (x:= .ref l) rfl ?_)
 show wpAny _ _ (if (Value.ref l==Value.none)=true then _ else _) _ _ s
 rw[if_neg (show ¬ ((Value.ref l==Value.none)=true) from bk)]
 show wpAny _ _ (field (.ref it) 1>>= _) _ _ s
 refine ao (aT ho hd (x:= .int i 0) rfl ?_)
 show wpAny _ _ (seqItems? (.ref l)>>= _) _ _ s
 refine ao (aW Kj Kk ?_)
 simp only[bG,hx]
 refine ao (cC ho hd (by simp) (aw ⟨x,rfl,aw ⟨x,rfl,hQ _ ?_ (Heap.SameBut.update ..)⟩⟩))
 exact⟨_,aQ _ ho (Obj.isFreed_of_fields (Obj.data_mapFields hd _)),(Obj.cls_mapFields ..).trans hc,by
  rw[Obj.data_mapFields hd];simp[rawInt]⟩
theorem Ih{it l:Addr}{i:Nat}{items:Array Value}{Q:Value→aq→Prop}(hH:A.handled=none)(hit:s.heap.IsListIter it l i)(hl:s.heap.IsList l items)(hx:items[i]? =none)
  (hE: ∀h' e,(∀b o,b≠it→s.heap.get? b=some o→h'.get? b=some o)→(∃o,h'.get? it=some o)→s.heap.get? e=none→sG h' e→E (.ref e) {s with heap:=h'}):wpAny L.M A (call (.builtin "next") [.ref it]) Q E s:=by
 refine cx (by decide+kernel) (by decide+kernel) PySem.W.kdk_entry_next (PySem.W.kdk_args_next _) ?_
 unfold aC.«next»
 refine ao (m:=someArgs "next" 1 2 _) (cw (a:=[Value.ref it]) (by first|rfl|kernel_rfl!) ?_)
 show wpAny _ _ (specialOf (.ref it) "__next__">>= _) _ _ s
 refine ao (bF hit.typeIs bS.lookup ?_)
 simp only[Option.isNone_some,aV,if_false]
 show wpAny _ _ (callSpecial? (.ref it) (Str.ofString "__next__")>>= _) _ _ s
 obtain⟨o,ho,hc,hd⟩:=id hit
 obtain⟨ol,Kj,_,nl,Kk⟩:=hl
 refine ao (bq (name:=Str.ofString "__next__") hit.typeIs bS
  (bw bS hit.typeIs ck ?_ (cD _)))
 show wpAny _ _ (field (.ref it) 0>>= _) _ _ s
 refine ao (aT ho hd (x:= .ref l) rfl ?_)
 show wpAny _ _ (if (Value.ref l==Value.none)=true then _ else _) _ _ s
 rw[if_neg (show ¬ ((Value.ref l==Value.none)=true) from bk)]
 show wpAny _ _ (field (.ref it) 1>>= _) _ _ s
 refine ao (aT ho hd (x:= .int i 0) rfl ?_)
 show wpAny _ _ (seqItems? (.ref l)>>= _) _ _ s
 refine ao (aW Kj Kk ?_)
 simp only[bG,hx]
 refine ao (cR (ao (cC ho hd (by simp) ?_)))
 have hs:=Heap.SameBut.update s.heap it (Obj.mapFields (·.setIfInBounds 0 Value.none))
 have md:=aQ (Obj.mapFields (·.setIfInBounds 0 Value.none)) ho (Obj.isFreed_of_fields (Obj.data_mapFields hd _))
 refine OR hH fun h' e hk hn he=>hE h' e (fun b o hb e=>hk b o (hs.extBut b o hb e)) ⟨_,hk _ _ md⟩ ?_ he
 cases e':s.heap.get? e with
 |none=>rfl
 |some o'=>
  by_cases h:e=it
  ·subst h;rw[md] at hn;(first|exact VS hn|cases hn)
  ·rw[hs.extBut _ _ h e'] at hn;(first|exact VS hn|cases hn)
end
end
section
open PySem PyProof.Rows
section
variable {L:ig} {sc:Scope} {σ:gO} {own:List Str} {k:Nat}
structure RS(L:ig)(env:b8)(Y Z:List Addr)(s:aq)(e:Addr)(s':aq):Prop where
 done:gS L Y s s'
 new:s.heap.get? e=none
 stop:sG s'.heap e
 ns: ∃m,s'.heap.Ns env.locals m
 ex: ∀b,(∃o,s.heap.get? b=some o)→ ∃o,s'.heap.get? b=some o
 xo:XO L (Y++Z) s'.heap
noncomputable def Ez(L:ig)(sc:Scope)(σ:gO)(own:List Str)(k:Nat)(st:Stmt)(f:List MV→Option (Option Fl×List MV)):Prop:=
 ∀(env:b8) (A:aF) (Y Z:List Addr) (s:aq) (ρ ρ':List MV) (fl:Option Fl) (Q:Flow→aq→Prop) (E:Value→aq→Prop),
  i5 L k A→A.handled=none→FS L sc σ own env Y Z s.heap ρ→Inv L s→L.tb∈Z→sysModules∈Z→PassesOwn L.M A env E→f ρ=some (fl,ρ')→(∀zZ,fl=some zZ→wq L sc σ own false env Y Z s zZ ρ' Q)→(fl=none→ ∀e s',RS L env Y Z s e s'→E (.ref e) s')→wpAny L.M A (exec st env) Q E s
noncomputable def SX(L:ig)(sc:Scope)(σ:gO)(own:List Str)(k:Nat)(body:List Stmt)(f:List MV→Option (Option Fl×List MV)):Prop:=
 ∀(env:b8) (A:aF) (Y Z:List Addr) (s:aq) (ρ ρ':List MV) (fl:Option Fl) (Q:Flow→aq→Prop) (E:Value→aq→Prop),
  i5 L k A→A.handled=none→FS L sc σ own env Y Z s.heap ρ→Inv L s→L.tb∈Z→sysModules∈Z→PassesOwn L.M A env E→f ρ=some (fl,ρ')→(∀zZ,fl=some zZ→wq L sc σ own false env Y Z s zZ ρ' Q)→(fl=none→ ∀e s',RS L env Y Z s e s'→E (.ref e) s')→wpAny L.M A (execs body env) Q E s
theorem Ez.of{st:Stmt}{f:List MV→Option (Fl×List MV)}(h:S1 L sc σ own k false st f):Ez L sc σ own k st (fun ρ=>(f ρ).map fun r=>(some r.1,r.2)):=by
 intro env A Y Z s ρ ρ' fl Q E R hh F I kH kh hp hf hQ hE
 obtain⟨⟨pX,gP⟩,h1,e⟩:=Option.map_eq_some_iff.mp hf
 skip;(first|exact VS e|cases e)
 exact h env A Y Z s ρ _ _ Q E R F I kH kh h1 (hQ _ rfl)
theorem SX.nil:SX L sc σ own k [] (fun ρ=>some (some .next,ρ)):=by
 intro env A Y Z s ρ ρ' fl Q E R hh F I kH kh hp hf hQ hE
 skip;(first|exact VS hf|cases hf)
 exact fh ((hQ _ rfl).one rfl F (gS.refl I))
noncomputable def qc(f g:List MV→Option (Option Fl×List MV))(ρ:List MV):Option (Option Fl×List MV):=(f ρ).bind fun r=>match r with|(some .next,ρ')=>g ρ'|r=>some r
theorem RS.after{env:b8}{Y Z:List Addr}{s s₁ s':aq}{e:Addr}{ρ:List MV}(F:FS L sc σ own env Y Z s.heap ρ)(jq: ∀b∈Y++Z,∃o,s₁.heap.get? b=some o)(d:gS L Y s s₁)(x:RS L env Y Z s₁ e s'):RS L env Y Z s e s':=by
 have ex1: ∀b,(∃o,s.heap.get? b=some o)→ ∃o,s₁.heap.get? b=some o:=fun b h=>by
  by_cases h1:b=L.tb
  ·exact jq b (h1▸F.fr.xo.tb)
  ·by_cases h2:b∈Y
   ·exact jq b (az _ h2)
   ·exact h.elim fun o ho=>⟨o,d.keep b o h1 h2 ho⟩
 refine⟨d.trans (fun b h=> .inl h) x.done,?_,x.stop,x.ns,fun b h=>x.ex b (ex1 b h),x.xo⟩
 cases h:s.heap.get? e with
 |none=>rfl
 |some o=>exact(ex1 e ⟨o,h⟩).elim fun o' h'=>hO (x.new.symm.trans h')
theorem SX.cons{st:Stmt}{rest:List Stmt}{f f':List MV→Option (Option Fl×List MV)}(h:Ez L sc σ own k st f)(hr:SX L sc σ own k rest f'):SX L sc σ own k (st::rest) (qc f f'):=by
 intro env A Y Z s ρ ρ' fl Q E R hh F I kH kh hp hf hQ hE
 obtain⟨⟨pX,gP⟩,h1,h2⟩:=Option.bind_eq_some_iff.mp hf
 refine dk (h env A Y Z s ρ gP pX _ E R hh F I kH kh hp h1 (fun zZ Bk=> ?_) (fun Bk=> ?_))
 ·subst Bk
  intro fv Y' s' qE F' hY hg d
  obtain rfl:=hg rfl
  have fin:some (some zZ,gP)=some (fl,ρ')→Q fv s':=fun e=>by
   skip;(first|exact VS e|cases e)
   exact hQ _ rfl fv Y' s' qE F' hY hg d
  cases zZ with
  |next=>
   skip;(first|exact VS qE|cases qE)
   exact hr env A Y' Z s' gP ρ' fl Q E R hh F' d.inv kH kh hp h2 (fun zZ rH=>((hQ zZ rH).imp hY (fun _=>⟨rfl,rfl⟩) d (F'.fr.xo.there _ F'.fr.xo.tb))) fun rH e ph x=>hE rH e ph (x.after F F'.fr.xo.there d)
  |brk=>have q:=fin h2;(first|exact VS qE|cases qE);exact q
  |cont=>have q:=fin h2;(first|exact VS qE|cases qE);exact q
  |ret p=>have q:=fin h2;obtain⟨v,rfl,hv⟩:=qE;exact q
 ·subst Bk
  skip;(first|exact VS h2|cases h2)
  exact hE rfl
noncomputable def Ii(k:List MV→Option (Option Fl×List MV)):Option Fl×List MV→Option (Option Fl×List MV)
 |(some .next,ρ')=>k ρ'
 |(none,ρ')=>some (none,ρ')
 |_=>none
noncomputable def mq(t:List MV→Option Bool)(fb:List MV→Option (Option Fl×List MV)):Nat→List MV→Option (Option Fl×List MV)
 |0,_=>none
 |n+1,ρ=>(t ρ).bind fun b=>if b then(fb ρ).bind (Ii (mq t fb n)) else some (some .next,ρ)
theorem whl{test:aM}{body:List Stmt}{env:b8}{A:aF}{Z:List Addr}{Q:Flow→aq→Prop}{E:Value→aq→Prop}{t:List MV→Option Bool}{fb:List MV→Option (Option Fl×List MV)}(ht:TE L sc σ k test t)(hb:SX L sc σ own k body fb)
  (R:i5 L k A)(hh:A.handled=none)(kH:L.tb∈Z)(kh:sysModules∈Z)(hp:PassesOwn L.M A env E): ∀(n:Nat) (Y:List Addr) (s:aq) (ρ ρ':List MV) (fl:Option Fl),FS L sc σ own env Y Z s.heap ρ→Inv L s→mq t fb n ρ=some (fl,ρ')→
   (∀zZ,fl=some zZ→wq L sc σ own false env Y Z s zZ ρ' Q)→(fl=none→ ∀e s',RS L env Y Z s e s'→E (.ref e) s')→PySem.W.WhlRest L.prog L.w A E env test body [] Q n s:=by
 intro n
 induction n with
 |zero=>exact fun _ _ _ _ _ _ _ hf _ _=>hO hf
 |succ n ih=>
  intro Y s ρ ρ' fl F I hf hQ hE
  replace hf:((t ρ).bind fun b=>if b=true then(fb ρ).bind (Ii (mq t fb n)) else some (some .next,ρ))=some (fl,ρ'):=hf
  replace hf:=Option.bind_eq_some_iff.mp hf
  obtain⟨b,xI,hf⟩:=hf
  refine PySem.W.whl_turn (k:=n) hp (ht env A _ s ρ b _ E R F.fr I xI fun s₁ d=> ?_)
  have jq:=F.done d
  have dY:=gS.jQ (Y:=Y) d
  cases b with
  |false=>
   simp only[aV,if_false] at hf
   skip;(first|exact VS hf|cases hf)
   refine PySem.W.WhlIf.no rfl (fh ((hQ _ rfl).one rfl jq dY))
  |true=>
   simp only[if_true] at hf
   obtain⟨⟨pX,gP⟩,h1,h2⟩:=Option.bind_eq_some_iff.mp hf
   refine PySem.W.WhlIf.yes rfl (hb env A Y Z s₁ ρ gP pX _ E R hh jq d.inv kH kh hp h1 (fun zZ Bk=> ?_) fun Bk=> ?_)
   ·subst Bk
    intro fv Y' s' qE F' hY hg d'
    obtain rfl:=hg rfl
    cases zZ with
    |next=>
     skip;(first|exact VS qE|cases qE)
     have dd:=dY.trans (fun b h=> .inl h) d'
     exact ih Y' s' gP ρ' fl F' d'.inv h2 (fun zZ rH=>(hQ zZ rH).imp (fun b h=> .inl h) (fun _=>⟨rfl,rfl⟩) dd (F'.fr.xo.there _ F'.fr.xo.tb)) fun rH e ph x=>hE rH e ph (x.after F F'.fr.xo.there dd)
    |brk=>(first|exact VS h2|cases h2)
    |cont=>(first|exact VS h2|cases h2)
    |ret p=>(first|exact VS h2|cases h2)
   ·subst Bk
    skip;(first|exact VS h2|cases h2)
    exact fun e s' x=>hE rfl e s' (x.after F jq.fr.xo.there dY)
theorem Ez.while{test:aM}{body:List Stmt}{pos:cP}{t:List MV→Option Bool}{fb:List MV→Option (Option Fl×List MV)}(n:Nat)(ht:TE L sc σ k test t)(hb:SX L sc σ own k body fb):Ez L sc σ own k (.While test body [] pos) (mq t fb n):=by
 intro env A Y Z s ρ ρ' fl Q E R hh F I kH kh hp hf hQ hE
 exact PySem.W.whl_start n (whl ht hb R hh kH kh hp n Y s ρ ρ' fl F I hf hQ hE)
noncomputable def MV.Ij:MV→Option (List PV)
 | .mj r=>some r
 |_=>none
theorem MV.Aa{mv:MV}{r:List PV}(h:mv.Ij=some r):mv= .mj r:=by
 cases mv<;>first|exact hO h|exact Option.some.inj h▸rfl
noncomputable def RO(i j:Nat)(ρ:List MV):List PV→Option Fl×List MV
 |p::r=>(some .next,(ρ.set i (.mj r)).set j (.p p))
 |[]=>(none,ρ)
noncomputable def y4(i j:Nat)(ρ:List MV):Option (Option Fl×List MV):=((ρ[i]?).bind MV.Ij).map (RO i j ρ)
theorem Ez.next{x y nn:Str}{xp yp np cp pos:cP}{i j:Nat}(hn:sc.names.lookup nn=some .globalImplicit)(hv:L.gl nn=some (.builtin "next"))(hi:lb σ y i)(hx:x∈own)(hj:lb σ x j)(hd:(nn==("__debug__":Str))=false)(hd2:(y==("__debug__":Str))=false)
  (hs: ∀env,env.scope=sc→swapsWith (.Call (.Name nn np) [.Name y yp] [] cp) (some (.Name x xp)) pos.line env=pure false):
  Ez L sc σ own k (.Assign [.Name x xp] (.Call (.Name nn np) [.Name y yp] [] cp) pos) (y4 i j):=by
 intro env A Y Z s ρ ρ' fl Q E R hh F I kH kh hp hf hQ hE
 have sa:env.scope.kind= .function:=by rw[F.fr.scope];exact F.fr.kind
 refine eH (hs:=hs env F.fr.scope) (bT (aN sa (by unfold b8.kindOf;rw[F.fr.scope];exact hn) (L.rt s env A nn _ _ E I.iA F.fr.globals F.fr.builtins.1 hv ?_) hd))
 replace hf:=Option.map_eq_some_iff.mp hf
 obtain⟨rest,h0,hf⟩:=hf
 replace h0:=Option.bind_eq_some_iff.mp h0
 obtain⟨mv,jC,h0⟩:=h0
 obtain rfl:=MV.Aa h0
 clear h0
 obtain⟨a,hr,hm⟩:=F.oQ hi.1 jC rfl
 suffices key:wpAny L.M A (spliced (backTo cp (starEach [aM.Name y yp] env))) (fun vs s'=>wpAny L.M A (PySem.call (.builtin "next") vs) (fun v s₁=>wpAny L.M A (storeName env x v) (fun _=>Q .next) E s₁) E s') E s from
  Calls.callWith_builtin rfl (b7 (rest:=[]) key)
 refine di (rest:=[]) (he:=rfl) (hr.eval sa (cW ?_) hd2)
 obtain⟨a',ax,l,ix,e,rZ,hat,tA,hit,hl,si⟩:=id hm
 skip;(first|exact VS e|cases e)
 obtain⟨ax',xs,n,e,abS,hg,jE⟩:=hl.listE
 skip;(first|exact VS e|cases e)
 have ib:=jE.size
 cases rest with
 |nil=>
  skip;(first|exact VS hf|cases hf)
  have WB:xs[ix]? =none:=aO (ib▸List.drop_eq_nil_iff.mp si)
  obtain⟨Ef,Ha⟩:=F.Fg _ _ _ _ ⟨hi.1,jC,rfl,hr⟩
  refine Ih hh hit ⟨_,hg,rfl,_,rfl⟩ WB fun h' e hk hex js E6=>hE rfl e _ ⟨⟨fun b o _ hb e=>hk b o (fun h=>hb (h▸Ef)) e,⟨fun b o e=>hk b o (fun h=>hO ((F.fr.xo.look a rZ).symm.trans (h▸e))) (I.iA b o e),I.bare⟩,rfl,rfl⟩,js,E6,F.ns.elim fun m xN=>⟨m,xN.at' fun o e=>hk _ o (fun h=>Ha h.symm) e⟩,fun b x=> ?_,F.fr.xo.mut rZ hat hk hex⟩
  by_cases h:b=a
  ·exact h▸hex
  ·exact x.elim fun o ho=>⟨o,hk b o h ho⟩
 |cons p r=>
  skip;(first|exact VS hf|cases hf)
  obtain⟨Na,_,HZ⟩:=wj si
  refine jE.zy Na fun v hv1 Rg=> ?_
  refine FL hit ⟨_,hg,rfl,_,rfl⟩ hv1 fun h' md km=> ?_
  have hk: ∀b o,b≠a→s.heap.get? b=some o→h'.get? b=some o:=fun b o hb e=>km.extBut b o hb e
  have up:Up s.heap (Y++Z) h' (Y++Z):=fun b o hb e=>⟨hb,hk b o (fun h=>hb (h▸rZ)) e⟩
  obtain⟨jK,gW⟩:=F.zS (nv:= .mj r) (tk:=s.toks) (gS.refl I) hi jC rfl hr hk rfl ⟨a,ax,l,ix+1,rfl,rZ,hat,tA,md,hl.up up,HZ⟩
  exact FS.bind (s:={s with heap:=h'}) jK gW.inv hx hj (Rg.up up) fun jc kQ jb=>(hQ _ rfl).one rfl kQ (gW.trans (fun b h=> .inl h) jb)
end
end
section
open PySem PyProof.Rows
section
variable {L:ig} {k:Nat}
theorem Nb{a:Addr}{fd:FuncData}{sc:Scope}{y:Str}{own:List Str}{σ:gO}{body:List Stmt}{m:Nat}{f:List MV→Option (Option Fl×List MV)}(D:iI L a fd sc [y] body)(S:sx sc σ own [y])(Qg:(sc.names.filter fun x=>x.2== .cell)=[])(hy0:σ.lookup y=some 0)(hb:SX L sc σ own k body f)
  {A:aF}{X:List Addr}{s:aq}{it:Addr}{rest:List PV}{fl:Option Fl}{ρ':List MV}{Q:Value→aq→Prop}{E:Value→aq→Prop}(R:i5 L (k+1) A)(hh:A.handled=none)(x:XO L X s.heap)(I:Inv L s)(hm:ru L s.heap X (.mj rest) (.ref it))(hf:f (.mj rest::List.replicate m .un)=some (fl,ρ'))
  (Bk:fl=none∨ ∃p uD,fl=some (.ret (.int p))∧ρ'[0]? =some (.mj uD))
  (hQ: ∀p uD,fl=some (.ret (.int p))→ρ'[0]? =some (.mj uD)→ ∀v s',VR L.prog L.w s'.heap X (.int p) v→ru L s'.heap X (.mj uD) (.ref it)→XO L X s'.heap→gS L [it] s s'→Q v s')
  (hE:fl=none→ ∀env e s',env.frame=some env.locals→env.scope.kind= .function→s.heap.get? env.locals=none→(∃m,s'.heap.Ns env.locals m)→gS L [it] s s'→s.heap.get? e=none→sG s'.heap e→(∀b,(∃o,s.heap.get? b=some o)→ ∃o,s'.heap.get? b=some o)→XO L X s'.heap→wpAny L.M (A.deeper env) (leaving env (.ref e)) (fun _ ph=>E (.ref e) ph) (fun e' ph=>E e' ph) s'):
  wpAny L.M A (call (.ref a) [.ref it]) Q E s:=by
 obtain⟨o,ho,hd⟩:=D.obj
 have uy:fd.scope=sc:=D.scope
 obtain⟨a',ax,l,ix,e,BO,K0,hits,hit,hl,si⟩:=id hm
 skip;(first|exact VS e|cases e)
 generalize nk:callEnvC fd s.heap.objs.size a=env
 have e1:env.scope=sc:=by rw[←nk];exact uy
 have e2:env.locals=s.heap.objs.size:=by rw[←nk];rfl
 have e3:env.globals=mainGlobals:=by rw[←nk];exact D.globals
 have e4:env.builtins=builtinsNs:=by rw[←nk];exact D.builtins
 have e6:env.frame=some env.locals:=by rw[e2,←nk];rfl
 have Ik: ∀z,sc.names.lookup z≠some .cell:=fun z h=>by
  have:(z,NameKind.cell)∈sc.names.filter fun x=>x.2== .cell:=List.mem_filter.mpr ⟨g7 h,rfl⟩
  rw[Qg] at this;exact absurd this c6
 have e5:env.cells=[]:=by
  have h2:=pZ sc.names (s.heap.objs.size+1) []
  rw[Qg] at h2
  rw[show env.cells=cellsFrom (s.heap.objs.size+1) sc.names [] by rw[←nk,←uy];rfl]
  exact List.map_eq_nil_iff.mp h2
 have kindOf: ∀y,env.kindOf y=sc.names.lookup y:=fun y=>by unfold b8.kindOf;rw[e1]
 have loc: ∀z∈own,sc.names.lookup z=some .local:=fun z hz=>(S.Kw z hz).1.elim id fun h=>absurd h (Ik z)
 have W8:sc.names.lookup y=some .local:=loc y (S.par 0 y rfl)
 refine f7 (codeAny_call_cells (body:=body) (binds:=[y].zip [.ref it]) R.limit (I.iA a o ho) hd (L.noLimit _ I.iA) (D.code _ I.iA) D.body (D.bind [.ref it] rfl) D.closure (fun z hz=>by rw[uy,List.mem_singleton.mp hz];exact .inl W8) ?_ (by rw[uy];exact S.co) (by rw[uy];exact S.gen) (by rw[uy];exact S.kind))
 rw[nk]
 intro s₁ ni
 obtain⟨h₁,tk,jk⟩:=ni.toInCall.same
 have keep:=ni.toInCall.keep
 have fresh:s.heap.get? env.locals=none:=by rw[e2];exact g9 _
 have js:env.locals≠it:=fun e=>hit.elim fun o ho=>hO (fresh.symm.trans (e▸ho.1))
 have uV:Inv L s₁:=by rw[jk];exact I.keeps (fun b o e=>by have:=keep b o e;rw[jk] at this;exact this) tk
 have RP: ∃o,s₁.heap.get? env.locals=some o:=ni.toInCall.ns.elim fun o z=>z.elim fun _ z=>z.elim fun _ z=>⟨o,z.1⟩
 have Vr: ∀b∈X.filter (· !=it),b∈X:=fun b hb=>(List.mem_filter.mp hb).1
 have RQ:it∉X.filter (· !=it):=fun h=>absurd rfl (bne_iff_ne.mp (List.mem_filter.mp h).2)
 have K1: ∀b∈X,b≠it→b∈X.filter (· !=it):=fun b hb js=>List.mem_filter.mpr ⟨hb,bne_iff_ne.mpr js⟩
 generalize X.filter (· !=it)=Z at Vr RQ K1
 have Vs: ∀b∈X,b∈[env.locals,it]++Z:=fun b hb=>by
  by_cases h:b=it
  ·exact h▸in1
  ·exact au _ (K1 b hb h)
 have kH:L.tb∈Z:=K1 _ x.tb (Ne.symm K0)
 have kh:sysModules∈Z:=K1 _ x.sm (Ne.symm hits)
 have RR: ∀b∈X,∃o,s₁.heap.get? b=some o:=fun b hb=>(x.there b hb).elim fun o ho=>⟨o,keep _ o ho⟩
 have hex: ∀b∈[env.locals,it]++Z,∃o,s₁.heap.get? b=some o:=kA RP (kA (RR it BO) fun b hb=>RR b (Vr b hb))
 have KO: ∀b∈[env.locals,it]++Z,b∈X∨s.heap.get? b=none:=kA (.inr fresh) (kA (.inl BO) fun b hb=> .inl (Vr b hb))
 have qS:XO L ([env.locals,it]++Z) s₁.heap:=x.widen keep I.iA KO Vs hex
 have up:Up s.heap X s₁.heap ([env.locals,it]++Z):=fun b o hb e=>⟨fun hm=>(KO b hm).elim hb fun h=>hO (h.symm.trans e),keep b o e⟩
 have hrd:Reads env s₁.heap y (.ref it):= .inl ⟨by rw[kindOf];exact W8,_,ni.toInCall.ns,qu _ [y] [.ref it] _ 0 y _ S.BC rfl rfl (by rw[kindOf];exact W8)⟩
 have K2: ∀(i:Nat) mv,(MV.mj rest::List.replicate m .un)[i]? =some mv→mv≠ .un→i=0∧mv= .mj rest:=fun i mv h hu=>by
  cases i with
  |zero=>exact⟨rfl,(Option.some.inj h).symm⟩
  |succ i=>exact absurd (List.mem_replicate.mp (bt (List.getElem?_cons_succ.symm.trans h))).2 hu
 have hσ: ∀z,σ.lookup z=some 0→z=y:=fun z hz=>(Option.some.inj (S.slot z 0 hz Nat.zero_lt_one)).symm
 have OS:ru L s₁.heap ([env.locals,it]++Z) (.mj rest) (.ref it):=⟨it,ax,l,ix,rfl,in1,K0,hits,hit.at fun o e=>keep _ o e,hl.up up,si⟩
 have F:FS L sc σ own env [env.locals,it] Z s₁.heap (.mj rest::List.replicate m .un):=by
  refine⟨⟨e1,S.kind,e3,⟨e4,fun h=>by rw[←nk];exact D.host h,fun _=>e6⟩,qS,⟨fun e=>x.fresh fresh (e▸x.tb),RP⟩,fun z c h=>(by rw[e5] at h;exact hO h),fun z hz=>hz.elim (fun h=>absurd h (Ik z)) fun h=>absurd rfl (S.HB _ (g7 h)),fun z i hi mv jC hu=> ?_⟩,uW,⟨_,ni.toInCall.ns⟩,fun z hz=> .inl (loc z hz),kA (fun hz=>x.fresh fresh (Vr _ hz)) (all1 RQ),fun z i mv a H=> ?_,fun z z' i j mv nh a H H'=>(K2 i mv H.val (nr H.ow)).1.trans (K2 j nh H'.val (nr H'.ow)).1.symm⟩
  ·obtain⟨rfl,rfl⟩:=K2 i mv jC hu
   exact⟨_,hσ z hi▸hrd,OS⟩
  ·obtain⟨rfl,rfl⟩:=K2 i mv H.val (nr H.ow)
   obtain rfl:a=it:=Value.ref.inj (H.rd.unique (hσ z H.lk▸hrd))
   exact⟨in1,Ne.symm js⟩
 have iE:gS L [it] s s₁:=⟨fun b o _ _ e=>keep b o e,uV,by rw[jk],by rw[jk]⟩
 have dY: ∀s',gS L [env.locals,it] s₁ s'→gS L [it] s s':=fun s' d=>⟨fun b o hb hn e=>d.keep b o hb (fun h=>(List.mem_cons.mp h).elim (fun h=>hO (fresh.symm.trans (h▸e))) hn) (keep b o e),d.inv,by rw[d.os,jk],by rw[d.drawn,jk]⟩
 refine hb env (A.deeper env) [env.locals,it] Z s₁ _ ρ' fl _ _ (R.deeper env) hh F uV kH kh PassesOwn.leaving hf (fun zZ rH=> ?_) fun hn e s' rs=> ?_
 ·rcases Bk with h|⟨p,uD,h,h0⟩
  ·rw[h] at rH;(first|exact VS rH|cases rH)
  rw[h] at rH
  skip;(first|exact VS rH|cases rH)
  intro fv Y' s' qE F' Qi hg d'
  obtain rfl:=hg rfl
  obtain⟨v,rfl,hv⟩:=qE
  obtain⟨c,hrc,hmc⟩:=F'.oQ hy0 h0 rfl
  have k:=F'.Fg _ _ _ _ ⟨hy0,h0,rfl,hrc⟩
  obtain rfl:c=it:=(List.mem_cons.mp k.1).elim (fun h=>absurd h k.2) List.mem_singleton.mp
  have Ff:XO L X s'.heap:=F'.fr.xo.sub Vs x.tb x.sm
  obtain⟨c',ax',l',ix',e',_,_,_,md,jB,OT⟩:=hmc
  skip;(first|exact VS e'|cases e')
  refine hv.sg fun t=> ?_
  exact hQ p uD h h0 _ s' (VR.mkInt _ _) ⟨c,ax',l',ix',rfl,BO,K0,hits,md,jB.up (Up.sub _ Vs),OT⟩ Ff (dY _ d')
 ·refine hE hn env e s' e6 (by rw[e1];exact S.kind) fresh rs.ns (dY _ rs.done) ?_ rs.stop (fun b ⟨o,ho⟩=>rs.ex b ⟨o,keep b o ho⟩) (rs.xo.sub Vs x.tb x.sm)
  cases h:s.heap.get? e with
  |none=>rfl
  |some o=>exact hO (rs.new.symm.trans (keep e o h))
end
end
section
open PySem PyProof.Rows
noncomputable def E0:Heap:=⟨#[],{}⟩
structure Ab(g:Heap)(S:List Addr)(e:Addr)(fl:Option Value)(h:Heap):Prop where
 keep: ∀b o,b∉S→g.get? b=some o→h.get? b=some o
 slots: ∀b o,b≠e→g.get? b=some o→ ∃sl,h.get? b=some {o with slots:=sl}
 exc: ∃oe vs,h.get? e=some oe∧oe.cls= .type "StopIteration"∧oe.data= .fields vs∧vs[2]? =some .none∧match fl with
  |none=>vs[1]? =some .none
  |some f=> ∃T oT ts,vs[1]? =some (.ref T)∧T≠e∧g.get? T=none∧h.get? T=some oT∧oT.data= .fields ts∧ts[3]? =some f
theorem Ab.start{g:Heap}{S:List Addr}{e:Addr}(x:sG g e):Ab g S e none g:=by
 obtain⟨o,vs,a0,h1,h2,h3,_,h5,h6⟩:=x
 exact⟨fun _ _ _ e=>e,fun b o _ e=>⟨o.slots,e⟩,o,vs,h1,h2,h3,h6,h5⟩
theorem Ab.frames{g:Heap}{S:List Addr}{e:Addr}{fl:Option Value}{h:Heap}{l:List b8}(x:Ab g S e fl h)(he: ∃oe vs,g.get? e=some oe∧oe.data= .fields vs)(hl:g.FunFrames E0 l):h.FunFrames E0 l:=by
 refine hl.of_keeps fun b o ho hd=> ?_
 have js:b≠e:=fun h=>by
  obtain⟨oe,vs,h1,h2⟩:=he
  rw[h,h1] at ho;(first|exact VS ho|cases ho);exact hd _ h2
 obtain⟨sl,h'⟩:=x.slots b o js ho
 exact⟨_,h',rfl⟩
section
variable {M:Model} {A:aF} {E:Value→aq→Prop} {s:aq}
theorem za{g:Heap}{S:List Addr}{e:Addr}{env:b8}{outer:List b8}{Lc:Addr}{hn:Bool}{head:Value}{Q:Unit→aq→Prop}{oe:Obj}{vs:Array Value}(hk: ∀b o,b∉S→g.get? b=some o→s.heap.get? b=some o)(K3: ∀b o,b≠e→g.get? b=some o→ ∃sl,s.heap.get? b=some {o with slots:=sl})
  (he:s.heap.get? e=some oe)(hc:oe.cls= .type "StopIteration")(hd:oe.data= .fields vs)(h2:vs[2]? =some .none)(hsz:2<vs.size)(K4:A.frames=some (env::outer))(hf:env.frame=some Lc)(hl:s.heap.FunFrames E0 (env::outer))(hS: ∀b∈e::(env::outer).filterMap (·.frame),b∈S)
  (h: ∀h',Ab g S e (some (rawInt Lc)) h'→Q () {s with heap:=h'}):
  wpAny M A (do let a←frameOf env;let pl←entryPlaceOf Lc hn;let b←EntryCells.newEntry head a .none (rawInt Lc) .none pl;setField (.ref e) 1 b) Q E s:=by
 have hef:e∉(env::outer).filterMap (·.frame):=fun hm=>by
  obtain⟨_,o,ho,M6⟩:=hl.mem hm
  rw[he] at ho;(first|exact VS ho|cases ho);exact M6 vs hd
 refine ao (wpAny_frameOf_fun K4 hl hf fun h₁ jk=> ?_)
 refine ao (wpAny_entryPlaceOf fun pl W9=> ?_)
 unfold EntryCells.newEntry newFields
 refine ao (bl ?_ (W9.sizeOk5 _ _ _ _ _))
 have Nc:h₁.get? e=some oe:=(jk.2.1 e hef).trans he
 generalize hob:({cls:= .type "traceback",dict:=none,data:= .fields ([head,.ref Lc,.none,rawInt Lc,.none]++(if pl.isEmpty then List.replicate 6 Value.none else pl)).toArray}:Obj)=ob
 have Xa:ob.data= .fields ([head,.ref Lc,.none,rawInt Lc,.none]++(if pl.isEmpty then List.replicate 6 Value.none else pl)).toArray:=by rw[←hob]
 have Xb:ob.isFreed=false:=by rw[←hob];rfl
 have yQ:(h₁.push ob).get? e=some oe:=ay _ Nc
 refine cC yQ hd (by omega) (h _ ?_)
 have Nd:h₁.objs.size≠e:=d4 (aH Nc)
 have Ey:=Obj.data_mapFields hd (·.setIfInBounds 1 (Value.ref h₁.objs.size))
 have RT:=aQ (Obj.mapFields (·.setIfInBounds 1 (Value.ref h₁.objs.size))) yQ (Obj.isFreed_of_fields Ey)
 have Il: ∀b o,b≠e→h₁.get? b=some o→((h₁.push ob).update e (Obj.mapFields (·.setIfInBounds 1 (Value.ref h₁.objs.size)))).get? b=some o:=fun b o hb Xc=>by
  rw[bg _ _ (Ne.symm hb)];exact ay _ Xc
 refine⟨fun b o hb e'=>Il b o (fun h=>hb (hS b (h▸aA ..))) ((jk.2.1 b fun h=>hb (hS b (av _ h))).trans (hk b o hb e')),fun b o hb e'=> ?_,_,_,RT,(Obj.cls_mapFields ..).trans hc,Ey,?_,h₁.objs.size,ob,_,?_,Nd,?_,?_,Xa,?_⟩
 ·obtain⟨sl,g1⟩:=K3 b o hb e'
  obtain⟨sl',g2⟩:=jk.2.2 b _ g1
  exact⟨sl',Il b _ hb g2⟩
 ·rw[fK (by decide)];exact h2
 ·rw[cU (by omega)]
 ·cases q:g.get? h₁.objs.size with
  |none=>rfl
  |some o=>
   obtain⟨sl,g1⟩:=K3 _ o Nd q
   obtain⟨sl',g2⟩:=jk.2.2 _ _ g1
   exact absurd (aH g2) (bE _)
 ·rw[bg _ _ (Ne.symm Nd)];exact aB _ Xb
 ·simp
theorem Ab.note{g:Heap}{S:List Addr}{e:Addr}{env:b8}{outer:List b8}{Lc:Addr}{fl:Option Value}{Q:Unit→aq→Prop}(x:Ab g S e fl s.heap)(Bk:fl=none∨fl=some .none)(K4:A.frames=some (env::outer))(hf:env.frame=some Lc)(hl:s.heap.FunFrames E0 (env::outer))(hS: ∀b∈e::(env::outer).filterMap (·.frame),b∈S)
  (h: ∀h',Ab g S e (some (rawInt Lc)) h'→Q () {s with heap:=h'}):wpAny M A (noteFrame (.ref e) env) Q E s:=by
 obtain⟨hk,K3,oe,vs,he,hc,hd,h2,rH⟩:=x
 have hsz:2<vs.size:=(Array.getElem?_eq_some_iff.mp h2).1
 unfold noteFrame
 simp only[hf]
 rcases Bk with rfl|rfl
 ·refine ao (aT he hd rH ?_)
  rw[if_neg (by decide)]
  exact za hk K3 he hc hd h2 hsz K4 hf hl hS h
 ·obtain⟨T,oT,ts,h1,Nd,Vt,hT,OU,h3⟩:=rH
  refine ao (aT he hd h1 ?_)
  rw[if_pos (show(Value.ref T !=Value.none)=true from by simp)]
  refine ao (aT hT OU h3 ?_)
  rw[if_neg (show ¬ ((Value.none==rawInt Lc)=true) from by simp[rawInt])]
  have Kq:3<ts.size:=(Array.getElem?_eq_some_iff.mp h3).1
  refine ao (cC hT OU Kq ?_)
  have Il: ∀b,b≠T→(s.heap.update T (Obj.mapFields (·.setIfInBounds 3 Value.none))).get? b=s.heap.get? b:=fun b hb=>bg _ _ (Ne.symm hb)
  have gT: ∀b o,g.get? b=some o→b≠T:=fun b o e' h=>by rw[h,Vt] at e';(first|exact VS e'|cases e')
  refine za (fun b o hb e'=>(Il b (gT b o e')).trans (hk b o hb e')) (fun b o hb e'=> ?_) ((Il e (Ne.symm Nd)).trans he) hc hd h2 hsz K4 hf ?_ hS h
  ·obtain⟨sl,g1⟩:=K3 b o hb e'
   exact⟨sl,(Il b (gT b o e')).trans g1⟩
  ·refine hl.of_keeps fun b o ho M6=>⟨o,(Il b fun h=> ?_).trans ho,rfl⟩
   rw[h,hT] at ho;(first|exact VS ho|cases ho);exact M6 _ OU
theorem Ab.land{g:Heap}{S:List Addr}{e:Addr}{f:Value}{Q:Unit→aq→Prop}(x:Ab g S e (some f) s.heap)(h: ∀h',Ab g S e (some .none) h'→Q () {s with heap:=h'}):wpAny M A (setFlight (.ref e) none) Q E s:=by
 obtain⟨hk,K3,oe,vs,he,hc,hd,h2,T,oT,ts,h1,Nd,Vt,hT,OU,h3⟩:=x
 have Kq:3<ts.size:=(Array.getElem?_eq_some_iff.mp h3).1
 unfold setFlight
 refine ao (aT he hd h1 ?_)
 rw[if_pos (show(Value.ref T !=Value.none)=true from by simp)]
 refine cC hT OU Kq (h _ ?_)
 have Il: ∀b,b≠T→(s.heap.update T (Obj.mapFields (·.setIfInBounds 3 Value.none))).get? b=s.heap.get? b:=fun b hb=>bg _ _ (Ne.symm hb)
 have gT: ∀b o,g.get? b=some o→b≠T:=fun b o e' h=>by rw[h,Vt] at e';(first|exact VS e'|cases e')
 refine⟨fun b o hb e'=>(Il b (gT b o e')).trans (hk b o hb e'),fun b o hb e'=> ?_,oe,vs,(Il e (Ne.symm Nd)).trans he,hc,hd,h2,T,_,_,h1,Nd,Vt,aQ _ hT (Obj.isFreed_of_fields (Obj.data_mapFields OU _)),Obj.data_mapFields OU _,?_⟩
 ·obtain⟨sl,g1⟩:=K3 b o hb e'
  exact⟨sl,(Il b (gT b o e')).trans g1⟩
 ·rw[cU Kq];rfl
theorem Ab.leave{g:Heap}{S:List Addr}{e:Addr}{env:b8}{outer:List b8}{Lc:Addr}{fl:Option Value}{Q:Unit→aq→Prop}(x:Ab g S e fl s.heap)(Bk:fl=none∨fl=some .none)(K4:A.frames=some (env::outer))(hf:env.frame=some Lc)(hl:s.heap.FunFrames E0 (env::outer))(hS: ∀b∈e::(env::outer).filterMap (·.frame),b∈S)
  (h: ∀h',Ab g S e (some .none) h'→Q () {s with heap:=h'}):wpAny M A (leaving env (.ref e)) Q E s:=by
 unfold leaving
 exact ao (x.note Bk K4 hf hl hS fun h' x'=>x'.land h)
end
end
section
open PySem PyProof.Rows
section
variable {L:ig} {sc:Scope} {σ:gO} {own:List Str} {k:Nat}
noncomputable def retInt:Option Fl→Option Int
 |some (.ret p)=>pY some p
 |_=>none
theorem Dx{o:Option Fl}{n:Int}(h:retInt o=some n):o=some (.ret (.int n)):=by
 rcases o with _|fl
 ·exact hO h
 ·cases fl<;>try exact hO h
  obtain⟨a,rfl,h⟩:=ly (show pY some _=some n from h)
  exact Option.some.inj h▸rfl
noncomputable def GF(m:Nat)(f:List MV→Option (Option Fl×List MV))(rest:List PV):Option (Int×List PV):=(f (.mj rest::List.replicate m .un)).bind fun r=>(retInt r.1).bind fun n=>((r.2[0]?).bind MV.Ij).map fun l=>(n,l)
noncomputable def EA(i j m:Nat)(f:List MV→Option (Option Fl×List MV))(ρ:List MV):Option (Fl×List MV):=((ρ[i]?).bind MV.Ij).bind fun rest=>(GF m f rest).map fun r=>(.next,(ρ.set i (.mj r.2)).set j (.p (.int r.1)))
structure K5(L:ig)(a:Addr)(fd:FuncData)(Ac:Scope)(y':Str)(BP:List Str)(K6:gO)(body:List Stmt)(k m:Nat)(f:List MV→Option (Option Fl×List MV)):Prop where
 D:iI L a fd Ac [y'] body
 S:sx Ac K6 BP [y']
 nc:(Ac.names.filter fun x=>x.2== .cell)=[]
 y0:K6.lookup y'=some 0
 b:SX L Ac K6 BP k body f
theorem S1.OV{k':Nat}(hk:k+1≤k')(hn:L.exc=none){a:Addr}{fd:FuncData}{Ac:Scope}{y':Str}{BP:List Str}{K6:gO}{body:List Stmt}{m:Nat}{f:List MV→Option (Option Fl×List MV)}(C:K5 L a fd Ac y' BP K6 body k m f){x y fn:Str}{xp yp np cp pos:cP}{i j:Nat}(hg:sc.names.lookup fn=some .globalImplicit)(hv:L.gl fn=some (.ref a))(hi:lb σ y i)(hx:x∈own)(hj:lb σ x j)
  (hd:(fn==("__debug__":Str))=false)(hd2:(y==("__debug__":Str))=false)(hs: ∀env,env.scope=sc→swapsWith (.Call (.Name fn np) [.Name y yp] [] cp) (some (.Name x xp)) pos.line env=pure false):
  S1 L sc σ own k' false (.Assign [.Name x xp] (.Call (.Name fn np) [.Name y yp] [] cp) pos) (EA i j m f):=by
 intro env A Y Z s ρ ρ' fl Q E R' F I kH kh hf hQ
 have R:=R'.less hk
 have sa:env.scope.kind= .function:=by rw[F.fr.scope];exact F.fr.kind
 replace hf:=Option.bind_eq_some_iff.mp hf
 obtain⟨rest,jC,hf⟩:=hf
 replace jC:=Option.bind_eq_some_iff.mp jC
 obtain⟨mv,jC,h'⟩:=jC
 obtain rfl:=MV.Aa h'
 obtain⟨⟨n,uD⟩,hr,e'⟩:=Option.map_eq_some_iff.mp hf
 skip;(first|exact VS e'|cases e')
 replace hr:=Option.bind_eq_some_iff.mp hr
 obtain⟨⟨zZ,BQ⟩,Ki,hr⟩:=hr
 replace hr:=Option.bind_eq_some_iff.mp hr
 obtain⟨n',JU,hr⟩:=hr
 obtain rfl:=Dx JU
 obtain⟨l,h0,hr⟩:=Option.map_eq_some_iff.mp hr
 skip;(first|exact VS hr|cases hr)
 replace h0:=Option.bind_eq_some_iff.mp h0
 obtain⟨nh,h0,nI⟩:=h0
 obtain rfl:=MV.Aa nI
 refine eH (hs:=hs env F.fr.scope) (bT (aN sa (by unfold b8.kindOf;rw[F.fr.scope];exact hg) (L.rt s env A fn _ _ E I.iA F.fr.globals F.fr.builtins.1 hv ?_) hd))
 obtain⟨it,hrd,hm⟩:=F.oQ hi.1 jC rfl
 obtain⟨o,ho,N0⟩:=C.D.obj
 suffices key:wpAny L.M A (spliced (backTo cp (starEach [aM.Name y yp] env))) (fun vs s'=>(s'.heap.get? a=some o∧o.data= .func fd)∧wpAny L.M A (PySem.call (.ref a) vs) (fun v s₁=>wpAny L.M A (storeName env x v) (fun _=>Q .next) E s₁) E s') E s from
  et (b7 (rest:=[]) key)
 refine di (rest:=[]) (he:=rfl) (hrd.eval sa (cW ⟨⟨I.iA _ _ ho,N0⟩,?_⟩) hd2)
 refine Nb C.D C.S C.nc C.y0 C.b R (R.none hn) F.fr.xo I hm Ki (.inr ⟨_,_,rfl,h0⟩) (fun p r hp hr v s₁ RU RV qS iE=> ?_) (fun h=>by (first|exact VS h|cases h))
 rw[h0] at hr
 skip;(first|exact VS hr|cases hr)
 skip;(first|exact VS hp|cases hp)
 have Ef:=(F.Fg _ _ _ _ ⟨hi.1,jC,rfl,hrd⟩).1
 have jq:FS L sc σ own env Y Z s₁.heap (ρ.set i (.mj uD)):=F.QI hi.1 hi.2 jC rfl hrd (fun b o ht hb e=>iE.keep b o ht (fun h=>hb (List.mem_singleton.mp h)) e) qS RV
 exact jq.bind iE.inv hx hj RU fun gZ jK gW=>hQ.one rfl jK (gS.trans ⟨fun b o ht hb e=>iE.keep b o ht (fun h=>hb (List.mem_singleton.mp h▸Ef)) e,iE.inv,iE.os,iE.drawn⟩ (fun b h=> .inl h) gW)
end
end
section
open PySem PyProof.Rows
section
variable {L:ig} {sc:Scope} {σ:gO} {own:List Str} {k:Nat}
noncomputable def Nf:PV→Option MV
 | .list l=>some (.mj l)
 |_=>none
theorem FN{p:PV}{r:MV}(h:Nf p=some r): ∃l,p= .list l∧r= .mj l:=by cases p<;>first|exact hO h|exact⟨_,rfl,(Option.some.inj h).symm⟩
noncomputable def Im(ps:List PV):Option MV:=Ow Nf ps
theorem Io:oP L 0 (.builtin "iter") Im:=by
 intro A X s ps vs r Q E R x I jE hg hQ
 obtain⟨p,rfl,hg⟩:=BA hg
 obtain⟨l,rfl,rfl⟩:=FN hg
 obtain⟨v,rfl,hv⟩:=gV.one jE
 refine hv.yF fun a xs n ha ho hl=> ?_
 refine cx (by decide+kernel) (by decide+kernel) PySem.W.kdk_entry_iter (PySem.W.kdk_args_iter _) ?_
 unfold aC.«iter»
 refine ao (m:=someArgs "iter" 1 2 _) (cw (a:=[Value.ref a]) (by first|rfl|kernel_rfl!) ?_)
 show wpAny _ _ (pyIter (.ref a)>>= _) _ _ _
 refine ao (cG ⟨_,ho,rfl,_,rfl⟩ (aw ⟨_,rfl,?_⟩))
 exact hQ _ _ (g9 _) (gN.Bz (tk:=s.toks) I x (g9 _) (iq _ _) ⟨_,aB _ rfl⟩) rfl ⟨_,a,l,0,rfl,aA ..,fun e=>x.size (e▸x.tb),fun e=>x.size (e▸x.sm),⟨_,aB _ rfl,rfl,rfl⟩,VR.up (Hx (g9 _) (iq _ _)) (.intro a ⟨xs,n,rfl,ha,ho,hl⟩),rfl⟩
theorem wK{L:ig}{e:Addr}{o:Obj}(hl:L.look e=none){a:Addr}{o':Obj}(h:L.look a=some o'):(if a=e then some o else L.look a)=some o':=by
 by_cases h':a=e
 ·exact hO (hl.symm.trans (h'▸h))
 ·rw[if_neg h'];exact h
noncomputable def ig.jg(L:ig)(e:Addr)(o:Obj)(js:e≠L.tb)(hl:L.look e=none)(hx: ∃vs,o.data= .fields vs∧vs[2]? =some .none):ig:=
 {L with
  look:=fun a=>if a=e then some o else L.look a
  vU:=by rw[if_neg (Ne.symm js)];exact L.vU
  noLimit:=fun h H=>L.noLimit h fun a o' ha=>H a o' (wK hl ha)
  rt:=fun s env A x v Q E H=>L.rt s env A x v Q E fun a o' ha=>H a o' (wK hl ha)
  vV:=L.vV.elim fun o' h=>⟨o',wK hl h⟩
  Ka:=fun s A Q E H=>L.Ka s A Q E fun a o' ha=>H a o' (wK hl ha)
  exc:=some e
  D8:=fun a ha=>hx.elim fun vs x=>⟨o,vs,if_pos (Option.some.inj ha).symm,x.1,x.2⟩}
theorem jr{e:Addr}{o:Obj}{js:e≠L.tb}{hl:L.look e=none}{hx: ∃vs,o.data= .fields vs∧vs[2]? =some .none}{a:Addr}{o':Obj}(h:L.look a=some o'):(L.jg e o js hl hx).look a=some o':=wK hl h
theorem iI.jg{a:Addr}{fd:FuncData}{ns:List Str}{body:List Stmt}(D:iI L a fd sc ns body){e:Addr}{o:Obj}{js:e≠L.tb}{hl:L.look e=none}{hx: ∃vs,o.data= .fields vs∧vs[2]? =some .none}:iI (L.jg e o js hl hx) a fd sc ns body where
 obj:=let ⟨o',h,d⟩:=D.obj;⟨o',jr h,d⟩
 code:=fun h H=>D.code h fun a o' ha=>H a o' (jr ha)
 body:=D.body
 scope:=D.scope
 globals:=D.globals
 builtins:=D.builtins
 closure:=D.closure
 bind:=D.bind
 host:=D.host
theorem wL{h h':Heap}{c P:Addr}{ps:Array Value}(x:h.TableAt c P ps)(h1: ∀o,h.get? c=some o→h'.get? c=some o)(h2: ∀o,h.get? P=some o→h'.get? P=some o):h'.TableAt c P ps:=
 ⟨x.1.elim fun o y=>y.elim fun vs y=>⟨o,vs,h1 _ y.1,y.2⟩,h2 _ x.2⟩
theorem Ip{h h':Heap}{a:Addr}{m:Str→Option Value}(x:h.Ns a m)(k: ∀o,h.get? a=some o→ ∃sl,h'.get? a=some {o with slots:=sl}):h'.Ns a m:=
 x.elim fun o x=>x.elim fun es x=>x.elim fun ep x=>(k o x.1).elim fun sl e=>⟨_,es,ep,e,x.2⟩
theorem Dy{h h':Heap}{a:Addr}{u:Option Value}(x:h.IsCell a u)(k: ∀o,h.get? a=some o→ ∃sl,h'.get? a=some {o with slots:=sl}):h'.IsCell a u:=
 x.elim fun o x=>(k o x.1).elim fun sl e=>⟨_,e,x.2⟩
theorem zb{h h':Heap}{c P:Addr}{ps:Array Value}(x:h.IsCode c P ps)(h1: ∀o,h.get? c=some o→h'.get? c=some o)(h2: ∀o,h.get? P=some o→h'.get? P=some o):h'.IsCode c P ps:=
 x.elim fun o x=>x.elim fun vs x=>x.elim fun file x=>x.elim fun tf x=>x.elim fun flags x=>x.elim fun tg x=>x.elim fun inF x=>x.elim fun text x=>x.elim fun tt x=>x.elim fun op x=>
  ⟨o,vs,file,tf,flags,tg,inF,text,tt,op,h1 _ x.1,x.2.1,x.2.2.1,x.2.2.2.1,x.2.2.2.2.1,x.2.2.2.2.2.1,x.2.2.2.2.2.2.1,h2 _ x.2.2.2.2.2.2.2.1,x.2.2.2.2.2.2.2.2⟩
theorem x4:isSubtype (.type "StopIteration") (.type "BaseException")=pure true:=by rw[en];kernel_rfl
theorem K7:isSubtype (.type ((Manifest.find? "StopIteration").elim "type" fun x=>x.metatype)) (.type "tuple")=pure false:=by rw[en];kernel_rfl
theorem OW{env:b8}{Y Z:List Addr}{s:aq}{ρ:List MV}{g h:Heap}{S:List Addr}{e it:Addr}{s₁:aq}{oe:Obj}(F:FS L sc σ own env Y Z s.heap ρ)(I:Inv L s)(hg:s₁.heap=g)(iE:gS L [it] s s₁)(BO:it∈Y++Z)(Iq:it≠env.locals)(OX: ∀c u,s.heap.IsCell c u→c≠it)(qS:XO L (Y++Z) g)(hen:s.heap.get? e=none)(Dz:L.look e=none)
  (hS: ∀b∈S,b=e∨s.heap.get? b=none∨(b∈Y++Z∧b≠L.tb))(W:Ab g S e (some .none) h)(he:h.get? e=some oe)(hx: ∃vs,oe.data= .fields vs∧vs[2]? =some .none)(js:e≠L.tb):
  FS (L.jg e oe js Dz hx) sc σ own env Y Z h (ρ.map MV.mm)∧Inv (L.jg e oe js Dz hx) {s₁ with heap:=h}:=by
 subst hg
 have K8: ∀b o,s.heap.get? b=some o→b≠e:=fun b o h' x=>hO (hen.symm.trans (x▸h'))
 have keep: ∀b o,b∉Y++Z→s.heap.get? b=some o→h.get? b=some o:=fun b o hb e'=>
  W.keep b o (fun hm=>(hS b hm).elim (K8 b o e') fun h1=>h1.elim (fun h1=>hO (h1.symm.trans e')) fun h1=>hb h1.1) (iE.keep b o (fun h=>hb (h▸F.fr.xo.tb)) (fun h=>hb (List.mem_singleton.mp h▸BO)) e')
 have Ir: ∀b o,L.look b=some o→b∉Y++Z:=fun b o h1 hm=>hO ((F.fr.xo.look b hm).symm.trans h1)
 have slots: ∀b o,b≠L.tb→b≠it→s.heap.get? b=some o→ ∃sl,h.get? b=some {o with slots:=sl}:=fun b o h1 h2 e'=>W.slots b o (K8 b o e') (iE.keep b o h1 (fun h=>h2 (List.mem_singleton.mp h)) e')
 have RR: ∀b∈Y++Z,∃o,h.get? b=some o:=fun b hb=>(qS.there b hb).elim fun o ho=>(F.fr.xo.there b hb).elim fun o' lr=>(W.slots b o (K8 b o' lr) ho).elim fun sl h'=>⟨_,h'⟩
 have tbS:L.tb∉S:=fun hm=>(hS _ hm).elim (fun h1=>js h1.symm) fun h1=>h1.elim (fun h1=>F.fr.xo.fresh h1 F.fr.xo.tb) fun h1=>h1.2 rfl
 obtain⟨oh,ON⟩:=L.vV
 have Iu:L.iK∉S:=fun hm=>(hS _ hm).elim (fun h1=>hO (Dz.symm.trans (h1▸ON))) fun h1=>h1.elim (fun h1=>hO (h1.symm.trans (I.iA _ _ ON))) fun h1=>Ir _ _ ON h1.1
 have RW: ∀b∈Y++Z,(L.jg e oe js Dz hx).look b=none:=fun b hb=>(if_neg ((F.fr.xo.there b hb).elim fun o ho=>K8 b o ho)).trans (F.fr.xo.look b hb)
 have Ff:XO (L.jg e oe js Dz hx) (Y++Z) h:=by
  refine⟨F.fr.xo.tb,F.fr.xo.sm,RR,RW,?_⟩
  obtain⟨fp,hf,_⟩:=qS.tab
  obtain⟨ps,hc⟩:=L.zx _ _ hf
  obtain⟨fp',Ki,Xd⟩:=L.GN h ps ⟨zb hc.1 (fun o e'=>W.keep _ o Iu e') (fun o e'=>W.keep _ o tbS e'),wL hc.2.1 (fun o e'=>W.keep _ o Iu e') (fun o e'=>W.keep _ o tbS e'),hc.2.2⟩
  exact⟨fp',Ki,fun a ha hm=>Ir _ _ ON (Xd a ha▸hm)⟩
 have QG: ∀m,s.heap.Ns env.locals m→h.Ns env.locals m:=fun m x=>Ip x fun o=>slots _ o F.fr.locals.1 (Ne.symm Iq)
 have Ng: ∀y c u,env.cells.lookup y=some c→s.heap.IsCell c u→h.IsCell c u:=fun y c u hc x=>Dy x fun o=>slots c o (F.fr.cells y c hc).1 (OX c u x)
 have up:Up s.heap (Y++Z) h (Y++Z):=fun a o ha e'=>⟨ha,keep a o ha e'⟩
 have noOwn: ∀(i:Nat) mv,(ρ.map MV.mm)[i]? =some mv→mv.owned=true→False:=fun i mv hm ho=>(Option.map_eq_some_iff.mp (List.getElem?_map.symm.trans hm)).elim fun q x=>Bool.noConfusion ((yS q).symm.trans (x.2▸ho))
 refine⟨⟨⟨F.fr.scope,F.fr.kind,F.fr.globals,F.fr.builtins,Ff,⟨F.fr.locals.1,F.fr.locals.2.elim fun o ho=>(slots _ o F.fr.locals.1 (Ne.symm Iq) ho).elim fun sl h'=>⟨_,h'⟩⟩,fun y c hc=>⟨(F.fr.cells y c hc).1,?_⟩,F.fr.has,fun y i hi mv jC hu=> ?_⟩,F.tq,F.ns.elim fun m x=>⟨m,QG m x⟩,fun y hy=>(F.cell y hy).imp id fun x=>⟨x.1,x.2.1,x.2.2.elim fun c x=>⟨c,x.1,x.2.1,x.2.2.1.elim fun v hv=>⟨v,Ng y c v x.1 hv⟩,x.2.2.2⟩⟩,F.apart,fun x i mv a H=>(noOwn i mv H.val H.ow).elim,fun x y i j mv nh a H _=>(noOwn i mv H.val H.ow).elim⟩,⟨fun a o' ha=> ?_,iE.inv.bare⟩⟩
 ·by_cases hci:c=it
  ·exact hci▸RR it BO
  ·exact(F.fr.cells y c hc).2.elim fun o ho=>(slots _ o (F.fr.cells y c hc).1 hci ho).elim fun sl h'=>⟨_,h'⟩
 ·rw[aL] at jC
  obtain⟨MO,h0,rfl⟩:=Option.map_eq_some_iff.mp jC
  obtain⟨q,rfl⟩:=Em hu
  exact(F.fr.rd y i hi _ h0 (fun h=>nomatch h)).elim fun v r=>⟨v,r.1.map QG fun c u hc=>Ng y c u hc,VR.up up (show VR L.prog L.w s.heap (Y++Z) q v from r.2)⟩
 ·change (if a=e then some oe else L.look a)=some o' at ha
  by_cases h':a=e
  ·rw[if_pos h'] at ha;exact Option.some.inj ha▸h'▸he
  ·rw[if_neg h'] at ha;exact keep a o' (Ir a o' ha) (I.iA a o' ha)
end
end
section
open PySem PyProof.Rows
section
variable {L:ig} {sc:Scope} {σ:gO} {own:List Str} {k:Nat}
theorem BR{h h':Heap}: ∀{l:List b8},(∀b o,b∈l.filterMap (·.frame)→h.get? b=some o→h'.get? b=some o)→h.FunFrames E0 l→h'.FunFrames E0 l:=by
 intro l
 induction l with
 |nil=>exact @fun _ _=>trivial
 |cons c l iu=>
  intro hb x
  obtain⟨h1,⟨Lc,o,h2,h3,h4,h5⟩,h6⟩:=x
  have e:(c::l).filterMap (·.frame)=Lc::l.filterMap (·.frame):=by rw[cb,h2]
  rw[e] at hb
  exact⟨h1,⟨Lc,o,h2,h3,hb Lc o (aA ..) h4,h5⟩,iu (fun b o h e=>hb b o (av _ h) e) h6⟩
theorem BS{h:Heap}{env:b8}{l:List b8}{m:Str→Option Value}(hk:env.scope.kind= .function)(hf:env.frame=some env.locals)(x:h.Ns env.locals m)(hl:h.FunFrames E0 l):h.FunFrames E0 (env::l):=
 ⟨(by rw[hk];intro h;(first|exact VS h|cases h)),x.elim fun o x=>x.elim fun es x=>x.elim fun ep x=>⟨_,o,hf,rfl,x.1,fun vs h=>nomatch x.2.1.symm.trans h⟩,hl⟩
theorem Iw(hn:L.exc=none){a:Addr}{fd:FuncData}{Ac:Scope}{y':Str}{BP:List Str}{K6:gO}{body:List Stmt}{m kk K:Nat}{gg:Bool}{f:List MV→Option (Option Fl×List MV)}(C:K5 L a fd Ac y' BP K6 body k m f)
  {y fn sn:Str}{yp np cp ep sp hp pos:cP}{i:Nat}{FO:Stmt}{zc:List Stmt}{fs:List MV→Option (Fl×List MV)}
  {env:b8}{A:aF}{Y Z:List Addr}{s:aq}{ρ J2 BQ:List MV}{rest:List PV}{outer:List b8}{bb:Bool}{Q:Flow→aq→Prop}{E:Value→aq→Prop}
  (hg:sc.names.lookup fn=some .globalImplicit)(hv:L.gl fn=some (.ref a))(hi:lb σ y i)(jC:ρ[i]? =some (.mj rest))(hf:f (.mj rest::List.replicate m .un)=some (none,J2))
  (Vu:sc.names.lookup sn=some .globalImplicit)(hsv:L.gl sn=some (.type "StopIteration"))(K9:E7 sc=false)(K4:A.frames=some (env::outer))(zU:s.heap.FunFrames E0 outer)(Nh: ∀b∈outer.filterMap (·.frame),b∈Y++Z∧b≠L.tb)
  (Xe: ∀e oe js Dz hx,SS (L.jg e oe js Dz hx) sc σ own kk gg (FO::zc) fs)(Xf:fs (ρ.map MV.mm)=some (.ret (.bool bb),BQ))(hkk:kk≤K)(hkK:k+1≤K)
  (OY:i5 L K A)(F:FS L sc σ own env Y Z s.heap ρ)(I:Inv L s)(kH:L.tb∈Z)(kh:sysModules∈Z)(RX:sysModules≠L.tb)
  (hd:(fn==("__debug__":Str))=false)(hd2:(y==("__debug__":Str))=false)(Qm:(sn==("__debug__":Str))=false)(hsw: ∀env,swapsWith (.Call (.Name fn np) [.Name y yp] [] cp) none ep.line env=pure false)
  (Xg:sysModules∉outer.filterMap (·.frame))
  (hQ: ∀s',AllBare s'.gens→s'.os=s.os→s'.drawn=s.drawn→(∀a o,L.look a=some o→s'.heap.get? a=some o)→(∃fp,L.tabI s'.heap fp)→(∀o,s.heap.get? sysModules=some o→s'.heap.get? sysModules=some o)→Q (.ret (.bool bb)) s'):
  wpAny L.M A (exec (.Try [.Expr (.Call (.Name fn np) [.Name y yp] [] cp) ep] [.ExceptHandler (some (.Name sn sp)) none (FO::zc) hp] [] [] pos) env) Q E s:=by
 have R:=OY.less hkK
 have sa:env.scope.kind= .function:=by rw[F.fr.scope];exact F.fr.kind
 refine wpAny_Try_except (dk (wpAny_Expr (hi:=qa sa) (hs:=hsw env) (bT (aN sa (by unfold b8.kindOf;rw[F.fr.scope];exact hg) (L.rt s env A fn _ _ _ I.iA F.fr.globals F.fr.builtins.1 hv ?_) hd))))
 obtain⟨it,hrd,hm⟩:=F.oQ hi.1 jC rfl
 obtain⟨o,ho,N0⟩:=C.D.obj
 generalize RY:(fun(e:Value) (s₁:aq)=>wpAny (model L.prog L.w) A (noteFrame e env) (fun _ gZ=>wpAny (model L.prog L.w) A (setFlight e none) (fun _ jc=>wpAny (model L.prog L.w) A (handleBy e env [.ExceptHandler (some (.Name sn sp)) none (FO::zc) hp]) Q E jc) E gZ) E s₁)=ab2
 refine et (a:=a) (o:=o) (fd:=fd) (b7 (rest:=[]) ?_)
 refine di (rest:=[]) (he:=rfl) (pos:=cp) (hrd.eval sa (cW ⟨⟨I.iA _ _ ho,N0⟩,?_⟩) hd2)
 refine Nb C.D C.S C.nc C.y0 C.b R (R.none hn) F.fr.xo I hm hf (.inl rfl) (fun p r hp=>by (first|exact VS hp|cases hp)) (fun _ La e s₁ q1 q2 q3 q4 iE q5 q6 q7 qS=> ?_)
 obtain⟨MI,ax,l,ix,e1,BO,K0,hits,hit,_⟩:=hm
 skip;(first|exact VS e1|cases e1)
 obtain⟨mj,RZ,_,R3⟩:=hit
 have Iq:it≠env.locals:=(F.Fg _ _ _ _ ⟨hi.1,jC,rfl,hrd⟩).2
 have OX: ∀c u,s.heap.IsCell c u→c≠it:=fun c u x h=>x.elim fun o x=>qM (R3.symm.trans ((congrArg Obj.data (Option.some.inj (RZ.symm.trans (h▸x.1)))).trans x.2))
 have Vv:env.frame=some env.locals:=F.fr.builtins.2.2 K9
 have js:e≠L.tb:=fun h=>F.fr.xo.fresh q5 (h▸F.fr.xo.tb)
 have Dz:L.look e=none:=by
  cases h:L.look e with
  |none=>rfl
  |some o=>exact hO (q5.symm.trans (I.iA _ _ h))
 have Iy: ∀b o,b≠L.tb→b≠it→s.heap.get? b=some o→s₁.heap.get? b=some o:=fun b o h1 h2 e'=>iE.keep b o h1 (fun h=>h2 (List.mem_singleton.mp h)) e'
 have OZ: ∀b∈outer.filterMap (·.frame),b≠it:=fun b hb h=>by
  obtain⟨_,o,ho,M6⟩:=zU.mem hb
  exact M6 _ (Option.some.inj (RZ.symm.trans (h▸ho))▸R3)
 have R4:s₁.heap.FunFrames E0 (env::outer):=F.ns.elim fun m' CQ=>BS sa Vv (CQ.at' fun o e=>Iy _ o F.fr.locals.1 (Ne.symm Iq) e) (BR (fun b o hb e=>Iy b o (Nh b hb).2 (OZ b hb) e) zU)
 have Xh:s₁.heap.FunFrames E0 (La::env::outer):=q4.elim fun m' CQ=>BS q2 q1 CQ R4
 have exc: ∃oe vs,s₁.heap.get? e=some oe∧oe.data= .fields vs:=q6.elim fun o x=>x.elim fun vs x=>x.elim fun _ x=>⟨o,vs,x.1,x.2.2.1⟩
 generalize hSS:e::(La::env::outer).filterMap (·.frame)=S
 have O0:e::La.locals::env.locals::outer.filterMap (·.frame)=S:=by rw[←hSS,cb,q1,cb,Vv]
 have hS1: ∀b∈e::(env::outer).filterMap (·.frame),b∈S:=fun b hb=>by
  rw[cb,Vv] at hb
  exact O0▸(List.mem_cons.mp hb).elim (fun h=>h▸aA ..) fun h=>av _ (av _ h)
 have hS2: ∀b∈S,b=e∨s.heap.get? b=none∨(b∈Y++Z∧b≠L.tb):=fun b hb=>by
  rw[←O0] at hb
  exact(List.mem_cons.mp hb).imp id fun h=>(List.mem_cons.mp h).imp (fun(h:b=La.locals)=>h▸q3) fun h=>(List.mem_cons.mp h).elim (fun(h:b=env.locals)=>⟨h▸az _ F.tq,h▸F.fr.locals.1⟩) (Nh b)
 refine(Ab.start (S:=S) q6).leave (.inl rfl) (by show A.frames.map _=_;rw[K4];rfl) q1 Xh (fun b hb=>hSS▸hb) fun h₂ R5=> ?_
 rw[←RY]
 refine Ab.note (s:={s₁ with heap:=h₂}) R5 (.inr rfl) K4 Vv (R5.frames exc R4) hS1 fun h₃ Xi=> ?_
 refine Ab.land (s:={s₁ with heap:=h₃}) Xi fun O1 O2=> ?_
 have Xj: ∀a o,L.look a=some o→O1.get? a=some o:=fun c oc hc=>O2.keep c oc (fun hm=>(hS2 c hm).elim (fun h1=>hO (Dz.symm.trans (h1▸hc))) fun h=>h.elim (fun h1=>hO (h1.symm.trans (I.iA _ _ hc))) fun h1=>hO ((F.fr.xo.look c h1.1).symm.trans hc)) (iE.inv.iA c oc hc)
 refine wpAny_handleBy_builtin (X:="StopIteration") (T:="StopIteration") (b:=true) x4 K7 fA ?_
 refine aN sa (by unfold b8.kindOf;rw[F.fr.scope];exact Vu) (L.rt {s₁ with heap:=O1} env _ sn _ _ _ Xj F.fr.globals F.fr.builtins.1 hsv ?_) Qm
 refine⟨rfl,O2.exc.elim fun R6 x=>x.elim fun aax x=>⟨R6,x.1,x.2.1⟩,?_⟩
 rw[if_pos rfl]
 refine Ab.land (s:={s₁ with heap:=O1}) O2 fun Dv O3=> ?_
 obtain⟨oe,vs,g3,_,g5,g6,_⟩:=O3.exc
 obtain⟨Bq,Xk⟩:=OW (L:=L) F I rfl iE BO Iq OX qS q5 Dz hS2 O3 g3 ⟨vs,g5,g6⟩ js
 refine Xe e oe js Dz ⟨vs,g5,g6⟩ env (A.mark (some (.ref e))) Y Z {s₁ with heap:=Dv} _ BQ (.ret (.bool bb)) Q _ ⟨?_,OY.depth|> fun h=>by show A.depth+kk<900;omega,OY.units|> fun h=>by show A.units+100*kk<9000;omega⟩ Bq Xk kH kh Xf fun fv Y' s' qE F' Qi Z9 d'=> ?_
 ·show(some (Value.ref e)).or A.handled=_;rfl
 ·obtain⟨v,rfl,nf⟩:=qE
  have:=nf.pP
  subst this
  refine hQ s' d'.inv.bare (d'.os.trans iE.os) (d'.drawn.trans iE.drawn) (fun a o ha=>d'.inv.iA a o (jr ha)) (F'.fr.xo.tab.elim fun fp h=>⟨fp,h.1⟩) fun o ho=> ?_
  have hsS:sysModules∉S:=fun hm=>by
   rw[←O0] at hm
   exact(List.mem_cons.mp hm).elim (fun h=>hO (q5.symm.trans (h▸ho))) fun h=>(List.mem_cons.mp h).elim (fun h=>hO (q3.symm.trans (h▸ho))) fun h=>(List.mem_cons.mp h).elim (fun h=>F.apart _ (h▸F.tq) kh) Xg
  exact d'.keep _ o RX (fun h=>F.apart _ h kh) (O3.keep _ o hsS (Iy _ o RX (Ne.symm hits) ho))
end
end
section
open PySem PyProof.Rows
structure vM(L:ig)(K:eo)(C fI:Addr)(nm:Str):Prop where
 Qn: ∀h:Heap,(∀a o,L.look a=some o→h.get? a=some o)→PySem.W.Frag.In K h
 makes:PySem.W.makesIn K C=true
 init:PySem.W.findIn K (.ref C) "__init__"=some (some (.ref fI))
 fn:PySem.W.typeIn K (.ref fI)=some (.type "function")
 setattr:PySem.W.findIn K (.ref C) "__setattr__"=some (some (.builtin "object.__setattr__"))
 over:PySem.W.plainOver K C=true
 R7:PySem.W.takerIn K C nm=some none
 dict:PySem.W.hasDictIn K C=true
 get:PySem.W.plainGet K C nm=true
 attr:PySem.W.findIn K (.ref C) nm=some none
 O4:PySem.W.keepIn K (.ref C)=true
theorem VR.Ni{prog:Program}{w:dw}{h:Heap}{X:List Addr}{C:Addr}{nm:Str}{p:PV}{v:Value}(x:VR prog w h X (.inst C nm p) v):
 ∃a dx es n NS t u,v= .ref a∧a∉X∧dx∉X∧h.get? a=some {cls:= .ref C,dict:=some dx,data:= .plain}∧h.get? dx=some {cls:= .type "dict",data:= .dict es n}∧es= #[⟨NS,.str nm t,u⟩]∧VR prog w h X p u:=x
section
variable {L:ig} {sc:Scope} {σ:gO} {own:List Str} {k:Nat} {K:eo} {C fI:Addr} {nm:Str}
noncomputable def Ad(C:Addr)(nm:Str)(ps:List PV):Option PV:=A3 (fun p=>some (.inst C nm p)) ps
theorem O5(D:vM L K C fI nm){fd:FuncData}{Ac:Scope}{sf ar:Str}{sp ap apos pos:cP}(Df:iI L fI fd Ac [sf,ar] [.Assign [.Attribute (.Name sf sp) nm apos] (.Name ar ap) pos])(S:sx Ac [] [sf,ar] [sf,ar])(JY:Ac.names.lookup sf=some .local)(KN:Ac.names.lookup ar=some .local)
  (HZ:(sf==("__debug__":Str))=false)(hd2:(ar==("__debug__":Str))=false)(hsw: ∀env,env.scope=Ac→swapsWith (.Name ar ap) (some (.Attribute (.Name sf sp) nm apos)) pos.line env=pure false):iM L (k+2) (.ref C) (Ad C nm):=by
 intro A X s ps vs r Q E R x I jE hg hQ
 replace hg:=lV hg
 obtain⟨p,rfl,hg⟩:=hg
 skip;(first|exact VS hg|cases hg)
 obtain⟨v,rfl,hv⟩:=gV.one jE
 obtain⟨hh,g,d,t,os⟩:=s
 have Lb:=D.Qn hh I.iA
 refine f7 (PySem.W.make_core (PySem.W.makes_of Lb D.makes) (PySem.W.looks_findIn Lb D.init) (fun self=>PySem.W.bind_fn Lb self D.fn) (.inl rfl) ?_)
 obtain⟨o,ho,N0⟩:=Df.obj
 have uy:fd.scope=Ac:=Df.scope
 have R8:(hh.push PySem.W.emptyDict).objs.size=hh.objs.size+1:=aZ ..
 have Ld:((hh.push PySem.W.emptyDict).push (PySem.W.instObj C hh.objs.size)).objs.size=hh.objs.size+2:=by rw[aZ,R8]
 have k0: ∀b o,hh.get? b=some o→((hh.push PySem.W.emptyDict).push (PySem.W.instObj C hh.objs.size)).get? b=some o:=fun b o e=>ay _ (ay _ e)
 have gx:((hh.push PySem.W.emptyDict).push (PySem.W.instObj C hh.objs.size)).get? (hh.objs.size+1)=some (PySem.W.instObj C hh.objs.size):=by rw[←R8];exact aB _ rfl
 have gd:((hh.push PySem.W.emptyDict).push (PySem.W.instObj C hh.objs.size)).get? hh.objs.size=some PySem.W.emptyDict:=ay _ (aB _ rfl)
 generalize hH:(hh.push PySem.W.emptyDict).push (PySem.W.instObj C hh.objs.size)=H at Ld k0 gx gd
 have E6: ∀a o,L.look a=some o→H.get? a=some o:=fun a o e=>k0 a o (I.iA a o e)
 generalize nk:callEnvC fd H.objs.size fI=env
 have e1:env.scope=Ac:=by rw[←nk];exact uy
 have e2:env.locals=H.objs.size:=by rw[←nk];rfl
 have kindOf: ∀y,env.kindOf y=Ac.names.lookup y:=fun y=>by unfold b8.kindOf;rw[e1]
 have hd:=R.depth
 refine PySem.codeAny_call_cells (s:=⟨H,g,d,t,os⟩) (binds:=[sf,ar].zip [.ref (hh.objs.size+1),v]) (by have hw:(Code.builtin "type.__call__" ⟨[.ref C,v],[]⟩).weight=1:= (by kernel_rfl);show A.depth+(Code.builtin "type.__call__" ⟨[.ref C,v],[]⟩).weight<1000;rw[hw];omega) (E6 fI o ho) N0 (L.noLimit _ E6) (Df.code _ E6) Df.body (Df.bind _ rfl) Df.closure ?_ ?_ (by rw[uy];exact S.co) (by rw[uy];exact S.gen) (by rw[uy];exact S.kind)
 ·intro z hz
  rw[uy]
  simp only[List.zip_cons_cons,List.zip_nil_right,List.mem_cons,c6,or_false] at hz
  rcases hz with rfl|rfl
  ·exact .inl JY
  ·exact .inl KN
 rw[nk]
 intro s₁ ni
 obtain⟨h₁,tk,rfl⟩:=ni.toInCall.same
 have keep:=ni.toInCall.keep
 have xN:=ni.toInCall.ns
 have sa:env.scope.kind= .function:=by rw[e1];exact S.kind
 have F:Fr hh env.locals h₁ (bindL env.kindOf ([sf,ar].zip [.ref (hh.objs.size+1),v]) fun _=>none):=⟨xN,fun b o e=>keep b o (k0 b o e),by rw[e2,Ld];omega⟩
 have N:News hh env.locals h₁ [(hh.objs.size+1,PySem.W.instObj C hh.objs.size),(hh.objs.size,PySem.W.dictOf [] 0)]:=by
  intro q hq
  simp only[List.mem_cons,c6,or_false] at hq
  rcases hq with rfl|rfl
  ·exact⟨keep _ _ gx,(by rw[e2,Ld];exact dC (dM _)),dQ (du _)⟩
  ·exact⟨keep _ _ gd,(by rw[e2,Ld];exact dC (Nat.lt_add_of_pos_right (by decide))),dQ (bu _)⟩
 have vsf:bindL env.kindOf ([sf,ar].zip [.ref (hh.objs.size+1),v]) (fun _=>none) sf=some (.ref (hh.objs.size+1)):=qu _ [sf,ar] [.ref (hh.objs.size+1),v] _ 0 sf _ S.BC rfl rfl (by rw[kindOf];exact JY)
 have var:bindL env.kindOf ([sf,ar].zip [.ref (hh.objs.size+1),v]) (fun _=>none) ar=some v:=qu _ [sf,ar] [.ref (hh.objs.size+1),v] _ 1 ar _ S.BC rfl rfl (by rw[kindOf];exact KN)
 refine dk (plainObj_wpAny_Assign_Attribute (hs:=hsw env e1) (f9 (cH sa (by rw[kindOf];exact KN) xN var (f9 (cH sa (by rw[kindOf];exact JY) xN vsf ?_) HZ)) hd2))
 refine PySem.W.set_dict (dx:=hh.objs.size) (n':=1) F Lb N (PySem.W.InstAt.of_news N (.head _) (.tail _ (.head _))) rfl D.setattr D.over D.R7 D.dict rfl rfl (.tail (d4 (dM _)) (.head fun _ h=>nomatch h)) (by show 1≤1000;decide) fun h₂ jK R9=> ?_
 refine fh (And.intro rfl ?_)
 have nx:hh.get? (hh.objs.size+1)=none:=dQ (du _)
 have nd:hh.get? hh.objs.size=none:=dQ (bu _)
 refine hQ _ _ ?_ (gN.of_keep (s:=⟨hh,g,d,t,os⟩) I x jK.keep _)
 exact .intro _ ⟨_,_,_,_,_,_,rfl,x.fresh nx,x.fresh nd,(R9 _ (.head _)).1,(R9 _ (.tail _ (.head _))).1,rfl,hv.up fun b o hb e=>⟨hb,jK.keep b o e⟩⟩
end
end
section
open PySem PyProof.Rows PySem.Builtin.Re
theorem wM:PlainAttrs "re.Pattern":=
 ⟨⟨"object.__getattribute__",by rw[cj,bI];kernel_rfl,by decide+kernel⟩,by rw[cj,bI];kernel_rfl⟩
theorem oR:Slot "re.Pattern" "sub" "re.Pattern.sub":=
 .of (owner:="re.Pattern") (n:="sub") (by rw[cj,bI];kernel_rfl) (by decide+kernel) (by decide+kernel) (by decide+kernel)
  (by first|exact .inl (by decide+kernel)|exact .inr (by decide+kernel)) (by rw[en];kernel_rfl)
theorem Ae:typeOf (.builtin "re.Pattern.sub")=pure (.type "method_descriptor"):=by show builtinType _=_;rw[builtinType_eq_fast];kernel_rfl
theorem ya:entryFor table "re.Pattern.sub"=some aC.«re.Pattern.sub»:=dU (by kernel_rfl)
theorem qd:entryFor table "re.Pattern.sub.loop"=some aC.«re.Pattern.sub.loop»:=dU (by kernel_rfl)
theorem FP:Manifest.owners.lookup (String.ofList ['n','r','e','t','t','a','P','.','e','r'].reverse)=some Manifest.sig_re_Pattern:= (by kernel_rfl)
theorem Af(a b c:Value):argsOk "re.Pattern.sub" ⟨[a,b,c],[]⟩:=by
 unfold argsOk;rw[signature?_of (id:="re.Pattern.sub") (n:=['b','u','s']) (o:=['n','r','e','t','t','a','P','.','e','r']) (by kernel_rfl) FP];kernel_rfl
theorem Iz(r x:Value):reNamed "re.Pattern.sub" "sub" ["repl","string","count"] 2 [r,x] []=pure [some r,some x,none]:=by
 rfl
end
section
open PySem PySem.Sre
noncomputable def pN(code t:Array Nat)(st ls pc pos hd:Nat)(om:Bool)(fr:List eC)(wt:Nat)(Xl:Option Bool)(seen:Seen)(oc:Option Sre.Outcome):M:=
 {code,text:=t,lim:=t.size,start:=st,lastStart:=ls,pc,pos,handed:=hd,outermost:=om,marks:= #[],frames:=fr,weight:=wt,answer:=Xl,seen,outcome:=oc}
noncomputable def To(B:Nat)(m m':M):Prop:= ∃N,N≤B∧m.runFor N=m'
theorem nu(n:Nat)(m:M):m.runFor (n+1)=if m.outcome.isSome then m else m.step.runFor n:=rfl
theorem qe(n:Nat)(m:M)(h:m.outcome.isSome=true):m.runFor n=m:=by
 cases n with
 |zero=>rfl
 |succ n=>rw[nu,if_pos h]
theorem rI(a b:Nat)(m:M):m.runFor (a+b)=(m.runFor a).runFor b:=by
 induction a generalizing m with
 |zero=>rw[de];rfl
 |succ a ih=>
  rw[Nat.succ_add,nu,nu]
  by_cases h:m.outcome.isSome
  ·rw[if_pos h,if_pos h,qe b m h]
  ·rw[if_neg h,if_neg h];exact ih m.step
theorem To.trans{a b:Nat}{m m' m'':M}(x:To a m m')(y:To b m' m''):To (a+b) m m'':=by
 obtain⟨n,hn,e⟩:=x
 obtain⟨k,hk,e'⟩:=y
 exact⟨n+k,by omega,by rw[rI,e,e']⟩
theorem To.step{m m':M}(h:m.outcome=none)(e:m.step=m'):To 1 m m':=⟨1,bu _,by rw[nu,if_neg (by rw[h];decide),e];rfl⟩
theorem To.less{a b:Nat}{m m':M}(x:To a m m')(h:a≤b):To b m m':=let ⟨n,hn,e⟩:=x;⟨n,by omega,e⟩
theorem To.refl(m:M):To 0 m m:=⟨0,bu _,rfl⟩
noncomputable def Nj(r:Option (Nat×Nat))(m:M):Prop:=match r with
 |some (a,b)=>m.outcome=some .matched∧m.start=a∧m.handed=b
 |none=>m.outcome=some .failed
noncomputable def n8(t:Array Nat)(p:Nat):Bool:=p==0||t.getD (p-1) 0==10
noncomputable def mQ(t:Array Nat):Nat→Nat→Option (Nat×Nat)
 |0,_=>none
 |k+1,s=>if n8 t s&&t.getD s 0==46 then some (s,s+1) else mQ t k (s+1)
noncomputable def A5(s:Nat)(om:Bool):eC:={wait:= .nextStart,pc:=5,pos:=s,outermost:=om}
theorem Vw(t:Array Nat)(s hd:Nat)(om:Bool)(seen:Seen):
  (pN c1 t s t.size 5 s hd om [A5 s om] 1 none seen none).step=if n8 t s then pN c1 t s t.size 7 s hd om [A5 s om] 1 none ((seen.add 6).add 44) none else pN c1 t s t.size 5 s hd om [A5 s om] 1 (some false) ((seen.add 6).add 44) none:=by
 rfl
theorem Sa(t:Array Nat)(s hd:Nat)(om:Bool)(seen:Seen)(h:s<t.size):
  (pN c1 t s t.size 7 s hd om [A5 s om] 1 none seen none).step=if t.getD s 0==46 then pN c1 t s t.size 9 (s+1) hd om [A5 s om] 1 none (seen.add 16) none else pN c1 t s t.size 7 s hd om [A5 s om] 1 (some false) (seen.add 16) none:=by
 show(if s≥t.size then _ else _)=_
 rw[if_neg (by omega)]
 show(match (Except.ok (t.getD s 0==46,seen.add 16):Except String (Bool×Seen)) with| .error why=>_| .ok (false,seen)=>_| .ok (true,seen)=>_)=_
 cases t.getD s 0==46<;>rfl
theorem Sb(t:Array Nat)(s hd:Nat)(om:Bool)(seen:Seen)(h:t.size≤s):
  (pN c1 t s t.size 7 s hd om [A5 s om] 1 none seen none).step=pN c1 t s t.size 7 s hd om [A5 s om] 1 (some false) (seen.add 16) none:=by
 show(if s≥t.size then _ else _)=_
 rw[if_pos h];rfl
theorem Xm(t:Array Nat)(s p hd:Nat)(om:Bool)(seen:Seen):
  (pN c1 t s t.size 9 p hd om [A5 s om] 1 none seen none).step=pN c1 t s t.size 9 p p om [A5 s om] 1 (some true) (seen.add 1) none:=by
 cases om<;>rfl
theorem Xn(t:Array Nat)(s p pc hd:Nat)(om:Bool)(seen:Seen):
  (pN c1 t s t.size pc p hd om [A5 s om] 1 (some true) seen none).step=pN c1 t s t.size 5 s hd om [] 0 (some true) seen none:=by
 rfl
theorem Xo(t:Array Nat)(st s pc hd:Nat)(om:Bool)(seen:Seen):
  (pN c1 t st t.size pc s hd om [] 0 (some true) seen none).step=pN c1 t st t.size pc s hd om [] 0 (some true) seen (some .matched):=by
 rfl
theorem Sd(t:Array Nat)(st s pc hd:Nat)(om:Bool)(seen:Seen):
  (pN c1 t st t.size pc s hd om [] 0 (some false) seen none).step=pN c1 t st t.size pc s hd om [] 0 (some false) seen (some .failed):=by
 rfl
theorem Xp(t:Array Nat)(s pc hd:Nat)(om:Bool)(seen:Seen)(h:s<t.size):
  (pN c1 t s t.size pc s hd om [A5 s om] 1 (some false) seen none).step=pN c1 t (s+1) t.size 5 (s+1) (s+1) false [A5 (s+1) false] 1 none seen none:=by
 show(if false=true then _ else if s<t.size then _ else _)=_
 rw[if_neg (by decide),if_pos h];rfl
theorem Se(t:Array Nat)(s pc hd:Nat)(om:Bool)(seen:Seen)(h:t.size≤s):
  (pN c1 t s t.size pc s hd om [A5 s om] 1 (some false) seen none).step=pN c1 t s t.size 5 s hd om [] 0 (some false) seen none:=by
 show(if false=true then _ else if s<t.size then _ else _)=_
 rw[if_neg (by decide),if_neg (by omega)];rfl
theorem Xq(t:Array Nat): ∀(k s hd:Nat) (om:Bool) (seen:Seen),s+k=t.size→ ∃m',To (5*k+5) (pN c1 t s t.size 5 s hd om [A5 s om] 1 none seen none) m'∧Nj (mQ t k s) m':=by
 intro k
 induction k with
 |zero=>
  intro s hd om seen h
  have fin: ∀pc j0,To 2 (pN c1 t s t.size pc s hd om [A5 s om] 1 (some false) j0 none) (pN c1 t s t.size 5 s hd om [] 0 (some false) j0 (some .failed)):=fun pc j0=>
   (To.step (by rfl) (Se t s pc hd om j0 (by omega))).trans (To.step (by rfl) (Sd ..))
  by_cases hb:n8 t s
  ·exact⟨_,(((To.step (by rfl) ((Vw ..).trans (if_pos hb))).trans (To.step (by rfl) (Sb t s hd om _ (by omega)))).trans (fin _ _)).less (by omega),rfl⟩
  ·exact⟨_,((To.step (by rfl) ((Vw ..).trans (if_neg hb))).trans (fin _ _)).less (by omega),rfl⟩
 |succ k ih=>
  intro s hd om seen h
  have next: ∀pc j0,∃m',To (5*k+6) (pN c1 t s t.size pc s hd om [A5 s om] 1 (some false) j0 none) m'∧Nj (mQ t k (s+1)) m':=fun pc j0=>by
   obtain⟨m',h1,h2⟩:=ih (s+1) (s+1) false j0 (by omega)
   exact⟨m',((To.step (by rfl) (Xp t s pc hd om j0 (by omega))).trans h1).less (by omega),h2⟩
  by_cases hb:n8 t s
  ·have h1:=To.step (by rfl) ((Vw t s hd om seen).trans (if_pos hb))
   by_cases hc:t.getD s 0==46
   ·refine⟨_,((((h1.trans (To.step (by rfl) ((Sa t s hd om _ (by omega)).trans (if_pos hc)))).trans (To.step (by rfl) (Xm ..))).trans (To.step (by rfl) (Xn ..))).trans (To.step (by rfl) (Xo ..))).less (by omega),?_⟩
    unfold mQ
    rw[if_pos (by rw[hb,hc];rfl)]
    exact⟨rfl,rfl,rfl⟩
   ·obtain⟨m',h2,h3⟩:=next 7 _
    refine⟨m',((h1.trans (To.step (by rfl) ((Sa t s hd om _ (by omega)).trans (if_neg hc)))).trans h2).less (by omega),?_⟩
    unfold mQ
    rw[if_neg (by rw[(bY _).mp hc,fc];decide)];exact h3
  ·obtain⟨m',h2,h3⟩:=next 5 _
   refine⟨m',((To.step (by rfl) ((Vw t s hd om seen).trans (if_neg hb))).trans h2).less (by omega),?_⟩
   unfold mQ
   rw[if_neg (by rw[(bY _).mp hb,gC];decide)];exact h3
theorem Sf(t:Array Nat)(s:Nat)(h:s≤t.size): ∃m',To (5*(t.size-s)+6) (forSearch c1 t 0 s t.size false) m'∧Nj (mQ t (t.size-s) s) m':=by
 by_cases h1:t.size-s<1
 ·have e:forSearch c1 t 0 s t.size false=pN c1 t s 0 5 s s true [] 0 (some false) (({}:Seen).add 14) none:=by
   show(if s>t.size||t.size-s<1 then _ else _)=_
   rw[if_pos (by simp;omega)];rfl
  rw[e]
  refine⟨_,(To.step (m':=pN c1 t s 0 5 s s true [] 0 (some false) (({}:Seen).add 14) (some .failed)) (by rfl) rfl).less (by omega),?_⟩
  have:t.size-s=0:=by omega
  rw[this];rfl
 ·have e:forSearch c1 t 0 s t.size false=pN c1 t s t.size 5 s s true [A5 s true] 1 none (({}:Seen).add 14) none:=by
   show(if s>t.size||t.size-s<1 then _ else _)=_
   rw[if_neg (by simp;omega)];rfl
  rw[e]
  obtain⟨m',a,b⟩:=Xq t (t.size-s) s s true (({}:Seen).add 14) (by omega)
  exact⟨m',a.less (by omega),b⟩
end
section
open PySem PySem.Sre
noncomputable def ny(c:Nat):Bool:=c==10||c==13
noncomputable def n9(t:Array Nat):Nat→Nat→Option (Nat×Nat)
 |0,_=>none
 |k+1,s=>if ny (t.getD s 0) then some (s,if t.getD s 0==13&&(decide (s+1<t.size)&&t.getD (s+1) 0==10) then s+2 else s+1) else n9 t k (s+1)
noncomputable def rJ(t:Array Nat):Nat→Nat→Option Nat
 |0,_=>none
 |k+1,s=>if ny (t.getD s 0) then some s else rJ t k (s+1)
noncomputable def GG(s:Nat)(om:Bool):eC:={wait:= .nextStart,pc:=10,pos:=s,outermost:=om}
noncomputable def Nk(s:Nat)(om:Bool)(pc:Nat):eC:={wait:= .nextBranch,pc:=pc,pos:=s,outermost:=om}
noncomputable def frN(p:Nat)(om:Bool):eC:={wait:= .lookNot,pc:=26,pos:=p,outermost:=om}
section
variable (t:Array Nat) (s p hd:Nat) (om:Bool) (fr:List eC) (seen:Seen)
noncomputable abbrev Mk(t:Array Nat)(s pc p hd:Nat)(om:Bool)(fr:List eC)(wt:Nat)(Xl:Option Bool)(seen:Seen)(oc:Option Sre.Outcome):M:=pN c3 t s t.size pc p hd om fr wt Xl seen oc
theorem Nl(h:p<t.size):(Mk t s 12 p hd om fr 2 none seen none).step=if t.getD p 0==13 then Mk t s 14 (p+1) hd om fr 2 none (seen.add 16) none else Mk t s 12 p hd om fr 2 (some false) (seen.add 16) none:=by
 show(if p≥t.size then _ else _)=_
 rw[if_neg (by omega)]
 show(match (Except.ok (t.getD p 0==13,seen.add 16):Except String (Bool×Seen)) with| .error why=>_| .ok (false,seen)=>_| .ok (true,seen)=>_)=_
 cases t.getD p 0==13<;>rfl
theorem Nm(h:p<t.size):(Mk t s 14 p hd om fr 2 none seen none).step=if t.getD p 0==10 then Mk t s 16 (p+1) hd om fr 2 none (seen.add 16) none else Mk t s 14 p hd om fr 2 (some false) (seen.add 16) none:=by
 show(if p≥t.size then _ else _)=_
 rw[if_neg (by omega)]
 show(match (Except.ok (t.getD p 0==10,seen.add 16):Except String (Bool×Seen)) with| .error why=>_| .ok (false,seen)=>_| .ok (true,seen)=>_)=_
 cases t.getD p 0==10<;>rfl
theorem O6(h:t.size≤p):(Mk t s 14 p hd om fr 2 none seen none).step=Mk t s 14 p hd om fr 2 (some false) (seen.add 16) none:=by
 show(if p≥t.size then _ else _)=_
 rw[if_pos h];rfl
theorem Nn(h:p<t.size):(Mk t s 19 p hd om fr 2 none seen none).step=if t.getD p 0==10 then Mk t s 21 (p+1) hd om fr 2 none (seen.add 16) none else Mk t s 19 p hd om fr 2 (some false) (seen.add 16) none:=by
 show(if p≥t.size then _ else _)=_
 rw[if_neg (by omega)]
 show(match (Except.ok (t.getD p 0==10,seen.add 16):Except String (Bool×Seen)) with| .error why=>_| .ok (false,seen)=>_| .ok (true,seen)=>_)=_
 cases t.getD p 0==10<;>rfl
theorem Sg(h:p<t.size):(Mk t s 24 p hd om fr 2 none seen none).step=if t.getD p 0==13 then Mk t s 26 (p+1) hd om fr 2 none (seen.add 16) none else Mk t s 24 p hd om fr 2 (some false) (seen.add 16) none:=by
 show(if p≥t.size then _ else _)=_
 rw[if_neg (by omega)]
 show(match (Except.ok (t.getD p 0==13,seen.add 16):Except String (Bool×Seen)) with| .error why=>_| .ok (false,seen)=>_| .ok (true,seen)=>_)=_
 cases t.getD p 0==13<;>rfl
theorem Sh(h:p<t.size):(Mk t s 29 p hd om fr 3 none seen none).step=if t.getD p 0==10 then Mk t s 31 (p+1) hd om fr 3 none (seen.add 16) none else Mk t s 29 p hd om fr 3 (some false) (seen.add 16) none:=by
 show(if p≥t.size then _ else _)=_
 rw[if_neg (by omega)]
 show(match (Except.ok (t.getD p 0==10,seen.add 16):Except String (Bool×Seen)) with| .error why=>_| .ok (false,seen)=>_| .ok (true,seen)=>_)=_
 cases t.getD p 0==10<;>rfl
theorem O7(h:t.size≤p):(Mk t s 29 p hd om fr 3 none seen none).step=Mk t s 29 p hd om fr 3 (some false) (seen.add 16) none:=by
 show(if p≥t.size then _ else _)=_
 rw[if_pos h];rfl
theorem b3:(Mk t s 10 s hd om [GG s om] 1 none seen none).step=Mk t s 12 s s om [Nk s om 11,GG s om] 2 none (seen.add 7) none:=rfl
theorem Np(pc:Nat):(Mk t s pc p hd om [Nk s om 11,GG s om] 2 (some false) seen none).step=Mk t s 19 s s om [Nk s om 18,GG s om] 2 none seen none:=rfl
theorem Si(pc:Nat):(Mk t s pc p hd om [Nk s om 18,GG s om] 2 (some false) seen none).step=Mk t s 24 s s om [Nk s om 23,GG s om] 2 none seen none:=rfl
theorem n3:(Mk t s 26 p hd om fr 2 none seen none).step=Mk t s 29 p p false (frN p om::fr) 3 none (seen.add 5) none:=rfl
theorem n3'(pc p':Nat)(om':Bool):(Mk t s pc p' hd om' (frN p om::fr) 3 (some false) seen none).step=Mk t s 32 p hd om fr 2 none seen none:=rfl
theorem Sj:(Mk t s 16 p hd om fr 2 none seen none).step=Mk t s 35 p hd om fr 2 none (seen.add 15) none:=rfl
theorem Sk:(Mk t s 21 p hd om fr 2 none seen none).step=Mk t s 35 p hd om fr 2 none (seen.add 15) none:=rfl
theorem Nq:(Mk t s 32 p hd om fr 2 none seen none).step=Mk t s 35 p hd om fr 2 none (seen.add 15) none:=rfl
theorem s3(wt:Nat):(Mk t s 35 p hd om fr wt none seen none).step=Mk t s 35 p p om fr wt (some true) (seen.add 1) none:=by cases om<;>rfl
theorem r3b(pc Vx:Nat):(Mk t s pc p hd om [Nk s om Vx,GG s om] 2 (some true) seen none).step=Mk t s Vx s hd om [GG s om] 1 (some true) seen none:=rfl
theorem r3s(pc:Nat):(Mk t s pc p hd om [GG s om] 1 (some true) seen none).step=Mk t s 10 s hd om [] 0 (some true) seen none:=rfl
theorem e3(pc:Nat):(Mk t s pc p hd om [] 0 (some true) seen none).step=Mk t s pc p hd om [] 0 (some true) seen (some .matched):=rfl
theorem tail3(Vx:Nat): ∃m',To 4 (Mk t s 35 p hd om [Nk s om Vx,GG s om] 2 none seen none) m'∧m'.outcome=some .matched∧m'.start=s∧m'.handed=p:=
 ⟨_,(((To.step rfl (s3 ..)).trans (To.step rfl (r3b ..))).trans (To.step rfl (r3s ..))).trans (To.step rfl (e3 ..)),rfl,rfl,rfl⟩
end
theorem at3(t:Array Nat)(s hd:Nat)(om:Bool)(seen:Seen)(h:s<t.size)(he:ny (t.getD s 0)=true):
  ∃m',To 20 (Mk t s 10 s hd om [GG s om] 1 none seen none) m'∧m'.outcome=some .matched∧m'.start=s∧m'.handed=if t.getD s 0==13&&(decide (s+1<t.size)&&t.getD (s+1) 0==10) then s+2 else s+1:=by
 have hb:=To.step rfl (b3 t s hd om seen)
 by_cases DA:t.getD s 0==13
 ·have yb:(t.getD s 0==10)=false:=by have:=eq_of_beq DA;rw[this];rfl
  have h1:=hb.trans (To.step rfl ((Nl t s s s om _ _ h).trans (if_pos DA)))
  have odd: ∀pc j0,(∃B m',To B (Mk t s pc (s+1) s om [Nk s om 11,GG s om] 2 (some false) j0 none) m'∧B≤13∧m'.outcome=some .matched∧m'.start=s∧m'.handed=s+1)∨(s+1<t.size∧t.getD (s+1) 0==10):=fun pc j0=>by
   by_cases hx:s+1<t.size∧t.getD (s+1) 0==10
   ·exact .inr hx
   ·left
    have h2:=(To.step rfl (Np t s (s+1) s om j0 pc)).trans (To.step rfl ((Nn t s s s om _ _ h).trans (if_neg (by rw[yb];decide))))
    have h3:=((h2.trans (To.step rfl (Si ..))).trans (To.step rfl ((Sg t s s s om _ _ h).trans (if_pos DA)))).trans (To.step rfl (n3 ..))
    by_cases jF:s+1<t.size
    ·have hn: ¬ (t.getD (s+1) 0==10)=true:=fun e=>hx ⟨jF,e⟩
     have h4:=((h3.trans (To.step rfl ((Sh t s (s+1) (s+1) false _ _ jF).trans (if_neg hn)))).trans (To.step rfl (n3' ..))).trans (To.step rfl (Nq ..))
     obtain⟨m',a,b⟩:=tail3 t s (s+1) (s+1) om _ 23
     exact⟨_,m',h4.trans a,by omega,b⟩
    ·have h4:=((h3.trans (To.step rfl (O7 t s (s+1) (s+1) false _ _ (by omega)))).trans (To.step rfl (n3' ..))).trans (To.step rfl (Nq ..))
     obtain⟨m',a,b⟩:=tail3 t s (s+1) (s+1) om _ 23
     exact⟨_,m',h4.trans a,by omega,b⟩
  by_cases jF:s+1<t.size
  ·by_cases hc:t.getD (s+1) 0==10
   ·have h2:=(h1.trans (To.step rfl ((Nm t s (s+1) s om _ _ jF).trans (if_pos hc)))).trans (To.step rfl (Sj ..))
    obtain⟨m',a,b1,b2,b3⟩:=tail3 t s (s+1+1) s om _ 11
    refine⟨m',(h2.trans a).less (by omega),b1,b2,?_⟩
    rw[b3,if_pos (by rw[DA,hc,decide_eq_true jF];rfl)]
   ·have h2:=h1.trans (To.step rfl ((Nm t s (s+1) s om _ _ jF).trans (if_neg hc)))
    rcases odd 14 _ with⟨B,m',a,hB,b1,b2,b3⟩|hx
    ·refine⟨m',(h2.trans a).less (by omega),b1,b2,?_⟩
     rw[b3,if_neg (by rw[(bY _).mp hc,fc,fc];decide)]
    ·exact absurd hx.2 hc
  ·have h2:=h1.trans (To.step rfl (O6 t s (s+1) s om _ _ (by omega)))
   rcases odd 14 _ with⟨B,m',a,hB,b1,b2,b3⟩|hx
   ·refine⟨m',(h2.trans a).less (by omega),b1,b2,?_⟩
    rw[b3,if_neg (by rw[decide_eq_false jF,gC,fc];decide)]
   ·exact absurd hx.1 jF
 ·have Sl:=(bY _).mp DA
  have yb:t.getD s 0==10:=by unfold ny at he;rw[Sl,Bool.or_false] at he;exact he
  have h1:=(hb.trans (To.step rfl ((Nl t s s s om _ _ h).trans (if_neg DA)))).trans (To.step rfl (Np ..))
  have h2:=(h1.trans (To.step rfl ((Nn t s s s om _ _ h).trans (if_pos yb)))).trans (To.step rfl (Sk ..))
  obtain⟨m',a,b1,b2,b3⟩:=tail3 t s (s+1) s om _ 18
  refine⟨m',(h2.trans a).less (by omega),b1,b2,?_⟩
  rw[b3,if_neg (by rw[Sl,gC];decide)]
theorem RD(c:Nat)(seen:Seen): ∃j0,inSet c3 c c3.size 5 true seen= .ok (ny c,j0):=by
 by_cases h1:c==10
 ·refine⟨seen.add 16,?_⟩
  show(if c==10 then _ else _)=_
  rw[if_pos h1];unfold ny;rw[h1];rfl
 ·by_cases h2:c==13
  ·refine⟨(seen.add 16).add 16,?_⟩
   show(if c==10 then _ else if c==13 then _ else _)=_
   rw[if_neg h1,if_pos h2];unfold ny;rw[h2,eK];rfl
  ·refine⟨((seen.add 16).add 16).add 0,?_⟩
   show(if c==10 then _ else if c==13 then _ else _)=_
   rw[if_neg h1,if_neg h2];unfold ny;rw[(bY _).mp h1,(bY _).mp h2];rfl
theorem Xr(t:Array Nat)(m:M)(hc:m.code=c3)(ht:m.text=t)(hl:m.lim=t.size): ∀(k s:Nat) (seen:Seen),s+k=t.size→ ∃j0,M.admitted m (k+1) s seen= .ok (rJ t k s,j0):=by
 intro k
 induction k with
 |zero=>exact @fun s seen h=>⟨seen,by unfold M.admitted;rw[if_pos (by omega)];rfl⟩
 |succ k iu=>
  intro s seen h
  obtain⟨j0,e⟩:=RD (t.getD s 0) seen
  unfold M.admitted rJ
  rw[if_neg (by omega),hc,ht,e]
  cases ny (t.getD s 0) with
  |true=>exact⟨j0,rfl⟩
  |false=>exact iu (s+1) j0 (by omega)
theorem BU(t:Array Nat): ∀(k s:Nat),s+k=t.size→(rJ t k s=none→n9 t k s=none)∧ ∀p,rJ t k s=some p→p<t.size∧ny (t.getD p 0)=true∧n9 t k s=some (p,if t.getD p 0==13&&(decide (p+1<t.size)&&t.getD (p+1) 0==10) then p+2 else p+1):=by
 intro k
 induction k with
 |zero=>exact @fun s h=>⟨fun _=>rfl,fun p e=>by (first|exact VS e|cases e)⟩
 |succ k iu=>
  intro s h
  unfold rJ n9
  cases he:ny (t.getD s 0) with
  |true=>exact⟨fun e=>by simp at e,fun p e=>by simp at e;subst e;exact⟨by omega,he,by simp⟩⟩
  |false=>simpa using iu (s+1) (by omega)
theorem Sm(t:Array Nat)(s:Nat)(h:s≤t.size): ∃m',To 25 (forSearch c3 t 0 s t.size false) m'∧Nj (n9 t (t.size-s) s) m':=by
 by_cases h1:t.size-s<1
 ·have e:forSearch c3 t 0 s t.size false=pN c3 t s 0 10 s s true [] 0 (some false) (({}:Seen).add 14) none:=by
   show(if s>t.size||t.size-s<1 then _ else _)=_
   rw[if_pos (by simp;omega)];rfl
  rw[e]
  refine⟨_,(To.step (m':=pN c3 t s 0 10 s s true [] 0 (some false) (({}:Seen).add 14) (some .failed)) (by rfl) rfl).less (by omega),?_⟩
  have:t.size-s=0:=by omega
  rw[this];rfl
 ·obtain⟨j0,ha⟩:=Xr t (pN c3 t s t.size 10 s s true [] 0 none (({}:Seen).add 14) none) rfl rfl rfl (t.size-s) s (({}:Seen).add 14) (by omega)
  have e:forSearch c3 t 0 s t.size false=match M.admitted (pN c3 t s t.size 10 s s true [] 0 none (({}:Seen).add 14) none) (t.size+1-s) s (({}:Seen).add 14) with
   | .ok (some s',seen)=>({pN c3 t s t.size 10 s s true [] 0 none (({}:Seen).add 14) none with mustAdvance:=false,seen}).attemptAt s' true
   | .ok (none,seen)=>({pN c3 t s t.size 10 s s true [] 0 none (({}:Seen).add 14) none with seen}).say false
   | .error why=>(pN c3 t s t.size 10 s s true [] 0 none (({}:Seen).add 14) none).stick why:=by
   show(if s>t.size||t.size-s<1 then _ else _)=_
   rw[if_neg (by simp;omega)];rfl
  have hk:t.size+1-s=t.size-s+1:=by omega
  rw[hk,ha] at e
  obtain⟨f1,f2⟩:=BU t (t.size-s) s (by omega)
  cases hf:rJ t (t.size-s) s with
  |none=>
   rw[hf] at e
   rw[e,f1 hf]
   exact⟨_,(To.step (m':=pN c3 t s t.size 10 s s true [] 0 (some false) j0 (some .failed)) (by rfl) rfl).less (by omega),rfl⟩
  |some p=>
   rw[hf] at e
   obtain⟨g1,g2,g3⟩:=f2 p hf
   rw[e,g3]
   obtain⟨m',a,b⟩:=at3 t p p true j0 g1 g2
   exact⟨m',a.less (by omega),b⟩
end
section
open PySem PyProof.Rows PySem.Builtin.Re
section
variable {L:ig} {A:aF} {E:Value→aq→Prop} {s:aq}
theorem kT:plainId "re.Pattern.sub.loop"=true:=by decide+kernel
theorem yc{m':Sre.M}{Q:Sre.M→aq→Prop}(hq:Q m' s)(ho:m'.outcome.isSome=true): ∀(n:Nat) (turns:Nat) (m:Sre.M),n<turns→m.runFor (4*(n+1))=m'→wpAny L.M A (reDrive turns m) Q E s:=by
 intro n
 induction n with
 |zero=>
  intro turns m ht hm
  obtain⟨k,rfl⟩: ∃k,turns=k+1:=⟨turns-1,by omega⟩
  unfold reDrive
  have CQ:m.runFor reTurnSteps=m':=hm
  simp only[CQ,ho,if_true]
  exact aw hq
 |succ n ih=>
  intro turns m ht hm
  obtain⟨k,rfl⟩: ∃k,turns=k+1:=⟨turns-1,by omega⟩
  have CQ:(m.runFor reTurnSteps).runFor (4*(n+1))=m':=by
   rw[←rI]
   have:reTurnSteps+4*(n+1)=4*(n+1+1):=by unfold reTurnSteps;omega
   rw[this];exact hm
  unfold reDrive
  by_cases h:(m.runFor reTurnSteps).outcome.isSome=true
  ·have:m.runFor reTurnSteps=m':=by rw[←CQ,qe _ _ h]
   simp only[this,ho,if_true]
   exact aw hq
  ·simp only[h]
   exact ao (cR (ih k _ (by omega) CQ))
theorem BV{α:Type}{f:α→PUnit→Sem (ForInStep PUnit)}{Q:PUnit→aq→Prop}(hf: ∀a Q',Q' (.yield ⟨⟩) s→wpAny L.M A (f a ⟨⟩) Q' E s)(hq:Q ⟨⟩ s): ∀l:List α,wpAny L.M A (forIn l PUnit.unit f) Q E s:=by
 intro l
 induction l with
 |nil=>exact by rw[eY];exact aw hq
 |cons a l iu=>
  rw[dS]
  exact ao (hf a _ (iu))
theorem tC{m m':Sre.M}{B:Nat}{Q:Option Sre.M→aq→Prop}(h:To B m m')(hB:B<2^60)(r:Option (Nat×Nat))(hr:Nj r m')
  (hq: ∀x,(match r with|some (a,b)=> ∃y:Sre.M,x=some y∧y.start=a∧y.handed=b|none=>x=none)→Q x s):wpAny L.M A (reRunToEnd m) Q E s:=by
 obtain⟨N,hN,e⟩:=h
 have ho:m'.outcome.isSome=true:=by
  unfold Nj at hr
  split at hr
  ·rw[hr.1];rfl
  ·rw[hr];rfl
 have e4:m.runFor (4*(N+1))=m':=by
  have:4*(N+1)=N+(3*N+4):=by omega
  rw[this,rI,e,qe _ _ ho]
 unfold reRunToEnd
 refine ao (yc ?_ ho N (2^64) m (by omega) e4)
 refine ao (BV (fun i Q' Dm=> ?_) ?_ _)
 ·split
  ·exact ao (cR (aw Dm))
  ·exact aw Dm
 ·unfold Nj at hr
  split at hr
  ·rename_i a b
   rw[hr.1]
   exact aw (hq _ ⟨m',rfl,hr.2.1,hr.2.2⟩)
  ·rw[hr]
   exact aw (hq _ rfl)
noncomputable def wN(h:Heap)(a:Addr)(code:Array Nat)(kind:Nat):Prop:=
 ∃o fs tup o2 xs n,h.get? a=some o∧o.cls= .type "re.Pattern"∧o.dict=none∧o.data= .fields fs∧reRawNat (fs.getD 2 .none)=0∧fs.getD 5 .none= .ref tup∧reRawNat (fs.getD 6 .none)=kind∧
  h.get? tup=some o2∧o2.data= .seq xs n∧(xs.map reRawOf).map (·.toNat)=code
theorem wN.keep{h h':Heap}{a:Addr}{code:Array Nat}{kind:Nat}(x:wN h a code kind)(hk: ∀b o,(b=a∨True)→h.get? b=some o→h'.get? b=some o):wN h' a code kind:=by
 obtain⟨o,fs,tup,o2,xs,n,h1,h2,h3,h4,h5,h6,h7,h8,h9,yb⟩:=x
 exact⟨o,fs,tup,o2,xs,n,hk _ _ (.inr trivial) h1,h2,h3,h4,h5,h6,h7,hk _ _ (.inr trivial) h8,h9,yb⟩
theorem iY:typeLookup (.type "bytes") "__buffer__"=pure (some (.builtin "bytes.__buffer__")):=by rw[cj,bI];kernel_rfl
theorem pJ:typeLookup (.type "bytes") "__release_buffer__"=pure none:=by rw[cj,bI];kernel_rfl
theorem tD:typeLookup (.type "str") "__call__"=pure none:=by rw[cj,bI];kernel_rfl
theorem rK:typeLookup (.type "bytes") "__call__"=pure none:=by rw[cj,bI];kernel_rfl
theorem tE:isSubtype (.type "bytes") (.type "bytes")=pure true:=by rw[en];kernel_rfl
theorem typeIs_bytes(b:Array UInt8)(t:gj):s.TypeIs (.bytes b t) "bytes":=by first|exact rfl|trivial
theorem qf{b:Array UInt8}{t:gj}{Q:Bool→aq→Prop}(h:Q true s):wpAny L.M A (aC.Bytes.slotIsOwn (.bytes b t) "__buffer__") Q E s:=by
 unfold aC.Bytes.slotIsOwn
 refine ao (bF (typeIs_bytes b t) iY ?_)
 have e1:(!("bytes.__buffer__":String).endsWith ("."++"__buffer__"))=false:=by decide+kernel
 have e2:(("bytes.__buffer__":String).dropRight ("__buffer__".length+1))="bytes":=by decide+kernel
 simp only[e1,e2]
 exact dj (typeIs_bytes b t) tE h
theorem u3{b:Array UInt8}{t:gj}{Q:Bool→aq→Prop}(h:Q true s):wpAny L.M A (aC.Bytes.slotIsOwn (.bytes b t) "__release_buffer__") Q E s:=by
 unfold aC.Bytes.slotIsOwn
 exact ao (bF (typeIs_bytes b t) pJ (aw h))
theorem qV{b:Array UInt8}{t:gj}{Q:Array UInt8→aq→Prop}(h:Q b s):wpAny L.M A (aC.Bytes.payload (.bytes b t)) Q E s:=by
 unfold aC.Bytes.payload
 exact ao (aw (aw h))
theorem sH{id:String}{full:Bool}{b:Array UInt8}{t:gj}{Q:Option (Array UInt8)→aq→Prop}(h:Q (some b) s):wpAny L.M A (aC.Bytes.buffer? id (.bytes b t) full) Q E s:=by
 unfold aC.Bytes.buffer?
 refine ao (bF (typeIs_bytes b t) iY ?_)
 refine ao (qf ?_)
 rw[if_neg (c:=(!true)=true) bk]
 refine ao (bF (typeIs_bytes b t) iY ?_)
 refine ao ?_
 unfold aC.Bytes.ownRelease
 refine ao (u3 (aw ?_))
 exact ao (qV (aw h))
theorem nz{id:String}{b:Array UInt8}{t:gj}{Q:Option (Array UInt8)→aq→Prop}(h:Q (some b) s):wpAny L.M A (aC.Bytes.bufferQuiet? id (.bytes b t)) Q E s:=by
 unfold aC.Bytes.bufferQuiet?
 exact ao (dv (sH (aw h)))
end
end
section
open PySem PyProof.Rows PySem.Builtin.Re
section
variable {L:ig} {A:aF} {E:Value→aq→Prop} {s:aq}
inductive tF:Value→Array Nat→Nat→Prop
 |str (x:Str) (t:gj):tF (.str x t) x.cps 0
 |bytes (b:Array UInt8) (t:gj):tF (.bytes b t) (b.map (·.toNat)) 1
theorem BW{v:Value}{t:Array Nat}{k:Nat}{Q:Array Nat×Nat→aq→Prop}(hv:tF v t k)(h:Q (t,k) s):wpAny L.M A (reTextOf v) Q E s:=by
 cases hv with
 |str x tk=>
  unfold reTextOf
  exact ao (aw (aw h))
 |bytes b tk=>
  unfold reTextOf
  refine ao (ao (aw (aw ?_)))
  exact ao (nz (aw h))
theorem yd{a:Addr}{o:Obj}{xs:Array Value}{n:Nat}{Q:Array Int→aq→Prop}(ho:s.heap.get? a=some o)(hd:o.data= .seq xs n)(h:Q (xs.map reRawOf) s):wpAny L.M A (reRawItems (.ref a)) Q E s:=by
 unfold reRawItems
 exact ao (aW ho hd (aw h))
theorem zd{a:Addr}{code:Array Nat}{k:Nat}{v:Value}{t:Array Nat}{Q:ReTarget→aq→Prop}(hp:wN s.heap a code k)(hv:tF v t k)(hk:k≤1)
  (h: ∀T:ReTarget,T.code=code→T.text=t→T.kind=k→T.groups=0→T.lim=t.size→Q T s):wpAny L.M A (reWholeTarget (.ref a) v) Q E s:=by
 obtain⟨o,fs,tup,o2,xs,n,h1,h2,h3,h4,h5,h6,h7,h8,h9,yb⟩:=hp
 unfold reWholeTarget
 refine ao (wpAny_fieldsOf h1 h4 ?_)
 refine ao (BW hv ?_)
 simp only[h7]
 have c1:(k==0&&k==1)=false:=by cases hv<;>rfl
 have c2:(k==1&&k==0)=false:=by cases hv<;>rfl
 simp only[c1,c2]
 have Xs: ∀Q':Unit→aq→Prop,Q' () s→wpAny L.M A (reNoCollectionInside v k) Q' E s:=by
  intro Q' hq
  unfold reNoCollectionInside
  cases hv with
  |str x tk=>exact aw hq
  |bytes b tk=>exact ao (dj (typeIs_bytes b tk) tE (aw hq))
 refine ao (Xs _ ?_)
 rw[h6]
 refine ao (yd h8 h9 (aw ?_))
 exact h _ yb rfl rfl h5 rfl
theorem DB{v:Value}{t:Array Nat}{k:Nat}{Q:Unit→aq→Prop}(hv:tF v t k)(h:Q () s):wpAny L.M A (reLiteralCannotBeTurned v) Q E s:=by
 unfold reLiteralCannotBeTurned
 cases hv with
 |str x tk=>exact ao (aw (aw h))
 |bytes b tk=>exact ao (ao (aw (aw (ao (dj (typeIs_bytes b tk) tE (aw h))))))
noncomputable def vN(k:Nat)(t:Array Nat)(tk:gj):Value:=if k==0 then .str ⟨t⟩ tk else .bytes (t.map (·.toUInt8)) tk
theorem wO{t:Array Nat}{k b e:Nat}{Q:Value→aq→Prop}(ht:t.size≤100000)(h:Q (vN k (t.extract b e) s.toks) {s with toks:=s.toks+1}):wpAny L.M A (reSlice t k b e) Q E s:=by
 unfold reSlice
 unfold vN at h
 have hz:(t.extract b e).size≤100000:=by rw[Array.size_extract];exact Nat.le_trans (Nat.sub_le ..) (Nat.le_trans (eF ..) ht)
 cases hk:k==0 with
 |true=>rw[hk] at h;exact wpAny_mkStr h (Nat.le_trans hz (by decide))
 |false=>rw[hk] at h;exact wpAny_mkBytes h (by rw[gz];exact Nat.le_trans hz (by decide))
structure EB(code:Array Nat)(find:Array Nat→Nat→Nat→Option (Nat×Nat)):Prop where
 O8: ∀t s,s≤t.size→t.size≤100000→ ∃B m',To B (Sre.forSearch code t 0 s t.size false) m'∧B<2^60∧Nj (find t (t.size-s) s) m'
 Xt: ∀t s a b,s≤t.size→find t (t.size-s) s=some (a,b)→s≤a∧a<b∧b≤t.size
noncomputable def jR(find:Array Nat→Nat→Nat→Option (Nat×Nat))(t rep:Array Nat):Nat→Nat→List (Array Nat)
 |0,_=>[]
 |f+1,s=>match find t (t.size-s) s with
  |none=>if s<t.size then[t.extract s t.size] else[]
  |some (a,b)=>(if s<a then[t.extract s a] else[])++rep::jR find t rep f b
noncomputable def ye(h:Heap)(D:Addr)(k:Nat)(P:List (Array Nat)):Prop:= ∃xs n,h.get? D=some {cls:= .type "list",data:= .seq xs n}∧ ∃ts:List gj,xs.toList=(P.zip ts).map (fun x=>vN k x.1 x.2)∧ts.length=P.length
theorem ye.push{D:Addr}{k:Nat}{P:List (Array Nat)}{p:Array Nat}{tk:gj}{Q:Unit→aq→Prop}(x:ye s.heap D k P)(hP:P.length≤1000000)(h: ∀h',ye h' D k (P++[p])→(∀b o,b≠D→s.heap.get? b=some o→h'.get? b=some o)→Q () {s with heap:=h'}):
  wpAny L.M A (updateSeq D (·.push (vN k p tk))) Q E s:=by
 obtain⟨xs,n,hd,ts,e,hl⟩:=x
 have hsz:xs.size=P.length:=by rw[←aS,e];simp[hl]
 refine cF hd rfl (h _ ?_ ?_) (by show _≤16777216;omega) (by rw[Array.size_push];show _≤16777216+1;omega)
 ·obtain⟨n',JU⟩: ∃n',Obj.mapSeq (fun xs=>xs.push (vN k p tk)) ({cls:= .type "list",data:= .seq xs n}:Obj)={cls:= .type "list",data:= .seq (xs.push (vN k p tk)) n'}:=⟨_,rfl⟩
  have jB:=aQ (Obj.mapSeq fun xs=>xs.push (vN k p tk)) hd rfl
  rw[JU] at jB
  refine⟨_,n',jB,ts++[tk],?_,by simp[hl]⟩
  rw[dy,e,List.zip_append hl.symm,bA];rfl
 ·exact fun b o hb e=>(Heap.SameBut.update s.heap D (Obj.mapSeq fun xs=>xs.push (vN k p tk))).extBut b o hb e
end
end
section
open PySem PyProof.Rows PySem.Builtin.Re
theorem u4:Slot "bytes" "join" "bytes.join":=
 .of (owner:="bytes") (n:="join") (by rw[cj,bI];kernel_rfl) (by decide+kernel) (by decide+kernel) (by decide+kernel)
  (by first|exact .inl (by decide+kernel)|exact .inr (by decide+kernel)) (by rw[en];kernel_rfl)
theorem tG:entryFor table "bytes.join"=some aC.«bytes.join»:=dU (by kernel_rfl)
theorem Ag:Manifest.owners.lookup (String.ofList ['s','e','t','y','b'].reverse)=some Manifest.sig_bytes:= (by kernel_rfl)
theorem u5(a b:Value):argsOk "bytes.join" ⟨[a,b],[]⟩:=by
 unfold argsOk;rw[signature?_of (id:="bytes.join") (n:=['n','i','o','j']) (o:=['s','e','t','y','b']) (by kernel_rfl) Ag];kernel_rfl
section
variable {L:ig} {A:aF} {E:Value→aq→Prop} {s:aq}
theorem tH{id:String}{b:Array UInt8}{t:gj}{Q:Option (Array UInt8×Option Value)→aq→Prop}(h:Q (some (b,none)) s):wpAny L.M A (aC.Bytes.takeBufferQuiet? id (.bytes b t) 0) Q E s:=by
 unfold aC.Bytes.takeBufferQuiet? aC.Bytes.takeBuffer?
 refine ao (dv ?_)
 refine ao (bF (typeIs_bytes b t) iY ?_)
 refine ao (qf ?_)
 rw[if_neg (c:=(!true)=true) bk]
 refine ao (bF (typeIs_bytes b t) iY ?_)
 exact ao (sH (aw (aw h)))
theorem Ah{Q:Unit→aq→Prop}(h:Q () s): ∀(bs:List Value) (keep:List Value),wpAny L.M A (aC.Bytes.joinLetGo (bs.map fun b=>(b,none)) keep) Q E s:=by
 intro bs
 induction bs with
 |nil=>exact @fun _=>aw h
 |cons b bs iu=>
  intro keep
  rw[aU]
  unfold aC.Bytes.joinLetGo
  exact ao (cI (iu keep))
noncomputable def sI(bs:List (Array UInt8))(ts:List gj):List Value:=(bs.zip ts).map fun x=> .bytes x.1 x.2
theorem FQ{α β:Type}{f:α→β→Sem (ForInStep β)}{Q:β→aq→Prop}(P:Nat→β→Prop): ∀(l:List α) (j:Nat) (b:β),P j b→
  (∀m a b Q',l[m]? =some a→P (j+m) b→(∀b',P (j+m+1) b'→Q' (.yield b') s)→wpAny L.M A (f a b) Q' E s)→(∀b,P (j+l.length) b→Q b s)→wpAny L.M A (forIn l b f) Q E s:=by
 intro l
 induction l with
 |nil=>exact @fun j b h _ hq=>by rw[eY];exact aw (hq b h)
 |cons a l iu=>
  intro j b h st hq
  rw[dS]
  refine ao (st 0 a b _ rfl h fun b' xI=> ?_)
  exact iu (j+1) b' xI (fun m a b Q' hm hp Dm=>st (m+1) a b Q' (by simpa using hm) (by rwa [show j+(m+1)=j+1+m by omega]) fun b' hb=>Dm b' (by rwa [show j+1+m+1=j+(m+1)+1 by omega])) fun b hb=>hq b (by rwa [bj,show j+(l.length+1)=j+1+l.length by omega])
theorem DC{sep:Array UInt8}(Ai:sep.size=0)(bs:List (Array UInt8)):aC.Bytes.joined sep bs=bs.foldl (· ++ ·) #[]:=by
 have e:sep= #[]:=Array.eq_empty_of_size_eq_zero Ai
 subst e
 unfold aC.Bytes.joined
 have: ∀(n:Nat) (acc:Array UInt8),(bs.zipIdx n).foldl (fun out (x:Array UInt8×Nat)=>(if x.2>0 then out++ #[] else out)++x.1) acc=bs.foldl (· ++ ·) acc:=by
  induction bs with
  |nil=>intro n acc;rfl
  |cons b bs ih=>
   intro n acc
   rw[List.zipIdx_cons,aX,aX,ih]
   congr 1
   simp
 exact this 0 #[]
theorem join_loop{xs:Array Value}{bs:List (Array UInt8)}{ts:List gj}(hx:xs.toList=sI bs ts)(hl:ts.length=bs.length)(body:Nat→Array (Array UInt8)×List (Value×Option Value)→Sem (ForInStep (Array (Array UInt8)×List (Value×Option Value))))(fin:Array (Array UInt8)×List (Value×Option Value)→Sem eW)(FT:eW→aq→Prop)
  (hb: ∀(i:Nat) (parts:Array (Array UInt8)) (b:Array UInt8) (t:gj) (vs:List Value) (Q':ForInStep (Array (Array UInt8)×List (Value×Option Value))→aq→Prop),(∀v∈vs,v.onHeap=false)→xs[i]? =some (.bytes b t)→Q' (.yield (parts.push b,(vs.map fun v=>(v,none))++[(.bytes b t,none)])) s→wpAny L.M A (body i (parts,vs.map fun v=>(v,none))) Q' E s)
  (hf: ∀vs:List Value,wpAny L.M A (fin (bs.toArray,vs.map fun v=>(v,none))) FT E s):wpAny L.M A (forIn [:xs.size] ((#[]:Array (Array UInt8)),([]:List (Value×Option Value))) body>>= fin) FT E s:=by
 have uC:xs.size=bs.length:=by rw[←aS,hx];simp[sI,hl]
 refine ao ?_
 rw[Std.Legacy.Range.forIn_eq_forIn_range']
 have ib:(bW [:xs.size].start [:xs.size].size [:xs.size].step)=bW 0 xs.size 1:=by
  have:[:xs.size].size=xs.size:=Nat.div_one _
  rw[this]
 rw[ib]
 refine FQ (fun i st=>st.1.toList=bs.take i∧st.2=((sI bs ts).take i).map fun v=>(v,none)) _ 0 _ ⟨by simp,by simp⟩ (fun m a C6 Q' hm hp Dm=> ?_) (fun C6 hp=> ?_)
 ·obtain⟨Na,Ql⟩:=hp
  rw[de] at Na Ql Dm
  have CQ:m<xs.size∧a=m:=by
   obtain⟨h1,h2⟩:=List.getElem?_eq_some_iff.mp hm
   rw[List.length_range'] at h1
   rw[List.getElem_range'] at h2
   exact⟨h1,h2.symm.trans ((de _).trans (Nat.one_mul _))⟩
  obtain⟨jF,rfl⟩:=CQ
  have MQ:a<bs.length:=bQ jF uC
  have RH:a<ts.length:=bQ MQ hl.symm
  have hv:(sI bs ts)[a]? =some (.bytes bs[a] ts[a]):=by
   unfold sI
   rw[aL,(List.getElem?_zip_eq_some (z:=(bs[a],ts[a]))).mpr ⟨aG MQ,aG RH⟩];rfl
  have hxa:xs[a]? =some (.bytes bs[a] ts[a]):=by rw[←bz,hx];exact hv
  obtain⟨parts,taken⟩:=C6
  have Xu:taken=_:=Ql
  subst Xu
  refine hb a parts _ _ _ Q' (fun v nf=> ?_) hxa (Dm _ ⟨?_,?_⟩)
  ·have:=List.mem_of_mem_take nf
   obtain⟨y,_,rfl⟩:=List.mem_map.mp this
   rfl
  ·show(parts.push _).toList=_
   rw[dy,Na,List.take_add_one,aG MQ];rfl
  ·show _=List.map _ _
   rw[List.take_add_one,hv,bA];rfl
 ·obtain⟨Na,Ql⟩:=hp
  obtain⟨parts,taken⟩:=C6
  have e1:parts=bs.toArray:=by
   apply Array.toList_inj.mp
   have e0:0+(bW 0 xs.size 1).length=bs.length:=by rw[List.length_range'];omega
   rw[Na,e0,fX]
  have e2:taken=_:=Ql
  rw[e1,e2]
  exact hf _
theorem yf{sep:Array UInt8}{st:gj}{D:Addr}{xs:Array Value}{n:Nat}{bs:List (Array UInt8)}{ts:List gj}{Q:Value→aq→Prop}(hd:s.heap.get? D=some {cls:= .type "list",data:= .seq xs n})(hx:xs.toList=sI bs ts)(hl:ts.length=bs.length)(Ai:sep.size=0)
  (hsz:(bs.foldl (· ++ ·) #[]).size≤1000000)(hq: ∀t' k,Q (.bytes (bs.foldl (· ++ ·) #[]) t') {s with toks:=k}):wpAny L.M A (call (.builtin "bytes.join") [.bytes sep st,.ref D]) Q E s:=by
 have uC:xs.size=bs.length:=by rw[←aS,hx];simp[sI,hl]
 refine bw u4 (typeIs_bytes sep st) tG ?_ (u5 _ _)
 show wpAny _ _ (aC.Bytes.joinM .bytes ⟨[.bytes sep st,.ref D],[]⟩) _ _ s
 unfold aC.Bytes.joinM
 refine ao (cw (a:=(.bytes sep st,.ref D)) rfl ?_)
 refine ao ?_
 show wpAny _ _ (aC.Bytes.joinItems (.ref D)) _ _ s
 unfold aC.Bytes.joinItems
 refine ao (ee (T:="list") ⟨_,hd,rfl⟩ ?_)
 refine aw ?_
 refine ao (aW hd rfl ?_)
 by_cases h1: ∃b t,xs= #[.bytes b t]∧bs=[b]
 ·obtain⟨b,t,rfl,rfl⟩:=h1
  refine ao (ee (typeIs_bytes b t) ?_)
  refine ao (cR (aw ⟨_,rfl,?_⟩))
  have e:[b].foldl (· ++ ·) #[]=b:=by simp
  rw[e] at hq
  exact hq t s.toks
 ·have jp: ∀(ys:Array Value) (b':Value→Sem eW) (c:Unit→Sem eW) (FT:eW→aq→Prop),ys=xs→wpAny L.M A.in1 (c ()) FT (fun e s'=>E e s') s→wpAny L.M A.in1 (match ys with| #[x]=>b' x|_=>c ()) FT (fun e s'=>E e s') s:=by
   intro ys b' c FT e hc
   obtain⟨l⟩:=ys
   cases l with
   |nil=>exact hc
   |cons v r=>
    cases r with
    |cons _ _=>exact hc
    |nil=>
     exfalso
     subst e
     obtain⟨b,rfl⟩:=List.length_eq_one_iff.mp uC.symm
     obtain⟨t,rfl⟩:=List.length_eq_one_iff.mp hl
     have:v= .bytes b t:=by simpa[sI] using hx
     exact h1 ⟨b,t,by rw[this],rfl⟩
  refine jp xs _ (fun _=>_) _ rfl ?_
  refine join_loop hx hl _ _ _ (fun i parts b t vs Q' jE hxi Dm=> ?_) (fun vs=> ?_)
  ·refine ao (aW hd rfl ?_)
   have J3:xs.getD i .none= .bytes b t:=by rw[Array.getD_eq_getD_getElem?,hxi];rfl
   have Xv:((vs.map fun v=>(v,(none:Option Value))).any fun x=>x.1.onHeap)=false:=by
    rw[List.any_map,List.any_eq_false]
    intro v hv
    have:=jE v hv
    simpa using this
   show wpAny _ _ (if (aC.Bytes.Kind.bytes==aC.Bytes.Kind.bytearray||(vs.map fun v=>(v,(none:Option Value))).any fun x=>x.1.onHeap)=true then _ else _) _ _ _
   rw[Xv,if_neg (by decide),J3]
   refine ao (aP (tH ?_))
   refine ao (aW hd rfl ?_)
   show wpAny _ _ (if (xs.size !=xs.size)=true then _ else _) _ _ _
   rw[if_neg (by simp)]
   exact aw Dm
  ·refine ao (qV ?_)
   show wpAny _ _ (if aC.Bytes.tooLong (bs.toArray.foldl (· + ·.size) (sep.size*(bs.toArray.size-1)))=true then _ else _) _ _ _
   have O9:bs.toArray.foldl (· + ·.size) (sep.size*(bs.toArray.size-1))=(bs.foldl (· ++ ·) #[]).size:=by
    rw[Ai,Nat.zero_mul,fu]
    have: ∀(l:List (Array UInt8)) (acc:Array UInt8),l.foldl (· + ·.size) acc.size=(l.foldl (· ++ ·) acc).size:=by
     intro l
     induction l with
     |nil=>intro acc;rfl
     |cons b l ih=>intro acc;rw[aX,aX,←ih,Array.size_append]
    exact this bs #[]
   rw[O9,if_neg (by unfold aC.Bytes.tooLong;simp;show _≤16777216;omega)]
   have ej:aC.Bytes.joined sep bs.toArray.toList=bs.foldl (· ++ ·) #[]:=by rw[bM];exact DC Ai bs
   rw[ej]
   refine ao (wpAny_mkBytes ?_ (by show _≤16777216;omega))
   refine ao (aP (wpAny_point ?_))
   refine ao (Ah ?_ _ _)
   exact aw ⟨_,rfl,hq _ _⟩
end
end
section
open PySem PyProof.Rows PySem.Builtin.Re
noncomputable def kU(P:List (Array Nat)):Array Nat:=P.foldl (· ++ ·) #[]
theorem IA(P:List (Array Nat)){sep:Str}(hs:sep.cps= #[]):Txt.join sep (P.map fun p=>⟨p⟩)=⟨kU P⟩:=by
 unfold Txt.join aC.Str.glued kU
 rw[hs]
 cases P with
 |nil=>rfl
 |cons p P=>
  simp only[aU,List.drop_succ_cons,eZ,List.headD_cons,aX,Array.append_empty,ft,List.foldl_map]
noncomputable abbrev BX(n:Nat):Bool:=decide (n>16777216)
theorem Le(P:List (Array Nat)){sep:Str}(hs:sep.cps= #[])(h:(kU P).size≤1000000):JoinOk sep (P.map fun p=>⟨p⟩)=true:=by
 unfold JoinOk
 have hl:sep.length=0:=by show sep.cps.size=0;rw[hs];rfl
 have: ∀(l:List (Array Nat)) (acc:Array Nat),(l.map fun p=>(⟨p⟩:Str)).foldl (fun n x=>n+x.length+sep.length) acc.size=(l.foldl (· ++ ·) acc).size:=by
  intro l
  induction l with
  |nil=>intro acc;rfl
  |cons b l ih=>
   intro acc
   rw[aU,aX,aX,←ih,Array.size_append,hl];rfl
 rw[fu]
 have e:=this P #[]
 rw[show(#[]:Array Nat).size=0 from rfl] at e
 rw[e]
 show(!BX (kU P).size)=true
 have h2:(kU P).size≤16777216:=by omega
 have:BX (kU P).size=false:=decide_eq_false (Nat.not_lt.mpr h2)
 simpa using this
theorem wQ(P:List (Array Nat)):(P.map fun p=>p.map (·.toUInt8)).foldl (· ++ ·) #[]=(kU P).map (·.toUInt8):=by
 unfold kU
 have: ∀(l:List (Array Nat)) (acc:Array Nat),(l.map fun p=>p.map (·.toUInt8)).foldl (· ++ ·) (acc.map (·.toUInt8))=(l.foldl (· ++ ·) acc).map (·.toUInt8):=by
  intro l
  induction l with
  |nil=>intro acc;rfl
  |cons b l ih=>intro acc;rw[aU,aX,aX,←ih,Array.map_append]
 have e:=this P #[]
 simpa using e
section
variable {L:ig} {A:aF} {E:Value→aq→Prop}
theorem BY{s:aq}{k:Nat}{D:Addr}{P:List (Array Nat)}{sep:Array Nat}{tk:gj}{Q:Value→aq→Prop}(hk:k≤1)(hH:ye s.heap D k P)(Ai:sep= #[])(hsz:(kU P).size≤1000000)(hq: ∀t' j,Q (vN k (kU P) t') {s with toks:=j}):
  wpAny L.M A (call (.builtin (if k==0 then "str.join" else "bytes.join")) [vN k sep tk,.ref D]) Q E s:=by
 obtain⟨xs,n,hd,ts,hx,hl⟩:=hH
 subst Ai
 match k,hk with
 |0,_=>
  refine SC.join (x:=⟨#[]⟩) (l:=(P.map fun p=>(⟨p⟩:Str)).zip ts) (texts:=P.map fun p=>⟨p⟩) ⟨_,hd,rfl,n,?_⟩ ?_ (Le P rfl hsz) fun t' j=> ?_
  ·show Data.seq xs n=Data.seq _ n
   congr 1
   apply Array.toList_inj.mp
   rw[bM,hx]
   unfold strValues
   rw[List.zip_map_left,bL];rfl
  ·rw[List.map_fst_zip (by simp[hl])]
  ·rw[IA P rfl];exact hq t' j
 |1,_=>
  refine yf (sep:=Array.map Nat.toUInt8 #[]) (bs:=P.map fun p=>p.map (·.toUInt8)) (ts:=ts) hd ?_ (by simp[hl]) (by simp) ?_ fun t' j=> ?_
  ·rw[hx]
   unfold sI
   rw[List.zip_map_left,bL];rfl
  ·rw[wQ,gz];exact hsz
  ·rw[wQ];exact hq t' j
theorem IB{pa D:Addr}{code:Array Nat}{find:Array Nat→Nat→Nat→Option (Nat×Nat)}{k:Nat}{v:Value}{t rep:Array Nat}{Pa:gj}{sq:Heap}{R:eL→aq→Prop}(hF:EB code find)(hk:k≤1)(hv:tF v t k)(hr:tF (vN k rep Pa) rep k)(ht:t.size≤100000)
  (hp:wN sq pa code k)(hD:sq.get? D=none): ∀(f p n:Nat) (P:List (Array Nat)) (s:aq),t.size-p<f→p≤t.size→(∀b o,sq.get? b=some o→s.heap.get? b=some o)→ye s.heap D k P→(kU (P++jR find t rep f p)).size≤1000000→(P++jR find t rep f p).length≤500000→
   (∀h' j t',(∀b o,sq.get? b=some o→h'.get? b=some o)→R (.ok (.ret (vN k (kU (P++jR find t rep f p)) t'))) {s with heap:=h',toks:=j})→
   jw L A (aC.«re.Pattern.sub.loop» ⟨[.ref pa,v,vN k rep Pa,rawInt 0,rawInt 0,rawInt n,rawInt p,rawInt p,.bool false,.ref D,.bool false],[]⟩) R s:=by
 have EC: ∀(s:aq) (h':Heap),(∀b o,sq.get? b=some o→s.heap.get? b=some o)→(∀b o,b≠D→s.heap.get? b=some o→h'.get? b=some o)→ ∀b o,sq.get? b=some o→h'.get? b=some o:=fun s h' h1 h2 b o e=>h2 b o (fun e'=>by rw[e',hD] at e;(first|exact VS e|cases e)) (h1 b o e)
 intro f
 induction f with
 |zero=>intro p n P s h;omega
 |succ f ih=>
  intro p n P s hf hpt kI hH hsz ib hR
  unfold jw
  have hP:=hp.keep (fun b o _ e=>kI b o e)
  show wpAny _ _ (do
   let T←reWholeTarget (.ref pa) v
   _) _ _ s
  refine ao (zd hP hv hk fun T c1 c2 c3 c4 c5=> ?_)
  refine ao (DB hr ?_)
  obtain⟨B,m',hTo,hB,Xw⟩:=hF.O8 t p hpt ht
  refine ao ?_
  show wpAny _ _ (reNextFound T ((p:Int)).toNat false) _ _ s
  have ep:((p:Int)).toNat=p:=bG p
  rw[ep]
  unfold reNextFound
  rw[c1,c2,c4,c5]
  refine tC hTo hB _ Xw fun x hx=> ?_
  have e0:((p:Int)).toNat=p:=bG p
  unfold jR at hsz ib hR
  cases IC:find t (t.size-p) p with
  |none=>
   rw[IC] at hx hsz ib hR
   subst hx
   have fin: ∀(s:aq) (P':List (Array Nat)) (E':Value→aq→Prop),(∀b o,sq.get? b=some o→s.heap.get? b=some o)→ye s.heap D k P'→(kU P').size≤1000000→(∀j t',R (.ok (.ret (vN k (kU P') t'))) {s with toks:=j})→
     wpAny L.M A.in1 (reSlice t k 0 0>>= fun ID=>seqItems? (.ref D)>>= fun l=>if (l.getD #[]).isEmpty=true then(pure ID>>= fun text=>ret text) else(call (.builtin (if (k==0)=true then "str.join" else "bytes.join")) [ID,.ref D]>>= fun text=>ret text)) (fun fin s'=>match fin with| .done f=>R (.ok f) s'| .again c'=>c'.quiet=true∧codeAny L.M A c' R s') E' s:=by
    intro s P' E' kI hH hsz hR
    have he:t.extract 0 0= #[]:=by simp
    refine ao (wO ht ?_)
    obtain⟨xs,m,hd,ts,hx,hl⟩:=id hH
    refine ao (aW hd rfl ?_)
    rw[he]
    show wpAny _ _ (if xs.isEmpty=true then _ else _) _ _ _
    by_cases Xx:xs.isEmpty=true
    ·rw[if_pos Xx]
     have KI:xs= #[]:=Array.isEmpty_iff.mp Xx
     have hP':P'=[]:=by
      rw[KI] at hx
      have:=congrArg List.length hx
      simp[hl] at this
      exact bp this.symm
     subst hP'
     refine ao (aw (aw ?_))
     have:=hR (s.toks+1) s.toks
     unfold vN at this ⊢
     cases hk0:k==0<;>(rw[hk0] at this;exact this)
    ·rw[if_neg Xx]
     exact ao (BY hk (s:={s with toks:=s.toks+1}) hH rfl hsz fun t' j=>aw (hR _ _))
   rw[c3]
   show wpAny _ _ (if p<t.size then _ else _) _ _ s
   by_cases jF:p<t.size
   ·simp only[if_pos jF] at hsz ib hR
    rw[if_pos jF]
    refine ao (wO ht ?_)
    refine ao (ye.push (s:={s with toks:=s.toks+1}) hH (by simp at ib;omega) fun h' Sn oN=> ?_)
    exact fin {s with heap:=h',toks:=s.toks+1} _ _ (EC s h' kI oN) Sn hsz (fun j t'=>hR h' j t' (EC s h' kI oN))
   ·simp only[if_neg jF,bN] at hsz ib hR
    rw[if_neg jF]
    exact fin s P _ kI hH hsz (fun j t'=>hR s.heap j t' kI)
  |some ab=>
   obtain⟨a,b⟩:=ab
   rw[IC] at hx hsz ib hR
   obtain⟨y,rfl,y1,y2⟩:=hx
   obtain⟨i1,i2,i3⟩:=hF.Xt t p a b hpt IC
   rw[c3]
   have rest: ∀(s:aq) (P':List (Array Nat)) (E':Value→aq→Prop),(∀b o,sq.get? b=some o→s.heap.get? b=some o)→ye s.heap D k P'→(kU (P'++rep::jR find t rep f b)).size≤1000000→(P'++rep::jR find t rep f b).length≤500000→
     (∀h' j t',(∀b o,sq.get? b=some o→h'.get? b=some o)→R (.ok (.ret (vN k (kU (P'++rep::jR find t rep f b)) t'))) {s with heap:=h',toks:=j})→
     wpAny L.M A.in1 (pure (vN k rep Pa)>>= fun item=>if (item !=Value.none)=true then(updateSeq D (fun x=>x.push item)>>= fun _=>again (.builtin "re.Pattern.sub.loop" ⟨[.ref pa,v,vN k rep Pa,rawInt 0,rawInt 0,rawInt (n+1),rawInt y.handed,rawInt y.handed,.bool (y.handed==a),.ref D,.bool false],[]⟩)) else again (.builtin "re.Pattern.sub.loop" ⟨[.ref pa,v,vN k rep Pa,rawInt 0,rawInt 0,rawInt (n+1),rawInt y.handed,rawInt y.handed,.bool (y.handed==a),.ref D,.bool false],[]⟩))
      (fun fin s'=>match fin with| .done f=>R (.ok f) s'| .again c'=>c'.quiet=true∧codeAny L.M A c' R s') E' s:=by
    intro s P' E' kI hH hsz ib hR
    refine ao (aw ?_)
    have js:(vN k rep Pa !=Value.none)=true:=by unfold vN;cases k==0<;>rfl
    rw[if_pos js]
    refine ao (ye.push hH (by simp at ib;omega) fun h' Sn oN=> ?_)
    refine aw ⟨bf kT _,aR qd (by
     rw[aI kT _]
     rw[y2]
     have hba:(b==a)=false:=by simp;omega
     rw[hba]
     have e1:((n:Int)+1)=((n+1:Nat):Int):=by push_cast;rfl
     rw[e1]
     have ea: ∀x:List (Array Nat),P'++rep::x=(P'++[rep])++x:=fun x=>by simp
     rw[ea] at hsz ib hR
     exact ih b (n+1) (P'++[rep]) _ (by omega) i3 (EC s h' kI oN) Sn hsz ib (fun nI j t' rG=>hR nI j t' rG))⟩
   show wpAny _ _ (if p<y.start then _ else _) _ _ s
   rw[y1]
   by_cases jF:p<a
   ·simp only[if_pos jF,c9,dm] at hsz ib hR
    rw[if_pos jF]
    refine ao (wO ht ?_)
    refine ao (ye.push (s:={s with toks:=s.toks+1}) hH (by simp at ib;omega) fun h' Sn oN=> ?_)
    have ea: ∀x:List (Array Nat),P++t.extract p a::x=(P++[t.extract p a])++x:=fun x=>by simp
    rw[ea] at hsz ib hR
    exact rest {s with heap:=h',toks:=s.toks+1} _ _ (EC s h' kI oN) Sn hsz ib (fun nI j t' rG=>hR nI j t' rG)
   ·simp only[if_neg jF,dm] at hsz ib hR
    rw[if_neg jF]
    exact rest s P _ kI hH hsz ib hR
end
end
section
open PySem
noncomputable def jM:Bool→List Nat→List Nat
 |_,[]=>[]
 |b,c::r=>if b&&c==46 then 46::46::jM false r else c::jM (c==10) r
noncomputable def iZ:Bool→List Nat→List Nat
 |_,[]=>[]
 |b,c::r=>if b&&c==10 then iZ false r else if c==10 then 13::10::iZ false r else if c==13 then 13::10::iZ true r else c::iZ false r
theorem kK(p:Array Nat)(P:List (Array Nat)):(kU (p::P)).toList=p.toList++(kU P).toList:=by
 unfold kU
 rw[aX,ft]
 have: ∀(l:List (Array Nat)) (acc:Array Nat),(l.foldl (· ++ ·) acc).toList=acc.toList++(l.foldl (· ++ ·) #[]).toList:=by
  intro l
  induction l with
  |nil=>intro acc;simp
  |cons b l ih=>intro acc;rw[aX,aX,ih,ih (#[]++b)];simp
 exact this P p
theorem uE(P P':List (Array Nat)):(kU (P++P')).toList=(kU P).toList++(kU P').toList:=by
 induction P with
 |nil=>simp[kU]
 |cons p P ih=>rw[c9,kK,kK,ih,b9]
theorem od:(kU []).toList=[]:=rfl
section
variable {t:Array Nat}
theorem nA{s:Nat}(h:s<t.size):t.toList.drop s=t.getD s 0::t.toList.drop (s+1):=by
 rw[aJ (by simpa using h)]
 congr 1
 simp[Array.getD,h]
theorem Pb{i q:Nat}(h:i+1≤q):q-i=q-(i+1)+1:=(Nat.sub_add_cancel (Nat.le_sub_of_add_le (Nat.le_trans (ba (fO 1 i)) h))).symm
theorem IF{s a:Nat}(h:s<a)(ha:a≤t.size):(t.extract s a).toList=t.getD s 0::(t.extract (s+1) a).toList:=by
 have h1: ∀i,(t.extract i a).toList=(t.toList.drop i).take (a-i):=fun i=>by simp[List.take_drop]
 rw[h1,h1,nA (bP h ha)]
 have:a-s=(a-(s+1))+1:=Pb h
 rw[this,List.take_succ_cons]
theorem sJ(a:Nat):(t.extract a a).toList=[]:=by simp
theorem ED(s:Nat):(t.extract s t.size).toList=t.toList.drop s:=by
 have:(t.extract s t.size).toList=(t.toList.drop s).take (t.size-s):=by simp[List.take_drop]
 rw[this];exact cg (by simp)
theorem wR(s:Nat):n8 t (s+1)=(t.getD s 0==10):=by unfold n8;simp
theorem DD(b:Bool)(c:Nat)(r:List Nat):jM b (c::r)=if b&&c==46 then 46::46::jM false r else c::jM (c==10) r:=rfl
theorem wU: ∀(k s:Nat),s+k=t.size→match mQ t k s with
  |none=>jM (n8 t s) (t.toList.drop s)=t.toList.drop s
  |some (a,b)=>s≤a∧b=a+1∧a<t.size∧n8 t b=false∧jM (n8 t s) (t.toList.drop s)=(t.extract s a).toList++46::46::jM false (t.toList.drop b):=by
 intro k
 induction k with
 |zero=>
  intro s h
  show jM _ _=_
  rw[bV (by simp;omega)];cases n8 t s<;>rfl
 |succ k iu=>
  intro s h
  have ih:=iu (s+1) (by omega)
  unfold mQ
  rw[nA (by omega:s<t.size),DD]
  by_cases hc:(n8 t s&&t.getD s 0==46)=true
  ·rw[if_pos hc,if_pos hc]
   have h46:t.getD s 0=46:=by
    rw[cJ] at hc
    exact eq_of_beq hc.2
   refine⟨bu _,rfl,by omega,by rw[wR,h46];rfl,by rw[sJ];rfl⟩
  ·rw[if_neg hc,if_neg hc,←wR]
   cases hf:mQ t k (s+1) with
   |none=>rw[hf] at ih;exact congrArg _ ih
   |some ab=>
    obtain⟨a,b⟩:=ab
    rw[hf] at ih
    obtain⟨h1,h2,h3,h4,h5⟩:=ih
    refine⟨by omega,h2,h3,h4,?_⟩
    rw[h5,IF (by omega:s<a) (by omega)];rfl
theorem wV: ∀(k s:Nat),s+k=t.size→match n9 t k s with
  |none=>iZ false (t.toList.drop s)=t.toList.drop s
  |some (a,b)=>s≤a∧a<b∧b≤t.size∧iZ false (t.toList.drop s)=(t.extract s a).toList++13::10::iZ false (t.toList.drop b):=by
 intro k
 induction k with
 |zero=>
  intro s h
  show iZ _ _=_
  rw[bV (by simp;omega)];rfl
 |succ k iu=>
  intro s h
  have ih:=iu (s+1) (by omega)
  unfold n9
  by_cases he:ny (t.getD s 0)=true
  ·rw[if_pos he]
   by_cases hc:(t.getD s 0==13&&(decide (s+1<t.size)&&t.getD (s+1) 0==10))=true
   ·simp only[if_pos hc]
    rw[cJ,cJ] at hc
    obtain⟨c1,c2,c3⟩:=hc
    have c1:=eq_of_beq c1
    have c2:=of_decide_eq_true c2
    have c3:=eq_of_beq c3
    refine⟨bu _,by omega,by omega,?_⟩
    rw[nA (by omega:s<t.size),nA c2,c1,c3,sJ]
    rfl
   ·simp only[if_neg hc]
    refine⟨bu _,by omega,by omega,?_⟩
    rw[nA (by omega:s<t.size),sJ]
    unfold ny at he
    rw[Bool.or_eq_true] at he
    rcases he with yb|DA
    ·rw[eq_of_beq yb];rfl
    ·have e13:=eq_of_beq DA
     rw[e13]
     show 13::10::iZ true (t.toList.drop (s+1))=_
     congr 2
     rw[DA,Bool.true_and] at hc
     by_cases jF:s+1<t.size
     ·rw[nA jF]
      have:(t.getD (s+1) 0==10)=false:=by
       rw[decide_eq_true jF,Bool.true_and] at hc
       exact(bY _).mp hc
      unfold iZ
      rw[this];rfl
     ·rw[bV (by simp;omega)];rfl
  ·rw[if_neg he]
   have hn:=(bY _).mp he
   unfold ny at hn
   rw[Bool.or_eq_false_iff] at hn
   have e1:iZ false (t.toList.drop s)=t.getD s 0::iZ false (t.toList.drop (s+1)):=by
    rw[nA (by omega:s<t.size)]
    rw[iZ,hn.1,hn.2];rfl
   rw[e1]
   cases hf:n9 t k (s+1) with
   |none=>rw[hf] at ih;rw[nA (by omega:s<t.size)];exact congrArg _ ih
   |some ab=>
    obtain⟨a,b⟩:=ab
    rw[hf] at ih
    obtain⟨h1,h2,h3,h4⟩:=ih
    refine⟨by omega,h2,h3,?_⟩
    rw[h4,IF (by omega:s<a) (by omega)];rfl
theorem Lf: ∀(f p:Nat),t.size-p<f→p≤t.size→(kU (jR mQ t #[46,46] f p)).toList=jM (n8 t p) (t.toList.drop p)∧(jR mQ t #[46,46] f p).length≤2*(t.size-p)+1:=by
 intro f
 induction f with
 |zero=>exact @fun _ h _=>by omega
 |succ f iu=>
  intro p h hp
  have sp:=wU (t:=t) (t.size-p) p (by omega)
  unfold jR
  cases hf:mQ t (t.size-p) p with
  |none=>
   rw[hf] at sp
   simp only
   by_cases jF:p<t.size
   ·rw[if_pos jF]
    refine⟨?_,by simp⟩
    rw[kK,od,bN,ED];exact sp.symm
   ·rw[if_neg jF]
    refine⟨?_,by simp⟩
    rw[bV (by simp;omega)];cases n8 t p<;>rfl
  |some ab=>
   obtain⟨a,b⟩:=ab
   rw[hf] at sp
   obtain⟨h1,h2,h3,h4,h5⟩:=sp
   subst h2
   obtain⟨i1,i2⟩:=iu (a+1) (by omega) (by omega)
   simp only
   rw[h5,uE,kK,i1,h4]
   by_cases jF:p<a
   ·rw[if_pos jF]
    exact⟨by rw[kK,od,bN];rfl,by simp;omega⟩
   ·rw[if_neg jF]
    have:p=a:=by omega
    subst this
    exact⟨by rw[od,sJ];rfl,by simp;omega⟩
theorem Lg: ∀(f p:Nat),t.size-p<f→p≤t.size→(kU (jR n9 t #[13,10] f p)).toList=iZ false (t.toList.drop p)∧(jR n9 t #[13,10] f p).length≤2*(t.size-p)+1:=by
 intro f
 induction f with
 |zero=>exact @fun _ h _=>by omega
 |succ f iu=>
  intro p h hp
  have sp:=wV (t:=t) (t.size-p) p (by omega)
  unfold jR
  cases hf:n9 t (t.size-p) p with
  |none=>
   rw[hf] at sp
   simp only
   by_cases jF:p<t.size
   ·rw[if_pos jF]
    refine⟨?_,by simp⟩
    rw[kK,od,bN,ED];exact sp.symm
   ·rw[if_neg jF]
    refine⟨?_,by simp⟩
    rw[bV (by simp;omega)];rfl
  |some ab=>
   obtain⟨a,b⟩:=ab
   rw[hf] at sp
   obtain⟨h1,h2,h3,h5⟩:=sp
   obtain⟨i1,i2⟩:=iu b (by omega) (by omega)
   simp only
   rw[h5,uE,kK,i1]
   by_cases jF:p<a
   ·rw[if_pos jF]
    exact⟨by rw[kK,od,bN];rfl,by simp;omega⟩
   ·rw[if_neg jF]
    have:p=a:=by omega
    subst this
    exact⟨by rw[od,sJ];rfl,by simp;omega⟩
end
theorem FU: ∀(l:List Nat) (b:Bool),(jM b l).length≤2*l.length:=by
 intro l
 induction l with
 |nil=>exact @fun _=>by simp[jM]
 |cons c r iu=>
  intro b
  unfold jM
  have h1:=iu false
  have h2:=iu (c==10)
  split<;>simp<;>omega
theorem tI: ∀(l:List Nat) (b:Bool),(iZ b l).length≤2*l.length:=by
 intro l
 induction l with
 |nil=>exact @fun _=>by simp[iZ]
 |cons c r iu=>
  intro b
  unfold iZ
  have h1:=iu false
  have h2:=iu true
  split
  ·simp;omega
  ·split
   ·simp;omega
   ·split<;>simp<;>omega
end
section
open PySem PyProof.Rows PySem.Builtin.Re
theorem Pc:EB c1 mQ where
 O8:=fun t s h ht=>by
  obtain⟨m',a,b⟩:=Sf t s h
  exact⟨_,m',a,by omega,b⟩
 Xt:=fun t s a b h e=>by
  have:=wU (t:=t) (t.size-s) s (by omega)
  rw[e] at this
  obtain⟨h1,h2,h3,_⟩:=this
  omega
theorem Pd:EB c3 n9 where
 O8:=fun t s h ht=>by
  obtain⟨m',a,b⟩:=Sm t s h
  exact⟨_,m',a,by omega,b⟩
 Xt:=fun t s a b h e=>by
  have:=wV (t:=t) (t.size-s) s (by omega)
  rw[e] at this
  obtain⟨h1,h2,h3,_⟩:=this
  omega
structure ze(code rep:Array Nat)(F:List Nat→List Nat):Prop where
 ex: ∃find,EB code find∧ ∀t:Array Nat,t.size≤100000→(kU (jR find t rep (t.size+1) 0)).toList=F t.toList∧(jR find t rep (t.size+1) 0).length≤2*t.size+1
 len: ∀l,(F l).length≤2*l.length
theorem IG:ze c1 #[46,46] (jM true):=⟨⟨mQ,Pc,fun t _=>by
 obtain⟨a,b⟩:=Lf (t:=t) (t.size+1) 0 (by omega) (aE _)
 exact⟨a,by omega⟩⟩,fun l=>FU l true⟩
theorem IH:ze c3 #[13,10] (iZ false):=⟨⟨n9,Pd,fun t _=>by
 obtain⟨a,b⟩:=Lg (t:=t) (t.size+1) 0 (by omega) (aE _)
 exact⟨a,by omega⟩⟩,fun l=>tI l false⟩
theorem Lh(b:Array UInt8):(b.map (·.toNat)).map (·.toUInt8)=b:=by
 rw[Array.map_map]
 have:(Nat.toUInt8∘UInt8.toNat)=id:=by funext x;simp
 show b.map (Nat.toUInt8∘UInt8.toNat)=b
 rw[this,Array.map_id]
section
variable {L:ig} {A:aF} {E:Value→aq→Prop} {s:aq}
theorem Pe{v:Value}{t:Array Nat}{k:Nat}(h:tF v t k): ∃tk,v=vN k t tk:=by
 cases h with
 |str x tk=>exact⟨tk,rfl⟩
 |bytes b tk=>exact⟨tk,by show Value.bytes b tk=Value.bytes ((b.map (·.toNat)).map (·.toUInt8)) tk;rw[Lh]⟩
theorem Aj{v:Value}{t:Array Nat}{k:Nat}(hv:tF v t k){Q:Option Value→aq→Prop}(h:Q none s):wpAny L.M A (specialOf v "__call__") Q E s:=by
 cases hv with
 |str x tk=>exact bF (T:="str") (fe _ _ _) tD h
 |bytes b tk=>exact bF (typeIs_bytes b tk) rK h
theorem II{pa:Addr}{code:Array Nat}{k:Nat}{v rv:Value}{t rep:Array Nat}{F:List Nat→List Nat}{Q:Value→aq→Prop}(hT:ze code rep F)(hk:k≤1)(hp:wN s.heap pa code k)(hv:tF v t k)(hr:tF rv rep k)(Pf:rep.contains 92=false)(ht:t.size≤100000)
  (hQ: ∀h' j t',(∀b o,s.heap.get? b=some o→h'.get? b=some o)→Q (vN k (F t.toList).toArray t') {s with heap:=h',toks:=j}):wpAny L.M A (call (.builtin "re.Pattern.sub") [.ref pa,rv,v]) Q E s:=by
 obtain⟨⟨find,hF,So⟩,ib⟩:=hT
 obtain⟨p1,p2⟩:=So t ht
 obtain⟨Pa,erv⟩:=Pe hr
 have WA:s.TypeIs (.ref pa) "re.Pattern":=by
  obtain⟨o,fs,tup,o2,xs,n,h1,h2,_⟩:=hp
  exact⟨o,h1,h2⟩
 have uC:(kU (jR find t rep (t.size+1) 0)).size≤2*t.size:=by
  rw[←aS,p1]
  have:=ib t.toList
  simpa using this
 have Sp:kU (jR find t rep (t.size+1) 0)=(F t.toList).toArray:=by
  apply Array.toList_inj.mp
  rw[p1,bM]
 refine f7 (codeAny_call_builtin oR.plain ya (oR.check _ _ _ _ _ _ _ _ WA (Af _ _ _) ?_))
 show wpAny _ _ (aC.Re.reSubstitute "re.Pattern.sub" "sub" false ⟨[.ref pa,rv,v],[]⟩) _ _ s
 unfold reSubstitute
 refine ao (cw (Iz rv v) ?_)
 refine ao (aw ?_)
 refine ao (Aj hr ?_)
 have tail:wpAny L.M A.in1 (holding [rv] (reWholeTarget (.ref pa) v)>>= fun _=>PySem.newList []>>= fun l=>again (.builtin "re.Pattern.sub.loop" ⟨[.ref pa,v,rv,rawInt 0,rawInt 0,rawInt 0,rawInt 0,rawInt 0,.bool false,l,.bool false],[]⟩))
   (fun fin s'=>match fin with| .done f=>wants Q E (.ok f) s'| .again c'=>c'.quiet=true∧codeAny L.M A c' (wants Q E) s') (fun e s'=>wants Q E (.error e) s') s:=by
  refine ao (aP (zd hp hv hk fun T _ _ _ _ _=> ?_))
  refine ao (wpAny_newList ?_)
  refine aw ⟨bf kT _,aR qd (by
   rw[aI kT _]
   rw[erv]
   rw[erv] at hr
   refine IB (R:=wants Q E) hF hk hv hr ht hp (g9 _) (t.size+1) 0 0 [] _ (by omega) (aE _) (iq _ _) ⟨#[],0,aB _ rfl,[],rfl,rfl⟩ ?_ ?_ fun h' j t' oN=> ?_
   ·rw[dm];omega
   ·rw[dm];omega
   ·rw[dm,Sp]
    exact hQ h' j t' oN)⟩
 cases hr with
 |str x tk=>
  refine ao (aw ?_)
  show wpAny _ _ (if (!x.cps.contains 92)=true then _ else _) _ _ s
  rw[Pf,if_pos (by decide)]
  exact ao (aw tail)
 |bytes b tk=>
  have hb:b.contains 92=false:=by
   rw[Bool.eq_false_iff] at Pf ⊢
   intro hc
   apply Pf
   rw[Array.contains_iff_mem] at hc ⊢
   exact Array.mem_map.mpr ⟨92,hc,rfl⟩
  refine ao (ao (aw (aw ?_)))
  refine ao (nz ?_)
  show wpAny _ _ (if (!b.contains 92)=true then _ else _) _ _ s
  rw[hb,if_pos (by decide)]
  exact ao (aw tail)
noncomputable def Sq:PV→Option Addr
 | .val (.ref b)=>some b
 |_=>none
theorem IJ{p:PV}{a:Addr}(h:Sq p=some a):p= .val (.ref a):=by
 cases p with
 |val v=>cases v with
  |ref b=>exact congrArg (fun b=>PV.val (.ref b)) (Option.some.inj h)
  |_=>exact hO h
 |_=>exact hO h
noncomputable def BZ(a:Addr)(g:List PV→Option PV)(p:PV)(ps:List PV):Option PV:=(Sq p).bind fun b=>if b=a then g ps else none
noncomputable def B0(rep:List Nat)(F:List Nat→List Nat)(ps:List PV):Option PV:=Kt (fun r x=>onStr (fun r=>onStr (fun x=>if r.cps.toList=rep∧x.length≤10000 then some (.str ⟨(F x.cps.toList).toArray⟩) else none) x) r) ps
noncomputable def subB(rep:List Nat)(F:List Nat→List Nat)(ps:List PV):Option PV:=Kt (fun r x=>onBytes (fun r=>onBytes (fun x=>if r.toList.map (·.toNat)=rep∧x.size≤10000 then some (.bytes ((F (x.toList.map (·.toNat))).map (·.toUInt8)).toArray) else none) x) r) ps
noncomputable def DE(L:ig)(a:Addr)(code:Array Nat)(k:Nat):Prop:= ∀h:Heap,(∀a o,L.look a=some o→h.get? a=some o)→wN h a code k
theorem IK{a:Addr}{code:Array Nat}{rep:List Nat}{F:List Nat→List Nat}{k:Nat}{g:PV→PV→Option PV}(hT:ze code rep.toArray F)(hk:k≤1)(hP:DE L a code k)(Sr:rep.toArray.contains 92=false)
  (H: ∀{h:Heap} {X:List Addr} {q p r:PV} {v u:Value},VR L.prog L.w h X q v→VR L.prog L.w h X p u→g q p=some r→tF v rep.toArray k∧ ∃t:Array Nat,tF u t k∧t.size≤100000∧ ∀h' t',VR L.prog L.w h' X r (vN k (F t.toList).toArray t')):nN L "sub" (BZ a (Kt g)):=by
 intro X s p u x I hp hex
 obtain⟨wF,Hc,h0⟩:=hex
 obtain⟨b,hb,h0⟩:=Option.bind_eq_some_iff.mp h0
 cases IJ hb
 cases(zz h0).1
 cases hp.Q6
 obtain⟨o,fs,tup,o2,xs,n,h1,h2,h3,h4⟩:=hP s.heap I.iA
 refine⟨"re.Pattern","re.Pattern.sub",wM,oR,Ae,⟨o,h1,h2⟩,(fun b hb=>by (first|exact VS hb|cases hb);exact⟨o,h1,h3⟩),?_⟩
 intro A s' ps vs r Q E R d jE hg hQ
 replace hg:=su (zz hg).2
 obtain⟨q,p,rfl,hg⟩:=hg
 obtain⟨v1,v2,rfl,e1,e2⟩:=gV.two jE
 obtain⟨hr,t,ht,hs,hF⟩:=H e1 e2 hg
 exact II hT hk (hP s'.heap d.inv.iA) ht hr Sr hs fun h' j t' oN=>hQ _ _ (hF _ _) (gN.of_keep d.inv d.xo oN j)
theorem Li{a:Addr}{code:Array Nat}{rep:List Nat}{F:List Nat→List Nat}(hT:ze code rep.toArray F)(hP:DE L a code 0)(Sr:rep.toArray.contains 92=false):nN L "sub" (BZ a (B0 rep F)):=
 IK hT (aE _) hP Sr fun e1 e2 hg=>by
  obtain⟨r,h1⟩:=j9 hg
  obtain⟨x,h2⟩:=j9 h1.2
  have hc:=kg h2.2
  rw[h1.1] at e1
  rw[h2.1] at e2
  rw[hc.2]
  replace hc:=hc.1
  obtain⟨t1,rfl⟩:=e1.lY
  obtain⟨t2,rfl⟩:=e2.lY
  have er:r.cps=rep.toArray:=Array.toList_inj.mp hc.1
  exact⟨er▸ .str r t1,x.cps,.str x t2,Nat.le_trans hc.2 (by decide),fun h' t'=>VR.mkStr _ _⟩
theorem Lj{a:Addr}{code:Array Nat}{rep:List Nat}{F:List Nat→List Nat}(hT:ze code rep.toArray F)(hP:DE L a code 1)(Sr:rep.toArray.contains 92=false):nN L "sub" (BZ a (subB rep F)):=
 IK hT (bu _) hP Sr fun e1 e2 hg=>by
  obtain⟨r,h1⟩:=uB hg
  obtain⟨x,h2⟩:=uB h1.2
  have hc:=kg h2.2
  rw[h1.1] at e1
  rw[h2.1] at e2
  rw[hc.2]
  replace hc:=hc.1
  obtain⟨t1,rfl⟩:=e1.ti
  obtain⟨t2,rfl⟩:=e2.ti
  have er:r.map (·.toNat)=rep.toArray:=Array.toList_inj.mp (Array.toList_map.trans hc.1)
  refine⟨er▸ .bytes r t1,x.map (·.toNat),.bytes x t2,by rw[gz];exact Nat.le_trans hc.2 (by decide),fun h' t'=>⟨t',?_⟩⟩
  show Value.bytes _ _=_
  rw[fU,List.map_toArray]
variable {sc:Scope} {σ:gO} {k:Nat}
theorem SE.congr{e:aM}{f g:List MV→Option PV}(h:SE L sc σ k e f)(hg: ∀ρ p,g ρ=some p→f ρ=some p):SE L sc σ k e g:=
 fun env A X s ρ p Q E R F I hf hQ=>h env A X s ρ p Q E R F I (hg ρ p hf) hQ
theorem SE.Pg{b:List UInt8}{kk:Nat}{pos:cP}:SE L sc σ k (.Constant (.bytes b) kk pos) (fun _=>some (.bytes b.toArray)):=by
 intro env A X s ρ p Q E R F I hf hQ
 skip;(first|exact VS hf|cases hf)
 refine fun Γ p hΓ=> ?_
 exact hQ _ _ (by exact .intro _ rfl) (gN.toks I F.xo _)
end
end
section
open PySem PyProof.Rows
section
variable {L:ig} {sc:Scope} {σ:gO} {own:List Str} {k:Nat} {K:eo} {C fI:Addr} {nm:Str}
noncomputable def IL(C:Addr)(nm:Str)(p:PV):Option PV:=wz C nm (lx fun l=>some (.list l)) p
theorem EE{h:Heap}{a dx:Addr}(g1:h.get? a=some {cls:= .ref C,dict:=some dx,data:= .plain}){es:Array DictEntry}{n:Nat}(g2:h.get? dx=some {cls:= .type "dict",data:= .dict es n}):
 PySem.W.InstAt h a ⟨.ref C,some dx,.plain,#[]⟩ C (some {cls:= .type "dict",data:= .dict es n}):=⟨g1,rfl,rfl,g2⟩
theorem SE.attr(D:vM L K C fI nm){x:Str}{xp pos:cP}{i:Nat}(hi:σ.lookup x=some i)(hd:(x==("__debug__":Str))=false)
  (he: ∀env,eval (.Attribute (.Name x xp) nm pos) env=(do let o←eval (.Name x xp) env;standAt pos.atName;let r←holding [o] (getAttr o nm true);letTemporaryGo (.Name x xp) o r;pure r)):
  SE L sc σ k (.Attribute (.Name x xp) nm pos) (fun ρ=>(gQ ρ[i]?).bind (IL C nm)):=by
 intro env A X s ρ p Q E R F I Ss hQ
 obtain⟨q,hq,hf⟩:=Option.bind_eq_some_iff.mp Ss
 clear Ss
 have jC:=qq hq
 obtain⟨v,r,m⟩:=F.rd x i hi _ jC (by intro h;(first|exact VS h|cases h))
 have hk:env.scope.kind= .function:=by rw[F.scope];exact F.kind
 refine PyProof.Rows.Attribute_Name_ (r.eval hk ?_ hd) (he env)
 replace hf:=wA hf
 obtain⟨_,rfl,hf⟩:=hf
 replace hf:=i7 hf
 obtain⟨l,rfl,hf⟩:=hf
 skip;(first|exact VS hf|cases hf)
 obtain⟨a,dx,es,n,NS,t,u,rfl,ha,QJ,g1,g2,rfl,hu⟩:=VR.Ni (show VR L.prog L.w s.heap X (.inst C nm (.list l)) v from m)
 have WW:PySem.W.handedIn u=true:=by
  obtain⟨b,_,_,rfl,_⟩:=hu.listE
  rfl
 refine PySem.W.get_value (D.Qn _ I.iA) (EE g1 g2) (eV D.get).1 (PySem.W.findObj_own D.dict D.attr rfl ?_) WW (hQ u _ hu (gN.toks I F.xo _))
 unfold PySem.W.lookIn
 simp[Value.isStr]
theorem SE.Su(D:vM L K C fI nm){fM:Addr}{o e:aM}{es:List aM}{name:Str}{apos pos:cP}{f:List MV→Option PV}{h:List MV→Option (List PV)}{g:List PV→Option PV}(hm:PySem.W.findIn K (.ref C) name=some (some (.ref fM)))(hmf:PySem.W.typeIn K (.ref fM)=some (.type "function"))(hnn:(nm==name)=false)(ho:SE L sc σ k o f)(hc:Callee L (.ref fM))(hF:iM L k (.ref fM) g)(ha:LE L sc σ k (e::es) h)
  (hs: ∀env,starEach (e::es) env=(false,eval e env)::starEach es env)(qD: ∀env,(starEach (e::es) env).any (·.1)=false)
  (he: ∀env,∃pl:Sem Bool,eval (.Call (.Attribute o name apos) (e::es) [] pos) env=(do let ov←eval o env;standAt apos.atName;let (f,first)←holding [ov] (getMethod ov name pl);callWith pos f first (backTo pos (starEach (e::es) env)) (backToKw pos (keywordEach [] env)))):
  SE L sc σ k (.Call (.Attribute o name apos) (e::es) [] pos) (fun ρ=>(f ρ).bind (wz C nm fun q=>(h ρ).bind fun ps=>g (.inst C nm q::ps))):=by
 intro env A X s ρ r Q E R F I Ss hQ
 obtain⟨p,hp,hf⟩:=Option.bind_eq_some_iff.mp Ss
 clear Ss
 replace hf:=wA hf
 obtain⟨q,rfl,hf⟩:=hf
 obtain⟨ps,hps,hg⟩:=Option.bind_eq_some_iff.mp hf
 obtain⟨pl,W9⟩:=he env
 refine PySem.W.methodCall_KW (pl:=pl) (ho env A X s ρ _ _ E R F I hp fun v s₁ hv d=> ?_) W9
 obtain⟨a,dx,ZY,n,NS,t,u,rfl,xH,QJ,g1,g2,rfl,hu⟩:=VR.Ni hv
 refine PySem.W.method_fn (D.Qn _ d.inv.iA) (EE g1 g2) (eV D.get).1 (eV D.get).2 hm hmf ?_ ?_
 ·unfold PySem.W.shadowIn PySem.W.lookIn
  simp[Value.isStr,hnn,DictEntry.refKey]
 ·refine sr hc ha hs qD R (F.done d) d.inv hps fun vs gZ jE gW=>hF A X gZ _ _ r Q E R gW.xo gW.inv (gV.cons (hv.up gW.up) jE) hg fun x s' hx d'=>hQ x s' hx ((d.trans gW).trans d')
end
end
section
open PySem PyProof.Rows
theorem iI.callee{L:ig}{a:Addr}{fd:FuncData}{sc:Scope}{ns:List Str}{body:List Stmt}(D:iI L a fd sc ns body):Callee L (.ref a):=by
 obtain⟨o,h1,h2⟩:=D.obj
 exact .fn h1 h2
theorem iC{x:Str}{l:List Str}(h:l.contains x=true):x∈l:=by simpa using h
theorem jX{l:List Nat}(h:decide l.Nodup=true):l.Nodup:=of_decide_eq_true h
end
section
open PySem PyProof.Rows
noncomputable def wW(n:Nat)(l:List Stmt):List Stmt:=l.take n
noncomputable def Lk:Stmt→List Stmt
 | .Try _ [.ExceptHandler _ _ b _] _ _ _=>b
 |_=>[]
noncomputable def Ph:Stmt→List aM
 | .Return (some (.Call _ es _ _)) _=>es
 |_=>[]
noncomputable def Ll:Stmt→List Stmt
 | .For _ _ b _ _=>b
 |_=>[]
noncomputable def hU(n:Nat)(l:List Stmt):Stmt:=l.getD n (.Pass ⟨0,0,0,0⟩)
theorem Ak(env:b8): ∀(l r:List Stmt),execs (l++r) env=(do match←execs l env with| .next=>execs r env|f=>pure f):=by
 intro l
 induction l with
 |nil=>exact @fun r=>by rw[dm,arm_execs_nil];rfl
 |cons s l iu=>
  intro r
  rw[c9,arm_execs_cons,arm_execs_cons,bind_assoc]
  congr 1
  funext f
  cases f with
  |next=>exact iu r
  |brk=>rfl
  |cont=>rfl
  |ret v=>rfl
theorem mR{M:Model}{A:aF}{env:b8}{l r:List Stmt}{Q:Flow→aq→Prop}{E:Value→aq→Prop}{s:aq}(h:wpAny M A (execs l env) (fun f s'=>match f with| .next=>wpAny M A (execs r env) Q E s'|f=>Q f s') E s):wpAny M A (execs (l++r) env) Q E s:=by
 rw[Ak]
 refine ao (bH h (fun f s' h'=> ?_) fun _ _ e=>e)
 cases f with
 |next=>exact h'
 |brk=>exact aw h'
 |cont=>exact aw h'
 |ret v=>exact aw h'
theorem wX{L:ig}{e:Addr}{o:Obj}{js:e≠L.tb}{hl:L.look e=none}{hx: ∃vs,o.data= .fields vs∧vs[2]? =some .none}{a:Addr}(h:(L.jg e o js hl hx).look a=none):L.look a=none:=by
 cases h':L.look a with
 |none=>rfl
 |some o'=>rw[jr h'] at h;(first|exact VS h|cases h)
section
variable {L:ig} {sc:Scope} {σ:gO} {own:List Str} {k:Nat}
theorem Lm:ng L (inplaceOp .LShift) vW:=j6 fun h x I hQ=>by
 replace h:=kg h
 obtain⟨hc,rfl⟩:=h
 obtain⟨hc,h1⟩:=j8 hc
 obtain⟨ha,h0⟩:=j8 hc
 have:=of_decide_eq_true ha
 have h0:=of_decide_eq_true h0
 have h1:=of_decide_eq_true h1
 exact PyProof.Rows.ilshift_int_small h0 (by omega) (by omega) (hQ _ _ (VR.mkInt _ _) (gN.toks I x _))
noncomputable def Al:aM→Option PV
 | .Constant (.int n) _ _=>some (.int n)
 | .Constant (.str x) _ _=>some (.str x)
 | .UnaryOp .USub (.Constant (.int n) _ _) _=>some (.int (-n))
 |_=>none
noncomputable def B1:List aM→Option (List PV)
 |[]=>some []
 |e::es=>(Al e).bind fun a=>(B1 es).map (a:: ·)
theorem LE.const{c:Const}{k':Nat}{p:cP}{es:List aM}{as:List PV}{a:PV}(ih:LE L sc σ k es (fun _=>some as))(ha:Al (.Constant c k' p)=some a):LE L sc σ k (.Constant c k' p::es) (fun _=>some (a::as)):=by
 cases c with
 |int n=>exact Option.some.inj ha▸LE.cons SE.int ih (fun _=>rfl)
 |str x=>exact Option.some.inj ha▸LE.cons SE.str ih (fun _=>rfl)
 |_=>exact hO ha
theorem LE.neg{x:aM}{p:cP}{es:List aM}{as:List PV}{a:PV}(ih:LE L sc σ k es (fun _=>some as))(hx:(none:Option PV)=some a→LE L sc σ k (.UnaryOp .USub x p::es) (fun _=>some (a::as)))(ha:Al (.UnaryOp .USub x p)=some a):LE L sc σ k (.UnaryOp .USub x p::es) (fun _=>some (a::as)):=by
 cases x with
 |Constant c k' q=>
  cases c with
  |int n=>exact Option.some.inj ha▸LE.cons (SE.un SE.int GU) ih (fun _=>rfl)
  |_=>exact hx ha
 |_=>exact hx ha
theorem LE.consts: ∀{es:List aM} {l:List PV},B1 es=some l→LE L sc σ k es (fun _=>some l):=by
 intro es
 induction es with
 |nil=>exact @fun l h=>by (first|exact VS h|cases h);exact LE.nil
 |cons e es iu=>
  intro l h
  replace h:=Option.bind_eq_some_iff.mp h
  obtain⟨a,ha,h⟩:=h
  obtain⟨as,has,rfl⟩:=Option.map_eq_some_iff.mp h
  have ih:=iu has
  cases e with
  |Constant c k p=>exact LE.const ih ha
  |UnaryOp o x p=>
   cases o with
   |USub=>exact LE.neg ih (fun h=>hO h) ha
   |_=>exact hO ha
  |_=>exact hO ha
theorem SS.at{g:Bool}{l l':List Stmt}{f:List MV→Option (Fl×List MV)}(h:l'=l)(x:SS L sc σ own k g l f):SS L sc σ own k g l' f:=h▸x
end
end
section
open PySem PyProof.Rows
noncomputable def Ln:Addr:=93
noncomputable def Lo:Addr:=98
noncomputable def FV:Addr:=103
noncomputable def tJ:Addr:=55
noncomputable def Vy:Nat→Addr:=fun n=>(([(1000,45),(1001,52),(3,66),(4,73),(7,81),(8,88),(14,110),(15,117),(16,124),(18,131),(19,138),(20,143),(21,150),(22,157),(23,162),(24,167),(25,172),(26,177)]:List (Nat×Nat)).lookup n).getD 0
noncomputable def Sv:List Addr:=[39,40,41,42,43,44,45,46,47,48,49,50,51,52,53,54,55,56,57]
end
section
open PySem PyProof.Rows
section
variable {L:ig} {sc:Scope} {σ:gO} {own:List Str} {k:Nat}
noncomputable def Nr(n i1 i2:Nat)(f1:List MV→Option PV)(f2:List MV→Option MV)(ρ:List MV):Option (Fl×List MV):=
 if ρ.length≤n then(f1 ρ).bind fun p1=>(f2 ρ).map fun m2=>(.next,(ρ.set i1 (.p p1)).set i2 m2) else none
theorem S1.Xy{Vz VA:cP}{kk ek:Nat}{qF xZ pos:cP}{e1 e2:aM}{x1 x2:Str}{i1 i2:Nat}{f1:List MV→Option PV}{f2:List MV→Option MV}(h1:SE L sc σ k e1 f1)(h2:OE L sc σ k e2 f2)
  (BH:x1∈own)(JZ:x2∈own)(WZ:lb σ x1 i1)(W0:lb σ x2 i2)(MW:HC σ=true)(W2: ∀env,starEach [e1,e2] env=(false,eval e1 env)::starEach [e2] env)(W3: ∀env,starEach [e2] env=(false,eval e2 env)::starEach [] env)
  (hs: ∀env,env.scope=sc→swapsWithSole [.Tuple [.Name x1 Vz,.Name x2 VA] kk qF] (.Tuple [e1,e2] ek xZ) pos.line env=pure false)(hw: ∀env,env.scope=sc→swappedStores [.Tuple [.Name x1 Vz,.Name x2 VA] kk qF] (.Tuple [e1,e2] ek xZ) env=pure none):
  S1 L sc σ own k true (.Assign [.Tuple [.Name x1 Vz,.Name x2 VA] kk qF] (.Tuple [e1,e2] ek xZ) pos) (Nr σ.length i1 i2 f1 f2):=by
 intro env A Y Z s ρ ρ' fl Q E R F I kH kh hf hQ
 replace hf:=zz hf
 obtain⟨ib,hf⟩:=hf
 replace hf:=Option.bind_eq_some_iff.mp hf
 obtain⟨p1,Na,hf⟩:=hf
 obtain⟨m2,VB,e'⟩:=Option.map_eq_some_iff.mp hf
 skip;(first|exact VS e'|cases e')
 have hn:ia [.Name x1 Vz,.Name x2 VA] [x1,x2]:= .cons (.cons .nil)
 refine fB (hs:=hs env F.fr.scope) (hw:=hw env F.fr.scope) ((VL.CR h1 (VL.new h2 VL.nil W3) W2).taken R F I (ms:=[.p p1,m2]) (by rw[Na,VB];rfl) (by decide:2≤100) fun tv s' H=> ?_)
 rw[arm_assign_Tuple]
 refine ao (bX ?_)
 unfold unpack
 rw[hn.find]
 exact ao (aP (H _ _ fun vs ph Y' F' g hl hp hd=>FS.M3 (.cons BH WZ (.cons JZ W0 .nil)) (Ts.elts hn) rfl hl F' g.inv hp hd fun jc kQ jb=>hQ .next Y' jc rfl kQ g.FG (fun h=>nomatch h) (g.M4 F'.fr.xo jb)))
end
end
section
open PySem PySem.SeqAt
section
variable {L:ig} {A:aF} {E:Value→aq→Prop} {s:aq}
theorem B2{α:Type}{a:Addr}{c:Value}{v0 v1 v3 v4 v5 v6 v7:Value}{Q:α→aq→Prop}(hH:Hd L A)(I:HI L s)(ha:L.exc≠none→L.look a=none)(ho:s.heap.get? a=some {cls:=c,data:= .fields #[v0,v1,.none,v3,v4,v5,v6,v7]})
  (h: ∀h' v2,(∀b o,b≠a→s.heap.get? b=some o→h'.get? b=some o)→h'.get? a=some {cls:=c,data:= .fields #[v0,v1,v2,v3,v4,v5,v6,v7]}→E (.ref a) {s with heap:=h'}):wpAny L.M A (raiseNew (.ref a):Sem α) Q E s:=by
 unfold raiseNew
 refine ao (wpAny_handled ?_)
 rw[hH]
 cases he:L.exc with
 |none=>exact ao (aw (fx (h s.heap _ (fun _ _ _ e=>e) ho)))
 |some x=>
  obtain⟨ox,vx,hx,QJ,h2⟩:=L.D8 x he
  have hex:L.exc≠none:=by rw[he];simp
  have V6:=(I hex).iA x ox hx
  have js:(Value.ref x !=Value.ref a)=true:=by
   have:x≠a:=fun e=>by rw[e,ha hex] at hx;(first|exact VS hx|cases hx)
   simpa using this
  show wpAny _ _ (if (Value.ref x !=Value.ref a)=true then _ else _) _ _ s
  rw[if_pos js]
  refine ao (aP (wpAny_runValue (aR qQ ?_)))
  rw[aI qP _]
  show wpAny _ _ (field (.ref x) 2>>= _) _ _ s
  refine ao (aT V6 QJ h2 ?_)
  show wpAny _ _ (if (Value.none==Value.none)=true then _ else _) _ _ s
  rw[if_pos (by decide)]
  refine ao (aw (aw ?_))
  unfold updateField
  refine ao (ao (wpAny_load ho ?_))
  show wpAny _ _ (if 2<8 then _ else _) _ _ s
  rw[if_pos (by decide)]
  refine wpAny_update ho (fx (h _ (.ref x) (fun b o hb e=>(Heap.SameBut.update ..).extBut b o hb e) ?_))
  exact aQ _ ho rfl
theorem B3{α:Type}{o:Value}{name msg:Str}{Q:α→aq→Prop}(hH:Hd L A)(I:HI L s)
  (h: ∀h' tk e,(∀b ob,s.heap.get? b=some ob→h'.get? b=some ob)→(∃t u c,h'.get? e=some {cls:= .type "AttributeError",data:= .fields #[t,.none,c,.none,.bool false,.none,.str name u,o]})→E (.ref e) {s with heap:=h',toks:=tk})(hm:msg.length≤sizeLine:=by size_fits):
  wpAny L.M A (raiseAttrError o name msg:Sem α) Q E s:=by
 unfold raiseAttrError
 refine ao (wpAny_mkStr (ao ?_) hm)
 unfold newExc newTuple
 refine ao (bl ?_ (by size_fits))
 refine ao (m:=firstArgMember _ _) (cw (a:=Value.none) (by simp only[firstArgMember,attrError_no_first];rfl) ?_)
 rw[ownMembersOf_AttributeError]
 refine bl ?_ (by size_fits)
 obtain⟨hp,g,d,tk,os⟩:=s
 have f1:=sub_AttributeError
 repeat (any_goals (first|assumption|wp_step))
 dsimp only
 have k1: ∀b ob,hp.get? b=some ob→b≠(hp.push {cls:= .type "tuple",data:= .seq #[.str msg tk]}).objs.size:=fun b ob hb e=>by
  have jF:b<hp.objs.size:=aH hb
  rw[e,aZ] at jF
  exact absurd jF (Nat.not_lt.mpr (du _))
 have k2: ∀b ob,hp.get? b=some ob→(((hp.push {cls:= .type "tuple",data:= .seq #[.str msg tk]}).push {cls:= .type "AttributeError",data:= .fields (#[.ref hp.objs.size,.none,.none,.none,.bool false,.none]++ #[unsetMember,unsetMember])}).update (hp.push {cls:= .type "tuple",data:= .seq #[.str msg tk]}).objs.size (Obj.mapFields fun vs=>vs.extract 0 6++ #[.str name (tk+1),o])).get? b=some ob:=fun b ob hb=>
  (bg _ _ (Ne.symm (k1 b ob hb))).trans (ay _ (ay _ hb))
 refine B2 (c:= .type "AttributeError") (v0:= .ref hp.objs.size) (v1:= .none) (v3:= .none) (v4:= .bool false) (v5:= .none) (v6:= .str name (tk+1)) (v7:=o) hH (fun x=>(I x).keeps (tk:=tk+1+1) k2) (fun x=> ?_) (aQ _ (aB _ rfl) rfl) fun h' v2 hk hx=>h h' _ _ (fun b ob hb=>hk b ob (k1 b ob hb) (k2 b ob hb)) ⟨_,_,_,hx⟩
 cases e:L.look (hp.push {cls:= .type "tuple",data:= .seq #[.str msg tk]}).objs.size with
 |none=>rfl
 |some ob=>exact absurd rfl (k1 _ ob ((I x).iA _ _ e))
theorem IM{a:Addr}{xs:Array Value}{k:Nat}{Q:Option Value→aq→Prop}(hH:Hd L A)(I:Inv L s)
  (hx:s.heap.get? a=some {cls:= .type "list",data:= .seq xs k})(h: ∀h' tk,(∀b o,s.heap.get? b=some o→h'.get? b=some o)→Q none {s with heap:=h',toks:=tk}):
  wpAny L.M A (getAttr? (.ref a) "keys") Q E s:=by
 obtain⟨hp,g,d,tk,os⟩:=s
 have hT: ∀VC,(⟨hp,g,d,VC,os⟩:aq).TypeIs (.ref a) "list":=fun _=>⟨_,hx,rfl⟩
 have f1:=sub_AttributeError
 have f3:=F.slot_list_getattribute.lookup
 have f4:=F.slot_list_getattribute.bind (.ref a)
 have f5:=am_list_getattr_none
 unfold getAttr? getAttrBy? getAttrBy
 repeat (any_goals (first|assumption|exact hT _|((with_reducible show wpAny _ _ (call (Value.builtin "list.__getattribute__") _ _) _ _ _);refine bw F.slot_list_getattribute (hT _) am_entry_list_getattribute ?_ (F.args_list_getattribute_2 _ _);unfold aC.«object.__getattribute__»)|wp_step))
 have Sw:typeLookup (.type "list") (Str.ofString "keys")=pure none:=FF
 refine cw Sw ?_
 repeat (any_goals (first|assumption|wp_step))
 refine B3 hH (fun _=>I.keeps (fun _ _ e=>e) (tk+1)) (fun h' VC e hk hx=> ?_) (attrMsg_fits (by decide+kernel) (by decide))
 obtain⟨t',u',c',he⟩:=hx
 show wpAny _ _ (getattributeRaised _ _ _ _ _ _ _) _ _ _
 unfold getattributeRaised
 repeat (any_goals (first|assumption|wp_step))
 exact h _ _ hk
end
section
variable {L:ig} {X:List Addr}
theorem Inv.Pj{s:aq}{I D:Addr}(i:Inv L s)(hI:L.look I=none)(hD:L.look D=none){h':Heap}{tk:Nat}(hk: ∀b o,b≠I→b≠D→s.heap.get? b=some o→h'.get? b=some o):Inv L {s with heap:=h',toks:=tk}:=
 ⟨fun a o e=>hk a o (fun x=>by rw[x,hI] at e;(first|exact VS e|cases e)) (fun x=>by rw[x,hD] at e;(first|exact VS e|cases e)) (i.iA a o e),i.bare⟩
theorem DF{A:aF}{R:eL→aq→Prop}{ax I D:Addr}{ps:List PV}(hI:I∈X)(hD:D∈X)(Sx:I≠D)(hh:Hd L A)(hLI:L.look I=none)(hLD:L.look D=none): ∀(rest:List PV) (i:Nat) (s:aq) (kvs:List (Int×Value)) (ks:List Int) (vs:List PV) (r:List Int×List PV),ps.drop i=rest→i≤ps.length→
  VR L.prog L.w s.heap X (.list ps) (.ref ax)→s.heap.IsListIter I ax i→s.heap.DictOf (intKind L.prog L.w) D kvs→kvs.map (·.1)=ks→gV L.prog L.w s.heap X vs (kvs.map (·.2))→Ds rest (ks,vs)=some r→Inv L s→
  (∀h' tk kP,h'.DictOf (intKind L.prog L.w) D kP→kP.map (·.1)=r.1→gV L.prog L.w h' X r.2 (kP.map (·.2))→(∀b o,b≠I→b≠D→s.heap.get? b=some o→h'.get? b=some o)→R (.ok (.ret .none)) {s with heap:=h',toks:=tk})→
  codeAny L.M A (.builtin "dict.update.loop" ⟨[.ref D,.ref I,rawInt i,.none],[]⟩) R s:=by
 intro rest
 induction rest with
 |nil=>
  intro i s kvs ks vs r hd hi hv hit J9 hk hl hr inv hR
  skip;(first|exact VS hr|cases hr)
  obtain⟨a,xs,n,e,ha,ho,jB⟩:=id hv.listE
  skip;(first|exact VS e|cases e)
  have e1:=jB.length
  rw[aS] at e1
  have hn:xs[i]? =none:=by rw[aO];have:=List.drop_eq_nil_iff.mp hd;omega
  refine aR yZ ?_
  rw[aI qx _]
  show wpAny _ A.in1 (pyNext (.ref I)>>= _) _ _ s
  refine ao (kG bS ck (cD _) hit.typeIs (nX hh (fun _=>inv) hit (fun _=>hLI) ⟨_,ho,rfl,_,rfl⟩ hn) fun h' td=> ?_)
  show wpAny _ A.in1 (aC.Dict.addKeywords D []>>= _) _ _ _
  refine ao (aw (aw ?_))
  exact hR h' s.toks kvs (jl J9 fun o e=>td D o Sx.symm e) hk (hl.up fun b o hb e=>⟨hb,td b o (fun x=>hb (x▸hI)) e⟩) fun b o h1 h2 e=>td b o h1 e
 |cons p rest ih=>
  intro i s kvs ks vs r hd hi hv hit J9 hk hl hr inv hR
  obtain⟨a,xs,n,e,ha,ho,jB⟩:=id hv.listE
  skip;(first|exact VS e|cases e)
  have jF:i<ps.length:=by
   rcases bZ i ps.length with h|h
   ·exact h
   ·rw[List.drop_eq_nil_iff.mpr h] at hd;(first|exact VS hd|cases hd)
  have Rx:ps.drop i=ps[i]::ps.drop (i+1):=aJ jF
  rw[Rx] at hd
  injection hd with HZ hd2
  have hp:ps[i]? =some p:=by rw[aG jF,HZ]
  obtain⟨v,nf,v8⟩:=jB.get hp
  rw[bz] at nf
  replace hr:=Option.bind_eq_some_iff.mp hr
  obtain⟨⟨k,y⟩,hky,hr⟩:=hr
  cases Dr hky
  replace hr:=zz hr
  obtain⟨hsz,hr⟩:=hr
  ·skip
   refine aR yZ ?_
   rw[aI qx _]
   show wpAny _ A.in1 (pyNext (.ref I)>>= _) _ _ s
   refine ao (cm hit ⟨_,ho,rfl,_,rfl⟩ nf fun h' md km=> ?_)
   have u1:=kx hI km.extBut
   obtain⟨b,zs,m,rfl,hb,Xc,Sy⟩:=(v8.up u1).mK
   obtain⟨v1,w1,e1,q1,Sy⟩:=Sy.inv
   obtain⟨v2,w2,e2,q2,Sy⟩:=Sy.inv
   subst Sy
   subst e2
   obtain⟨t,rfl⟩:=q1.ki
   refine ao (aP (ao (cB (xY Xc ?_))))
   rw[e1]
   show wpAny _ A.in1 (holding _ (dictSet D (.int k t) v2)) _ _ _
   have ib:kvs.length≤1000:=by rw[←hk] at hsz;simpa using hsz
   have vI:h'.DictOf (intKind L.prog L.w) D kvs:=jl J9 fun o e=>km.extBut D o Sx.symm e
   refine aP (wpAny_dictSet_pairs (knd:=intKind L.prog L.w) (k:=k) (isInt_self k t) vI (fun nI Xz Lp=> ?_) (Nat.le_trans ib (by decide)))
   have u2:=kx hD Lp.extBut
   have st:=yV (L:=L) (h:=nI) (X:=X) (x:=k) (p:=y) (u:=v2) (q2.up u2) (oM J9) hk ((hl.up u1).up u2)
   have a4:((i:Int)+1)=((i+1:Nat):Int):=by push_cast;rfl
   rw[a4]
   exact aw ⟨bf qx _,ih (i+1) _ _ _ _ r hd2 jF ((hv.up u1).up u2) (md.at fun o e=>Lp.extBut I o Sx e) Xz st.1 st.2 hr (inv.Pj hLI hLD fun b o h1 h2 e=>Lp.extBut b o h2 (km.extBut b o h1 e)) fun h3 tk kP g1 g2 g3 g4=>hR h3 tk kP g1 g2 g3 fun b o h1 h2 e=>g4 b o h1 h2 (Lp.extBut b o h2 (km.extBut b o h1 e))⟩
theorem qg:oP L 0 (.type "dict") mh:=by
 intro A X s ps vs r Q E R x I jE hg hQ
 have js:s.heap.objs.size≠L.tb:=fun e=>x.size (e▸x.tb)
 have kh:s.heap.objs.size≠sysModules:=fun e=>x.size (e▸x.sm)
 replace hg:=lV hg
 obtain⟨_,rfl,hg⟩:=hg
 replace hg:=i7 hg
 obtain⟨l,rfl,hg⟩:=hg
 obtain⟨rr,hr,rfl⟩:=Option.map_eq_some_iff.mp hg
 obtain⟨v,rfl,hv⟩:=gV.one jE
 obtain⟨a,xs,n,rfl,ha,ho,hl⟩:=id hv.listE
 have Qe: ¬ ((Value.type "list"!=Value.type "dict")=false):=by decide
 refine callType_codes (Q₁:=fun obj s₁=>obj= .ref s.heap.objs.size∧s₁={s with heap:=s.heap.push {cls:= .type "dict",data:= .dict #[]}}) F.kt_called_dict (F.kt_typeCall_dict_1 _) F.entry_dict_init (kt_code_dict_new _ ⟨rfl,rfl⟩) ?_
 rintro obj s₁ ⟨rfl,rfl⟩
 generalize eh:s.heap.push {cls:= .type "dict",data:= .dict #[]}=h₁
 have zK:h₁.DictOf (intKind L.prog L.w) s.heap.objs.size []:=by rw[←eh];exact Heap.DictOf.new s.heap
 have k1: ∀b o,s.heap.get? b=some o→h₁.get? b=some o:=fun b o e=>by rw[←eh];exact iq _ _ b o e
 have BH:=k1 _ _ ho
 refine⟨zK.typeIs,F.args_dict_init_2 _ _,?_⟩
 unfold aC.«dict.__init__»
 refine ao ?_
 unfold aC.Dict.selfAndRest
 refine ao (wpAny_notOrdered_dict zK.typeIs ?_)
 show wpAny _ _ (pure (s.heap.objs.size,[Value.ref a])) _ _ _
 refine aw ?_
 show wpAny _ _ (aC.Dict.updateFrom "dict.__init__" s.heap.objs.size (.ref a) [] .none) _ _ _
 unfold aC.Dict.updateFrom
 refine ao (ee (T:="list") ⟨_,BH,rfl⟩ ?_)
 rw[if_pos (by decide)]
 refine ao (IM (show Hd L A from R.handled) (I.keeps k1 s.toks) BH fun h₂ tk k2=> ?_)
 simp only[Option.isNone_none,if_true]
 refine ao (cR ?_)
 refine ao (cG ⟨_,k2 _ _ BH,rfl,_,rfl⟩ ?_)
 refine aw ⟨bf qx _,?_⟩
 generalize eh2:h₂.push {cls:= .type "list_iterator",data:= .fields #[.ref a,.int 0 0]}=h₃
 have k3: ∀b o,h₂.get? b=some o→h₃.get? b=some o:=fun b o e=>by rw[←eh2];exact iq _ _ b o e
 have hit:h₃.IsListIter h₂.objs.size a 0:=by rw[←eh2];exact⟨_,aB _ rfl,rfl,rfl⟩
 have kk: ∀b o,s.heap.get? b=some o→h₃.get? b=some o:=fun b o e=>k3 b o (k2 b o (k1 b o e))
 have hd2:h₂.DictOf (intKind L.prog L.w) s.heap.objs.size []:=jl zK fun o e=>k2 _ o e
 have Qm:h₃.DictOf (intKind L.prog L.w) s.heap.objs.size []:=jl hd2 fun o e=>k3 _ o e
 have f1:s.heap.get? s.heap.objs.size=none:=g9 _
 have f2:s.heap.get? h₂.objs.size=none:=by
  cases e:s.heap.get? h₂.objs.size with
  |none=>rfl
  |some o=>exact absurd (aH (k2 _ _ (k1 _ _ e))) (bE _)
 have IP: ∀{a:Addr},s.heap.get? a=none→L.look a=none:=fun{a} h=>by
  cases e:L.look a with
  |none=>rfl
  |some o=>rw[I.iA a o e] at h;(first|exact VS h|cases h)
 have Sx:h₂.objs.size≠s.heap.objs.size:=fun e=>by
  obtain⟨o,ho⟩:=j5 hd2
  exact absurd (aH ho) (by rw[e];exact bE _)
 have up:Up s.heap X h₃ (h₂.objs.size::s.heap.objs.size::X):=fun b o hb e=>by
  refine⟨fun hm=> ?_,kk b o e⟩
  rcases List.mem_cons.mp hm with rfl|hm
  ·rw[f2] at e;(first|exact VS e|cases e)
  rcases List.mem_cons.mp hm with rfl|hm
  ·rw[f1] at e;(first|exact VS e|cases e)
  ·exact hb hm
 refine DF (A:=A.in1) (X:=h₂.objs.size::s.heap.objs.size::X) (aA ..) (av _ (aA ..)) Sx (show Hd L A.in1 from R.handled) (IP f2) (IP f1) l 0 _ [] [] [] rr rfl (aE _) (hv.up up) hit Qm rfl gV.nil hr (I.keeps kk _) fun h' VC kP g1 g2 g3 g4=> ?_
 have kf: ∀b o,s.heap.get? b=some o→h'.get? b=some o:=fun b o e=>g4 b o (fun h=>by rw[h,f2] at e;(first|exact VS e|cases e)) (fun h=>by rw[h,f1] at e;(first|exact VS e|cases e)) (kk b o e)
 exact⟨rfl,hQ _ _ (g9 _) (gN.Bz (tk:=VC) I x (g9 _) kf (j5 g1)) rfl ⟨_,kP,rfl,aA ..,js,kh,g1,g2,g3.up fun b o hb e=>⟨fun hm=>hb (av _ hm),e⟩⟩⟩
end
end
section
open PySem PyProof.Rows PySem.SeqAt PySem.MeetsSeq PySem.MeetsSeq2 PySem.MeetsSeq3 PySem.SeqRoads2
open PySem.AutoSeq1 (wpAny_loadPart')
open PySem.W (KasT kas_sort kas_ask kas_ask_eq kas_runs kas_kind kas_item kas_item_eq kas_st kas_range)
noncomputable def Pk{α:Type}(lt:Nat→Nat→Option Bool):KasT α→Option α
 | .ret a=>some a
 | .ask i j k=>(lt i j).bind fun b=>Pk lt (k b)
noncomputable def ltL:PV→PV→Option Bool
 | .list l,q=>lx (Fz (yI 2) (FA 2 false) false l) q
 |_,_=>none
noncomputable def IQ(l:List PV)(i j:Nat):Option Bool:=(l[i]?).bind fun p=>(l[j]?).bind fun q=>ltL p q
noncomputable def Nt(l:List PV)(is:List Nat):Option (List PV):=is.foldr (fun i r=>(l[i]?).bind fun p=>r.map (p:: ·)) (some [])
noncomputable def B4(l:List PV):Option (List PV):=if l.length<2 then some l else(Pk (IQ l) (kas_sort l.length)).bind fun p=>Nt l p.toList
noncomputable def zf(ps:List PV):Option PV:=A3 (lx fun l=>if l.length<60∧(l.all fun p=>match p with| .list _=>true|_=>false)=true then(B4 l).map .list else none) ps
section
variable {L:ig} {X:List Addr}
theorem Lq{α:Type}{lt:Nat→Nat→Option Bool}{cmp:Nat→Nat→(Bool→aq→Prop)→aq→Prop}{s:aq}(hc: ∀i j b (C:Bool→aq→Prop),lt i j=some b→C b s→cmp i j C s){a:α}{Q:α→aq→Prop}(hq:Q a s): ∀(t:KasT α),Pk lt t=some a→t.kasWp cmp Q s:=by
 intro t
 induction t with
 |ret b=>intro h;(first|exact VS h|cases h);exact hq
 |ask i j k ih=>
  intro h
  obtain⟨b,hb,h⟩:=Option.bind_eq_some_iff.mp h
  exact hc i j b _ hb (ih b h)
theorem IS{A:aF}{s:aq}{r:Bool}{l b:Addr}{xs ys:Array Value}{n n2:Nat}{E:Value→aq→Prop}{Q:Bool→aq→Prop}(hl:s.heap.get? l=some {cls:= .type "list",data:= .seq xs n})(hb:s.heap.get? b=some {cls:= .type "list",data:= .seq ys n2})(hu:A.units<cLine)
  (ho:u0 L A s false xs.toList ys.toList r)(h:Q r s):wpAny L.M A (keyLt' fz (.ref l) (.ref b)) Q E s:=by
 rw[keyLt'_oneType,oneLt'_eq]
 simp only[if_true]
 refine ao (wpAny_cRoomFor hu ?_)
 exact ao (wpAny_callSpecialIfBound?_slot ⟨_,hl,rfl⟩ F.slot_list_lt (sF hl hb ho (cZ h)))
theorem FW{A:aF}{s:aq}{ps:List PV}{vs:List Value}(hv:gV L.prog L.w s.heap X ps vs)(hu:A.units+8<cLine){i j:Nat}{b:Bool}{C:Bool→aq→Prop}(h:IQ ps i j=some b)(hC:C b s):kas_ask L.prog L.w A fz vs i j C s:=by
 obtain⟨p,hp,h⟩:=Option.bind_eq_some_iff.mp h
 obtain⟨q,hq,h⟩:=Option.bind_eq_some_iff.mp h
 obtain⟨v,e1,XA⟩:=hv.get hp
 obtain⟨u,e2,hvq⟩:=hv.get hq
 unfold kas_ask
 rw[aY,aY,e1,e2]
 cases p<;>try exact hO h
 obtain⟨m,rfl,h⟩:=i7 h
 obtain⟨a,xs,k,rfl,ha,ho,hl⟩:=XA.listE
 obtain⟨a',qC,k',rfl,xH,lr,jB⟩:=hvq.listE
 exact IS ho lr (by omega) (HX (fun p q v u b hv xJ hb=>zB.of (v9 2 _ _ _ _ _ _ _ hv xJ hb (by show A.units+1+_<_;omega))) (fun p q v u b hv xJ hb=>Dp 2 _ _ _ _ _ _ _ hv xJ hb (by show A.units+1+_<_;omega)) hl jB h) hC
theorem IT{h:Heap}{ps:List PV}{vs:List Value}(hv:gV L.prog L.w h X ps vs): ∀{is:List Nat} {qs:List PV},Nt ps is=some qs→gV L.prog L.w h X qs (is.map fun i=>vs.getD i Value.none):=by
 intro is
 induction is with
 |nil=>intro qs e;(first|exact VS e|cases e);exact gV.nil
 |cons i is ih=>
  intro qs e
  obtain⟨p,hp,e⟩:=Option.bind_eq_some_iff.mp e
  obtain⟨qs',hq,rfl⟩:=Option.map_eq_some_iff.mp e
  obtain⟨v,e1,XA⟩:=hv.get hp
  rw[aU,aY,e1]
  exact gV.cons XA (ih hq)
theorem B5{A:aF}{s:aq}{E:Value→aq→Prop}{a:Addr}{ps qs:List PV}{vs:List Value}{n:Nat}{P:eW→aq→Prop}(ho:s.heap.get? a=some (PyProof.Rows.seqObj "list" vs.toArray n))(hu:A.units+8<cLine)(h64:vs.length<60)
  (hv: ∀h':Heap,(∀b o,b≠a→s.heap.get? b=some o→h'.get? b=some o)→gV L.prog L.w h' X ps vs)(hT: ∀h':Heap,(∀b o,b≠a→s.heap.get? b=some o→h'.get? b=some o)→ ∀v∈vs,PySem.W.Looks L.M h' (typeOf v) (.type "list"))(hs:B4 ps=some qs)
  (h: ∀out:List Value,(∀h':Heap,(∀b o,b≠a→s.heap.get? b=some o→h'.get? b=some o)→gV L.prog L.w h' X qs out)→P (.done (.ret .none)) {s with heap:=sortedHeap s.heap a vs out.toArray}):
  wpAny L.M A (aC.«list.sort» ⟨[.ref a],[]⟩) P E s:=by
 rw[list_sort_plain]
 have ha:a<s.heap.objs.size:=aH ho
 have ib:ps.length=vs.length:=(hv s.heap fun _ _ _ e=>e).length.symm
 refine ao (listItems_at ho rfl ?_)
 refine ao (listUpdate_at ho rfl ?_ (by rw[dz,fy];omega) (aE _))
 obtain⟨e1,BH⟩: ∃e1,(s.heap.update a (Obj.mapSeq fun _=> #[])).get? a=some (PyProof.Rows.seqObj "list" #[] e1):=⟨_,get?_update_seq ho (fun _=> #[])⟩
 refine ao (seqEpoch_at BH rfl ?_)
 refine ao (wpAny_newTuple ?_ (by show vs.length≤_;rw[fy];omega))
 refine ao (wpAny_newList ?_ (aE _))
 refine aP ?_
 show wpAny L.M A _ P E {s with heap:=((s.heap.update a (Obj.mapSeq fun _=> #[])).push (PyProof.Rows.seqObj "tuple" vs.toArray 0)).push (PyProof.Rows.seqObj "list" #[] 0)}
 have VD:(((s.heap.update a (Obj.mapSeq fun _=> #[])).push (PyProof.Rows.seqObj "tuple" vs.toArray 0)).push (PyProof.Rows.seqObj "list" #[] 0)).get? a=some (PyProof.Rows.seqObj "list" #[] e1):=ay _ (ay _ BH)
 have keep: ∀b o,b≠a→s.heap.get? b=some o→(((s.heap.update a (Obj.mapSeq fun _=> #[])).push (PyProof.Rows.seqObj "tuple" vs.toArray 0)).push (PyProof.Rows.seqObj "list" #[] 0)).get? b=some o:=fun b o hb e=>
  ay _ (ay _ ((Heap.get?_update_ne _ _ _ _ hb).trans e))
 dsimp only
 have hz: ∀{l:List Value} (h2:l.length=vs.length),l.toArray.size≤sizeLine+1:=fun h2=>by rw[dz,h2,fy];omega
 by_cases h2:vs.length<2
 ·have NX:vs.toArray.size<2:=by rw[dz];exact h2
  rw[if_pos NX,if_pos NX]
  have e:qs=ps:=by unfold B4 at hs;rw[if_pos (ib▸h2)] at hs;exact(Option.some.inj hs).symm
  subst e
  refine ao (aw ?_)
  rw[StateT.run_pure]
  refine ao (aw ?_)
  dsimp only
  have XB:(arrOf (SortSt.mk' general' (vs.toArray.zip vs.toArray) #[] 7 none)).map (·.2)=vs.toArray:=by
   show(vs.toArray.zip vs.toArray).map (·.2)=_
   apply Array.toList_inj.mp
   rw[fU,Array.toList_zip]
   exact List.map_snd_zip (bu _)
  rw[XB]
  refine ao (seqEpoch_at VD rfl ?_)
  refine ao (listUpdate_at VD rfl ?_ (aE _) (hz rfl))
  simp only[bne_self_eq_false,aV,if_false]
  exact aw (h vs hv)
 ·have NX: ¬ vs.toArray.size<2:=by rw[dz];exact h2
  rw[if_neg NX,if_neg NX]
  unfold B4 at hs
  rw[if_neg (ib▸h2)] at hs
  obtain⟨p,hp,hs⟩:=Option.bind_eq_some_iff.mp hs
  refine ao (kas_kind (T:= .type "list") (Nat.le_of_not_lt h2) (hT _ keep) rfl rfl ?_)
  have est:SortSt.mk' fz (vs.toArray.zip vs.toArray) #[] 7 none=kas_st fz (pairsOf vs) (List.toArray (List.range vs.length)):=by
   have e:=kas_range (pairsOf vs)
   rw[pairsOf_size] at e
   show SortSt.mk' fz (pairsOf vs) #[] 7 none=SortSt.mk' fz ((List.toArray (List.range vs.length)).map (kas_item (pairsOf vs))) #[] 7 none
   rw[e]
  have run:=kas_runs (prog:=L.prog) (w:=L.w) (A:=A) (E:=E) (κ:=fz) (it:=pairsOf vs) (s:={s with heap:=((s.heap.update a (Obj.mapSeq fun _=> #[])).push (PyProof.Rows.seqObj "tuple" vs.toArray 0)).push (PyProof.Rows.seqObj "list" #[] 0)}) (Q:=fun _ C6 s'=>s'={s with heap:=((s.heap.update a (Obj.mapSeq fun _=> #[])).push (PyProof.Rows.seqObj "tuple" vs.toArray 0)).push (PyProof.Rows.seqObj "list" #[] 0)}∧p.size=vs.length∧arrOf C6=p.map (kas_item (pairsOf vs))∧failedOf C6=none) (G:=fun p' s'=>s'={s with heap:=((s.heap.update a (Obj.mapSeq fun _=> #[])).push (PyProof.Rows.seqObj "tuple" vs.toArray 0)).push (PyProof.Rows.seqObj "list" #[] 0)}∧p'=p)
   (Nat.le_of_not_lt h2) (by omega) (fun p' C6 s' a1 a2 a3 a4=>by obtain⟨e1,rfl⟩:=a4;exact⟨e1,a1,a2,a3⟩) (by
    rw[←kas_ask_eq,←ib]
    exact Lq (lt:=IQ ps) (fun i j b C hb hC=>FW (hv _ keep) hu hb hC) ⟨rfl,rfl⟩ _ hp)
  rw[←est] at run
  refine ao (bH run ?_ fun _ _ e=>e)
  rintro⟨⟨⟩,C6⟩ s' ⟨rfl,hps,XB,hf⟩
  dsimp only
  have zU:(arrOf C6).map (·.2)=(p.toList.map fun i=>vs.getD i Value.none).toArray:=by
   apply Array.toList_inj.mp
   rw[XB,Array.map_map,fU]
   exact dZ fun i _=>by show(kas_item (pairsOf vs) i).2=_;rw[kas_item_eq]
  rw[zU,hf]
  refine ao (seqEpoch_at VD rfl ?_)
  refine ao (listUpdate_at VD rfl ?_ (aE _) (hz (by rw[aD,aS,hps])))
  simp only[bne_self_eq_false,aV,if_false]
  exact aw (h _ fun h' k=>IT (hv h' k) hs)
theorem DG:iM L 0 (.builtin "sorted") zf:=by
 intro A X s ps vs r Q E R x I jE hg hQ
 obtain⟨_,rfl,hg⟩:=lV hg
 obtain⟨l,rfl,hg⟩:=i7 hg
 obtain⟨⟨h60,C5⟩,hg⟩:=zz (show(if l.length<60∧(l.all fun p=>match p with| .list _=>true|_=>false)=true then(B4 l).map PV.list else none)=some r from hg)
 obtain⟨qs,QR,rfl⟩:=Option.map_eq_some_iff.mp hg
 obtain⟨v,rfl,hv⟩:=gV.one jE
 obtain⟨a,xs,n,rfl,ha,ho,hl⟩:=hv.listE
 have e1:xs.toList.length=l.length:=hl.length
 have hu:A.units+10<cLine:=by have:=R.units;show A.units+10<9900;omega
 have XC:xs.toList.length<60:=e1.symm▸h60
 refine cx kind_sorted plain_sorted entry_sorted (args_sorted1 _) ?_
 unfold aC.«sorted»
 refine ao (m:=checkCount "sorted" 1 1 _) (aw ?_)
 refine ao (collect_list (vs:=xs.toList) ⟨_,ho,rfl,n,rfl⟩ ?_ (by rw[fy];omega))
 refine ao (wpAny_newList ?_ (by rw[fy];omega))
 have hsz:((s.heap.push (PyProof.Rows.seqObj "list" #[] 0)).update s.heap.objs.size (Obj.mapSeq (· ++xs.toList.toArray))).objs.size=s.heap.objs.size+1:=by
  rw[Heap.size_update,size_push']
 have hoL:(((s.heap.push (PyProof.Rows.seqObj "list" #[] 0)).update s.heap.objs.size (Obj.mapSeq (· ++xs.toList.toArray))).push (PyProof.Rows.seqObj "list" xs.toList.toArray 0)).get? (s.heap.objs.size+1)=some (PyProof.Rows.seqObj "list" xs.toList.toArray 0):=by
  rw[←hsz];exact aB _ rfl
 have k1: ∀b o,s.heap.get? b=some o→(((s.heap.push (PyProof.Rows.seqObj "list" #[] 0)).update s.heap.objs.size (Obj.mapSeq (· ++xs.toList.toArray))).push (PyProof.Rows.seqObj "list" xs.toList.toArray 0)).get? b=some o:=fun b o e=>
  ay _ ((Heap.get?_update_ne _ _ _ _ (dC (aH e))).trans (ay _ e))
 have kb: ∀(h':Heap),(∀b o,b≠s.heap.objs.size+1→(((s.heap.push (PyProof.Rows.seqObj "list" #[] 0)).update s.heap.objs.size (Obj.mapSeq (· ++xs.toList.toArray))).push (PyProof.Rows.seqObj "list" xs.toList.toArray 0)).get? b=some o→h'.get? b=some o)→ ∀b o,s.heap.get? b=some o→h'.get? b=some o:=fun h' k b o e=>
  k b o (dC (ef (aH e))) (k1 b o e)
 show wpAny _ _ _ _ _ {s with heap:=((s.heap.push (PyProof.Rows.seqObj "list" #[] 0)).update s.heap.objs.size (Obj.mapSeq (· ++xs.toList.toArray))).push (PyProof.Rows.seqObj "list" xs.toList.toArray 0)}
 rw[hsz]
 refine ao (aP (bw slot_list_sort ⟨_,hoL,rfl⟩ entry_list_sort (B5 (L:=L) (X:=X) (ps:=l) (qs:=qs) hoL (by show A.units+1+1+8<_;omega) XC (fun h' k=>hl.up fun b o hb e=>⟨hb,kb h' k b o e⟩) (fun h' k v hv=> ?_) QR fun out zU=>⟨_,rfl,?_⟩) (args_list_sort _)))
 ·obtain⟨i,hi,rfl⟩:=List.mem_iff_getElem.mp hv
  have hp:l[i]? =some l[i]:=aG (e1▸hi)
  obtain⟨u,e2,xJ⟩:=hl.get hp
  rw[aG hi] at e2
  skip;(first|exact VS e2|cases e2)
  have hm:=List.all_eq_true.mp C5 _ (fZ (e1▸hi))
  generalize l[i]=q at hm xJ
  cases q<;>try exact absurd hm bk
  obtain⟨a',qC,n',e3,_,lr,_⟩:=xJ.listE
  rw[e3]
  exact fun A' Q' E' s' k' q'=>ee (T:="list") ⟨_,k' _ _ (kb h' k _ _ lr),rfl⟩ q'
 ·have hk: ∀b o,s.heap.get? b=some o→(sortedAll s.heap xs.toList out.toArray).get? b=some o:=fun b o=>sortedAll_old
  obtain⟨e,he⟩:=sortedAll_at s.heap xs.toList out.toArray
  have hD:s.heap.objs.size+1∉X:=fun hm=>by
   obtain⟨o,ho⟩:=x.there _ hm
   exact absurd (aH ho) (Nat.not_lt.mpr (du _))
  refine aw ⟨_,rfl,hQ _ _ ⟨_,_,_,rfl,hD,he,?_⟩ (gN.Bv (tk:=s.toks) I x hk)⟩
  refine zU _ fun b o hb e=> ?_
  have jF:=aH e
  rw[sortedHeap_old hb jF]
  exact e
end
end
section
open PySem PyProof.Rows
noncomputable def zg:PV:= .kj [1,2,4,8,16,32,64,128,256,512] [.str (Str.ofString "OPTIMIZED"),.str (Str.ofString "NEWLOCALS"),.str (Str.ofString "VARARGS"),.str (Str.ofString "VARKEYWORDS"),.str (Str.ofString "NESTED"),.str (Str.ofString "GENERATOR"),.str (Str.ofString "NOFREE"),.str (Str.ofString "COROUTINE"),.str (Str.ofString "ITERABLE_COROUTINE"),.str (Str.ofString "ASYNC_GENERATOR")]
set_option genSizeOf false in
set_option genInjectivity false in
structure gK(L:ig) where
 ad:Nat→Addr
 fd:Nat→FuncData
 K:eo
 b_StopIteration:L.gl (Str.ofString "StopIteration")=some (.type "StopIteration")
 b_abs:L.gl (Str.ofString "abs")=some (.builtin "abs")
 b_bytes:L.gl (Str.ofString "bytes")=some (.type "bytes")
 b_dict:L.gl (Str.ofString "dict")=some (.type "dict")
 b_enumerate:L.gl (Str.ofString "enumerate")=some (.type "enumerate")
 b_hex:L.gl (Str.ofString "hex")=some (.builtin "hex")
 b_int:L.gl (Str.ofString "int")=some (.type "int")
 b_isinstance:L.gl (Str.ofString "isinstance")=some (.builtin "isinstance")
 b_iter:L.gl (Str.ofString "iter")=some (.builtin "iter")
 b_len:L.gl (Str.ofString "len")=some (.builtin "len")
 b_min:L.gl (Str.ofString "min")=some (.builtin "min")
 b_next:L.gl (Str.ofString "next")=some (.builtin "next")
 b_ord:L.gl (Str.ofString "ord")=some (.builtin "ord")
 b_range:L.gl (Str.ofString "range")=some (.type "range")
 b_sorted:L.gl (Str.ofString "sorted")=some (.builtin "sorted")
 b_sum:L.gl (Str.ofString "sum")=some (.builtin "sum")
 b_tuple:L.gl (Str.ofString "tuple")=some (.type "tuple")
 b_zip:L.gl (Str.ofString "zip")=some (.type "zip")
 u_CRLF:Value
 g_CRLF:L.gl (Str.ofString "CRLF")=some u_CRLF
 v_CRLF: ∀(h:Heap) (X:List Addr),(∀a o,L.look a=some o→h.get? a=some o)→(∀a∈X,L.look a=Option.none)→VR L.prog L.w h X (.str (Str.ofString "\r\n")) u_CRLF
 u_flags:Value
 g_flags:L.gl (Str.ofString "COMPILER_FLAG_NAMES")=some u_flags
 v_flags: ∀(h:Heap) (X:List Addr),(∀a o,L.look a=some o→h.get? a=some o)→(∀a∈X,L.look a=Option.none)→VR L.prog L.w h X zg u_flags
 g_tw1:L.gl (Str.ofString "_twin_re_1")=some (.ref Ln)
 p_tw1:DE L Ln c1 0
 g_tw2:L.gl (Str.ofString "_twin_re_2")=some (.ref Lo)
 p_tw2:DE L Lo c1 1
 g_tw3:L.gl (Str.ofString "_twin_re_3")=some (.ref FV)
 p_tw3:DE L FV c3 0
 cd:vM L K tJ (ad 1000) (Str.ofString "comp_select_list")
 g_TupleComp:L.gl (Str.ofString "TupleComp")=some (.ref tJ)
 m_compare:PySem.W.findIn K (.ref tJ) (Str.ofString "compare")=some (some (.ref (ad 1001)))
 t_compare:PySem.W.typeIn K (.ref (ad 1001))=some (.type "function")
 fn_TupleComp_init:iI L (ad 1000) (fd 1000) (ic (jD (jO PySem.Challenge.pw_xc0012_02 2) 0)) [(Str.ofString "self"),(Str.ofString "comp_select_list")] (iB (jD (jO PySem.Challenge.pw_xc0012_02 2) 0))
 fn_TupleComp_compare:iI L (ad 1001) (fd 1001) (ic (jD (jO PySem.Challenge.pw_xc0012_02 2) 1)) [(Str.ofString "self"),(Str.ofString "left"),(Str.ofString "right")] (iB (jD (jO PySem.Challenge.pw_xc0012_02 2) 1))
 g_add_func_stats:L.gl (Str.ofString "add_func_stats")=some (.ref (ad 3))
 fn_add_func_stats:iI L (ad 3) (fd 3) (ic (jO PySem.Challenge.pw_xc0012_02 3)) [(Str.ofString "target"),(Str.ofString "source")] (iB (jO PySem.Challenge.pw_xc0012_02 3))
 g_add_callers:L.gl (Str.ofString "add_callers")=some (.ref (ad 4))
 fn_add_callers:iI L (ad 4) (fd 4) (ic (jO PySem.Challenge.pw_xc0012_02 4)) [(Str.ofString "target"),(Str.ofString "source")] (iB (jO PySem.Challenge.pw_xc0012_02 4))
 g_pretty_flags:L.gl (Str.ofString "pretty_flags")=some (.ref (ad 7))
 fn_pretty_flags:iI L (ad 7) (fd 7) (ic (jO PySem.Challenge.pw_xc0012_02 7)) [(Str.ofString "flags")] (iB (jO PySem.Challenge.pw_xc0012_02 7))
 g__parse_varint:L.gl (Str.ofString "_parse_varint")=some (.ref (ad 8))
 fn__parse_varint:iI L (ad 8) (fd 8) (ic (jO PySem.Challenge.pw_xc0012_02 8)) [(Str.ofString "iterator")] (iB (jO PySem.Challenge.pw_xc0012_02 8))
 g_quotedata:L.gl (Str.ofString "quotedata")=some (.ref (ad 14))
 fn_quotedata:iI L (ad 14) (fd 14) (ic (jO PySem.Challenge.pw_xc0012_02 14)) [(Str.ofString "data")] (iB (jO PySem.Challenge.pw_xc0012_02 14))
 g__quote_periods:L.gl (Str.ofString "_quote_periods")=some (.ref (ad 15))
 fn__quote_periods:iI L (ad 15) (fd 15) (ic (jO PySem.Challenge.pw_xc0012_02 15)) [(Str.ofString "bindata")] (iB (jO PySem.Challenge.pw_xc0012_02 15))
 g__fix_eols:L.gl (Str.ofString "_fix_eols")=some (.ref (ad 16))
 fn__fix_eols:iI L (ad 16) (fd 16) (ic (jO PySem.Challenge.pw_xc0012_02 16)) [(Str.ofString "data")] (iB (jO PySem.Challenge.pw_xc0012_02 16))
 g__law_entry:L.gl (Str.ofString "_law_entry")=some (.ref (ad 18))
 fn__law_entry:iI L (ad 18) (fd 18) (ic (jO PySem.Challenge.pw_xc0012_02 18)) [(Str.ofString "row")] (iB (jO PySem.Challenge.pw_xc0012_02 18))
 g__law_row:L.gl (Str.ofString "_law_row")=some (.ref (ad 19))
 fn__law_row:iI L (ad 19) (fd 19) (ic (jO PySem.Challenge.pw_xc0012_02 19)) [(Str.ofString "entry")] (iB (jO PySem.Challenge.pw_xc0012_02 19))
 g__law_plain:L.gl (Str.ofString "_law_plain")=some (.ref (ad 20))
 fn__law_plain:iI L (ad 20) (fd 20) (ic (jO PySem.Challenge.pw_xc0012_02 20)) [(Str.ofString "starts"),(Str.ofString "keys"),(Str.ofString "pairs"),(Str.ofString "triples")] (iB (jO PySem.Challenge.pw_xc0012_02 20))
 g__law_next:L.gl (Str.ofString "_law_next")=some (.ref (ad 21))
 fn__law_next:iI L (ad 21) (fd 21) (ic (jO PySem.Challenge.pw_xc0012_02 21)) [(Str.ofString "rows"),(Str.ofString "places"),(Str.ofString "lower")] (iB (jO PySem.Challenge.pw_xc0012_02 21))
 g__law_free:L.gl (Str.ofString "_law_free")=some (.ref (ad 22))
 fn__law_free:iI L (ad 22) (fd 22) (ic (jO PySem.Challenge.pw_xc0012_02 22)) [(Str.ofString "rows")] (iB (jO PySem.Challenge.pw_xc0012_02 22))
 g__law_octets:L.gl (Str.ofString "_law_octets")=some (.ref (ad 23))
 fn__law_octets:iI L (ad 23) (fd 23) (ic (jO PySem.Challenge.pw_xc0012_02 23)) [(Str.ofString "number"),(Str.ofString "dress")] (iB (jO PySem.Challenge.pw_xc0012_02 23))
 g__law_mail:L.gl (Str.ofString "_law_mail")=some (.ref (ad 24))
 fn__law_mail:iI L (ad 24) (fd 24) (ic (jO PySem.Challenge.pw_xc0012_02 24)) [(Str.ofString "dots"),(Str.ofString "letters"),(Str.ofString "ends")] (iB (jO PySem.Challenge.pw_xc0012_02 24))
 g__law_run:L.gl (Str.ofString "_law_run")=some (.ref (ad 25))
 fn__law_run:iI L (ad 25) (fd 25) (ic (jO PySem.Challenge.pw_xc0012_02 25)) [(Str.ofString "cells"),(Str.ofString "starts"),(Str.ofString "keys")] (iB (jO PySem.Challenge.pw_xc0012_02 25))
 g_law:L.gl (Str.ofString "law")=some (.ref (ad 26))
 fn_law:iI L (ad 26) (fd 26) (ic (jO PySem.Challenge.pw_xc0012_02 26)) [(Str.ofString "script")] (iB (jO PySem.Challenge.pw_xc0012_02 26))
noncomputable def gK.jg{L:ig}(H:gK L)(e:Addr)(o:Obj)(js:e≠L.tb)(hl:L.look e=none)(hx: ∃vs,o.data= .fields vs∧vs[2]? =some .none):gK (L.jg e o js hl hx) where
 ad:=H.ad
 fd:=H.fd
 K:=H.K
 b_StopIteration:=H.b_StopIteration
 b_abs:=H.b_abs
 b_bytes:=H.b_bytes
 b_dict:=H.b_dict
 b_enumerate:=H.b_enumerate
 b_hex:=H.b_hex
 b_int:=H.b_int
 b_isinstance:=H.b_isinstance
 b_iter:=H.b_iter
 b_len:=H.b_len
 b_min:=H.b_min
 b_next:=H.b_next
 b_ord:=H.b_ord
 b_range:=H.b_range
 b_sorted:=H.b_sorted
 b_sum:=H.b_sum
 b_tuple:=H.b_tuple
 b_zip:=H.b_zip
 u_CRLF:=H.u_CRLF
 g_CRLF:=H.g_CRLF
 v_CRLF:=fun h X a b=>H.v_CRLF h X (fun c o e=>a c o (jr e)) (fun c hc=>wX (b c hc))
 u_flags:=H.u_flags
 g_flags:=H.g_flags
 v_flags:=fun h X a b=>H.v_flags h X (fun c o e=>a c o (jr e)) (fun c hc=>wX (b c hc))
 g_tw1:=H.g_tw1
 p_tw1:=fun h a=>H.p_tw1 h fun c o e=>a c o (jr e)
 g_tw2:=H.g_tw2
 p_tw2:=fun h a=>H.p_tw2 h fun c o e=>a c o (jr e)
 g_tw3:=H.g_tw3
 p_tw3:=fun h a=>H.p_tw3 h fun c o e=>a c o (jr e)
 cd:={H.cd with Qn:=fun h a=>H.cd.Qn h fun c o e=>a c o (jr e)}
 g_TupleComp:=H.g_TupleComp
 m_compare:=H.m_compare
 t_compare:=H.t_compare
 fn_TupleComp_init:=(H.fn_TupleComp_init).jg
 fn_TupleComp_compare:=(H.fn_TupleComp_compare).jg
 g_add_func_stats:=H.g_add_func_stats
 fn_add_func_stats:=(H.fn_add_func_stats).jg
 g_add_callers:=H.g_add_callers
 fn_add_callers:=(H.fn_add_callers).jg
 g_pretty_flags:=H.g_pretty_flags
 fn_pretty_flags:=(H.fn_pretty_flags).jg
 g__parse_varint:=H.g__parse_varint
 fn__parse_varint:=(H.fn__parse_varint).jg
 g_quotedata:=H.g_quotedata
 fn_quotedata:=(H.fn_quotedata).jg
 g__quote_periods:=H.g__quote_periods
 fn__quote_periods:=(H.fn__quote_periods).jg
 g__fix_eols:=H.g__fix_eols
 fn__fix_eols:=(H.fn__fix_eols).jg
 g__law_entry:=H.g__law_entry
 fn__law_entry:=(H.fn__law_entry).jg
 g__law_row:=H.g__law_row
 fn__law_row:=(H.fn__law_row).jg
 g__law_plain:=H.g__law_plain
 fn__law_plain:=(H.fn__law_plain).jg
 g__law_next:=H.g__law_next
 fn__law_next:=(H.fn__law_next).jg
 g__law_free:=H.g__law_free
 fn__law_free:=(H.fn__law_free).jg
 g__law_octets:=H.g__law_octets
 fn__law_octets:=(H.fn__law_octets).jg
 g__law_mail:=H.g__law_mail
 fn__law_mail:=(H.fn__law_mail).jg
 g__law_run:=H.g__law_run
 fn__law_run:=(H.fn__law_run).jg
 g_law:=H.g_law
 fn_law:=(H.fn_law).jg
end
open PySem PyProof.Rows
open Lean in
local macro_rules
 | `(#v[$ks,*])=>do
  let xs:Array Syntax:=ks.getElems.raw
  let k:=xs.getD 0 .missing
  let z:=k.isIdent&&k.getId.eraseMacroScopes== `zz
  let xs:=if z then xs.extract 1 xs.size else xs
  let k:=xs.getD 0 .missing
  let y:=(if z then "#" else "#v")++(if k.isIdent then toString k.getId.eraseMacroScopes else if xs.size==0 then "" else if z then "num" else "~")++toString xs.size++":"
  let some e:=("#num1: gQ ρ $0 ? @1 \\ρ|#i2: some .int $1 @1 @1 \\x1|#v0: some List.nil @1 \\x1|#c3: $1 ρ @1 $2 ρ @1 a l1 + \\l1 &map \\a &bind \\ρ|#l2: $1 ρ @1 pI l @1 some .list l @1 @1 none ^ \\l &bind \\ρ|#t2: $1 ρ @1 pI l @1 some .tup l @1 @1 none ^ \\l &bind \\ρ|#q4: ik $1 $2 $3 ρ @4 mJ &bind \\ρ|#r5: ik $1 $2 $3 @3 ρ @1 $4 &bind \\ρ|#f3: $1 ρ @1 $2 &bind \\ρ|#n2: some ρ.set $1 .p p @1 @2 @1 \\ρ \\p|#m2: lj p @1 pU $1 l ρ @3 \\l &bind \\ρ \\p|#k1: some .next ρ , @1 \\ρ|#e3: $2 ρ @1 .next ρ.set $1 .p v @1 @2 , \\v &map \\ρ|#y1: some true @1 \\x1|#b4: ik $1 $2 $3 @3|#o4: jV iF $1 $2 $3 @3 @1|#d4: $1 ρ @1 $2 ρ @1 $3 ρ @1 jm a b c @3 \\c &bind \\b &bind \\a &bind \\ρ|#z1: some none @1 \\x1|#u3: $1 ρ @1 b some true @1 $2 ρ @1 ^ \\b &bind \\ρ|#w4: $1 ρ @1 b $2 ρ @1 $3 ρ @1 ^ \\b &bind \\ρ|#x4: $1 ρ @1 x $2 ρ @1 $3 ρ @1 ^ \\x &bind \\ρ|#h2: $1 ρ @1 .ret v @1 ρ , \\v &map \\ρ|#j2: some .bool $1 @1 @1 \\x1|#S2: jO PySem.Challenge.pw_xc0012_02 $1 @2|#C2: ic jO PySem.Challenge.pw_xc0012_02 $1 @2 @1|#B2: iB jO PySem.Challenge.pw_xc0012_02 $1 @2 @1|#F2: Ll $1 @1|#N3: hU $1 $2 @2|#va2: =SE.var _6 $1 ~ ~ @9 !|#vb3: =LE.cons _8 $1 $2 rfl \\x1 @11 !|#vc1: =SE.int _7 @7 !|#vd4: =SE.binop _11 $1 $2 $3 @14 !|#ve1: =LE.nil _4 @4 !|#vf3: =SS.cons _11 $1 $2 @13|#vg2: =gM _2 $1 ~ =jX _1 ~ @2 @5|#vh1: =jX _1 ~ @2|#vi3: =SE.item _9 $1 $2 rfl \\x1 \\x1 @12 !|#vj1: =iC _2 ~ @3|#vk5: =SE.call _12 ~ $1 $2 $3 $4 rfl \\x1 rfl \\x1 ~ @20 !|#vl1: =SS.nil _6 @6 !|#vm2: =IE.of _6 $1 @7 !|#vo3: =AS.guard _6 $1 $2 @8|#vq2: =AS.name _7 =iC _2 ~ @3 $1 @9 !|#vr1: =pW.of _3 ~ @4|#vs6: =CJ.last _17 rfl rfl $1 $2 $3 $4 $5 @24 !|#vt1: =nK.nil _4 @4 !|#vu4: =SE.comp _11 $1 _3 =pW.of _3 ~ @4 $2 $3 rfl \\x1 \\x1 @19 !|#vv3: =SS.at _6 $1 _2 ~ $2 @11|#vw1: =SS.nil _6 @6|#vx2: =SE.tup _8 $1 @9 !|#vy3: =SS.cons _11 $1 $2 @13 !|#vz4: =S1.set _11 $1 =iC _2 ~ @3 $2 $3 @15|#vA2: =SE.list _7 $1 @8 !|#vB2: =PE.some _6 $1 @7 !|#vC4: =TE.cmp _11 $1 $2 $3 ~ @15 !|#vD3: =SS.flag _5 $1 _3 $2 rfl @11 !|#vE3: =AS.tup _9 $1 $2 @11 !|#vF1: =SE.str _7 @7 !|#vG1: =sx.of _4 ~ @5|#vI4: =SE.slice _12 $1 $2 $3 @15 !|#vJ2: =S1.ret _8 $1 @9|#vK3: =Rb _12 $1 =sx.of _4 ~ @5 $2 @15|#vM4: =SE.Wo _13 $1 $2 $3 rfl \\x1 rfl \\x1 ~ ~ ~ @21 !|#vN4: =S1.Va _14 $1 $2 $3 @17|#vO2: =S1.ret _8 $1 @9 !|#vP1: =PE.none _4 @4 !|#vQ6: =S1.for _15 $1 $2 $3 $4 $5 rfl \\x1 \\x1 @21|#vR2: =SE.un _9 $1 GU @11 !|#vS3: =SE.glob _8 ~ $1 $2 ~ @12 !|#vU5: =S1.put _14 $1 $2 $3 ~ $4 @19|#vV3: =SE.Kz _8 $1 _1 ~ ~ $2 rfl \\x1 \\x1 @14 !|#vW5: =S1.Wm _12 $1 $2 $3 $4 @16|#vX6: =S1.Wn _11 $1 _1 $2 $3 $4 $5 @17|#vY1: =LE.consts _6 ~ @7 !|#vZ6: =S1.setC _14 $1 _5 =pW.of _3 ~ @4 $2 $3 rfl \\x1 \\x1 =iC _2 ~ @3 $4 $5 @27|#vaa1: =SE.bool _7 @7 !|#vab4: =S1.Wz _11 $1 =iC _2 ~ @3 $2 ~ $3 @16|#vac5: =SS.freeze _5 $1 _1 $2 _2 $3 $4 @12|#vad4: =SE.cmp _11 $1 $2 $3 ~ @15 !|#vae4: =S1.Va _14 $1 $2 $3 @17 !|#vaf3: =IE.zip _10 ~ $1 $2 rfl \\x1 rfl \\x1 ~ @16 !|#vag3: =pS.or _8 $1 $2 @10 !|#vah2: =TE.val _6 $1 rfl \\x1 \\x1 @8 !|#vai3: =S1.append _13 $1 =gM _2 #1 ~ =jX _1 ~ @2 @5 rfl \\x1 ~ ~ $2 @19 !|#vaj3: =Li _5 $1 $2 % @8|#vak5: =OE.call _12 ~ $1 $2 $3 $4 rfl \\x1 rfl \\x1 ~ @20 !|#val4: =SE.Va _11 $1 $2 $3 @14 !|#vam2: =TE.bool _8 $1 @9 !".splitOn "|").find? y.isPrefixOf|Macro.throwUnsupported
  let Q←`((by kernel_rfl) (y,x) (y::x) (y[x]?) (fun w=>x) (if z then y else x) (by exact x) (by decide+kernel) (false||false) .w @w ((y).w x) _)
  let T:=#[Q.raw[0]]++Q.raw[1].getArgs
  let st:=(((e.splitOn ": ").getD 1 "").splitOn " ").foldl (init:=(#[]:Array Syntax)) fun st t=>
   let l:=t.toList
   let c:=l.headD ' '
   let r:=String.ofList (l.drop 1)
   let i:="~,+?\\^!%*.=&_".toList.idxOf c
   let n:=st.size
   if i<13 then
    let m:="0222131000020".toList.getD i '0'|>.toNat
    let m:=m-48
    let q:=(T.getD i k).rewriteBottomUp fun s=>if s.isIdent then (match s.getId.eraseMacroScopes with|`x=>st.getD (n-1) k|`y=>st.getD (n-2) k|`z=>st.getD (n-3) k|`w=>mkIdent r.toName|_=>s) else s
    st.extract 0 (n-m)++Array.replicate (if c=='_' then r.toNat! else 1) q
   else if c=='$' then st.push (xs.getD r.toNat! k)
   else if c=='#' then st.push (Syntax.mkNumLit r)
   else if c=='@' then
    let m:=n-r.toNat!
    (st.extract 0 (m-1)).push (Syntax.mkApp ⟨st.getD (m-1) k⟩ (st.extract m n|>.map (⟨·⟩)))
   else st.push (mkIdent t.toName)
  `(($(⟨st.getD 0 k⟩)))
local macro_rules
 | `(#[$ks,*])=>do
  let xs:=ks.getElems
  let k:=xs.getD 0 ⟨.missing⟩
  if (k.raw.isIdent&&(" num1 i2 c3 l2 t2 q4 r5 f3 n2 m2 k1 e3 y1 b4 o4 d4 z1 u3 w4 x4 h2 j2 S2 C2 B2 F2 N3 ".splitOn (" "++toString k.raw.getId++toString xs.size++" ")).length==2)||(xs.size==1&&k.raw.isNatLit?.isSome) then `(#v[zz,$ks,*]) else Lean.Macro.throwUnsupported
open PySem PyProof.Rows
section
open PySem PyProof.Rows
section
variable {L:ig}
theorem B6(H:gK L):iM L 2 (.ref tJ) (Ad tJ (Str.ofString "comp_select_list")):=(@O5 _ (0) _ _ _ _ H.cd _ _ _ _ _ _ _ _ H.fn_TupleComp_init #v[G] (by kernel_rfl) (by kernel_rfl) (by kernel_rfl) (by kernel_rfl) (fun env h=>by (first|exact VS env|cases env);(first|exact VS h|cases h);kernel_rfl))
noncomputable def ie:List Str:=[(Str.ofString "self"),(Str.ofString "left"),(Str.ofString "right"),(Str.ofString "index"),(Str.ofString "direction"),(Str.ofString "l"),(Str.ofString "r")]
noncomputable def il:gO:=[((Str.ofString "self"),0),((Str.ofString "left"),1),((Str.ofString "right"),2),((Str.ofString "index"),3),((Str.ofString "direction"),4),((Str.ofString "l"),5),((Str.ofString "r"),6)]
noncomputable def jy:List MV→Option (Fl×List MV):= #[e,5,ik #[1] #[3] gH]
theorem og(H:gK L):S1 L (ic (jD #[S,2] 1)) il ie 0 false #[N,0,#[F,#[N,0,(iB (jD #[S,2] 1))]]] jy:= #v[z,#v[i,#v[a,1],#v[a,3]],#v[g,5],(fun env h=>by (first|exact VS env|cases env);(first|exact VS h|cases h);kernel_rfl)]
noncomputable def jz:List MV→Option (Fl×List MV):= #[e,6,ik #[2] #[3] gH]
theorem oi(H:gK L):S1 L (ic (jD #[S,2] 1)) il ie 0 false #[N,1,#[F,#[N,0,(iB (jD #[S,2] 1))]]] jz:= #v[z,#v[i,#v[a,2],#v[a,3]],#v[g,6],(fun env h=>by (first|exact VS env|cases env);(first|exact VS h|cases h);kernel_rfl)]
noncomputable def jA:List MV→Option (Fl×List MV):= #[x,#[q,#[5],#[6],Fb],(gR #[h,#[f,#[4],pj]] #[k]),#[k]]
theorem oj(H:gK L):S1 L (ic (jD #[S,2] 1)) il ie 0 ((false||false)||false) #[N,2,#[F,#[N,0,(iB (jD #[S,2] 1))]]] jA:= #v[N,#v[C,#v[a,5],#v[a,6],Be],#v[y,#v[O,#v[R,#v[a,4]]],#v[l]],#v[l]]
noncomputable def kL:List MV→Option (Fl×List MV):= #[x,#[q,#[5],#[6],xK],(gR #[h,#[4]] #[k]),#[k]]
theorem oo(H:gK L):S1 L (ic (jD #[S,2] 1)) il ie 0 ((false||false)||false) #[N,3,#[F,#[N,0,(iB (jD #[S,2] 1))]]] kL:= #v[N,#v[C,#v[a,5],#v[a,6],Ea],#v[y,#v[O,#v[a,4]],#v[l]],#v[l]]
noncomputable def jS:List MV→Option (Fl×List MV):=(gR jy (gR jz (gR jA (gR kL #[k]))))
theorem pK(H:gK L):SS L (ic (jD #[S,2] 1)) il ie 0 (false||(false||(((false||false)||false)||(((false||false)||false)||false)))) #[F,#[N,0,(iB (jD #[S,2] 1))]] jS:= #v[v,([hU 0 #[F,#[N,0,(iB (jD #[S,2] 1))]],hU 1 #[F,#[N,0,(iB (jD #[S,2] 1))]],hU 2 #[F,#[N,0,(iB (jD #[S,2] 1))]],hU 3 #[F,#[N,0,(iB (jD #[S,2] 1))]]]),#v[f,(@og _ H),#v[f,(@oi _ H),#v[f,(@oj _ H),#v[f,(@oo _ H),#v[w]]]]]]
noncomputable def jT:List MV→Option (Fl×List MV):=(fun ρ=>(#[f,(fun ρ=>(gQ ρ[0]?).bind (IL tJ (Str.ofString "comp_select_list"))),itemsOf] ρ).bind fun ps=>nj #[m,[3,4]] jS #[k] ρ ps)
theorem pL(H:gK L):S1 L (ic (jD #[S,2] 1)) il ie 0 false #[N,0,(iB (jD #[S,2] 1))] jT:= #v[Q,#v[m,(by exact @SE.attr _ _ _ _ _ _ _ _ H.cd _ _ _ (0) (by kernel_rfl) (by kernel_rfl) (fun _=>rfl))],#v[E,.cons (.cons ia.nil),(.cons (@iC _ _ (by kernel_rfl)) (@gM _ _ (3) (by kernel_rfl) (@jX _ (by kernel_rfl))) (.cons (@iC _ _ (by kernel_rfl)) (@gM _ _ (4) (by kernel_rfl) (@jX _ (by kernel_rfl))) i4.nil))],(fun h=>by (first|exact VS h|cases h)),#v[D,(false||(false||(((false||false)||false)||(((false||false)||false)||false)))),(by exact @pK _ H)],#v[D,false,#v[l]]]
noncomputable def ll:List MV→Option (Fl×List MV):= #[h,#[i,0]]
theorem pM(H:gK L):S1 L (ic (jD #[S,2] 1)) il ie 0 false #[N,1,(iB (jD #[S,2] 1))] ll:= #v[J,#v[c]]
noncomputable def jt:List MV→Option (Fl×List MV):=(gR jT (gR ll #[k]))
theorem qH(H:gK L):SS L (ic (jD #[S,2] 1)) il ie 0 (false||(false||false)) (iB (jD #[S,2] 1)) jt:= #v[v,([hU 0 (iB (jD #[S,2] 1)),hU 1 (iB (jD #[S,2] 1))]),#v[f,(@pL _ H),#v[f,(@pM _ H),#v[w]]]]
noncomputable def ju:List PV→Option PV:=BD 3 4 jt
theorem qI(H:gK L):iM L 1 (.ref (H.ad 1001)) ju:= #v[K,H.fn_TupleComp_compare,(@qH _ H)]
noncomputable def iH:List Str:=[(Str.ofString "target"),(Str.ofString "source"),(Str.ofString "new_callers"),(Str.ofString "func"),(Str.ofString "caller")]
noncomputable def iN:gO:=[((Str.ofString "target"),0),((Str.ofString "source"),1),((Str.ofString "new_callers"),2),((Str.ofString "func"),3),((Str.ofString "caller"),4)]
noncomputable def pk:List MV→Option (Fl×List MV):=(Fu 5 2 (fun _=>some (.zv [] [])))
theorem u7(H:gK L)(hn:L.exc=none):S1 L #[C,4] iN iH 0 true #[N,0,#[B,4]] pk:= #v[ab,(by exact @OE.ja _ _ _ _ _),#v[g,2],(fun env h=>by (first|exact VS env|cases env);(first|exact VS h|cases h);kernel_rfl)]
noncomputable def nB:List MV→Option (Fl×List MV):=(uZ 2 #[3] #[4])
theorem sL(H:gK L)(hn:L.exc=none):S1 L #[C,4] iN iH 0 false #[N,0,#[F,#[N,1,#[B,4]]]] nB:= #v[U,#v[a,4],#v[a,3],#v[g,2],(fun env h=>by (first|exact VS env|cases env);(first|exact VS h|cases h);kernel_rfl)]
noncomputable def pn:List MV→Option (Fl×List MV):=(gR nB #[k])
theorem u9(H:gK L)(hn:L.exc=none):SS L #[C,4] iN iH 0 (false||false) #[F,#[N,1,#[B,4]]] pn:= #v[v,[hU 0 #[F,#[N,1,#[B,4]]]],#v[f,(@sL _ H hn),#v[w]]]
noncomputable def pq:List MV→Option (Fl×List MV):=(fun ρ=>((fun ρ=>(gQ ρ[0]?).bind zX) ρ).bind fun ps=>nj #[m,[3,4]] pn #[k] ρ ps)
theorem vc(H:gK L)(hn:L.exc=none):S1 L #[C,4] iN iH 0 false #[N,1,#[B,4]] pq:= #v[Q,(by exact @IE.items _ _ _ _ hn _ _ _ _ (0) (by kernel_rfl) (by kernel_rfl) (by kernel_rfl)),#v[E,.cons (.cons ia.nil),(.cons (@iC _ _ (by kernel_rfl)) (@gM _ _ (3) (by kernel_rfl) (@jX _ (by kernel_rfl))) (.cons (@iC _ _ (by kernel_rfl)) (@gM _ _ (4) (by kernel_rfl) (@jX _ (by kernel_rfl))) i4.nil))],(fun _=>rfl),#v[D,(false||false),(by exact @u9 _ H hn)],#v[D,false,#v[l]]]
noncomputable def nD:List MV→Option (Fl×List MV):= #[x,(fun ρ=>(HG 2 #[3] ρ).bind mJ),(gR #[x,#[f,#[f,#[c,#[4],#[c,(fun _=>some (.val (.type "tuple"))),#v[]]],Es],mJ],(gR (uZ 2 #[3] #[f,#[c,#[4],#[c,kR 2 #[3],#v[]]],Du]) #[k]),gR (BN 2 #[3] #[4]) #[k]] #[k]),gR (uZ 2 #[3] #[4]) #[k]]
theorem sM(H:gK L)(hn:L.exc=none):S1 L #[C,4] iN iH 0 ((((false||false)||(false||false))||false)||(false||false)) #[N,0,#[F,#[N,2,#[B,4]]]] nD:= #v[N,(by exact @TE.Rd _ _ _ _ _ _ _ _ (2) _ #v[a,3] (by kernel_rfl) (by kernel_rfl)),#v[y,#v[ae,#v[ah,#v[k,H.b_isinstance,.builtin _,Hw.less (aE _),#v[b,#v[a,4],#v[b,#v[S,H.b_tuple,(fun _ _ _ _=>rfl)],#v[e]]]]],#v[y,(by exact @S1.put _ _ _ _ _ _ _ _ _ _ _ _ _ _ (by exact @SE.OP _ _ _ _ hn _ _ _ _ _ _ _ _ _ _ _ _ _ _ _ _ _ _ _ _ (by kernel_rfl) H.b_tuple (by kernel_rfl) H.b_zip ⟨rfl,fun _=>rfl,by decide+kernel,(by kernel_rfl),(by kernel_rfl),(by kernel_rfl),by decide+kernel,rfl,(by kernel_rfl),(by kernel_rfl),(by kernel_rfl)⟩ #v[b,#v[a,4],#v[b,#v[V,2,#v[a,3]],#v[e]]] (fun _=>rfl) (fun _=>rfl) (fun _ _=>rfl) (by kernel_rfl) (by kernel_rfl)) #v[a,3] #v[g,2] (by kernel_rfl) (fun env h=>by (first|exact VS env|cases env);(first|exact VS h|cases h);kernel_rfl)),#v[l]],#v[y,(by exact @S1.KZ _ _ _ _ _ _ _ _ _ _ _ _ _ _ #v[a,4] #v[a,3] #v[g,2] (by kernel_rfl) (fun _ _ _=>rfl)),#v[l]]],#v[l]],#v[y,(by exact @S1.put _ _ _ _ _ _ _ _ _ _ _ _ _ _ #v[a,4] #v[a,3] #v[g,2] (by kernel_rfl) (fun env h=>by (first|exact VS env|cases env);(first|exact VS h|cases h);kernel_rfl)),#v[l]]]
noncomputable def pv:List MV→Option (Fl×List MV):=(gR nD #[k])
theorem vd(H:gK L)(hn:L.exc=none):SS L #[C,4] iN iH 0 (((((false||false)||(false||false))||false)||(false||false))||false) #[F,#[N,2,#[B,4]]] pv:= #v[v,[hU 0 #[F,#[N,2,#[B,4]]]],#v[f,(@sM _ H hn),#v[w]]]
noncomputable def pw:List MV→Option (Fl×List MV):=(fun ρ=>((fun ρ=>(gQ ρ[1]?).bind zX) ρ).bind fun ps=>nj #[m,[3,4]] pv #[k] ρ ps)
theorem vf(H:gK L)(hn:L.exc=none):S1 L #[C,4] iN iH 0 false #[N,2,#[B,4]] pw:= #v[Q,(by exact @IE.items _ _ _ _ hn _ _ _ _ (1) (by kernel_rfl) (by kernel_rfl) (by kernel_rfl)),#v[E,.cons (.cons ia.nil),(.cons (@iC _ _ (by kernel_rfl)) (@gM _ _ (3) (by kernel_rfl) (@jX _ (by kernel_rfl))) (.cons (@iC _ _ (by kernel_rfl)) (@gM _ _ (4) (by kernel_rfl) (@jX _ (by kernel_rfl))) i4.nil))],(fun _=>rfl),#v[D,(((((false||false)||(false||false))||false)||(false||false))||false),(by exact @vd _ H hn)],#v[D,false,#v[l]]]
noncomputable def px:List MV→Option (Fl×List MV):= #[h,#[2]]
theorem vg(H:gK L)(hn:L.exc=none):S1 L #[C,4] iN iH 0 false #[N,3,#[B,4]] px:= #v[J,#v[a,2]]
noncomputable def qW:List MV→Option (Fl×List MV):=(gR pk (gR pq (gR pw (nt 2 (gR px #[k])))))
theorem yh(H:gK L)(hn:L.exc=none):SS L #[C,4] iN iH 0 (true||(false||(false||true))) #[B,4] qW:= #v[v,([hU 0 #[B,4],hU 1 #[B,4],hU 2 #[B,4],hU 3 #[B,4]]),#v[f,(@u7 _ H hn),#v[f,(@vc _ H hn),#v[f,(@vf _ H hn),#v[ac,(false||false),(Str.ofString "new_callers"),#v[f,(@vg _ H hn),#v[w]],#v[g,2]]]]]]
noncomputable def qX:List PV→Option PV:=BD 2 3 qW
theorem yi(H:gK L)(hn:L.exc=none):iM L 1 (.ref (H.ad 4)) qX:= #v[K,H.fn_add_callers,(@yh _ H hn)]
noncomputable def jG:List Str:=[(Str.ofString "target"),(Str.ofString "source"),(Str.ofString "cc"),(Str.ofString "nc"),(Str.ofString "tt"),(Str.ofString "ct"),(Str.ofString "callers"),(Str.ofString "t_cc"),(Str.ofString "t_nc"),(Str.ofString "t_tt"),(Str.ofString "t_ct"),(Str.ofString "t_callers")]
noncomputable def jY:gO:=[((Str.ofString "target"),0),((Str.ofString "source"),1),((Str.ofString "cc"),2),((Str.ofString "nc"),3),((Str.ofString "tt"),4),((Str.ofString "ct"),5),((Str.ofString "callers"),6),((Str.ofString "t_cc"),7),((Str.ofString "t_nc"),8),((Str.ofString "t_tt"),9),((Str.ofString "t_ct"),10),((Str.ofString "t_callers"),11)]
noncomputable def mS:List MV→Option (Fl×List MV):=(fun ρ=>(#[1] ρ).bind fun v=>(#[m,[2,3,4,5,6]] v ρ).map fun ρ'=>(.next,ρ'))
theorem rL(H:gK L)(hn:L.exc=none):S1 L #[C,3] jY jG 1 false #[N,0,#[B,3]] mS:= #v[W,#v[a,1],#v[E,.cons (.cons (.cons (.cons (.cons ia.nil)))),(.cons (@iC _ _ (by kernel_rfl)) (@gM _ _ (2) (by kernel_rfl) (@jX _ (by kernel_rfl))) (.cons (@iC _ _ (by kernel_rfl)) (@gM _ _ (3) (by kernel_rfl) (@jX _ (by kernel_rfl))) (.cons (@iC _ _ (by kernel_rfl)) (@gM _ _ (4) (by kernel_rfl) (@jX _ (by kernel_rfl))) (.cons (@iC _ _ (by kernel_rfl)) (@gM _ _ (5) (by kernel_rfl) (@jX _ (by kernel_rfl))) (.cons (@iC _ _ (by kernel_rfl)) (@gM _ _ (6) (by kernel_rfl) (@jX _ (by kernel_rfl))) i4.nil)))))],(fun env h=>by (first|exact VS env|cases env);(first|exact VS h|cases h);kernel_rfl),(fun env h=>by (first|exact VS env|cases env);(first|exact VS h|cases h);kernel_rfl)]
noncomputable def mU:List MV→Option (Fl×List MV):=(fun ρ=>(#[0] ρ).bind fun v=>(#[m,[7,8,9,10,11]] v ρ).map fun ρ'=>(.next,ρ'))
theorem rM(H:gK L)(hn:L.exc=none):S1 L #[C,3] jY jG 1 false #[N,1,#[B,3]] mU:= #v[W,#v[a,0],#v[E,.cons (.cons (.cons (.cons (.cons ia.nil)))),(.cons (@iC _ _ (by kernel_rfl)) (@gM _ _ (7) (by kernel_rfl) (@jX _ (by kernel_rfl))) (.cons (@iC _ _ (by kernel_rfl)) (@gM _ _ (8) (by kernel_rfl) (@jX _ (by kernel_rfl))) (.cons (@iC _ _ (by kernel_rfl)) (@gM _ _ (9) (by kernel_rfl) (@jX _ (by kernel_rfl))) (.cons (@iC _ _ (by kernel_rfl)) (@gM _ _ (10) (by kernel_rfl) (@jX _ (by kernel_rfl))) (.cons (@iC _ _ (by kernel_rfl)) (@gM _ _ (11) (by kernel_rfl) (@jX _ (by kernel_rfl))) i4.nil)))))],(fun env h=>by (first|exact VS env|cases env);(first|exact VS h|cases h);kernel_rfl),(fun env h=>by (first|exact VS env|cases env);(first|exact VS h|cases h);kernel_rfl)]
noncomputable def mV:List MV→Option (Fl×List MV):= #[h,#[t,#[c,ik #[2] #[7] gY,#[c,#[b,#[3],#[8],gY],#[c,#[b,#[4],#[9],gY],#[c,#[b,#[5],#[10],gY],#[c,#[f,#[c,#[11],#[c,#[6],#v[]]],qX],#v[]]]]]]]]
theorem rN(H:gK L)(hn:L.exc=none):S1 L #[C,3] jY jG 1 false #[N,2,#[B,3]] mV:= #v[J,#v[x,#v[b,#v[d,#v[a,2],#v[a,7],gU],#v[b,#v[d,#v[a,3],#v[a,8],gU],#v[b,#v[d,#v[a,4],#v[a,9],gU],#v[b,#v[d,#v[a,5],#v[a,10],gU],#v[b,#v[k,H.g_add_callers,(H.fn_add_callers).callee,((yi H hn).less (by decide)),#v[b,#v[a,11],#v[b,#v[a,6],#v[e]]]],#v[e]]]]]]]]
noncomputable def oq:List MV→Option (Fl×List MV):=(gR mS (gR mU (gR mV #[k])))
theorem tK(H:gK L)(hn:L.exc=none):SS L #[C,3] jY jG 1 (false||(false||(false||false))) #[B,3] oq:= #v[v,([hU 0 #[B,3],hU 1 #[B,3],hU 2 #[B,3]]),#v[f,(@rL _ H hn),#v[f,(@rM _ H hn),#v[f,(@rN _ H hn),#v[w]]]]]
noncomputable def hG:List PV→Option PV:=BD 2 10 oq
theorem je(H:gK L)(hn:L.exc=none):iM L 2 (.ref (H.ad 3)) hG:= #v[K,H.fn_add_func_stats,(@tK _ H hn)]
end
end
section
open PySem PyProof.Rows
section
variable {L:ig}
noncomputable def iU:List Str:=[(Str.ofString "flags"),(Str.ofString "names"),(Str.ofString "i"),(Str.ofString "flag")]
noncomputable def i8:gO:=[((Str.ofString "flags"),0),((Str.ofString "names"),1),((Str.ofString "i"),2),((Str.ofString "flag"),3)]
noncomputable def ot:List MV→Option (Fl×List MV):=(Fu 4 1 (fun _=>some (.ol [])))
theorem tL(H:gK L):S1 L #[C,7] i8 iU 0 true #[N,0,#[B,7]] ot:= #v[ab,(by exact @OE.nil _ _ _ _ _),#v[g,1],(fun env h=>by (first|exact VS env|cases env);(first|exact VS h|cases h);kernel_rfl)]
noncomputable def kC:List MV→Option (Fl×List MV):= #[e,3,#[b,#[i,1],#[2],vW]]
theorem rO(H:gK L):S1 L #[C,7] i8 iU 0 false #[N,0,#[F,#[N,1,#[B,7]]]] kC:= #v[z,#v[d,#v[c],#v[a,2],NU],#v[g,3],(fun env h=>by (first|exact VS env|cases env);(first|exact VS h|cases h);kernel_rfl)]
noncomputable def jh:List MV→Option (Fl×List MV):= #[x,#[r,#[0],#[3],ux,mJ],(gR (qv 1 (fun ρ=>((fun _=>some zg) ρ).bind fun p=>(#[c,#[3],#[c,#[f,#[c,#[3],#v[]],Bx],#v[]]] ρ).bind fun ps=>Dj p ps)) (gR (fun ρ=>(gQ ρ[0]?).bind fun a=>(#[3] ρ).bind fun b=>(ME a b).map fun v=>(.next,ρ.set 0 (.p v))) (gR #[x,(fun ρ=>(#[f,#[0],mJ] ρ).map not),(gR (fun ρ=>some (.brk,ρ)) #[k]),#[k]] #[k]))),#[k]]
theorem rP(H:gK L):S1 L #[C,7] i8 iU 0 ((false||(false||(((false||false)||false)||false)))||false) #[N,1,#[F,#[N,1,#[B,7]]]] jh:= #v[N,#v[ah,#v[d,#v[a,0],#v[a,3],zA]],#v[y,#v[ai,#v[M,#v[S,H.g_flags,H.v_flags],#v[b,#v[a,3],#v[b,#v[k,H.b_hex,.builtin _,Hs.less (aE _),#v[b,#v[a,3],#v[e]]],#v[e]]],OG],(fun env=>by kernel_rfl)],#v[y,(by exact @S1.aug _ _ _ _ _ _ _ _ _ _ _ _ _ #v[a,3] KR #v[j] #v[g,0]),#v[y,#v[ae,(by exact @TE.not _ _ _ _ _ _ _ #v[ah,#v[a,0]]),#v[y,(by exact @S1.brk _ _ _ _ _ _),#v[l]],#v[l]],#v[l]]]],#v[l]]
noncomputable def lz:List MV→Option (Fl×List MV):=(gR kC (gR jh #[k]))
theorem tM(H:gK L):SS L #[C,7] i8 iU 0 (false||(((false||(false||(((false||false)||false)||false)))||false)||false)) #[F,#[N,1,#[B,7]]] lz:= #v[v,([hU 0 #[F,#[N,1,#[B,7]]],hU 1 #[F,#[N,1,#[B,7]]]]),#v[f,(@rO _ H),#v[f,(@rP _ H),#v[w]]]]
noncomputable def ou:List MV→Option (Fl×List MV):=(fun ρ=>(#[f,#[f,#[c,#[i,32],#v[]],jW],itemsOf] ρ).bind fun ps=>nj #[n,2] lz (gR (qv 1 #[f,#[c,#[0],#v[]],Bx]) #[k]) ρ ps)
theorem tN(H:gK L):S1 L #[C,7] i8 iU 0 false #[N,1,#[B,7]] ou:= #v[Q,#v[m,#v[k,H.b_range,.type _,jx.less (aE _),#v[b,#v[c],#v[e]]]],#v[q,#v[g,2]],(fun h=>by (first|exact VS h|cases h)),#v[D,(false||(((false||(false||(((false||false)||false)||false)))||false)||false)),(by exact @tM _ H)],#v[D,(false||false),#v[y,#v[ai,#v[k,H.b_hex,.builtin _,Hs.less (aE _),#v[b,#v[a,0],#v[e]]],(fun env=>by kernel_rfl)],#v[l]]]]
noncomputable def oy:List MV→Option (Fl×List MV):= #[h,(fun ρ=>((fun _=>some (.str (Str.ofString ", "))) ρ).bind fun p=>(#[c,#[1],#v[]] ρ).bind fun ps=>tB p ps)]
theorem tO(H:gK L):S1 L #[C,7] i8 iU 0 false #[N,2,#[B,7]] oy:= #v[J,#v[M,#v[F],#v[b,#v[a,1],#v[e]],Ew]]
noncomputable def mW:List MV→Option (Fl×List MV):=(gR ot (gR ou (nt 1 (gR oy #[k]))))
theorem w0(H:gK L):SS L #[C,7] i8 iU 0 (true||(false||true)) #[B,7] mW:= #v[v,([hU 0 #[B,7],hU 1 #[B,7],hU 2 #[B,7]]),#v[f,(@tL _ H),#v[f,(@tN _ H),#v[ac,(false||false),(Str.ofString "names"),#v[f,(@tO _ H),#v[w]],#v[g,1]]]]]
noncomputable def ji:List PV→Option PV:=BD 1 3 mW
theorem mY(H:gK L):iM L 1 (.ref (H.ad 7)) ji:= #v[K,H.fn_pretty_flags,(@w0 _ H)]
noncomputable def sN:List Str:=[(Str.ofString "iterator"),(Str.ofString "b"),(Str.ofString "val")]
noncomputable def tP:gO:=[((Str.ofString "iterator"),0),((Str.ofString "b"),1),((Str.ofString "val"),2)]
noncomputable def g0:List MV→Option (Option Fl×List MV):=(qc (y4 0 1) (qc (fun ρ=>(#[e,2,#[b,#[1],#[i,63],ux]] ρ).map fun r=>(some r.1,r.2)) (qc (mq #[r,#[1],#[i,64],ux,mJ] (qc (fun ρ=>((fun ρ=>(gQ ρ[2]?).bind fun a=>(#[i,6] ρ).bind fun b=>(vW a b).map fun v=>(.next,ρ.set 2 (.p v))) ρ).map fun r=>(some r.1,r.2)) (qc (y4 0 1) (qc (fun ρ=>((fun ρ=>(gQ ρ[2]?).bind fun a=>(#[b,#[1],#[i,63],ux] ρ).bind fun b=>(NT a b).map fun v=>(.next,ρ.set 2 (.p v))) ρ).map fun r=>(some r.1,r.2)) (fun ρ=>some (some .next,ρ))))) 40) (qc (fun ρ=>(#[h,#[2]] ρ).map fun r=>(some r.1,r.2)) (fun ρ=>some (some .next,ρ))))))
theorem pz(H:gK L)(hn:L.exc=none):K5 L (H.ad 8) (H.fd 8) #[C,8] (Str.ofString "iterator") sN tP #[B,8] 0 2 g0:=⟨H.fn__parse_varint,sx.of (by kernel_rfl),by decide+kernel,(by kernel_rfl),(by exact SX.cons (by exact Ez.next (i:=0) (j:=1) (by kernel_rfl) H.b_next (gM (i:=0) (by kernel_rfl) (jX (by kernel_rfl))) (iC (by kernel_rfl)) (gM (i:=1) (by kernel_rfl) (jX (by kernel_rfl))) (by kernel_rfl) (by kernel_rfl) (fun env h=>by (first|exact VS env|cases env);(first|exact VS h|cases h);kernel_rfl)) (by exact SX.cons (by exact Ez.of (by exact(show S1 L _ _ _ _ false _ _ from(by exact S1.set (by exact SE.binop (by exact SE.var (i:=1) (by kernel_rfl) (by kernel_rfl)) (by exact SE.int) zA) (iC (by kernel_rfl)) (gM (i:=2) (by kernel_rfl) (jX (by kernel_rfl))) (fun env h=>by (first|exact VS env|cases env);(first|exact VS h|cases h);kernel_rfl))))) (by exact SX.cons (by exact Ez.while 40 (by exact TE.val (by exact SE.binop (by exact SE.var (i:=1) (by kernel_rfl) (by kernel_rfl)) (by exact SE.int) zA) (fun _ _=>rfl)) (by exact SX.cons (by exact Ez.of (by exact(show S1 L _ _ _ _ false _ _ from(by exact S1.aug (by exact SE.int) Lm (iC (by kernel_rfl)) (gM (i:=2) (by kernel_rfl) (jX (by kernel_rfl))))))) (by exact SX.cons (by exact Ez.next (i:=0) (j:=1) (by kernel_rfl) H.b_next (gM (i:=0) (by kernel_rfl) (jX (by kernel_rfl))) (iC (by kernel_rfl)) (gM (i:=1) (by kernel_rfl) (jX (by kernel_rfl))) (by kernel_rfl) (by kernel_rfl) (fun env h=>by (first|exact VS env|cases env);(first|exact VS h|cases h);kernel_rfl)) (by exact SX.cons (by exact Ez.of (by exact(show S1 L _ _ _ _ false _ _ from(by exact S1.aug (by exact SE.binop (by exact SE.var (i:=1) (by kernel_rfl) (by kernel_rfl)) (by exact SE.int) zA) OM (iC (by kernel_rfl)) (gM (i:=2) (by kernel_rfl) (jX (by kernel_rfl))))))) (by exact SX.nil))))) (by exact SX.cons (by exact Ez.of (by exact(show S1 L _ _ _ _ false _ _ from(by exact S1.ret (by exact SE.var (i:=2) (by kernel_rfl) (by kernel_rfl)))))) (by exact SX.nil)))))⟩
noncomputable def qY:List Str:=[(Str.ofString "data")]
noncomputable def sO:gO:=[((Str.ofString "data"),0)]
noncomputable def nO:List MV→Option (Fl×List MV):= #[h,(fun ρ=>((fun _=>some (.val (.ref Ln))) ρ).bind fun p=>(#[c,(fun _=>some (.str (Str.ofString ".."))),#[c,(fun ρ=>((fun _=>some (.val (.ref FV))) ρ).bind fun p=>(#[c,(fun _=>some (.str (Str.ofString "\r\n"))),#[c,#[0],#v[]]] ρ).bind fun ps=>BZ FV (B0 [13,10] (iZ false)) p ps),#v[]]] ρ).bind fun ps=>BZ Ln (B0 [46,46] (jM true)) p ps)]
theorem yj(H:gK L):S1 L #[C,14] sO qY 0 false #[N,0,#[B,14]] nO:= #v[J,#v[M,#v[S,H.g_tw1,(fun _ _ _ _=>rfl)],#v[b,#v[F],#v[b,#v[M,#v[S,H.g_tw3,(fun _ _ _ _=>rfl)],#v[b,#v[S,H.g_CRLF,H.v_CRLF],#v[b,#v[a,0],#v[e]]],#v[aj,IH,H.p_tw3]],#v[e]]],#v[aj,IG,H.p_tw1]]]
noncomputable def uF:List MV→Option (Fl×List MV):=(gR nO #[k])
theorem B7(H:gK L):SS L #[C,14] sO qY 0 (false||false) #[B,14] uF:= #v[v,[hU 0 #[B,14]],#v[f,(@yj _ H),#v[w]]]
noncomputable def qh:List PV→Option PV:=BD 1 0 uF
theorem B8(H:gK L):iM L 1 (.ref (H.ad 14)) qh:= #v[K,H.fn_quotedata,(@B7 _ H)]
noncomputable def mZ:List Str:=[(Str.ofString "bindata")]
noncomputable def nE:gO:=[((Str.ofString "bindata"),0)]
noncomputable def kD:List MV→Option (Fl×List MV):= #[h,(fun ρ=>((fun _=>some (.val (.ref Lo))) ρ).bind fun p=>(#[c,(fun _=>some (.bytes ([46,46]:List UInt8).toArray)),#[c,#[0],#v[]]] ρ).bind fun ps=>BZ Lo (subB [46,46] (jM true)) p ps)]
theorem rQ(H:gK L):S1 L #[C,15] nE mZ 0 false #[N,0,#[B,15]] kD:= #v[J,#v[M,#v[S,H.g_tw2,(fun _ _ _ _=>rfl)],#v[b,(by exact @SE.Pg _ _ _ _ _ _ _),#v[b,#v[a,0],#v[e]]],(@Lj _ _ _ _ _ IG H.p_tw2 (by decide+kernel))]]
noncomputable def oz:List MV→Option (Fl×List MV):=(gR kD #[k])
theorem tQ(H:gK L):SS L #[C,15] nE mZ 0 (false||false) #[B,15] oz:= #v[v,[hU 0 #[B,15]],#v[f,(@rQ _ H),#v[w]]]
noncomputable def lA:List PV→Option PV:=BD 1 0 oz
theorem tR(H:gK L):iM L 1 (.ref (H.ad 15)) lA:= #v[K,H.fn__quote_periods,(@tQ _ H)]
noncomputable def qZ:List Str:=[(Str.ofString "data")]
noncomputable def sP:gO:=[((Str.ofString "data"),0)]
noncomputable def nP:List MV→Option (Fl×List MV):= #[h,(fun ρ=>((fun _=>some (.val (.ref FV))) ρ).bind fun p=>(#[c,(fun _=>some (.str (Str.ofString "\r\n"))),#[c,#[0],#v[]]] ρ).bind fun ps=>BZ FV (B0 [13,10] (iZ false)) p ps)]
theorem yk(H:gK L):S1 L #[C,16] sP qZ 0 false #[N,0,#[B,16]] nP:= #v[J,#v[M,#v[S,H.g_tw3,(fun _ _ _ _=>rfl)],#v[b,#v[S,H.g_CRLF,H.v_CRLF],#v[b,#v[a,0],#v[e]]],#v[aj,IH,H.p_tw3]]]
noncomputable def uG:List MV→Option (Fl×List MV):=(gR nP #[k])
theorem B9(H:gK L):SS L #[C,16] sP qZ 0 (false||false) #[B,16] uG:= #v[v,[hU 0 #[B,16]],#v[f,(@yk _ H),#v[w]]]
noncomputable def qi:List PV→Option PV:=BD 1 0 uG
theorem Ca(H:gK L):iM L 1 (.ref (H.ad 16)) qi:= #v[K,H.fn__fix_eols,(@B9 _ H)]
end
end
section
open PySem PyProof.Rows
theorem DI(q:PV):gQ (some (.p q))=some q:=rfl
theorem Ls(g:Int→Int→Option PV)(a b:Int):lZ g (.int a) (.int b)=g a b:=rfl
theorem An:(∀a b,iD (.int a) (.int b)=if small a||small b then some (.int (a*b)) else none)∧(∀a n,iD (.str a) (.int n)=if decide (-1000≤n)&&decide (n≤1000)&&decide (a.length≤1000)&&decide ((rx a n).length≤100000) then some (.str (rx a n)) else none)∧ ∀a n,iD (.list a) (.int n)=if decide (-1000≤n)&&decide (n≤1000)&&decide (a.length≤1000) then some (.list (List.replicate n.toNat a).flatten) else none:=⟨fun _ _=>rfl,fun _ _=>rfl,fun _ _=>rfl⟩
theorem DJ(a:Addr)(g:List PV→Option PV)(b:Addr)(ps:List PV):BZ a g (.val (.ref b)) ps=if b=a then g ps else none:=rfl
theorem FX(l:List PV):qt [.list l]=(kz l).bind fun ns=>if ns.all (fun n=>decide (0≤n)&&decide (n<256))&&pI l then some (.bytes (byteArr ns)) else none:=rfl
theorem EF(n:Nat)(a b:Int):yI n (.int a) (.int b)=some (a==b):=by cases n<;>rfl
theorem Lu(n:Nat)(a b:Str):zF n (.str a) (.str b)=some (a==b):=by cases n<;>rfl
theorem MV.Em(q:PV):MV.mm (.p q)= .p q:=rfl
end
section
open PySem PySem.StrLaws PySem.Builtin PySem.Builtin.Str
noncomputable def lg(sep:List Nat):List (List Nat)→List Nat
 |[]=>[]
 |[w]=>w
 |w::v::ws=>w++sep++lg sep (v::ws)
noncomputable def nF(s sub:Str)(hi limit:Nat)(st:Array Nat×Nat)(i:Nat):Array Nat×Nat:=if ((st.1.size<limit∧st.2≤i)∧i+sub.length≤hi)∧subAt s sub i=true then(st.1.push i,i+sub.length) else(st.1,st.2)
theorem Lv(s sub:Str)(hi limit:Nat): ∀(l:List Nat) (st:Array Nat×Nat),(forIn l st (occBody s sub hi limit)).run=l.foldl (nF s sub hi limit) st:=by
 intro l
 induction l with
 |nil=>exact @fun _=>rfl
 |cons a l iu=>
  intro st
  rw[dS,aX]
  unfold occBody nF
  split
  ·exact iu _
  ·exact iu _
noncomputable def w3:Nat→List (List Nat)→List Nat
 |a,w::v::ws=>(a+w.length)::w3 (a+w.length+2) (v::ws)
 |_,_=>[]
theorem mM(s:Str)(i j:Nat):(s.cps.extract i j).toList=(s.cps.toList.drop i).take (j-i):=by
 rw[Array.toList_extract]
theorem FY(x:Str)(c d i:Nat):subAt x ⟨#[c,d]⟩ i=true↔(x.cps.toList.drop i).take 2=[c,d]:=by
 unfold subAt
 rw[beq_iff_eq]
 constructor
 ·intro h
  have:=congrArg Array.toList h
  rw[mM] at this
  simpa[Str.length] using this
 ·intro h
  apply Array.toList_inj.mp
  rw[mM]
  simpa[Str.length] using h
theorem w4{x:Str}{c d i:Nat}{l:List Nat}(h:x.cps.toList.drop i=l):subAt x ⟨#[c,d]⟩ i=true↔l.take 2=[c,d]:=h▸FY x c d i
section
variable {x:Str} {c d limit i k:Nat} {l:List Nat} {f:Array Nat}
theorem IU(h:x.cps.toList.drop i=l)(hc:l.head?≠some c):nF x ⟨#[c,d]⟩ x.length limit (f,k) i=(f,k):=
 if_neg fun n=>hc (by
  have:=(w4 h).mp n.2
  cases l with
  |nil=>(first|exact VS this|cases this)
  |cons a l=>exact congrArg some (List.cons.inj this).1)
theorem IV(h:i<k):nF x ⟨#[c,d]⟩ x.length limit (f,k) i=(f,k):=if_neg fun n=>Nat.not_le.mpr h n.1.1.2
theorem Cb(h:x.cps.toList.drop i=l):l.length=x.length-i:=h▸c7
theorem FZ(h:x.cps.toList.drop i=c::d::l)(hk:k≤i)(hl:f.size<limit):nF x ⟨#[c,d]⟩ x.length limit (f,k) i=(f.push i,i+2):=
 if_pos ⟨⟨⟨hl,hk⟩,by
  have:=Cb h
  show i+2≤x.length
  rw[bj,bj] at this
  omega⟩,(w4 h).mpr rfl⟩
theorem oA{a i:Nat}{m l:List Nat}(h:m.drop i=a::l):m.drop (i+1)=l:=by rw[←List.tail_drop,h];rfl
theorem Cc{k:Nat}: ∀(w:List Nat) (i:Nat),x.cps.toList.drop i=w++l→c∉w→ ∀n,(bW i (w.length+n)).foldl (nF x ⟨#[c,d]⟩ x.length limit) (f,k)=(bW (i+w.length) n).foldl (nF x ⟨#[c,d]⟩ x.length limit) (f,k):=by
 intro w
 induction w with
 |nil=>exact @fun i _ _ n=>by rw[gn,de];rfl
 |cons a w iu=>
  intro i h hc n
  rw[bj,d8,dK,aX,IU h fun e=>hc (Option.some.inj e▸aA ..),iu (i+1) (oA h) (fun e=>hc (av _ e)),d8 i 1]
  rfl
end
theorem w5{m w l:List Nat}{i:Nat}(h:m.drop i=w++l):m.drop (i+w.length)=l:=by rw[←List.drop_drop,h,List.drop_left]
theorem Lw{x:Str}{c d limit:Nat}: ∀(ws:List (List Nat)) (i:Nat) (f:Array Nat),x.cps.toList.drop i=lg [c,d] ws→ws≠[]→(∀w∈ws,c∉w)→f.size+ws.length≤limit→
  ((bW i ((lg [c,d] ws).length+1)).foldl (nF x ⟨#[c,d]⟩ x.length limit) (f,i)).1.toList=f.toList++w3 i ws:=by
 intro ws
 induction ws with
 |nil=>
  intro _ _ _ h _ _
  exact absurd rfl h
 |cons w ws ih=>
  cases ws with
  |nil=>
   intro i f hx _ hc _
   have J3:x.cps.toList.drop i=w++[]:=hx.trans (bN w).symm
   have e:=(Cc (limit:=limit) (f:=f) (k:=i) w i J3 (hc w (bJ _)) 1).trans (IU (d:=d) (w5 J3) nofun)
   exact(congrArg (fun p=>p.1.toList) e).trans (bN _).symm
  |cons v ws=>
   intro i f hx _ hc XH
   have J3:x.cps.toList.drop i=w++(c::d::lg [c,d] (v::ws)):=hx.trans (b9 ..)
   have h1:=w5 J3
   have hn:(lg [c,d] (w::v::ws)).length+1=w.length+((lg [c,d] (v::ws)).length+1+1+1):=by
    show(w++[c,d]++_).length+1=_
    rw[b9,aK]
    rfl
   rw[bj,bj] at XH
   rw[hn,Cc w i J3 (hc w (aA ..)),dK,dK,aX,aX]
   have e:=ih (i+w.length+2) (f.push (i+w.length)) (oA (oA h1)) nofun (fun u hu=>hc u (av _ hu)) (by rw[Array.size_push,bj];omega)
   rw[FZ h1 (df _ _) (by omega),IV (dM _)]
   rw[dy,b9] at e
   exact e
theorem F0{x:Str}{c d:Nat}: ∀(ws:List (List Nat)) (i:Nat),x.cps.toList.drop i=lg [c,d] ws→ws≠[]→partsFrom x 2 i (w3 i ws)=ws.map fun w=>⟨w.toArray⟩:=by
 intro ws
 induction ws with
 |nil=>
  intro _ _ h
  exact absurd rfl h
 |cons w ws ih=>
  cases ws with
  |nil=>
   intro i hx _
   exact congrArg (fun p=>[(⟨p⟩:Str)]) (Array.toList_inj.mp (by
    rw[mM,hx]
    exact cg (ba (Cb hx))))
  |cons v ws=>
   intro i hx _
   have J3:x.cps.toList.drop i=w++(c::d::lg [c,d] (v::ws)):=hx.trans (b9 ..)
   show strSub x i (i+w.length)::partsFrom x 2 (i+w.length+2) (w3 (i+w.length+2) (v::ws))=_
   rw[ih (i+w.length+2) (oA (oA (w5 J3))) nofun,aU]
   exact congrArg (· ::_) (congrArg Str.mk (Array.toList_inj.mp (by rw[mM,J3,Nat.add_sub_cancel_left,List.take_left])))
theorem Cd{c d:Nat}(hc:c<256)(hd:d<256)(x:Str): ¬ aC.Str.strKind x<aC.Str.strKind ⟨#[c,d]⟩:=by
 have:aC.Str.strKind ⟨#[c,d]⟩=1:=by
  unfold aC.Str.strKind
  rw[if_pos]
  simp[hc,hd]
 rw[this]
 unfold aC.Str.strKind
 repeat' split
 all_goals omega
theorem Lx(c:Nat)(sep:List Nat): ∀ws:List (List Nat),ws.length≤(lg (c::sep) ws).length+1:=by
 intro ws
 induction ws with
 |nil=>
  exact aE _
 |cons w ws ih=>
  cases ws with
  |nil=>
   exact gr _ _
  |cons v ws=>
   have ih:=ih
   show(v::ws).length+1≤(w++c::sep++lg (c::sep) (v::ws)).length+1
   rw[b9,aK,aK (as:=c::sep),bj]
   rw[bj] at ih ⊢
   omega
theorem Ly{x:Str}{c d:Nat}(hc:c<256)(hd:d<256){ws:List (List Nat)}(hx:x.cps.toList=lg [c,d] ws)(js:ws≠[])(hw: ∀w∈ws,c∉w)(ib:ws.length≤x.length+1):Txt.split x ⟨#[c,d]⟩=ws.map fun w=>⟨w.toArray⟩:=by
 have ho:occurrences x ⟨#[c,d]⟩ 0 x.length (x.length+1)=w3 0 ws:=by
  have e:=Lw (limit:=x.length+1) ws 0 #[] hx js hw (Nat.le_trans (ba (de _)) ib)
  rw[←hx,aS] at e
  rw[occ_eq,Lv]
  exact e
 have hp:=F0 ws 0 hx js
 unfold Txt.split
 rw[ho]
 match ws,js with
 |[w],_=>
  have e:=(congrArg (fun x=>[x]) (sub_whole x).symm).trans hp
  split
  ·exact e
  ·exact e
 |w::v::ws,_=>
  rw[if_neg,if_neg nofun,partsBetween_eq]
  ·exact hp
  ·rw[Bool.or_eq_true,decide_eq_true_eq,decide_eq_true_eq]
   refine fun h=>h.elim (fun h=> ?_) (Cd hc hd _)
   have e:x.length=(w++[c,d]++lg [c,d] (v::ws)).length:=Array.length_toList.symm.trans (congrArg List.length hx)
   rw[e,aK,aK] at h
   exact Nat.not_lt.mpr (Nat.le_trans (gr 2 _) (df _ _)) h
theorem F1{c d:Nat}(hc:c<256)(hd:d<256){ws:List (List Nat)}(js:ws≠[])(hw: ∀w∈ws,c∉w):Txt.split ⟨(lg [c,d] ws).toArray⟩ ⟨#[c,d]⟩=ws.map fun w=>⟨w.toArray⟩:=
 Ly hc hd rfl js hw (Lx _ _ ws)
theorem IW(sep:Str): ∀ws:List (List Nat),Txt.join sep (ws.map fun w=>⟨w.toArray⟩)=⟨(lg sep.cps.toList ws).toArray⟩:=by
 intro ws
 induction ws with
 |nil=>exact rfl
 |cons w ws iu=>
  unfold Txt.join glued
  congr 1
  show(ws.map fun w=>(⟨w.toArray⟩:Str)).foldl (fun acc p=>acc++sep.cps++p.cps) w.toArray=_
  have key: ∀(ws:List (List Nat)) (w:List Nat),(ws.map fun w=>(⟨w.toArray⟩:Str)).foldl (fun acc p=>acc++sep.cps++p.cps) w.toArray=(lg sep.cps.toList (w::ws)).toArray:=by
   intro ws
   induction ws with
   |nil=>intro w;rfl
   |cons v ws ih=>
    intro w
    rw[aU,aX]
    have e:w.toArray++sep.cps++v.toArray=(w++sep.cps.toList++v).toArray:=by apply Array.toList_inj.mp;simp
    show(ws.map fun w=>(⟨w.toArray⟩:Str)).foldl _ (w.toArray++sep.cps++v.toArray)=_
    rw[e,ih]
    cases ws with
    |nil=>simp[lg]
    |cons u ws=>simp[lg]
  exact key ws w
end
section
open PySem PyProof.Rows
noncomputable def J4(i:Nat):PV:=(kl [1,2,4,8,16,32,64,128,256,512] [.str (Str.ofString "OPTIMIZED"),.str (Str.ofString "NEWLOCALS"),.str (Str.ofString "VARARGS"),.str (Str.ofString "VARKEYWORDS"),.str (Str.ofString "NESTED"),.str (Str.ofString "GENERATOR"),.str (Str.ofString "NOFREE"),.str (Str.ofString "COROUTINE"),.str (Str.ofString "ITERABLE_COROUTINE"),.str (Str.ofString "ASYNC_GENERATOR")] ((1:Int)*2^i)).getD (.str (baseText "0x" 16 (1*2^i)))
noncomputable def Lz(m:Int):PV:= .str (baseText "0x" 16 m)
theorem IX: ∀i<32,(baseText "0x" 16 ((1:Int)*2^i)).length≤100000:=by decide+kernel
theorem Ao(i:Nat)(m:Int):aC.bitAnd (2^i*m) (1*2^i)=(m%2)*2^i:=by
 rw[gp,PySem.W.kbt_bit,Int.mul_ediv_cancel_left _ (fQ (Int.pow_pos (by decide)))]
theorem Ce(i:Nat):(0:Int)<2^i:=Int.pow_pos (by decide)
theorem LA{i:Nat}{m:Int}(h:m%2=1):aC.bitXor (2^i*m) (1*2^i)=2^(i+1)*(m/2):=by
 rw[PyProof.Rows.bitXor_and,Ao,h,eN]
 have:m=2*(m/2)+1:=by omega
 generalize m/2=q at this
 subst this
 generalize (2:Int)^i=p
 rw[fg,dP p 2 q]
 omega
theorem IY{i:Nat}{m:Int}(h: ¬ m%2=1):(2:Int)^i*m=2^(i+1)*(m/2):=by
 have:m=2*(m/2):=by omega
 generalize m/2=q at this
 subst this
 rw[eN,dP]
theorem small_one:small 1=true:=by decide
theorem hJ{α β:Type}{o:Option α}{a:α}{f:α→β}(h:o=some a):o.map f=some (f a):=h▸rfl
theorem gI{α β:Type}{o:Option α}{a:α}{f:α→Option β}(h:o=some a):o.bind f=f a:=h▸rfl
theorem gF{x:Option PV}{y:Option (List PV)}{a:PV}{l:List PV}(h:x=some a)(h':y=some l):(x.bind fun a=>y.map (a:: ·))=some (a::l):=(gI h).trans (hJ h')
theorem ct{f g:List MV→Option PV}{o:PV→PV→Option PV}{ρ:List MV}{a b:PV}{r:Option PV}(hf:f ρ=some a)(hg:g ρ=some b)(h:o a b=r):ik f g o ρ=r:=(gI hf).trans ((gI hg).trans h)
theorem ip{n:Nat}{f₀:List MV→Option (List PV)}{f₁:List MV→List PV→Option (List PV)}{ρ:List MV}{ps out:List PV}(h:f₀ ρ=some ps)(h1:f₁ (List.replicate n .un++ρ.map MV.mm) ps=some out)(hf:pI out=true):iL n f₀ f₁ ρ=some (.list out):=(gI h).trans ((gI h1).trans (if_pos hf))
theorem jU{α β:Type}{f g:α→β}{l:List α}(h:l.map f=l.map g){a:α}(ha:a∈l):f a=g a:=List.map_inj_left.mp h a ha
theorem iw{u:PV→List MV→Option (List MV)}{t:List MV→Option Bool}{e:List MV→Option PV}{ρ gP:List MV}{p v:PV}(hu:u p ρ=some gP)(ht:t gP=some true)(he:e gP=some v):iF u t e ρ p=some [v]:=(gI hu).trans ((gI ht).trans (hJ he))
theorem uH{u:PV→List MV→Option (List MV)}{t:List MV→Option Bool}{e:List MV→Option PV}{ρ gP:List MV}{p:PV}(hu:u p ρ=some gP)(ht:t gP=some false):iF u t e ρ p=some []:=(gI hu).trans (gI ht)
theorem i9{α:Type}{step:List MV→PV→Option (List PV)}{ρ:List MV}{c g:α→PV}: ∀{l:List α},(∀a∈l,step ρ (c a)=some [g a])→jV step ρ (l.map c)=some (l.map g):=by
 intro l
 induction l with
 |nil=>exact @fun _=>rfl
 |cons a l iu=>exact @fun h=>(gI (h a (aA ..))).trans (hJ (iu fun b hb=>h b (av _ hb)))
theorem sQ{α:Type}{step:List MV→PV→Option (List PV)}{ρ:List MV}{c g:α→PV}{q:α→Bool}: ∀{l:List α},(∀a∈l,step ρ (c a)=some (if q a then[g a] else[]))→jV step ρ (l.map c)=some ((l.filter q).map g):=by
 intro l
 induction l with
 |nil=>exact @fun _=>rfl
 |cons a l iu=>
  intro h
  have e:jV step ρ ((a::l).map c)=some ((if q a then[g a] else[])++(l.filter q).map g):=(gI (h a (aA ..))).trans (hJ (iu fun b hb=>h b (av _ hb)))
  rw[e,List.filter_cons]
  cases q a<;>rfl
theorem qy{i:Int}{m:Nat}(h:i.natAbs<m)(hm:Nat.ble m (2^63)=true):small i=true:=decide_eq_true (bP h (dJ hm))
theorem jj{o:Option PV}{c b:Bool}(h:o=some (.bool c))(e:c=b):o.bind mJ=some b:=e▸gI h
theorem lp{x:Option (List PV)}{l:List PV}(h:x=some l)(hf:pI l=true):(x.bind fun l=>if pI l then some (PV.tup l) else none)=some (.tup l):=(gI h).trans (if_pos hf)
theorem nG{x:Option (List PV)}{l:List PV}(h:x=some l)(hf:pI l=true):(x.bind fun l=>if pI l then some (PV.list l) else none)=some (.list l):=(gI h).trans (if_pos hf)
theorem gE{α β:Type}{o:Option α}{a:α}{f:α→Option β}{r:Option β}(h:o=some a)(h2:f a=r):o.bind f=r:=(gI h).trans h2
theorem iO{step:List MV→PV→Option (List PV)}{ρ:List MV}{p:PV}{ps a b:List PV}(h:step ρ p=some a)(h':jV step ρ ps=some b):jV step ρ (p::ps)=some (a++b):=(gI h).trans (hJ h')
theorem lB{u:PV→List MV→Option (List MV)}{B fo:List MV→Option (Fl×List MV)}{ρ gP jL:List MV}{p:PV}{ps:List PV}(h:u p ρ=some gP)(hB:B gP=some (.next,jL)):nj u B fo ρ (p::ps)=nj u B fo jL ps:=(gI (o:=u p ρ) h).trans (gI (o:=B gP) hB)
theorem IZ{u:PV→List MV→Option (List MV)}{B fo:List MV→Option (Fl×List MV)}{ρ gP jL:List MV}{p:PV}{ps:List PV}(h:u p ρ=some gP)(hB:B gP=some (.brk,jL)):nj u B fo ρ (p::ps)=some (.next,jL):=(gI (o:=u p ρ) h).trans (gI (o:=B gP) hB)
theorem Cf{u:PV→List MV→Option (List MV)}{B fo:List MV→Option (Fl×List MV)}{ρ gP jL:List MV}{p v:PV}{ps:List PV}(h:u p ρ=some gP)(hB:B gP=some (.ret v,jL)):nj u B fo ρ (p::ps)=some (.ret v,jL):=(gI (o:=u p ρ) h).trans (gI (o:=B gP) hB)
theorem gG{f g:List MV→Option (Fl×List MV)}{ρ ρ':List MV}(h:f ρ=some (.next,ρ')):gR f g ρ=g ρ':=gI (o:=f ρ) h
theorem j1{f g:List MV→Option (Fl×List MV)}{ρ ρ':List MV}{v:PV}(h:f ρ=some (.ret v,ρ')):gR f g ρ=some (.ret v,ρ'):=gI (o:=f ρ) h
theorem rR{i:Nat}{f:List MV→Option (Fl×List MV)}{ρ:List MV}{m:MV}{q:PV}(h:ρ[i]? =some m)(hq:m.CR=some q):nt i f ρ=f (ρ.set i (.p q)):=gI ((gI h).trans hq)
theorem nH{n m:Nat}{f:List MV→Option (Fl×List MV)}{ps:List PV}{ρ ρ':List MV}{v:PV}(hl:ps.length=n)(V9:ps.map .p++List.replicate m .un=ρ)(h:f ρ=some (.ret v,ρ')):BD n m f ps=some v:=by
 unfold BD
 rw[if_pos hl,V9,h]
 rfl
theorem append_at{i:Nat}{f:List MV→Option PV}{ρ:List MV}{l:List PV}{v:PV}(h:Oy ρ i=some l)(hl:l.length≤100000)(hv:f ρ=some v):qv i f ρ=some (.next,ρ.set i (.ol (l++[v]))):=(gI h).trans ((if_pos hl).trans (hJ hv))
section
variable {i:Nat} {m:Int} {l:List PV} {b:MV}
noncomputable def Pl(f:Int)(l:List PV)(i:Int)(b:MV):List MV:=[.p (.int f),.ol l,.p (.int i),b]
theorem LB(hi:i<32):kC (Pl m l i b)=some (.next,Pl m l i (.p (.int (1*2^i)))):=
 hJ (o:=vW (.int 1) (.int (i:Int))) (if_pos (by rw[small_one,Bool.true_and,dR,decide_eq_true_eq,decide_eq_true_eq];omega))
theorem LC(h: ¬ m%2=1):jh (Pl (2^i*m) l i (.p (.int (1*2^i))))=some (.next,Pl (2^(i+1)*(m/2)) l i (.p (.int (1*2^i)))):=by
 have e:(aC.bitAnd (2^i*m) (1*2^i)!=0)=false:=by rw[Ao,(eT m).resolve_right h,fP];rfl
 exact(gI (o:=some (aC.bitAnd (2^i*m) (1*2^i)!=0)) (congrArg some e)).trans (IY h▸rfl)
theorem Pm(hi:i<32)(hl:l.length≤100)(h:m%2=1):jh (Pl (2^i*m) l i (.p (.int (1*2^i))))=some (if m/2=0 then .brk else .next,Pl (2^(i+1)*(m/2)) (l++[J4 i]) i (.p (.int (1*2^i)))):=by
 have e:(aC.bitAnd (2^i*m) (1*2^i)!=0)=true:=by rw[Ao,h,gp,bne_iff_ne];exact fQ (Ce i)
 refine(gI (o:=some (aC.bitAnd (2^i*m) (1*2^i)!=0)) (congrArg some e)).trans ((gG (append_at (v:=J4 i) rfl (Nat.le_trans hl (by decide)) ?_)).trans ((gG (ρ':=Pl (2^(i+1)*(m/2)) (l++[J4 i]) i (.p (.int (1*2^i)))) (LA h▸rfl)).trans ?_))
 ·exact(gI (o:=((Bx [.int (1*2^i)]).bind fun a=>some [a]).map (.int (1*2^i):: ·)) (hJ (gI (if_pos (IX i hi)))))
 ·by_cases hz:m/2=0
  ·rw[hz,Int.mul_zero];rfl
  ·rw[if_neg hz]
   have e2:(2^(i+1)*(m/2)!=0)=true:=bne_iff_ne.mpr (Int.mul_ne_zero (fQ (Ce _)) hz)
   exact(gG (gI (o:=some (!(2^(i+1)*(m/2)!=0))) (congrArg (fun b=>some (!b)) e2)))
end
noncomputable def w6(i:Nat)(qs:List Nat):Int:=(qs.map fun q=>(2:Int)^(q-i)).sum
noncomputable def vi(i:Nat)(qs:List Nat)(e:Int):Int:=w6 i qs+e*2^(32-i)
theorem Cg{i:Nat}: ∀{qs:List Nat},(∀q∈qs,i+1≤q)→w6 i qs=2*w6 (i+1) qs:=by
 intro qs
 induction qs with
 |nil=>exact @fun _=>rfl
 |cons q qs iu=>
  intro h
  have ih:=iu fun q' h'=>h q' (av _ h')
  have hq:=h q (aA ..)
  unfold w6 at ih ⊢
  rw[aU,aU,List.sum_cons,List.sum_cons,ih,Pb hq,eN,fg,fR (2^_)]
theorem uI{i:Nat}{qs:List Nat}{e:Int}(hi:i<32)(h: ∀q∈qs,i+1≤q):vi i qs e=2*vi (i+1) qs e:=by
 unfold vi
 rw[Cg h,Pb hi,eN,fg]
 congr 1
 rw[←dP,fR]
theorem F2{i:Nat}{qs:List Nat}{e:Int}(hi:i<32)(h: ∀q∈qs,i+1≤q):vi i (i::qs) e=1+2*vi (i+1) qs e:=by
 rw[←uI hi h]
 unfold vi w6
 rw[aU,List.sum_cons,Nat.sub_self,Int.pow_zero]
 omega
noncomputable def rS:Nat→Nat→Int→List Nat×Int
 |0,_,m=>([],m)
 |k+1,i,m=>if m%2=1 then(i::(rS k (i+1) (m/2)).1,(rS k (i+1) (m/2)).2) else rS k (i+1) (m/2)
theorem w7{k i:Nat}{m:Int}(h:m%2=1):rS (k+1) i m=(i::(rS k (i+1) (m/2)).1,(rS k (i+1) (m/2)).2):=if_pos h
theorem tS{k i:Nat}{m:Int}(h: ¬ m%2=1):rS (k+1) i m=rS k (i+1) (m/2):=if_neg h
theorem F3: ∀k i:Nat,rS k i 0=([],0):=by
 intro k
 induction k with
 |zero=>exact @fun _=>rfl
 |succ k iu=>exact @fun i=>iu (i+1)
theorem F4: ∀(k i:Nat) (m:Int),(rS k i m).1=[]→(rS k i m).2=0→m=0:=by
 intro k
 induction k with
 |zero=>exact @fun _ _ _ h=>h
 |succ k iu=>
  intro i m h1 h2
  by_cases h:m%2=1
  ·rw[w7 h] at h1;(first|exact VS h1|cases h1)
  ·rw[tS h] at h1 h2
   exact(Int.mul_ediv_add_emod m 2).symm.trans (by rw[iu (i+1) (m/2) h1 h2,(eT m).resolve_right h];rfl)
theorem I0: ∀(k i:Nat) (qs:List Nat) (e:Int),i+k=32→qs.Pairwise (· < ·)→(∀q∈qs,i≤q∧q<32)→rS k i (vi i qs e)=(qs,e):=by
 intro k
 induction k with
 |zero=>
  intro i qs e hi _ hb
  cases qs with
  |nil=>(first|exact VS hi|cases hi);exact congrArg (Prod.mk _) ((dF _).trans (gq e))
  |cons q qs=>have:=hb q (aA ..);omega
 |succ k ih=>
  intro i qs e hi hp hb
  have HO:i+1+k=32:=by omega
  have SA:(∀q∈qs,i+1≤q)→rS (k+1) i (vi i qs e)=(qs,e):=fun h=>by
   have ih:=ih (i+1) qs e HO hp fun q hq=>⟨h q hq,(hb q hq).2⟩
   rw[uI (by omega) h,tS (by omega),Int.mul_ediv_cancel_left _ (by decide)]
   exact ih
  cases qs with
  |nil=>exact SA fun q h=>nomatch h
  |cons q qs=>
   have ht:=(List.pairwise_cons.mp hp).1
   by_cases hq:q=i
   ·subst hq
    have ih:=ih (q+1) qs e HO (List.pairwise_cons.mp hp).2 fun q' h'=>⟨ht q' h',(hb q' (av _ h')).2⟩
    rw[F2 (by omega) ht,w7 (by omega),show(1+2*vi (q+1) qs e)/2=vi (q+1) qs e by omega,ih]
   ·have hl:=fC (hb q (aA ..)).1 (Ne.symm hq)
    exact SA fun q' h'=>(List.mem_cons.mp h').elim (fun e=>e▸hl) fun h=>bO hl (ht q' h)
noncomputable def w8(qs:List Nat)(e:Int):List PV:=if qs≠[]∧e=0 then[] else[Lz (2^32*e)]
noncomputable def tT(p:List Nat×Int):List PV:=p.1.map J4++w8 p.1 p.2
theorem Ci{q:Nat}{p:List Nat×Int}(h:p.1=[]→p.2≠0):tT (q::p.1,p.2)=J4 q::tT p:=by
 have:w8 (q::p.1) p.2=w8 p.1 p.2:=by
  unfold w8
  by_cases he:p.2=0
  ·rw[if_pos ⟨c8 _ _,he⟩,if_pos ⟨fun e=>h e he,he⟩]
  ·rw[if_neg fun x=>he x.2,if_neg fun x=>he x.2]
 unfold tT
 rw[this]
 rfl
noncomputable def pfE:List MV→Option (Fl×List MV):=gR (qv 1 #[f,#[c,#[0],#v[]],Bx]) #[k]
theorem LD: ∀(k i:Nat) (m:Int) (l:List PV) (a b:MV),i+k=32→l.length+k≤100→(baseText "0x" 16 ((2:Int)^32*(rS k i m).2)).length≤100000→
  ∃c d x,nj #[n,2] lz pfE [.p (.int (2^i*m)),.ol l,a,b] ((bW i k).map fun j=>PV.int (j:Nat))=some (.next,[c,.ol (l++tT (rS k i m)),d,x]):=by
 intro k
 induction k with
 |zero=>
  intro i m l a b hi hl hx
  skip;(first|exact VS hi|cases hi)
  exact⟨_,a,b,gG (append_at (v:=Lz (2^32*m)) rfl (Nat.le_trans hl (by decide)) (if_pos hx))⟩
 |succ k iu=>
  intro i m l a b hi hl hx
  have HO:i+1+k=32:=by omega
  have GH:i<32:=by omega
  have h0:=(gG (g:=gR jh #[k]) (LB (m:=2^i*m) (l:=l) (b:=b) GH))
  by_cases h:m%2=1
  ·have h1:=Pm GH (by omega:l.length≤100) h
   rw[w7 h] at hx ⊢
   by_cases hz:m/2=0
   ·rw[if_pos hz] at h1
    rw[hz,F3]
    exact⟨_,_,_,IZ rfl (h0.trans (gI h1))⟩
   ·rw[if_neg hz] at h1
    obtain⟨c,d,x,ih⟩:=iu (i+1) (m/2) (l++[J4 i]) (.p (.int (i:Int))) (.p (.int (1*2^i))) HO (by rw[aK,List.length_singleton];omega) hx
    refine⟨c,d,x,?_⟩
    rw[Ci fun h h'=>hz (F4 _ _ _ h h'),List.append_cons]
    exact(lB rfl (h0.trans (gG h1))).trans ih
  ·rw[tS h] at hx ⊢
   obtain⟨c,d,x,ih⟩:=iu (i+1) (m/2) l (.p (.int (i:Int))) (.p (.int (1*2^i))) HO (by omega) hx
   exact⟨c,d,x,(lB rfl (h0.trans (gG (LC h)))).trans ih⟩
theorem LF:itemsOf (.CP 0 32 1)=some ((bW 0 32).map fun j=>PV.int (j:Nat)):= (by kernel_rfl)
theorem F5{qs:List Nat}{e:Int}{ts:List Str}(hp:qs.Pairwise (· < ·))(hb: ∀q∈qs,q<32)(hx:(baseText "0x" 16 ((2:Int)^32*e)).length≤100000)(GB:qb (qs.map J4++w8 qs e)=some ts)(hj:JoinOk (Str.ofString ", ") ts=true):
  ji [.int (w6 0 qs+e*2^32)]=some (.str (Txt.join (Str.ofString ", ") ts)):=by
 have hv:=I0 32 0 qs e rfl hp fun q h=>⟨aE _,hb q h⟩
 obtain⟨c,d,x,h⟩:=LD 32 0 (vi 0 qs e) [] .un .un rfl (by decide) (by rw[hv];exact hx)
 rw[hv,Int.pow_zero,gp] at h
 have h2:tB (.str (Str.ofString ", ")) [.list ([]++tT (qs,e))]=some (.str (Txt.join (Str.ofString ", ") ts)):=(gI GB).trans (if_pos hj)
 exact nH (f:=mW) rfl rfl ((gG (ρ':=[.p (.int (vi 0 qs e)),.ol [],.un,.un]) rfl).trans ((gG ((gI (o:=itemsOf (.CP 0 32 1)) LF).trans h)).trans ((rR rfl rfl).trans (j1 (hJ (o:=tB (.str (Str.ofString ", ")) [.list ([]++tT (qs,e))]) h2)))))
end
section
open PySem PyProof.Rows
section
variable {L:ig}
noncomputable def qj:List Str:=[(Str.ofString "row")]
noncomputable def ra:gO:=[((Str.ofString "row"),0)]
noncomputable def qk:List MV→Option (Fl×List MV):= #[h,#[t,#[c,#[b,#[0],#[i,0],gH],#[c,#[b,#[0],#[i,1],gH],#[c,#[b,#[0],#[i,2],gH],#[c,#[b,#[0],#[i,3],gH],#[c,(fun ρ=>(#[b,#[0],#[i,4],gH] ρ).bind fun a=>(#[t,#[c,#[b,#[b,#[0],#[i,4],gH],#[b,#[0],#[i,3],gH],kO],#[c,#[b,#[i,3],#[b,#[0],#[i,0],gH],iD],#[c,#[b,#[b,#[0],#[i,1],gH],#[b,#[0],#[i,2],gH],kO],#[c,#[r,#[0],#[i,4],gH,pj],#v[]]]]]] ρ).map fun b=> .ja [(Str.ofString "f"),(Str.ofString "g")] [a,b]),#v[]]]]]]]]
theorem w9(H:gK L):S1 L #[C,18] ra qj 0 false #[N,0,#[B,18]] qk:= #v[J,#v[x,#v[b,#v[i,#v[a,0],#v[c]],#v[b,#v[i,#v[a,0],#v[c]],#v[b,#v[i,#v[a,0],#v[c]],#v[b,#v[i,#v[a,0],#v[c]],#v[b,(by exact @SE.QE _ _ _ _ _ _ _ _ _ _ _ _ _ _ _ #v[i,#v[a,0],#v[c]] #v[x,#v[b,#v[d,#v[i,#v[a,0],#v[c]],#v[i,#v[a,0],#v[c]],ml],#v[b,#v[d,#v[c],#v[i,#v[a,0],#v[c]],i6],#v[b,#v[d,#v[i,#v[a,0],#v[c]],#v[i,#v[a,0],#v[c]],ml],#v[b,#v[R,#v[i,#v[a,0],#v[c]]],#v[e]]]]]] (by decide+kernel)),#v[e]]]]]]]]
noncomputable def sR:List MV→Option (Fl×List MV):=(gR qk #[k])
theorem Ap(H:gK L):SS L #[C,18] ra qj 0 (false||false) #[B,18] sR:= #v[v,[hU 0 #[B,18]],#v[f,(@w9 _ H),#v[w]]]
noncomputable def kW:List PV→Option PV:=BD 1 0 sR
theorem oS(H:gK L):iM L 1 (.ref (H.ad 18)) kW:= #v[K,H.fn__law_entry,(@Ap _ H)]
noncomputable def sS:List Str:=[(Str.ofString "entry")]
noncomputable def uJ:gO:=[((Str.ofString "entry"),0)]
noncomputable def sT:List MV→Option (Fl×List MV):= #[h,#[b,#[d,#[0],#[z],#[f,#[i,4],jJ]],#[t,#[c,#[b,#[b,#[0],#[i,4],gH],(fun _=>some (.str (Str.ofString "f"))),gH],#v[]]],gY]]
theorem Aq(H:gK L):S1 L #[C,19] uJ sS 0 false #[N,0,#[B,19]] sT:= #v[J,#v[d,#v[I,#v[a,0],#v[P],#v[B,#v[c]]],#v[x,#v[b,#v[i,#v[i,#v[a,0],#v[c]],#v[F]],#v[e]]],gU]]
noncomputable def xd:List MV→Option (Fl×List MV):=(gR sT #[k])
theorem DK(H:gK L):SS L #[C,19] uJ sS 0 (false||false) #[B,19] xd:= #v[v,[hU 0 #[B,19]],#v[f,(@Aq _ H),#v[w]]]
noncomputable def j2:List PV→Option PV:=BD 1 0 xd
theorem m5(H:gK L):iM L 1 (.ref (H.ad 19)) j2:= #v[K,H.fn__law_row,(@DK _ H)]
noncomputable def iG:List Str:=[(Str.ofString "starts"),(Str.ofString "keys"),(Str.ofString "pairs"),(Str.ofString "triples"),(Str.ofString "held"),(Str.ofString "triple"),(Str.ofString "near"),(Str.ofString "between"),(Str.ofString "far"),(Str.ofString "least")]
noncomputable def iJ:gO:=[((Str.ofString "starts"),0),((Str.ofString "keys"),1),((Str.ofString "pairs"),2),((Str.ofString "triples"),3),((Str.ofString "held"),4),((Str.ofString "triple"),5),((Str.ofString "near"),6),((Str.ofString "between"),7),((Str.ofString "far"),8),((Str.ofString "least"),9)]
noncomputable def m6:List MV→Option (Fl×List MV):=(Fu 10 4 #[f,#[c,(iL 1 #[f,#[f,#[c,#[i,10],#v[]],jW],itemsOf] #[o,(gX [0] #[n,0]),#[y],#[t,#[c,#[b,#[3],#[0],gH],#[c,#[b,#[1],#[0],gH],#v[]]]]]),#v[]],mh])
theorem xe(H:gK L):S1 L #[C,20] iJ iG 1 true #[N,0,#[B,20]] m6:= #v[ab,#v[ak,H.b_dict,.type _,qg.less (aE _),#v[b,#v[u,[(Str.ofString "k")],#v[m,#v[k,H.b_range,.type _,jx.less (aE _),#v[b,#v[c],#v[e]]]],#v[s,(fun h=>by (first|exact VS h|cases h)),#v[o,[0],#v[q,#v[g,0]]],Keeps.name,#v[t],#v[x,#v[b,#v[i,#v[a,3],#v[a,0]],#v[b,#v[i,#v[a,1],#v[a,0]],#v[e]]]]]],#v[e]]],#v[g,4],(fun env h=>by (first|exact VS env|cases env);(first|exact VS h|cases h);kernel_rfl)]
noncomputable def lC:List MV→Option (Fl×List MV):=(fun ρ=>(#[t,#[c,(kR 4 #[b,#[5],#[i,10],iS]),#[c,(kR 4 #[b,#[b,#[i,10],#[b,#[5],#[i,100],iS],iD],#[b,#[5],#[i,10],iX],gY]),#[c,(kR 4 #[b,#[5],#[i,100],iX]),#v[]]]]] ρ).bind fun v=>(lj v).bind fun l=>(pU [8,7,6] l.reverse ρ).map fun ρ'=>(.next,ρ'))
theorem tU(H:gK L):S1 L #[C,20] iJ iG 1 false #[N,0,#[F,#[N,1,#[B,20]]]] lC:= #v[X,([(Str.ofString "near"),(Str.ofString "between"),(Str.ofString "far")]),#v[x,#v[b,#v[V,4,#v[d,#v[a,5],#v[c],iW]],#v[b,#v[V,4,#v[d,#v[d,#v[c],#v[d,#v[a,5],#v[c],iW],i6],#v[d,#v[a,5],#v[c],iQ],gU]],#v[b,#v[V,4,#v[d,#v[a,5],#v[c],iQ]],#v[e]]]]],(.cons (@iC _ _ (by kernel_rfl)) (@gM _ _ (8) (by kernel_rfl) (@jX _ (by kernel_rfl))) (.cons (@iC _ _ (by kernel_rfl)) (@gM _ _ (7) (by kernel_rfl) (@jX _ (by kernel_rfl))) (.cons (@iC _ _ (by kernel_rfl)) (@gM _ _ (6) (by kernel_rfl) (@jX _ (by kernel_rfl))) i4.nil))),(fun env h=>by (first|exact VS env|cases env);(first|exact VS h|cases h);kernel_rfl),(fun env h=>by (first|exact VS env|cases env);(first|exact VS h|cases h);kernel_rfl)]
noncomputable def lD:List MV→Option (Fl×List MV):= #[e,9,#[d,#[f,#[c,(iL 1 #[f,#[t,#[c,#[6],#[c,#[8],#v[]]]],itemsOf] #[o,(gX [0] #[n,0]),#[y],#[b,(iL 2 #[f,#[2],itemsOf] #[o,(gX [0,1] #[m,[0,1]]),#[y],#[b,ik #[2] #[0] gH,#[1],iD]]),#[0],gY]]),#v[]],Dq],#[f,#[i,5],jJ],#[z]]]
theorem tV(H:gK L):S1 L #[C,20] iJ iG 1 false #[N,1,#[F,#[N,1,#[B,20]]]] lD:= #v[z,#v[I,#v[k,H.b_min,.builtin _,KQ.less (aE _),#v[b,#v[u,[(Str.ofString "row")],#v[m,#v[x,#v[b,#v[a,6],#v[b,#v[a,8],#v[e]]]]],#v[s,(fun h=>by (first|exact VS h|cases h)),#v[o,[0],#v[q,#v[g,0]]],Keeps.name,#v[t],#v[d,#v[u,([(Str.ofString "index"),(Str.ofString "way")]),#v[m,#v[a,2]],#v[s,(fun h=>by (first|exact VS h|cases h)),#v[o,[0,1],#v[E,.cons (.cons ia.nil),(.cons (@iC _ _ (by kernel_rfl)) (@gM _ _ (0) (by kernel_rfl) (@jX _ (by kernel_rfl))) (.cons (@iC _ _ (by kernel_rfl)) (@gM _ _ (1) (by kernel_rfl) (@jX _ (by kernel_rfl))) i4.nil))]],Keeps.tup,#v[t],#v[d,#v[i,#v[a,2],#v[a,0]],#v[a,1],i6]]],#v[a,0],gU]]],#v[e]]],#v[B,#v[c]],#v[P]],#v[g,9],(fun env h=>by (first|exact VS env|cases env);(first|exact VS h|cases h);kernel_rfl)]
noncomputable def oB:List MV→Option (Fl×List MV):=(uZ 4 #[b,#[5],#[i,10],iS] (iL 3 #[f,#[c,#[6],#[c,#[7],#[c,#[9],#v[]]]],sE] #[o,(gX [0,1,2] #[m,[0,1,2]]),#[y],#[b,ik #[0] #[1] gY,#[2],kO]]))
theorem tW(H:gK L):S1 L #[C,20] iJ iG 1 false #[N,2,#[F,#[N,1,#[B,20]]]] oB:= #v[U,#v[u,([(Str.ofString "x"),(Str.ofString "y"),(Str.ofString "z")]),#v[af,H.b_zip,#v[b,#v[a,6],#v[b,#v[a,7],#v[b,#v[a,9],#v[e]]]]],#v[s,(fun _=>rfl),#v[o,[0,1,2],#v[E,.cons (.cons (.cons ia.nil)),(.cons (@iC _ _ (by kernel_rfl)) (@gM _ _ (0) (by kernel_rfl) (@jX _ (by kernel_rfl))) (.cons (@iC _ _ (by kernel_rfl)) (@gM _ _ (1) (by kernel_rfl) (@jX _ (by kernel_rfl))) (.cons (@iC _ _ (by kernel_rfl)) (@gM _ _ (2) (by kernel_rfl) (@jX _ (by kernel_rfl))) i4.nil)))]],Keeps.tup,#v[t],#v[d,#v[d,#v[a,0],#v[a,1],gU],#v[a,2],ml]]],#v[d,#v[a,5],#v[c],iW],#v[g,4],(fun env h=>by (first|exact VS env|cases env);(first|exact VS h|cases h);kernel_rfl)]
noncomputable def oC:List MV→Option (Fl×List MV):=(uZ 4 #[b,#[5],#[i,100],iX] (iL 3 #[f,#[c,#[8],#[c,#[7],#[c,#[9],#v[]]]],sE] #[o,(gX [0,1,2] #[m,[0,1,2]]),#[y],#[b,ik #[0] #[1] gY,#[2],kO]]))
theorem tX(H:gK L):S1 L #[C,20] iJ iG 1 false #[N,3,#[F,#[N,1,#[B,20]]]] oC:= #v[U,#v[u,([(Str.ofString "x"),(Str.ofString "y"),(Str.ofString "z")]),#v[af,H.b_zip,#v[b,#v[a,8],#v[b,#v[a,7],#v[b,#v[a,9],#v[e]]]]],#v[s,(fun _=>rfl),#v[o,[0,1,2],#v[E,.cons (.cons (.cons ia.nil)),(.cons (@iC _ _ (by kernel_rfl)) (@gM _ _ (0) (by kernel_rfl) (@jX _ (by kernel_rfl))) (.cons (@iC _ _ (by kernel_rfl)) (@gM _ _ (1) (by kernel_rfl) (@jX _ (by kernel_rfl))) (.cons (@iC _ _ (by kernel_rfl)) (@gM _ _ (2) (by kernel_rfl) (@jX _ (by kernel_rfl))) i4.nil)))]],Keeps.tup,#v[t],#v[d,#v[d,#v[a,0],#v[a,1],gU],#v[a,2],ml]]],#v[d,#v[a,5],#v[c],iQ],#v[g,4],(fun env h=>by (first|exact VS env|cases env);(first|exact VS h|cases h);kernel_rfl)]
noncomputable def oD:List MV→Option (Fl×List MV):=(uZ 4 #[b,#[b,#[i,10],#[b,#[5],#[i,100],iS],iD],#[b,#[5],#[i,10],iX],gY] #[9])
theorem tY(H:gK L):S1 L #[C,20] iJ iG 1 false #[N,4,#[F,#[N,1,#[B,20]]]] oD:= #v[U,#v[a,9],#v[d,#v[d,#v[c],#v[d,#v[a,5],#v[c],iW],i6],#v[d,#v[a,5],#v[c],iQ],gU],#v[g,4],(fun env h=>by (first|exact VS env|cases env);(first|exact VS h|cases h);kernel_rfl)]
noncomputable def j3:List MV→Option (Fl×List MV):=(gR lC (gR lD (gR oB (gR oC (gR oD #[k])))))
theorem xf(H:gK L):SS L #[C,20] iJ iG 1 (false||(false||(false||(false||(false||false))))) #[F,#[N,1,#[B,20]]] j3:= #v[v,([hU 0 #[F,#[N,1,#[B,20]]],hU 1 #[F,#[N,1,#[B,20]]],hU 2 #[F,#[N,1,#[B,20]]],hU 3 #[F,#[N,1,#[B,20]]],hU 4 #[F,#[N,1,#[B,20]]]]),#v[f,(@tU _ H),#v[f,(@tV _ H),#v[f,(@tW _ H),#v[f,(@tX _ H),#v[f,(@tY _ H),#v[w]]]]]]]
noncomputable def m7:List MV→Option (Fl×List MV):=(fun ρ=>(#[f,#[3],itemsOf] ρ).bind fun ps=>nj #[n,5] j3 #[k] ρ ps)
theorem xg(H:gK L):S1 L #[C,20] iJ iG 1 false #[N,1,#[B,20]] m7:= #v[Q,#v[m,#v[a,3]],#v[q,#v[g,5]],(fun h=>by (first|exact VS h|cases h)),#v[D,(false||(false||(false||(false||(false||false))))),(by exact @xf _ H)],#v[D,false,#v[l]]]
noncomputable def kX:List MV→Option (Fl×List MV):= #[h,(iL 1 #[f,#[2],itemsOf] #[o,(gX [0] #[n,0]),#[y],#[f,#[c,ik #[5] #[0] gH,#v[]],kW]])]
theorem xh(H:gK L):S1 L #[C,20] iJ iG 1 false #[N,2,#[B,20]] kX:= #v[J,#v[u,[(Str.ofString "pair")],#v[m,#v[a,2]],#v[s,(fun h=>by (first|exact VS h|cases h)),#v[o,[0],#v[q,#v[g,0]]],Keeps.name,#v[t],#v[k,H.g__law_entry,(H.fn__law_entry).callee,((oS H).less (by decide)),#v[b,#v[i,#v[a,5],#v[a,0]],#v[e]]]]]]
noncomputable def oU:List MV→Option (Fl×List MV):=(gR m6 (gR m7 (nt 4 (gR kX #[k]))))
theorem Ar(H:gK L):SS L #[C,20] iJ iG 1 (true||(false||true)) #[B,20] oU:= #v[v,([hU 0 #[B,20],hU 1 #[B,20],hU 2 #[B,20]]),#v[f,(@xe _ H),#v[f,(@xg _ H),#v[ac,(false||false),(Str.ofString "held"),#v[f,(@xh _ H),#v[w]],#v[g,4]]]]]
noncomputable def oV:List PV→Option PV:=BD 4 6 oU
theorem As(H:gK L):iM L 2 (.ref (H.ad 20)) oV:= #v[K,H.fn__law_plain,(@Ar _ H)]
end
end
section
open PySem PyProof.Rows
section
variable {L:ig}
noncomputable def kp:List Str:=[(Str.ofString "rows"),(Str.ofString "places"),(Str.ofString "lower"),(Str.ofString "place")]
noncomputable def kY:gO:=[((Str.ofString "rows"),0),((Str.ofString "places"),1),((Str.ofString "lower"),2),((Str.ofString "place"),3)]
noncomputable def pA:List MV→Option (Fl×List MV):= #[x,#[q,#[f,#[c,#[b,#[b,ik #[0] #[3] gH,#[i,1],gH],#[2],kO],#v[]],MT],#[i,2],Fb],(gR #[h,#[w,#[q,#[b,ik #[0] #[3] gH,#[i,1],gH],#[2],zI],#[3],#[f,#[i,1],pj]]] #[k]),#[k]]
theorem vj(H:gK L):S1 L #[C,21] kY kp 0 ((false||false)||false) #[N,0,#[F,#[N,0,#[B,21]]]] pA:= #v[N,#v[C,#v[k,H.b_abs,.builtin _,Ot.less (aE _),#v[b,#v[d,#v[i,#v[i,#v[a,0],#v[a,3]],#v[c]],#v[a,2],ml],#v[e]]],#v[c],Be],#v[y,#v[O,#v[al,#v[C,#v[i,#v[i,#v[a,0],#v[a,3]],#v[c]],#v[a,2],Eb],#v[a,3],#v[R,#v[c]]]],#v[l]],#v[l]]
noncomputable def rb:List MV→Option (Fl×List MV):=(gR pA #[k])
theorem yl(H:gK L):SS L #[C,21] kY kp 0 (((false||false)||false)||false) #[F,#[N,0,#[B,21]]] rb:= #v[v,[hU 0 #[F,#[N,0,#[B,21]]]],#v[f,(@vj _ H),#v[w]]]
noncomputable def rf:List MV→Option (Fl×List MV):=(fun ρ=>(#[f,#[1],itemsOf] ρ).bind fun ps=>nj #[n,3] rb #[k] ρ ps)
theorem ym(H:gK L):S1 L #[C,21] kY kp 0 false #[N,0,#[B,21]] rf:= #v[Q,#v[m,#v[a,1]],#v[q,#v[g,3]],(fun h=>by (first|exact VS h|cases h)),#v[D,(((false||false)||false)||false),(by exact @yl _ H)],#v[D,false,#v[l]]]
noncomputable def rg:List MV→Option (Fl×List MV):= #[h,#[f,#[i,1],pj]]
theorem yn(H:gK L):S1 L #[C,21] kY kp 0 false #[N,1,#[B,21]] rg:= #v[J,#v[R,#v[c]]]
noncomputable def uK:List MV→Option (Fl×List MV):=(gR rf (gR rg #[k]))
theorem Cj(H:gK L):SS L #[C,21] kY kp 0 (false||(false||false)) #[B,21] uK:= #v[v,([hU 0 #[B,21],hU 1 #[B,21]]),#v[f,(@ym _ H),#v[f,(@yn _ H),#v[w]]]]
noncomputable def ql:List PV→Option PV:=BD 3 1 uK
theorem uL(H:gK L):iM L 1 (.ref (H.ad 21)) ql:= #v[K,H.fn__law_next,(@Cj _ H)]
noncomputable def jd:List Str:=[(Str.ofString "rows"),(Str.ofString "found"),(Str.ofString "k"),(Str.ofString "lower"),(Str.ofString "first"),(Str.ofString "last")]
noncomputable def jo:gO:=[((Str.ofString "rows"),0),((Str.ofString "found"),1),((Str.ofString "k"),2),((Str.ofString "lower"),3),((Str.ofString "first"),4),((Str.ofString "last"),5)]
noncomputable def rh:List MV→Option (Fl×List MV):=(Fu 6 1 (fun _=>some (.ol [])))
theorem yo(H:gK L):S1 L #[C,22] jo jd 1 true #[N,0,#[B,22]] rh:= #v[ab,(by exact @OE.nil _ _ _ _ _),#v[g,1],(fun env h=>by (first|exact VS env|cases env);(first|exact VS h|cases h);kernel_rfl)]
noncomputable def pB:List MV→Option (Fl×List MV):= #[e,3,#[b,#[b,ik #[0] #[2] gH,#[i,1],gH],#[i,1],kO]]
theorem vk(H:gK L):S1 L #[C,22] jo jd 1 false #[N,0,#[F,#[N,1,#[B,22]]]] pB:= #v[z,#v[d,#v[i,#v[i,#v[a,0],#v[a,2]],#v[c]],#v[c],ml],#v[g,3],(fun env h=>by (first|exact VS env|cases env);(first|exact VS h|cases h);kernel_rfl)]
noncomputable def pC:List MV→Option (Fl×List MV):=(fun ρ=>(#[t,#[c,#[f,#[c,#[0],#[c,#[f,#[c,#[b,#[2],#[i,1],kO],#[c,#[f,#[i,1],pj],#[c,#[f,#[i,1],pj],#v[]]]],jW],#[c,#[3],#v[]]]],ql],#[c,#[f,#[c,#[0],#[c,#[f,#[c,#[b,#[2],#[i,1],gY],#[c,#[i,10],#v[]]],jW],#[c,#[3],#v[]]]],ql],#v[]]]] ρ).bind fun v=>(lj v).bind fun l=>(pU [5,4] l.reverse ρ).map fun ρ'=>(.next,ρ'))
theorem vm(H:gK L):S1 L #[C,22] jo jd 1 false #[N,1,#[F,#[N,1,#[B,22]]]] pC:= #v[X,([(Str.ofString "first"),(Str.ofString "last")]),#v[x,#v[b,#v[k,H.g__law_next,(H.fn__law_next).callee,((uL H).less (by decide)),#v[b,#v[a,0],#v[b,#v[k,H.b_range,.type _,jx.less (aE _),#v[b,#v[d,#v[a,2],#v[c],ml],#v[b,#v[R,#v[c]],#v[b,#v[R,#v[c]],#v[e]]]]],#v[b,#v[a,3],#v[e]]]]],#v[b,#v[k,H.g__law_next,(H.fn__law_next).callee,((uL H).less (by decide)),#v[b,#v[a,0],#v[b,#v[k,H.b_range,.type _,jx.less (aE _),#v[b,#v[d,#v[a,2],#v[c],gU],#v[b,#v[c],#v[e]]]],#v[b,#v[a,3],#v[e]]]]],#v[e]]]],(.cons (@iC _ _ (by kernel_rfl)) (@gM _ _ (5) (by kernel_rfl) (@jX _ (by kernel_rfl))) (.cons (@iC _ _ (by kernel_rfl)) (@gM _ _ (4) (by kernel_rfl) (@jX _ (by kernel_rfl))) i4.nil)),(fun env h=>by (first|exact VS env|cases env);(first|exact VS h|cases h);kernel_rfl),(fun env h=>by (first|exact VS env|cases env);(first|exact VS h|cases h);kernel_rfl)]
noncomputable def pD:List MV→Option (Fl×List MV):= #[x,(fun ρ=>(#[q,#[4],#[i,0],NV] ρ).bind fun b=>if b then(fun ρ=>(#[q,#[5],#[i,0],NV] ρ).bind fun b=>if b then #[y] ρ else some false) ρ else some false),(gR (qv 1 #[l,#[c,#[b,#[b,#[i,10],#[b,ik #[0] #[4] gH,#[i,0],gH],iD],#[b,#[b,ik #[0] #[2] gH,#[i,0],gH],#[i,10],iX],gY],#[c,#[4],#[c,#[2],#[c,#[5],#v[]]]]]]) #[k]),#[k]]
theorem vn(H:gK L):S1 L #[C,22] jo jd 1 ((false||false)||false) #[N,2,#[F,#[N,1,#[B,22]]]] pD:= #v[N,#v[am,(by exact @pS.and _ _ _ _ _ _ _ _ #v[C,#v[a,4],#v[c],MF] (by exact @pS.and _ _ _ _ _ _ _ _ #v[C,#v[a,5],#v[c],MF] (by exact @pS.NZ _ _ _ _)))],#v[y,#v[ai,#v[A,#v[b,#v[d,#v[d,#v[c],#v[i,#v[i,#v[a,0],#v[a,4]],#v[c]],i6],#v[d,#v[i,#v[i,#v[a,0],#v[a,2]],#v[c]],#v[c],iQ],gU],#v[b,#v[a,4],#v[b,#v[a,2],#v[b,#v[a,5],#v[e]]]]]],(fun env=>by kernel_rfl)],#v[l]],#v[l]]
noncomputable def ri:List MV→Option (Fl×List MV):=(gR pB (gR pC (gR pD #[k])))
theorem yq(H:gK L):SS L #[C,22] jo jd 1 (false||(false||(((false||false)||false)||false))) #[F,#[N,1,#[B,22]]] ri:= #v[v,([hU 0 #[F,#[N,1,#[B,22]]],hU 1 #[F,#[N,1,#[B,22]]],hU 2 #[F,#[N,1,#[B,22]]]]),#v[f,(@vk _ H),#v[f,(@vm _ H),#v[f,(@vn _ H),#v[w]]]]]
noncomputable def rj:List MV→Option (Fl×List MV):=(fun ρ=>(#[f,#[f,#[c,#[i,10],#v[]],jW],itemsOf] ρ).bind fun ps=>nj #[n,2] ri #[k] ρ ps)
theorem yr(H:gK L):S1 L #[C,22] jo jd 1 false #[N,1,#[B,22]] rj:= #v[Q,#v[m,#v[k,H.b_range,.type _,jx.less (aE _),#v[b,#v[c],#v[e]]]],#v[q,#v[g,2]],(fun h=>by (first|exact VS h|cases h)),#v[D,(false||(false||(((false||false)||false)||false))),(by exact @yq _ H)],#v[D,false,#v[l]]]
noncomputable def rk:List MV→Option (Fl×List MV):= #[h,#[f,#[c,#[1],#v[]],zf]]
theorem yt(H:gK L):S1 L #[C,22] jo jd 1 false #[N,2,#[B,22]] rk:= #v[J,#v[k,H.b_sorted,.builtin _,DG.less (aE _),#v[b,#v[a,1],#v[e]]]]
noncomputable def uM:List MV→Option (Fl×List MV):=(gR rh (gR rj (nt 1 (gR rk #[k]))))
theorem Ck(H:gK L):SS L #[C,22] jo jd 1 (true||(false||true)) #[B,22] uM:= #v[v,([hU 0 #[B,22],hU 1 #[B,22],hU 2 #[B,22]]),#v[f,(@yo _ H),#v[f,(@yr _ H),#v[ac,(false||false),(Str.ofString "found"),#v[f,(@yt _ H),#v[w]],#v[g,1]]]]]
noncomputable def kM:List PV→Option PV:=BD 1 5 uM
theorem Cm(H:gK L):iM L 2 (.ref (H.ad 22)) kM:= #v[K,H.fn__law_free,(@Ck _ H)]
noncomputable def nQ:List Str:=[(Str.ofString "dots"),(Str.ofString "letters"),(Str.ofString "ends"),(Str.ofString "outer"),(Str.ofString "middle"),(Str.ofString "last")]
noncomputable def oW:gO:=[((Str.ofString "dots"),0),((Str.ofString "letters"),1),((Str.ofString "ends"),2),((Str.ofString "outer"),3),((Str.ofString "middle"),4),((Str.ofString "last"),5)]
noncomputable def rl:List MV→Option (Fl×List MV):=(fun ρ=>((iL 1 #[f,#[f,#[c,#[i,3],#v[]],jW],itemsOf] #[o,(gX [0] #[n,0]),#[y],#[t,#[c,ik (fun _=>some (.str (Str.ofString "."))) #[b,#[1],#[0],gH] iD,#[c,#[b,#[2],#[0],gH],#v[]]]]]) ρ).bind fun v=>(#[m,[3,4,5]] v ρ).map fun ρ'=>(.next,ρ'))
theorem yu(H:gK L):S1 L #[C,24] oW nQ 0 false #[N,0,#[B,24]] rl:= #v[W,#v[u,[(Str.ofString "k")],#v[m,#v[k,H.b_range,.type _,jx.less (aE _),#v[b,#v[c],#v[e]]]],#v[s,(fun h=>by (first|exact VS h|cases h)),#v[o,[0],#v[q,#v[g,0]]],Keeps.name,#v[t],#v[x,#v[b,#v[d,#v[F],#v[i,#v[a,1],#v[a,0]],i6],#v[b,#v[i,#v[a,2],#v[a,0]],#v[e]]]]]],#v[E,.cons (.cons (.cons ia.nil)),(.cons (@iC _ _ (by kernel_rfl)) (@gM _ _ (3) (by kernel_rfl) (@jX _ (by kernel_rfl))) (.cons (@iC _ _ (by kernel_rfl)) (@gM _ _ (4) (by kernel_rfl) (@jX _ (by kernel_rfl))) (.cons (@iC _ _ (by kernel_rfl)) (@gM _ _ (5) (by kernel_rfl) (@jX _ (by kernel_rfl))) i4.nil)))],(fun env h=>by (first|exact VS env|cases env);(first|exact VS h|cases h);kernel_rfl),(fun env h=>by (first|exact VS env|cases env);(first|exact VS h|cases h);kernel_rfl)]
noncomputable def rm:List MV→Option (Fl×List MV):= #[h,#[b,#[b,#[b,#[b,#[b,#[b,#[b,#[b,#[b,#[3],#[i,0],gH],#[b,#[3],#[i,1],gH],gY],#[b,#[2],#[i,0],gH],gY],#[b,#[4],#[i,1],gH],gY],#[b,#[4],#[i,0],gH],gY],#[b,#[2],#[i,1],gH],gY],#[b,#[5],#[i,0],gH],gY],#[b,#[5],#[i,1],gH],gY],#[b,#[2],#[i,2],gH],gY]]
theorem yv(H:gK L):S1 L #[C,24] oW nQ 0 false #[N,1,#[B,24]] rm:= #v[J,#v[d,#v[d,#v[d,#v[d,#v[d,#v[d,#v[d,#v[d,#v[i,#v[a,3],#v[c]],#v[i,#v[a,3],#v[c]],gU],#v[i,#v[a,2],#v[c]],gU],#v[i,#v[a,4],#v[c]],gU],#v[i,#v[a,4],#v[c]],gU],#v[i,#v[a,2],#v[c]],gU],#v[i,#v[a,5],#v[c]],gU],#v[i,#v[a,5],#v[c]],gU],#v[i,#v[a,2],#v[c]],gU]]
noncomputable def uN:List MV→Option (Fl×List MV):=(gR rl (gR rm #[k]))
theorem Cn(H:gK L):SS L #[C,24] oW nQ 0 (false||(false||false)) #[B,24] uN:= #v[v,([hU 0 #[B,24],hU 1 #[B,24]]),#v[f,(@yu _ H),#v[f,(@yv _ H),#v[w]]]]
noncomputable def j4:List PV→Option PV:=BD 3 3 uN
theorem uO(H:gK L):iM L 1 (.ref (H.ad 24)) j4:= #v[K,H.fn__law_mail,(@Cn _ H)]
noncomputable def ky:List Str:=[(Str.ofString "number"),(Str.ofString "dress"),(Str.ofString "row")]
noncomputable def kZ:gO:=[((Str.ofString "number"),0),((Str.ofString "dress"),1),((Str.ofString "row"),2)]
noncomputable def mr:List MV→Option (Fl×List MV):= #[e,2,#[l,#[c,#[b,#[i,64],#[b,#[0],#[i,4096],iS],gY],#[c,#[b,#[i,64],#[b,#[b,#[0],#[i,64],iS],#[i,64],iX],gY],#[c,#[b,#[0],#[i,64],iX],#v[]]]]]]
theorem vo(H:gK L)(hn:L.exc=none):S1 L #[C,23] kZ ky 0 false #[N,0,#[B,23]] mr:= #v[z,#v[A,#v[b,#v[d,#v[c],#v[d,#v[a,0],#v[c],iW],gU],#v[b,#v[d,#v[c],#v[d,#v[d,#v[a,0],#v[c],iW],#v[c],iQ],gU],#v[b,#v[d,#v[a,0],#v[c],iQ],#v[e]]]]],#v[g,2],(fun env h=>by (first|exact VS env|cases env);(first|exact VS h|cases h);kernel_rfl)]
noncomputable def mu:List MV→Option (Fl×List MV):=(fun ρ=>(iL 2 #[f,#[2],HA] #[o,(gX [0,1] #[m,[0,1]]),#[y],#[b,#[1],#[b,#[i,128],#[b,#[b,#[3],#[b,#[i,2],#[0],lh],iS],#[i,2],iX],iD],gY]] ρ).map fun v=>(.next,ρ.set 2 (.p v)))
theorem vp(H:gK L)(hn:L.exc=none):S1 L #[C,23] kZ ky 0 false #[N,1,#[B,23]] mu:= #v[Z,([(Str.ofString "k"),(Str.ofString "octet")]),(by exact @IE.enum _ _ _ _ hn _ _ _ _ _ (by kernel_rfl) H.b_enumerate #v[a,2] (fun _=>rfl) (by kernel_rfl)),#v[s,(fun _=>rfl),#v[o,[0,1],#v[E,.cons (.cons ia.nil),(.cons (@iC _ _ (by kernel_rfl)) (@gM _ _ (0) (by kernel_rfl) (@jX _ (by kernel_rfl))) (.cons (@iC _ _ (by kernel_rfl)) (@gM _ _ (1) (by kernel_rfl) (@jX _ (by kernel_rfl))) i4.nil))]],Keeps.tup,#v[t],#v[d,#v[a,1],#v[d,#v[c],#v[d,#v[d,#v[a,3],#v[d,#v[c],#v[a,0],oK],iW],#v[c],iQ],i6],gU]],#v[g,2],(fun env h=>by (first|exact VS env|cases env);(first|exact VS h|cases h);kernel_rfl)]
noncomputable def pE:List MV→Option (Fl×List MV):= #[h,#[d,#[2],#[r,#[b,#[f,#[c,#[b,#[0],#[i,64],Fb],#v[]],sv],#[f,#[c,#[b,#[0],#[i,4096],Fb],#v[]],sv],gY],#[b,#[b,#[1],#[i,8],iS],#[i,2],iX],iD,jJ],#[z]]]
theorem vq(H:gK L)(hn:L.exc=none):S1 L #[C,23] kZ ky 0 false #[N,2,#[B,23]] pE:= #v[J,#v[I,#v[a,2],#v[B,#v[d,#v[d,#v[k,H.b_int,.type _,zQ.less (aE _),#v[b,#v[ad,#v[a,0],#v[c],Be],#v[e]]],#v[k,H.b_int,.type _,zQ.less (aE _),#v[b,#v[ad,#v[a,0],#v[c],Be],#v[e]]],gU],#v[d,#v[d,#v[a,1],#v[c],iW],#v[c],iQ],i6]],#v[P]]]
noncomputable def nR:List MV→Option (Fl×List MV):=(gR mr (gR mu (gR pE #[k])))
theorem yw(H:gK L)(hn:L.exc=none):SS L #[C,23] kZ ky 0 (false||(false||(false||false))) #[B,23] nR:= #v[v,([hU 0 #[B,23],hU 1 #[B,23],hU 2 #[B,23]]),#v[f,(@vo _ H hn),#v[f,(@vp _ H hn),#v[f,(@vq _ H hn),#v[w]]]]]
noncomputable def lW:List PV→Option PV:=BD 2 1 nR
theorem yx(H:gK L)(hn:L.exc=none):iM L 1 (.ref (H.ad 23)) lW:= #v[K,H.fn__law_octets,(@yw _ H hn)]
end
end
section
open PySem PyProof.Rows
theorem Nu(x:Int):aC.bitAnd x 63=x%64:=bitAnd_m6 x
theorem SD(x:Int):aC.bitAnd x 64=(x/64%2)*64:=PySem.W.kbt_bit x 6
theorem I1(x:Int):aC.bitAnd x 0=0:=by have:=bitAnd_range x (y:=0) (by decide);omega
theorem I2(x y:Int):aC.bitAnd (2*x) y=2*aC.bitAnd x (y/2):=by
 rw[PySem.W.kbt_halves,if_neg (by omega),show 2*x/2=x by omega];omega
theorem LG(x:Int): ∀(k:Nat) (y:Int),aC.bitAnd (x*2^k) y=aC.bitAnd x (y/2^k)*2^k:=by
 intro k
 induction k with
 |zero=>exact @fun y=>by rw[Int.pow_zero,gq,Int.ediv_one,gq]
 |succ k iu=>exact @fun y=>by rw[eN,←dP,fR _ 2,I2,iu,fR _ 2,Int.ediv_ediv_of_nonneg (by decide),Int.mul_left_comm]
theorem XI(v h:Int)(h0:0≤h)(h1:h<64):aC.bitOr (v*64) h=v*64+h:=by
 rw[bitOr_and,show aC.bitAnd (v*64) h=aC.bitAnd v (h/64)*64 from LG v 6 h,eP h0 h1,I1,fP,Int.sub_zero]
noncomputable def vT:List MV→Option Bool:=fun ρ=>(#[b,#[1],#[i,64],ux] ρ).bind mJ
noncomputable def vB:List MV→Option (Option Fl×List MV):=(qc (fun ρ=>((fun ρ=>(gQ ρ[2]?).bind fun a=>(#[i,6] ρ).bind fun b=>(vW a b).map fun v=>(.next,ρ.set 2 (.p v))) ρ).map fun r=>(some r.1,r.2)) (qc (y4 0 1) (qc (fun ρ=>((fun ρ=>(gQ ρ[2]?).bind fun a=>(#[b,#[1],#[i,63],ux] ρ).bind fun b=>(NT a b).map fun v=>(.next,ρ.set 2 (.p v))) ρ).map fun r=>(some r.1,r.2)) (fun ρ=>some (some .next,ρ)))))
theorem Nv(it:MV)(b v:Int):vT [it,.p (.int b),.p (.int v)]=some (b/64%2*64 !=0):=congrArg (fun x=>some (x !=0)) (SD b)
theorem Nw{it:MV}{b v:Int}(h:b/64%2=1):vT [it,.p (.int b),.p (.int v)]=some true:=by rw[Nv,h];rfl
theorem SF{v:Int}(hv0:0≤v)(hv:v<1000000):vW (.int v) (.int 6)=some (.int (v*64)):=if_pos (by unfold small;rw[dR,dR,decide_eq_true_eq];exact⟨⟨by omega,rfl⟩,rfl⟩)
theorem LH{b v x:Int}{r:List PV}(hv0:0≤v)(hv:v<1000000):vB [.mj (.int x::r),.p (.int b),.p (.int v)]=some (some .next,[.mj r,.p (.int x),.p (.int (v*64+x%64))]):=by
 refine(gI (hJ (hJ (SF hv0 hv)))).trans ((gI (o:=y4 0 1 _) rfl).trans ?_)
 exact congrArg (fun z=>some (some Fl.next,[MV.mj r,.p (.int x),.p (.int z)])) ((congrArg _ (Nu x)).trans (XI _ _ (gu _ (by decide)) (fF _ (by decide))))
theorem LI{b v:Int}(hv0:0≤v)(hv:v<1000000):vB [.mj [],.p (.int b),.p (.int v)]=some (none,[.mj [],.p (.int b),.p (.int (v*64))]):=(gI (hJ (hJ (SF hv0 hv)))).trans rfl
theorem vO{n:Nat}{b v x:Int}{r:List PV}(hv0:0≤v)(hv:v<1000000)(hb:b/64%2=1):mq vT vB (n+1) [.mj (.int x::r),.p (.int b),.p (.int v)]=mq vT vB n [.mj r,.p (.int x),.p (.int (v*64+x%64))]:=
 (gI (Nw hb)).trans (gI (LH hv0 hv))
theorem DL{n:Nat}{b v:Int}{it:MV}(hb:b/64%2=0):mq vT vB (n+1) [it,.p (.int b),.p (.int v)]=some (some .next,[it,.p (.int b),.p (.int v)]):=
 gI (a:=false) (by rw[Nv,hb];rfl)
theorem EG{n:Nat}{b v:Int}(hv0:0≤v)(hv:v<1000000)(hb:b/64%2=1):mq vT vB (n+1) [.mj [],.p (.int b),.p (.int v)]=some (none,[.mj [],.p (.int b),.p (.int (v*64))]):=
 (gI (Nw hb)).trans (gI (LI hv0 hv))
theorem XJ:g0=qc (y4 0 1) (qc (fun ρ=>(#[e,2,#[b,#[1],#[i,63],ux]] ρ).map fun r=>(some r.1,r.2)) (qc (mq vT vB 40) (qc (fun ρ=>(#[h,#[2]] ρ).map fun r=>(some r.1,r.2)) (fun ρ=>some (some .next,ρ))))):=rfl
theorem xj{x:Int}{r:List PV}:g0 (.mj (.int x::r)::List.replicate 2 .un)=qc (mq vT vB 40) (qc (fun ρ=>(#[h,#[2]] ρ).map fun r=>(some r.1,r.2)) (fun ρ=>some (some .next,ρ))) [.mj r,.p (.int x),.p (.int (x%64))]:=by
 rw[XJ,←Nu x]
 rfl
theorem DM{x y v:Int}{r r':List PV}(h:mq vT vB 40 [.mj r,.p (.int x),.p (.int (x%64))]=some (some .next,[.mj r',.p (.int y),.p (.int v)])):GF 2 g0 (.int x::r)=some (v,r'):=
 gI (xj.trans (gI h))
theorem VE(h c:Int)(h0:0≤h)(h1:h<64):(h+64*c)%64=h∧(h+64*c)/64=c:=
 ⟨(Int.add_mul_emod_self_left ..).trans (Int.emod_eq_of_lt h0 h1),(Int.add_mul_ediv_left _ _ (by decide)).trans (by rw[eP h0 h1,dF])⟩
theorem DN(h b:Int)(h0:0≤h)(h1:h<64):(64+h+128*b)%64=h∧(64+h+128*b)/64%2=1:=by
 have e:64+h+128*b=h+64*(1+2*b):=by rw[fg,←dP,←Int.add_assoc,bh 64 h];rfl
 rw[e];exact⟨(VE h _ h0 h1).1,(congrArg (· %2) (VE h _ h0 h1).2).trans (Int.add_mul_emod_self_left 1 2 b)⟩
theorem F6(h b:Int)(h0:0≤h)(h1:h<64):(h+128*b)%64=h∧(h+128*b)/64%2=0:=by
 have e:h+128*b=h+64*(2*b):=by rw[←dP];rfl
 rw[e];exact⟨(VE h _ h0 h1).1,(congrArg (· %2) (VE h _ h0 h1).2).trans (Int.mul_emod_right 2 b)⟩
theorem F7(n:Int):0≤n%64:=gu _ (by decide)
theorem F8(n:Int):n%64<64:=fF _ (by decide)
theorem EH{v w:Int}{n:Int}(h0:0≤v)(h1:v<n)(h2:0≤w)(h3:w<64):0≤v*64+w∧v*64+w<n*64:=
 ⟨Int.add_nonneg (Int.mul_nonneg h0 (by decide)) h2,Int.lt_of_lt_of_le (Int.add_lt_add_left h3 _) (by have:=Int.mul_le_mul_of_nonneg_right h1 (by decide:(0:Int)≤64);rwa [Int.add_mul] at this)⟩
theorem Pn{h b:Int}{r:List PV}(h0:0≤h)(h1:h<64):GF 2 g0 (.int (h+128*b)::r)=some (h,r):=
 (DM (DL (F6 h b h0 h1).2)).trans (by rw[(F6 h b h0 h1).1])
theorem Po{h k b c:Int}{r:List PV}(h0:0≤h)(h1:h<64)(k0:0≤k)(k1:k<64):GF 2 g0 (.int (64+h+128*b):: .int (k+128*c)::r)=some (h*64+k,r):=
 (DM ((vO (F7 _) (dI (F8 _) (by decide)) (DN h b h0 h1).2).trans (DL (F6 k c k0 k1).2))).trans (by rw[(DN h b h0 h1).1,(F6 k c k0 k1).1])
theorem I3{h k l b c d:Int}{r:List PV}(h0:0≤h)(h1:h<64)(k0:0≤k)(k1:k<64)(l0:0≤l)(l1:l<64):GF 2 g0 (.int (64+h+128*b):: .int (64+k+128*c):: .int (l+128*d)::r)=some ((h*64+k)*64+l,r):=
 have s:=EH (F7 (64+h+128*b)) (F8 _) (F7 (64+k+128*c)) (F8 _)
 (DM ((vO (F7 _) (dI (F8 _) (by decide)) (DN h b h0 h1).2).trans ((vO s.1 (dI s.2 (by decide)) (DN k c k0 k1).2).trans (DL (F6 l d l0 l1).2)))).trans (by rw[(DN h b h0 h1).1,(DN k c k0 k1).1,(F6 l d l0 l1).1])
theorem LJ{x:Int}(hx:x/64%2=1): ∀m≤2,∃J2,g0 (.mj (List.replicate m (.int x))::List.replicate 2 .un)=some (none,J2)
 |0,_=>⟨_,rfl⟩
 |1,_=>⟨_,xj.trans (gI (EG (F7 _) (dI (F8 _) (by decide)) hx))⟩
 |2,_=>
  have s:=EH (F7 x) (F8 _) (F7 x) (F8 _)
  ⟨_,xj.trans (gI ((vO (F7 _) (dI (F8 _) (by decide)) hx).trans (EG s.1 (dI s.2 (by decide)) hx)))⟩
 |m+3,h=>absurd h (by omega)
noncomputable def DO(n d:Int):List Int:=([64+n.fdiv 4096+128*(d.fdiv (2^0)).fmod 2,64+(n.fdiv 64).fmod 64+128*(d.fdiv (2^1)).fmod 2,n.fmod 64+128*(d.fdiv (2^2)).fmod 2]).drop (((if decide (n<64) then 1 else 0)+(if decide (n<4096) then 1 else 0))*((d.fdiv 8).fmod 2).toNat)
theorem F9{n d:Int}(h0:0≤n)(h1:n<262144)(r:List PV):GF 2 g0 ((DO n d).map .int++r)=some (n,r):=by
 unfold DO
 rw[cu n (by decide),cu n (by decide),cu _ (by decide:(0:Int)≤8),bK n (by decide),bK _ (by decide:(0:Int)≤64),bK (d/8) (by decide)]
 have e:(n/4096*64+n/64%64)*64+n%64=n:=by rw[show n/4096=n/64/64 from(Int.ediv_ediv_of_nonneg (x:=n) (y:=64) (z:=64) (by decide)).symm,Int.ediv_mul_add_emod,Int.ediv_mul_add_emod]
 have h2:0≤n/4096:=Int.ediv_nonneg h0 (by decide)
 have three:=I3 (b:=(d.fdiv (2^0)).fmod 2) (c:=(d.fdiv (2^1)).fmod 2) (d:=(d.fdiv (2^2)).fmod 2) (r:=r) h2 (Int.ediv_lt_of_lt_mul (by decide) h1) (F7 (n/64)) (F8 _) (F7 n) (F8 _)
 rw[e] at three
 rcases eT (d/8) with h|h<;>rw[h]
 ·exact three
 ·by_cases c1:n<64
  ·rw[if_pos (decide_eq_true c1),if_pos (decide_eq_true (dI c1 (by decide)))]
   exact(Pn (F7 n) (F8 n)).trans (by rw[Int.emod_eq_of_lt h0 c1];rfl)
  ·by_cases c2:n<4096
   ·rw[decide_eq_false c1,if_pos (decide_eq_true c2)]
    rw[eP h0 c2,fP,dF] at e
    exact(Po (F7 (n/64)) (F8 _) (F7 n) (F8 n)).trans (by rw[e];rfl)
   ·rw[decide_eq_false c1,decide_eq_false c2]
    exact three
end
section
open PySem PyProof.Rows
noncomputable def iR(l:List Nat):PV:= .str ⟨l.toArray⟩
theorem Au{rep:List Nat}{F:List Nat→List Nat}{r:Str}{l:List Nat}(hr:r.cps.toList=rep)(hl:l.length≤10000):B0 rep F [.str r,iR l]=some (iR (F l)):=by
 show(if r.cps.toList=rep∧l.toArray.size≤10000 then some (PV.str ⟨(F l.toArray.toList).toArray⟩) else none)=_
 rw[if_pos ⟨hr,by simpa using hl⟩,bM]
 rfl
theorem I4{l:List Nat}(hl:l.length≤4000):qh [iR l]=some (iR (jM true (iZ false l))):=by
 have h1:B0 [13,10] (iZ false) [.str (Str.ofString "\r\n"),iR l]=some (iR (iZ false l)):=Au (by decide+kernel) (by omega)
 have KN:(iZ false l).length≤2*l.length:=tI l false
 have h2:B0 [46,46] (jM true) [.str (Str.ofString ".."),iR (iZ false l)]=some (iR (jM true (iZ false l))):=Au (by decide+kernel) (by omega)
 refine nH rfl rfl (ρ:=[.p (iR l)]) (ρ':=[.p (iR l)]) (j1 ?_)
 unfold nO
 simp only[ez,DI,fH,eD,DJ,if_true,h1,h2]
theorem Pp{l:List Nat}(hl:l.length≤4000):qi [iR l]=some (iR (iZ false l)):=by
 have h1:B0 [13,10] (iZ false) [.str (Str.ofString "\r\n"),iR l]=some (iR (iZ false l)):=Au (by decide+kernel) (by omega)
 refine nH rfl rfl (ρ:=[.p (iR l)]) (ρ':=[.p (iR l)]) (j1 ?_)
 unfold nP
 simp only[ez,DI,fH,eD,DJ,if_true,h1]
noncomputable def yy(l:List Nat):PV:= .bytes (l.map (·.toUInt8)).toArray
theorem LK{l:List Nat}(hb: ∀c∈l,c<256):(l.map (·.toUInt8)).map (·.toNat)=l:=by
 rw[bL]
 conv=>rhs;rw[←List.map_id l]
 refine dZ fun c hc=> ?_
 have:=hb c hc
 simp
 omega
theorem LL{l:List Nat}(hl:l.length≤8000)(hb: ∀c∈l,c<256):lA [yy l]=some (yy (jM true l)):=by
 have h1:subB [46,46] (jM true) [.bytes ([46,46]:List UInt8).toArray,yy l]=some (yy (jM true l)):=by
  show(if (([46,46]:List UInt8).toArray.toList.map (·.toNat))=[46,46]∧(l.map (·.toUInt8)).toArray.size≤10000 then some (PV.bytes ((jM true (((l.map (·.toUInt8)).toArray.toList).map (·.toNat))).map (·.toUInt8)).toArray) else none)=_
  rw[if_pos ⟨by decide+kernel,by simp;omega⟩,bM,LK hb]
  rfl
 refine nH rfl rfl (ρ:=[.p (yy l)]) (ρ':=[.p (yy l)]) (j1 ?_)
 unfold kD
 simp only[ez,DI,fH,eD,DJ,if_true,h1]
end
section
open PySem PyProof.Rows
section
variable {L:ig}
noncomputable def gJ:List Str:=[(Str.ofString "cells"),(Str.ofString "starts"),(Str.ofString "keys"),(Str.ofString "names"),(Str.ofString "tops"),(Str.ofString "pairs"),(Str.ofString "triples"),(Str.ofString "shift"),(Str.ofString "plan"),(Str.ofString "extra"),(Str.ofString "asked"),(Str.ofString "numbers"),(Str.ofString "octets"),(Str.ofString "tape"),(Str.ofString "none"),(Str.ofString "table"),(Str.ofString "rows"),(Str.ofString "turn"),(Str.ofString "free"),(Str.ofString "places"),(Str.ofString "told"),(Str.ofString "triple"),(Str.ofString "first"),(Str.ofString "middle"),(Str.ofString "last"),(Str.ofString "outer"),(Str.ofString "inner"),(Str.ofString "other"),(Str.ofString "near"),(Str.ofString "between"),(Str.ofString "far"),(Str.ofString "kept"),(Str.ofString "gaps"),(Str.ofString "verdict"),(Str.ofString "some"),(Str.ofString "least"),(Str.ofString "lack"),(Str.ofString "dots"),(Str.ofString "letters"),(Str.ofString "mail"),(Str.ofString "sent"),(Str.ofString "due"),(Str.ofString "turned"),(Str.ofString "words")]
noncomputable def gL:gO:=[((Str.ofString "cells"),0),((Str.ofString "starts"),1),((Str.ofString "keys"),2),((Str.ofString "names"),3),((Str.ofString "tops"),4),((Str.ofString "pairs"),5),((Str.ofString "triples"),6),((Str.ofString "shift"),7),((Str.ofString "plan"),8),((Str.ofString "extra"),9),((Str.ofString "asked"),10),((Str.ofString "numbers"),11),((Str.ofString "octets"),12),((Str.ofString "tape"),13),((Str.ofString "none"),14),((Str.ofString "table"),15),((Str.ofString "rows"),16),((Str.ofString "turn"),17),((Str.ofString "free"),18),((Str.ofString "places"),19),((Str.ofString "told"),20),((Str.ofString "triple"),21),((Str.ofString "first"),22),((Str.ofString "middle"),23),((Str.ofString "last"),24),((Str.ofString "outer"),25),((Str.ofString "inner"),26),((Str.ofString "other"),27),((Str.ofString "near"),28),((Str.ofString "between"),29),((Str.ofString "far"),30),((Str.ofString "kept"),31),((Str.ofString "gaps"),32),((Str.ofString "verdict"),33),((Str.ofString "some"),34),((Str.ofString "least"),35),((Str.ofString "lack"),36),((Str.ofString "dots"),37),((Str.ofString "letters"),38),((Str.ofString "mail"),39),((Str.ofString "sent"),40),((Str.ofString "due"),41),((Str.ofString "turned"),42),((Str.ofString "words"),43)]
noncomputable def oX:List MV→Option (Fl×List MV):= #[e,3,#[l,(fun _=>some [.str (Str.ofString "OPTIMIZED"),.str (Str.ofString "NEWLOCALS"),.str (Str.ofString "VARARGS"),.str (Str.ofString "VARKEYWORDS"),.str (Str.ofString "NESTED"),.str (Str.ofString "GENERATOR"),.str (Str.ofString "NOFREE"),.str (Str.ofString "COROUTINE")])]]
theorem Av(H:gK L)(hn:L.exc=none):S1 L #[C,25] gL gJ 2 false #[N,0,#[B,25]] oX:= #v[z,#v[A,#v[Y]],#v[g,3],(fun env h=>by (first|exact VS env|cases env);(first|exact VS h|cases h);kernel_rfl)]
noncomputable def oY:List MV→Option (Fl×List MV):= #[e,3,#[b,#[b,#[3],#[l,#[c,(fun _=>some (.str (Str.ofString "ITERABLE_COROUTINE"))),#[c,(fun _=>some (.str (Str.ofString "ASYNC_GENERATOR"))),#v[]]]],gY],(iL 1 #[f,#[f,#[c,#[i,10],#[c,#[i,32],#v[]]],jW],itemsOf] #[o,(gX [0] #[n,0]),#[y],#[b,#[b,(fun _=>some (.str (Str.ofString "0x"))),#[b,(fun _=>some (.str (Str.ofString "1248"))),#[b,#[0],#[i,4],iX],gH],gY],#[b,(fun _=>some (.str (Str.ofString "0"))),#[b,#[0],#[i,4],iS],iD],gY]]),gY]]
theorem Aw(H:gK L)(hn:L.exc=none):S1 L #[C,25] gL gJ 2 false #[N,1,#[B,25]] oY:= #v[z,#v[d,#v[d,#v[a,3],#v[A,#v[b,#v[F],#v[b,#v[F],#v[e]]]],gU],#v[u,[(Str.ofString "k")],#v[m,#v[k,H.b_range,.type _,jx.less (aE _),#v[b,#v[c],#v[b,#v[c],#v[e]]]]],#v[s,(fun h=>by (first|exact VS h|cases h)),#v[o,[0],#v[q,#v[g,0]]],Keeps.name,#v[t],#v[d,#v[d,#v[F],#v[i,#v[F],#v[d,#v[a,0],#v[c],iQ]],gU],#v[d,#v[F],#v[d,#v[a,0],#v[c],iW],i6],gU]]],gU],#v[g,3],(fun env h=>by (first|exact VS env|cases env);(first|exact VS h|cases h);kernel_rfl)]
noncomputable def oZ:List MV→Option (Fl×List MV):= #[e,4,#[l,(fun _=>some [.str (Str.ofString "0x0"),.str (Str.ofString "0x100000000"),.str (Str.ofString "0x200000000")])]]
theorem Ax(H:gK L)(hn:L.exc=none):S1 L #[C,25] gL gJ 2 false #[N,2,#[B,25]] oZ:= #v[z,#v[A,#v[Y]],#v[g,4],(fun env h=>by (first|exact VS env|cases env);(first|exact VS h|cases h);kernel_rfl)]
noncomputable def o3:List MV→Option (Fl×List MV):=(fun ρ=>(#[t,#[c,#[l,(fun _=>some [.int 1,.int 2,.int 3,.int 4,.int 12,.int 13,.int 14,.int 23,.int 24,.int 34])],#[c,#[l,(fun _=>some [.int 12,.int 13,.int 14,.int 23,.int 24,.int 34,.int 123,.int 124,.int 134,.int 234])],#v[]]]] ρ).bind fun v=>(#[m,[5,6]] v ρ).map fun ρ'=>(.next,ρ'))
theorem Ay(H:gK L)(hn:L.exc=none):S1 L #[C,25] gL gJ 2 false #[N,3,#[B,25]] o3:= #v[W,#v[x,#v[b,#v[A,#v[Y]],#v[b,#v[A,#v[Y]],#v[e]]]],#v[E,.cons (.cons ia.nil),(.cons (@iC _ _ (by kernel_rfl)) (@gM _ _ (5) (by kernel_rfl) (@jX _ (by kernel_rfl))) (.cons (@iC _ _ (by kernel_rfl)) (@gM _ _ (6) (by kernel_rfl) (@jX _ (by kernel_rfl))) i4.nil))],(fun env h=>by (first|exact VS env|cases env);(first|exact VS h|cases h);kernel_rfl),(fun env h=>by (first|exact VS env|cases env);(first|exact VS h|cases h);kernel_rfl)]
noncomputable def o4:List MV→Option (Fl×List MV):=(fun ρ=>(#[t,#[c,#[b,#[b,#[0],#[i,1],gH],#[i,23],iX],#[c,#[b,#[b,#[0],#[i,1],gH],#[i,69],iS],#[c,#[i,0],#[c,#[i,0],#v[]]]]]] ρ).bind fun v=>(#[m,[7,8,9,10]] v ρ).map fun ρ'=>(.next,ρ'))
theorem Az(H:gK L)(hn:L.exc=none):S1 L #[C,25] gL gJ 2 false #[N,4,#[B,25]] o4:= #v[W,#v[x,#v[b,#v[d,#v[i,#v[a,0],#v[c]],#v[c],iQ],#v[b,#v[d,#v[i,#v[a,0],#v[c]],#v[c],iW],#v[b,#v[c],#v[b,#v[c],#v[e]]]]]],#v[E,.cons (.cons (.cons (.cons ia.nil))),(.cons (@iC _ _ (by kernel_rfl)) (@gM _ _ (7) (by kernel_rfl) (@jX _ (by kernel_rfl))) (.cons (@iC _ _ (by kernel_rfl)) (@gM _ _ (8) (by kernel_rfl) (@jX _ (by kernel_rfl))) (.cons (@iC _ _ (by kernel_rfl)) (@gM _ _ (9) (by kernel_rfl) (@jX _ (by kernel_rfl))) (.cons (@iC _ _ (by kernel_rfl)) (@gM _ _ (10) (by kernel_rfl) (@jX _ (by kernel_rfl))) i4.nil))))],(fun env h=>by (first|exact VS env|cases env);(first|exact VS h|cases h);kernel_rfl),(fun env h=>by (first|exact VS env|cases env);(first|exact VS h|cases h);kernel_rfl)]
noncomputable def o5:List MV→Option (Fl×List MV):= #[e,11,(iL 1 #[f,#[d,#[0],#[f,#[i,2],jJ],#[f,#[i,7],jJ]],itemsOf] #[o,(gX [0] #[n,0]),#[y],#[b,#[0],#[i,262144],iX]])]
theorem AA(H:gK L)(hn:L.exc=none):S1 L #[C,25] gL gJ 2 false #[N,5,#[B,25]] o5:= #v[z,#v[u,[(Str.ofString "cell")],#v[m,#v[I,#v[a,0],#v[B,#v[c]],#v[B,#v[c]]]],#v[s,(fun h=>by (first|exact VS h|cases h)),#v[o,[0],#v[q,#v[g,0]]],Keeps.name,#v[t],#v[d,#v[a,0],#v[c],iQ]]],#v[g,11],(fun env h=>by (first|exact VS env|cases env);(first|exact VS h|cases h);kernel_rfl)]
noncomputable def o6:List MV→Option (Fl×List MV):=(fun ρ=>(iL 2 #[f,#[f,#[c,#[i,5],#v[]],jW],itemsOf] (jV (sk (gX [0] #[n,0]) #[y] #[f,#[f,#[c,ik #[13] #[0] gH,#[c,#[b,#[b,#[2],#[i,7],gH],#[b,#[i,16],#[0],lh],iS],#v[]]],lW],itemsOf] #[o,(gX [1] #[n,1]),#[y],#[1]])) ρ).map fun v=>(.next,ρ.set 12 (.p v)))
theorem AB(H:gK L)(hn:L.exc=none):S1 L #[C,25] gL gJ 2 false #[N,6,#[B,25]] o6:= #v[Z,([(Str.ofString "k"),(Str.ofString "octet")]),#v[m,#v[k,H.b_range,.type _,jx.less (aE _),#v[b,#v[c],#v[e]]]],(by exact @CJ.more _ _ _ _ _ _ _ _ _ _ _ _ _ _ _ _ _ _ _ _ _ _ rfl rfl (fun h=>by (first|exact VS h|cases h)) #v[o,[0],#v[q,#v[g,0]]] Keeps.name #v[t] #v[m,#v[k,H.g__law_octets,(H.fn__law_octets).callee,((yx H hn).less (by decide)),#v[b,#v[i,#v[a,13],#v[a,0]],#v[b,#v[d,#v[i,#v[a,2],#v[c]],#v[d,#v[c],#v[a,0],oK],iW],#v[e]]]]] #v[s,(fun h=>by (first|exact VS h|cases h)),#v[o,[1],#v[q,#v[g,1]]],Keeps.name,#v[t],#v[a,1]] (fun _ _=>rfl)),#v[g,12],(fun env h=>by (first|exact VS env|cases env);(first|exact VS h|cases h);kernel_rfl)]
noncomputable def o7:List MV→Option (Fl×List MV):=(Fu 44 13 #[f,#[c,#[b,#[12],#[b,#[l,#[c,#[b,#[i,64],#[b,#[b,#[0],#[i,8],gH],#[i,64],iX],gY],#v[]]],#[b,#[b,#[b,#[0],#[i,8],gH],#[i,64],iS],#[i,3],iX],iD],gY],#v[]],Im])
theorem AD(H:gK L)(hn:L.exc=none):S1 L #[C,25] gL gJ 2 true #[N,7,#[B,25]] o7:= #v[ab,#v[ak,H.b_iter,.builtin _,Io.less (aE _),#v[b,#v[d,#v[a,12],#v[d,#v[A,#v[b,#v[d,#v[c],#v[d,#v[i,#v[a,0],#v[c]],#v[c],iQ],gU],#v[e]]],#v[d,#v[d,#v[i,#v[a,0],#v[c]],#v[c],iW],#v[c],iQ],i6],gU],#v[e]]],#v[g,13],(fun env h=>by (first|exact VS env|cases env);(first|exact VS h|cases h);kernel_rfl)]
noncomputable def o8:List MV→Option (Fl×List MV):=(Nr 44 14 15 #[t,#[c,#[i,0],#[c,#[i,0],#[c,#[i,0],#[c,#[i,0],#[c,(fun _=>some (.ja [] [])),#v[]]]]]]] #[f,#[c,(iL 1 #[f,#[f,#[c,#[i,10],#v[]],jW],itemsOf] #[o,(gX [0] #[n,0]),#[y],#[t,#[c,#[b,#[6],#[0],gH],#[c,#[f,#[c,#[b,#[2],#[0],gH],#v[]],kW],#v[]]]]]),#v[]],mh])
theorem AE(H:gK L)(hn:L.exc=none):S1 L #[C,25] gL gJ 2 true #[N,8,#[B,25]] o8:=(@S1.Xy _ _ _ _ _ _ _ _ _ _ _ _ _ _ ((Str.ofString "none")) ((Str.ofString "table")) _ _ _ _ #v[x,#v[b,#v[c],#v[b,#v[c],#v[b,#v[c],#v[b,#v[c],#v[b,(by exact @SE.QD _ _ _ _ _),#v[e]]]]]]] #v[ak,H.b_dict,.type _,qg.less (aE _),#v[b,#v[u,[(Str.ofString "k")],#v[m,#v[k,H.b_range,.type _,jx.less (aE _),#v[b,#v[c],#v[e]]]],#v[s,(fun h=>by (first|exact VS h|cases h)),#v[o,[0],#v[q,#v[g,0]]],Keeps.name,#v[t],#v[x,#v[b,#v[i,#v[a,6],#v[a,0]],#v[b,#v[k,H.g__law_entry,(H.fn__law_entry).callee,((oS H).less (by decide)),#v[b,#v[i,#v[a,2],#v[a,0]],#v[e]]],#v[e]]]]]],#v[e]]] #v[j] #v[j] #v[g,14] #v[g,15] (by kernel_rfl) (fun _=>rfl) (fun _=>rfl) (fun env h=>by (first|exact VS env|cases env);(first|exact VS h|cases h);kernel_rfl) (fun env h=>by (first|exact VS env|cases env);(first|exact VS h|cases h);kernel_rfl))
noncomputable def o9:List MV→Option (Fl×List MV):= #[e,16,(iL 1 #[f,#[5],itemsOf] #[o,(gX [0] #[n,0]),#[y],#[l,#[c,#[0],#[c,#[b,#[b,#[0],#[i,10],iX],#[b,#[0],#[i,10],iS],kO],#v[]]]]])]
theorem AF(H:gK L)(hn:L.exc=none):S1 L #[C,25] gL gJ 2 false #[N,9,#[B,25]] o9:= #v[z,#v[u,[(Str.ofString "pair")],#v[m,#v[a,5]],#v[s,(fun h=>by (first|exact VS h|cases h)),#v[o,[0],#v[q,#v[g,0]]],Keeps.name,#v[t],#v[A,#v[b,#v[a,0],#v[b,#v[d,#v[d,#v[a,0],#v[c],iQ],#v[d,#v[a,0],#v[c],iW],ml],#v[e]]]]]],#v[g,16],(fun env h=>by (first|exact VS env|cases env);(first|exact VS h|cases h);kernel_rfl)]
noncomputable def jN:List MV→Option (Fl×List MV):= #[x,#[q,#[b,#[17],#[i,2],iX],#[i,0],zI],(gR (EA 13 10 2 g0) (gR #[x,#[q,#[10],#[b,#[11],#[b,#[17],#[i,2],iS],gH],pR],(gR #[h,#[j,false]] #[k]),#[k]] #[k])),#[k]]
theorem vt(H:gK L)(hn:L.exc=none):S1 L #[C,25] gL gJ 2 ((false||(((false||false)||false)||false))||false) #[N,0,#[F,#[N,10,#[B,25]]]] jN:= #v[N,#v[C,#v[d,#v[a,17],#v[c],iQ],#v[c],Eb],#v[y,(by exact @S1.OV _ _ _ _ _ _ (by decide) hn _ _ _ _ _ _ _ _ _ (@pz _ H hn) _ _ _ _ _ _ _ _ _ _ (by kernel_rfl) H.g__parse_varint #v[g,13] #v[j] #v[g,10] (by kernel_rfl) (by kernel_rfl) (fun env h=>by (first|exact VS env|cases env);(first|exact VS h|cases h);kernel_rfl)),#v[y,#v[ae,#v[C,#v[a,10],#v[i,#v[a,11],#v[d,#v[a,17],#v[c],iW]],sh],#v[y,#v[O,#v[aa]],#v[l]],#v[l]],#v[l]]],#v[l]]
noncomputable def mw:List MV→Option (Fl×List MV):=(fun ρ=>(#[t,#[c,#[f,#[c,#[16],#v[]],kM],#[c,#[b,#[b,#[b,#[b,#[0],#[i,1],gH],#[i,23],iS],#[17],gY],#[i,3],iX],#v[]]]] ρ).bind fun v=>(lj v).bind fun l=>(pU [9,18] l.reverse ρ).map fun ρ'=>(.next,ρ'))
theorem vu(H:gK L)(hn:L.exc=none):S1 L #[C,25] gL gJ 2 false #[N,1,#[F,#[N,10,#[B,25]]]] mw:= #v[X,([(Str.ofString "free"),(Str.ofString "extra")]),#v[x,#v[b,#v[k,H.g__law_free,(H.fn__law_free).callee,((Cm H).less (by decide)),#v[b,#v[a,16],#v[e]]],#v[b,#v[d,#v[d,#v[d,#v[i,#v[a,0],#v[c]],#v[c],iW],#v[a,17],gU],#v[c],iQ],#v[e]]]],(.cons (@iC _ _ (by kernel_rfl)) (@gM _ _ (9) (by kernel_rfl) (@jX _ (by kernel_rfl))) (.cons (@iC _ _ (by kernel_rfl)) (@gM _ _ (18) (by kernel_rfl) (@jX _ (by kernel_rfl))) i4.nil)),(fun env h=>by (first|exact VS env|cases env);(first|exact VS h|cases h);kernel_rfl),(fun env h=>by (first|exact VS env|cases env);(first|exact VS h|cases h);kernel_rfl)]
noncomputable def mx:List MV→Option (Fl×List MV):=(fun ρ=>(iL 1 #[f,#[18],itemsOf] #[o,(gX [0] #[n,0]),#[y],#[b,#[8],(fun ρ=>(#[7] ρ).bind fun p=>(#[c,#[b,#[0],#[i,0],gH],#v[]] ρ).bind fun ps=>kS p ps),gY]] ρ).map fun v=>(.next,ρ.set 19 (.p v)))
theorem vv(H:gK L)(hn:L.exc=none):S1 L #[C,25] gL gJ 2 false #[N,2,#[F,#[N,10,#[B,25]]]] mx:= #v[Z,[(Str.ofString "one")],#v[m,#v[a,18]],#v[s,(fun h=>by (first|exact VS h|cases h)),#v[o,[0],#v[q,#v[g,0]]],Keeps.name,#v[t],#v[d,#v[a,8],#v[M,#v[a,7],#v[b,#v[i,#v[a,0],#v[c]],#v[e]],wD],gU]],#v[g,19],(fun env h=>by (first|exact VS env|cases env);(first|exact VS h|cases h);kernel_rfl)]
noncomputable def my:List MV→Option (Fl×List MV):= #[e,20,(fun ρ=>(#[f,#[c,#[b,#[f,#[c,(iL 1 #[f,#[19],itemsOf] #[o,(gX [0] #[n,0]),#[y],#[b,#[i,2],#[0],lh]]),#v[]],C9],#[b,#[9],#[b,#[i,2],#[i,32],lh],iD],gY],#v[]],ji] ρ).bind fun p=>(#[c,(fun _=>some (.str (Str.ofString ", "))),#v[]] ρ).bind fun ps=>qw p ps)]
theorem vw(H:gK L)(hn:L.exc=none):S1 L #[C,25] gL gJ 2 false #[N,3,#[F,#[N,10,#[B,25]]]] my:= #v[z,#v[M,#v[k,H.g_pretty_flags,(H.fn_pretty_flags).callee,((mY H).less (by decide)),#v[b,#v[d,#v[k,H.b_sum,.builtin _,(Ou hn).less (aE _),#v[b,#v[u,[(Str.ofString "place")],#v[m,#v[a,19]],#v[s,(fun h=>by (first|exact VS h|cases h)),#v[o,[0],#v[q,#v[g,0]]],Keeps.name,#v[t],#v[d,#v[c],#v[a,0],oK]]],#v[e]]],#v[d,#v[a,9],#v[d,#v[c],#v[c],oK],i6],gU],#v[e]]],#v[b,#v[F],#v[e]],BF],#v[g,20],(fun env h=>by (first|exact VS env|cases env);(first|exact VS h|cases h);kernel_rfl)]
noncomputable def mA:List MV→Option (Fl×List MV):= #[x,#[q,#[20],#[b,(iL 1 #[f,#[19],itemsOf] #[o,(gX [0] #[n,0]),#[y],ik #[4] #[0] gH]),#[b,#[l,#[c,ik #[4] #[9] gH,#v[]]],#[f,#[c,#[b,#[9],#[i,0],xK],#v[]],sv],iD],gY],pR],(gR #[h,#[j,false]] #[k]),#[k]]
theorem vy(H:gK L)(hn:L.exc=none):S1 L #[C,25] gL gJ 2 ((false||false)||false) #[N,4,#[F,#[N,10,#[B,25]]]] mA:= #v[N,#v[C,#v[a,20],#v[d,#v[u,[(Str.ofString "place")],#v[m,#v[a,19]],#v[s,(fun h=>by (first|exact VS h|cases h)),#v[o,[0],#v[q,#v[g,0]]],Keeps.name,#v[t],#v[i,#v[a,4],#v[a,0]]]],#v[d,#v[A,#v[b,#v[i,#v[a,4],#v[a,9]],#v[e]]],#v[k,H.b_int,.type _,zQ.less (aE _),#v[b,#v[ad,#v[a,9],#v[c],Ea],#v[e]]],i6],gU],sh],#v[y,#v[O,#v[aa]],#v[l]],#v[l]]
noncomputable def mB:List MV→Option (Fl×List MV):= #[e,21,#[b,#[6],#[b,(fun ρ=>(#[3] ρ).bind fun p=>(#[c,#[b,#[20],#[b,#[b,#[b,#[10],#[b,#[i,64],#[b,#[17],#[i,2],iX],lh],iS],#[i,64],iX],#[f,#[c,#[18],#v[]],Hq],iX],gH],#v[]] ρ).bind fun ps=>kS p ps),#[7],kO],gH]]
theorem vz(H:gK L)(hn:L.exc=none):S1 L #[C,25] gL gJ 2 false #[N,5,#[F,#[N,10,#[B,25]]]] mB:= #v[z,#v[i,#v[a,6],#v[d,#v[M,#v[a,3],#v[b,#v[i,#v[a,20],#v[d,#v[d,#v[d,#v[a,10],#v[d,#v[c],#v[d,#v[a,17],#v[c],iQ],oK],iW],#v[c],iQ],#v[k,H.b_len,.builtin _,Oq.less (aE _),#v[b,#v[a,18],#v[e]]],iQ]],#v[e]],wD],#v[a,7],ml]],#v[g,21],(fun env h=>by (first|exact VS env|cases env);(first|exact VS h|cases h);kernel_rfl)]
noncomputable def mD:List MV→Option (Fl×List MV):=(fun ρ=>(#[b,(iL 1 #[f,#[18],itemsOf] #[o,(gX [0] #[n,0]),#[q,#[b,#[0],#[i,0],gH],#[22],zI],#[d,#[0],#[f,#[i,1],jJ],#[z]]]),#[i,0],gH] ρ).bind fun v=>(#[m,[22,23,24]] v ρ).map fun ρ'=>(.next,ρ'))
theorem vA(H:gK L)(hn:L.exc=none):S1 L #[C,25] gL gJ 2 false #[N,6,#[F,#[N,10,#[B,25]]]] mD:= #v[W,#v[i,#v[u,[(Str.ofString "one")],#v[m,#v[a,18]],#v[s,(fun h=>by (first|exact VS h|cases h)),#v[o,[0],#v[q,#v[g,0]]],Keeps.name,(by exact @nK.one _ _ _ _ _ _ #v[C,#v[i,#v[a,0],#v[c]],#v[a,22],Eb]),#v[I,#v[a,0],#v[B,#v[c]],#v[P]]]],#v[c]],#v[E,.cons (.cons (.cons ia.nil)),(.cons (@iC _ _ (by kernel_rfl)) (@gM _ _ (22) (by kernel_rfl) (@jX _ (by kernel_rfl))) (.cons (@iC _ _ (by kernel_rfl)) (@gM _ _ (23) (by kernel_rfl) (@jX _ (by kernel_rfl))) (.cons (@iC _ _ (by kernel_rfl)) (@gM _ _ (24) (by kernel_rfl) (@jX _ (by kernel_rfl))) i4.nil)))],(fun env h=>by (first|exact VS env|cases env);(first|exact VS h|cases h);kernel_rfl),(fun env h=>by (first|exact VS env|cases env);(first|exact VS h|cases h);kernel_rfl)]
noncomputable def mE:List MV→Option (Fl×List MV):=(fun ρ=>(#[t,#[c,#[b,#[21],#[i,10],iS],#[c,#[b,#[b,#[i,10],#[b,#[21],#[i,100],iS],iD],#[b,#[21],#[i,10],iX],gY],#[c,#[b,#[21],#[i,100],iX],#v[]]]]] ρ).bind fun v=>(lj v).bind fun l=>(pU [27,26,25] l.reverse ρ).map fun ρ'=>(.next,ρ'))
theorem vC(H:gK L)(hn:L.exc=none):S1 L #[C,25] gL gJ 2 false #[N,7,#[F,#[N,10,#[B,25]]]] mE:= #v[X,([(Str.ofString "outer"),(Str.ofString "inner"),(Str.ofString "other")]),#v[x,#v[b,#v[d,#v[a,21],#v[c],iW],#v[b,#v[d,#v[d,#v[c],#v[d,#v[a,21],#v[c],iW],i6],#v[d,#v[a,21],#v[c],iQ],gU],#v[b,#v[d,#v[a,21],#v[c],iQ],#v[e]]]]],(.cons (@iC _ _ (by kernel_rfl)) (@gM _ _ (27) (by kernel_rfl) (@jX _ (by kernel_rfl))) (.cons (@iC _ _ (by kernel_rfl)) (@gM _ _ (26) (by kernel_rfl) (@jX _ (by kernel_rfl))) (.cons (@iC _ _ (by kernel_rfl)) (@gM _ _ (25) (by kernel_rfl) (@jX _ (by kernel_rfl))) i4.nil))),(fun env h=>by (first|exact VS env|cases env);(first|exact VS h|cases h);kernel_rfl),(fun env h=>by (first|exact VS env|cases env);(first|exact VS h|cases h);kernel_rfl)]
noncomputable def mF:List MV→Option (Fl×List MV):=(fun ρ=>(#[t,#[c,kR 15 #[25],#[c,kR 15 #[26],#[c,kR 15 #[27],#v[]]]]] ρ).bind fun v=>(lj v).bind fun l=>(pU [30,29,28] l.reverse ρ).map fun ρ'=>(.next,ρ'))
theorem vD(H:gK L)(hn:L.exc=none):S1 L #[C,25] gL gJ 2 false #[N,8,#[F,#[N,10,#[B,25]]]] mF:= #v[X,([(Str.ofString "near"),(Str.ofString "between"),(Str.ofString "far")]),#v[x,#v[b,#v[V,15,#v[a,25]],#v[b,#v[V,15,#v[a,26]],#v[b,#v[V,15,#v[a,27]],#v[e]]]]],(.cons (@iC _ _ (by kernel_rfl)) (@gM _ _ (30) (by kernel_rfl) (@jX _ (by kernel_rfl))) (.cons (@iC _ _ (by kernel_rfl)) (@gM _ _ (29) (by kernel_rfl) (@jX _ (by kernel_rfl))) (.cons (@iC _ _ (by kernel_rfl)) (@gM _ _ (28) (by kernel_rfl) (@jX _ (by kernel_rfl))) i4.nil))),(fun env h=>by (first|exact VS env|cases env);(first|exact VS h|cases h);kernel_rfl),(fun env h=>by (first|exact VS env|cases env);(first|exact VS h|cases h);kernel_rfl)]
noncomputable def mG:List MV→Option (Fl×List MV):=(fun ρ=>(iL 1 #[f,#[t,#[c,#[28],#[c,#[29],#[c,#[30],#[c,#[14],#v[]]]]]],itemsOf] #[o,(gX [0] #[n,0]),#[y],#[f,#[c,#[b,#[0],#[i,4],gH],#v[]],(fun ps=>(Dc ps).bind MV.CR)]] ρ).map fun v=>(.next,ρ.set 31 (.p v)))
theorem vE(H:gK L)(hn:L.exc=none):S1 L #[C,25] gL gJ 2 false #[N,9,#[F,#[N,10,#[B,25]]]] mG:= #v[Z,[(Str.ofString "one")],#v[m,#v[x,#v[b,#v[a,28],#v[b,#v[a,29],#v[b,#v[a,30],#v[b,#v[a,14],#v[e]]]]]]],#v[s,(fun h=>by (first|exact VS h|cases h)),#v[o,[0],#v[q,#v[g,0]]],Keeps.name,#v[t],#v[k,H.b_dict,.type _,Hy.CR.less (aE _),#v[b,#v[i,#v[a,0],#v[c]],#v[e]]]],#v[g,31],(fun env h=>by (first|exact VS env|cases env);(first|exact VS h|cases h);kernel_rfl)]
noncomputable def lE:List MV→Option (Fl×List MV):=(fun ρ=>(#[t,#[c,(iL 2 #[f,#[c,#[f,#[c,#[28],#v[]],j2],#[c,#[f,#[c,#[30],#v[]],j2],#v[]]],sE] #[o,(gX [0,1] #[m,[0,1]]),#[y],#[b,#[0],#[1],kO]]),#[c,#[i,0],#v[]]]] ρ).bind fun v=>(#[m,[32,33]] v ρ).map fun ρ'=>(.next,ρ'))
theorem tZ(H:gK L)(hn:L.exc=none):S1 L #[C,25] gL gJ 2 false #[N,10,#[F,#[N,10,#[B,25]]]] lE:= #v[W,#v[x,#v[b,#v[u,([(Str.ofString "x"),(Str.ofString "y")]),#v[af,H.b_zip,#v[b,#v[k,H.g__law_row,(H.fn__law_row).callee,((m5 H).less (by decide)),#v[b,#v[a,28],#v[e]]],#v[b,#v[k,H.g__law_row,(H.fn__law_row).callee,((m5 H).less (by decide)),#v[b,#v[a,30],#v[e]]],#v[e]]]],#v[s,(fun _=>rfl),#v[o,[0,1],#v[E,.cons (.cons ia.nil),(.cons (@iC _ _ (by kernel_rfl)) (@gM _ _ (0) (by kernel_rfl) (@jX _ (by kernel_rfl))) (.cons (@iC _ _ (by kernel_rfl)) (@gM _ _ (1) (by kernel_rfl) (@jX _ (by kernel_rfl))) i4.nil))]],Keeps.tup,#v[t],#v[d,#v[a,0],#v[a,1],ml]]],#v[b,#v[c],#v[e]]]],#v[E,.cons (.cons ia.nil),(.cons (@iC _ _ (by kernel_rfl)) (@gM _ _ (32) (by kernel_rfl) (@jX _ (by kernel_rfl))) (.cons (@iC _ _ (by kernel_rfl)) (@gM _ _ (33) (by kernel_rfl) (@jX _ (by kernel_rfl))) i4.nil))],(fun env h=>by (first|exact VS env|cases env);(first|exact VS h|cases h);kernel_rfl),(fun env h=>by (first|exact VS env|cases env);(first|exact VS h|cases h);kernel_rfl)]
noncomputable def kE:List MV→Option (Fl×List MV):= #[e,33,#[f,#[f,#[c,#[34],#v[]],Ad tJ (Str.ofString "comp_select_list")],(wz tJ (Str.ofString "comp_select_list") fun q=>(#[c,#[f,#[c,#[28],#v[]],j2],#[c,#[f,#[c,#[30],#v[]],j2],#v[]]] ρ).bind fun ps=>ju (.inst tJ (Str.ofString "comp_select_list") q::ps))]]
theorem rT(H:gK L)(hn:L.exc=none):S1 L #[C,25] gL gJ 2 false #[N,0,#[F,#[N,11,#[F,#[N,10,#[B,25]]]]]] kE:= #v[z,(by exact @SE.Su _ _ _ _ _ _ _ _ H.cd _ _ _ _ _ _ _ _ _ _ H.m_compare H.t_compare (by decide+kernel) #v[k,H.g_TupleComp,.cls H.cd.Qn H.cd.O4,((B6 H).less (by decide)),#v[b,#v[a,34],#v[e]]] (H.fn_TupleComp_compare).callee ((qI H).less (by decide)) #v[b,#v[k,H.g__law_row,(H.fn__law_row).callee,((m5 H).less (by decide)),#v[b,#v[a,28],#v[e]]],#v[b,#v[k,H.g__law_row,(H.fn__law_row).callee,((m5 H).less (by decide)),#v[b,#v[a,30],#v[e]]],#v[e]]] (fun _=>rfl) (fun _=>rfl) (fun _=>⟨_,rfl⟩)),#v[g,33],(fun env h=>by (first|exact VS env|cases env);(first|exact VS h|cases h);kernel_rfl)]
noncomputable def kF:List MV→Option (Fl×List MV):= #[x,#[q,#[33],#[b,#[b,(iL 2 #[f,#[34],itemsOf] #[o,(gX [0,1] #[m,[0,1]]),#[q,ik #[34] #[0] gH,#[i,0],pR],#[w,#[q,ik #[34] #[0] gH,#[i,0],xK],#[1],#[f,#[1],pj]]]),#[l,#[c,#[i,0],#v[]]],gY],#[i,0],gH],pR],(gR #[h,#[j,false]] #[k]),#[k]]
theorem rU(H:gK L)(hn:L.exc=none):S1 L #[C,25] gL gJ 2 ((false||false)||false) #[N,1,#[F,#[N,11,#[F,#[N,10,#[B,25]]]]]] kF:= #v[N,#v[C,#v[a,33],#v[i,#v[d,#v[u,([(Str.ofString "k"),(Str.ofString "way")]),#v[m,#v[a,34]],#v[s,(fun h=>by (first|exact VS h|cases h)),#v[o,[0,1],#v[E,.cons (.cons ia.nil),(.cons (@iC _ _ (by kernel_rfl)) (@gM _ _ (0) (by kernel_rfl) (@jX _ (by kernel_rfl))) (.cons (@iC _ _ (by kernel_rfl)) (@gM _ _ (1) (by kernel_rfl) (@jX _ (by kernel_rfl))) i4.nil))]],Keeps.tup,(by exact @nK.one _ _ _ _ _ _ #v[C,#v[i,#v[a,34],#v[a,0]],#v[c],sh]),#v[al,#v[C,#v[i,#v[a,34],#v[a,0]],#v[c],Ea],#v[a,1],#v[R,#v[a,1]]]]],#v[A,#v[b,#v[c],#v[e]]],gU],#v[c]],sh],#v[y,#v[O,#v[aa]],#v[l]],#v[l]]
noncomputable def lF:List MV→Option (Fl×List MV):=(gR kE (gR kF #[k]))
theorem t5(H:gK L)(hn:L.exc=none):SS L #[C,25] gL gJ 2 (false||(((false||false)||false)||false)) #[F,#[N,11,#[F,#[N,10,#[B,25]]]]] lF:= #v[v,([hU 0 #[F,#[N,11,#[F,#[N,10,#[B,25]]]]],hU 1 #[F,#[N,11,#[F,#[N,10,#[B,25]]]]]]),#v[f,(@rT _ H hn),#v[f,(@rU _ H hn),#v[w]]]]
noncomputable def lG:List MV→Option (Fl×List MV):=(fun ρ=>(#[f,#[t,#[c,#[d,#[2],#[z],#[r,#[b,#[17],#[b,#[0],#[i,9],gH],gY],#[i,5],iX,jJ]],#[c,#[2],#v[]]]],itemsOf] ρ).bind fun ps=>nj #[n,34] lF #[k] ρ ps)
theorem t6(H:gK L)(hn:L.exc=none):S1 L #[C,25] gL gJ 2 false #[N,11,#[F,#[N,10,#[B,25]]]] lG:= #v[Q,#v[m,#v[x,#v[b,#v[I,#v[a,2],#v[P],#v[B,#v[d,#v[d,#v[a,17],#v[i,#v[a,0],#v[c]],gU],#v[c],iQ]]],#v[b,#v[a,2],#v[e]]]]],#v[q,#v[g,34]],(fun h=>by (first|exact VS h|cases h)),#v[D,(false||(((false||false)||false)||false)),(by exact @t5 _ H hn)],#v[D,false,#v[l]]]
noncomputable def kc:List MV→Option (Fl×List MV):= #[e,35,#[f,#[c,#[14],#[c,#[w,#[q,#[33],#[i,0],Fb],#[28],#[30]],#v[]]],hG]]
theorem t7(H:gK L)(hn:L.exc=none):S1 L #[C,25] gL gJ 2 false #[N,12,#[F,#[N,10,#[B,25]]]] kc:= #v[z,#v[k,H.g_add_func_stats,(H.fn_add_func_stats).callee,((je H hn).less (by decide)),#v[b,#v[a,14],#v[b,#v[al,#v[C,#v[a,33],#v[c],Be],#v[a,28],#v[a,30]],#v[e]]]],#v[g,35],(fun env h=>by (first|exact VS env|cases env);(first|exact VS h|cases h);kernel_rfl)]
noncomputable def lH:List MV→Option (Fl×List MV):= #[e,36,#[f,#[c,#[f,#[c,(iL 1 #[f,#[f,#[c,#[35],#v[]],j2],itemsOf] #[o,(gX [0] #[n,0]),#[y],#[f,#[0],pj]]),#v[]],kW],#[c,#[14],#v[]]],hG]]
theorem t8(H:gK L)(hn:L.exc=none):S1 L #[C,25] gL gJ 2 false #[N,13,#[F,#[N,10,#[B,25]]]] lH:= #v[z,#v[k,H.g_add_func_stats,(H.fn_add_func_stats).callee,((je H hn).less (by decide)),#v[b,#v[k,H.g__law_entry,(H.fn__law_entry).callee,((oS H).less (by decide)),#v[b,#v[u,[(Str.ofString "x")],#v[m,#v[k,H.g__law_row,(H.fn__law_row).callee,((m5 H).less (by decide)),#v[b,#v[a,35],#v[e]]]],#v[s,(fun h=>by (first|exact VS h|cases h)),#v[o,[0],#v[q,#v[g,0]]],Keeps.name,#v[t],#v[R,#v[a,0]]]],#v[e]]],#v[b,#v[a,14],#v[e]]]],#v[g,36],(fun env h=>by (first|exact VS env|cases env);(first|exact VS h|cases h);kernel_rfl)]
noncomputable def lI:List MV→Option (Fl×List MV):=(uZ 15 #[25] #[f,#[c,#[f,#[c,#[28],#[c,#[29],#v[]]],hG],#[c,#[36],#v[]]],hG])
theorem ua(H:gK L)(hn:L.exc=none):S1 L #[C,25] gL gJ 2 false #[N,14,#[F,#[N,10,#[B,25]]]] lI:= #v[U,#v[k,H.g_add_func_stats,(H.fn_add_func_stats).callee,((je H hn).less (by decide)),#v[b,#v[k,H.g_add_func_stats,(H.fn_add_func_stats).callee,((je H hn).less (by decide)),#v[b,#v[a,28],#v[b,#v[a,29],#v[e]]]],#v[b,#v[a,36],#v[e]]]],#v[a,25],#v[g,15],(fun env h=>by (first|exact VS env|cases env);(first|exact VS h|cases h);kernel_rfl)]
noncomputable def lJ:List MV→Option (Fl×List MV):=(uZ 15 #[26] #[35])
theorem ub(H:gK L)(hn:L.exc=none):S1 L #[C,25] gL gJ 2 false #[N,15,#[F,#[N,10,#[B,25]]]] lJ:= #v[U,#v[a,35],#v[a,26],#v[g,15],(fun env h=>by (first|exact VS env|cases env);(first|exact VS h|cases h);kernel_rfl)]
noncomputable def lK:List MV→Option (Fl×List MV):=(uZ 15 #[27] #[f,#[c,#[f,#[c,#[29],#[c,#[30],#v[]]],hG],#[c,#[36],#v[]]],hG])
theorem uc(H:gK L)(hn:L.exc=none):S1 L #[C,25] gL gJ 2 false #[N,16,#[F,#[N,10,#[B,25]]]] lK:= #v[U,#v[k,H.g_add_func_stats,(H.fn_add_func_stats).callee,((je H hn).less (by decide)),#v[b,#v[k,H.g_add_func_stats,(H.fn_add_func_stats).callee,((je H hn).less (by decide)),#v[b,#v[a,29],#v[b,#v[a,30],#v[e]]]],#v[b,#v[a,36],#v[e]]]],#v[a,27],#v[g,15],(fun env h=>by (first|exact VS env|cases env);(first|exact VS h|cases h);kernel_rfl)]
noncomputable def lL:List MV→Option (Fl×List MV):= #[x,#[q,(iL 1 #[f,#[t,#[c,#[28],#[c,#[29],#[c,#[30],#[c,#[14],#v[]]]]]],itemsOf] #[o,(gX [0] #[n,0]),#[y],#[b,#[0],#[i,4],gH]]),#[31],pR],(gR #[h,#[j,false]] #[k]),#[k]]
theorem ud(H:gK L)(hn:L.exc=none):S1 L #[C,25] gL gJ 2 ((false||false)||false) #[N,17,#[F,#[N,10,#[B,25]]]] lL:= #v[N,#v[C,#v[u,[(Str.ofString "one")],#v[m,#v[x,#v[b,#v[a,28],#v[b,#v[a,29],#v[b,#v[a,30],#v[b,#v[a,14],#v[e]]]]]]],#v[s,(fun h=>by (first|exact VS h|cases h)),#v[o,[0],#v[q,#v[g,0]]],Keeps.name,#v[t],#v[i,#v[a,0],#v[c]]]],#v[a,31],sh],#v[y,#v[O,#v[aa]],#v[l]],#v[l]]
noncomputable def lM:List MV→Option (Fl×List MV):=(fun ρ=>(#[t,#[c,(iL 1 #[f,#[t,#[c,#[22],#[c,#[23],#[c,#[24],#v[]]]]],itemsOf] #[o,(gX [0] #[n,0]),#[y],#[b,ik #[17] #[0] gH,#[i,1],gH]]),#[c,(iL 1 #[f,#[t,#[c,#[25],#[c,#[26],#[c,#[27],#v[]]]]],itemsOf] #[o,(gX [0] #[n,0]),#[y],#[b,(fun _=>some (.str (Str.ofString "abcdefghij"))),(fun ρ=>(#[6] ρ).bind fun p=>(#[c,#[0],#v[]] ρ).bind fun ps=>kS p ps),gH]]),#v[]]]] ρ).bind fun v=>(lj v).bind fun l=>(pU [38,37] l.reverse ρ).map fun ρ'=>(.next,ρ'))
theorem uf(H:gK L)(hn:L.exc=none):S1 L #[C,25] gL gJ 2 false #[N,18,#[F,#[N,10,#[B,25]]]] lM:= #v[X,([(Str.ofString "dots"),(Str.ofString "letters")]),#v[x,#v[b,#v[u,[(Str.ofString "k")],#v[m,#v[x,#v[b,#v[a,22],#v[b,#v[a,23],#v[b,#v[a,24],#v[e]]]]]],#v[s,(fun h=>by (first|exact VS h|cases h)),#v[o,[0],#v[q,#v[g,0]]],Keeps.name,#v[t],#v[i,#v[i,#v[a,17],#v[a,0]],#v[c]]]],#v[b,#v[u,[(Str.ofString "k")],#v[m,#v[x,#v[b,#v[a,25],#v[b,#v[a,26],#v[b,#v[a,27],#v[e]]]]]],#v[s,(fun h=>by (first|exact VS h|cases h)),#v[o,[0],#v[q,#v[g,0]]],Keeps.name,#v[t],#v[i,#v[F],#v[M,#v[a,6],#v[b,#v[a,0],#v[e]],wD]]]],#v[e]]]],(.cons (@iC _ _ (by kernel_rfl)) (@gM _ _ (38) (by kernel_rfl) (@jX _ (by kernel_rfl))) (.cons (@iC _ _ (by kernel_rfl)) (@gM _ _ (37) (by kernel_rfl) (@jX _ (by kernel_rfl))) i4.nil)),(fun env h=>by (first|exact VS env|cases env);(first|exact VS h|cases h);kernel_rfl),(fun env h=>by (first|exact VS env|cases env);(first|exact VS h|cases h);kernel_rfl)]
noncomputable def lN:List MV→Option (Fl×List MV):= #[e,39,#[b,#[f,#[c,#[37],#[c,#[38],#[c,#[d,#[b,#[l,(fun _=>some [.str (Str.ofString "\n"),.str (Str.ofString "\r"),.str (Str.ofString "\r\n")])],#[i,2],iD],#[r,ik #[17] #[8] gY,#[i,3],iX,jJ],#[z]],#v[]]]],j4],(fun _=>some (.str (Str.ofString "\r"))),gY]]
theorem ug(H:gK L)(hn:L.exc=none):S1 L #[C,25] gL gJ 2 false #[N,19,#[F,#[N,10,#[B,25]]]] lN:= #v[z,#v[d,#v[k,H.g__law_mail,(H.fn__law_mail).callee,((uO H).less (by decide)),#v[b,#v[a,37],#v[b,#v[a,38],#v[b,#v[I,#v[d,#v[A,#v[Y]],#v[c],i6],#v[B,#v[d,#v[d,#v[a,17],#v[a,8],gU],#v[c],iQ]],#v[P]],#v[e]]]]],#v[F],gU],#v[g,39],(fun env h=>by (first|exact VS env|cases env);(first|exact VS h|cases h);kernel_rfl)]
noncomputable def lO:List MV→Option (Fl×List MV):=(fun ρ=>(#[t,#[c,#[f,#[c,#[39],#v[]],qh],#[c,#[b,#[f,#[c,#[l,#[c,#[b,#[b,#[37],#[i,0],gH],#[i,1],gY],#[c,#[b,#[37],#[i,1],gH],#[c,#[b,#[b,#[37],#[i,2],gH],#[i,1],gY],#v[]]]]],#[c,#[38],#[c,#[b,#[l,#[c,(fun _=>some (.str (Str.ofString "\r\n"))),#v[]]],#[i,3],iD],#v[]]]],j4],(fun _=>some (.str (Str.ofString "\r\n"))),gY],#v[]]]] ρ).bind fun v=>(lj v).bind fun l=>(pU [41,40] l.reverse ρ).map fun ρ'=>(.next,ρ'))
theorem uh(H:gK L)(hn:L.exc=none):S1 L #[C,25] gL gJ 2 false #[N,20,#[F,#[N,10,#[B,25]]]] lO:= #v[X,([(Str.ofString "sent"),(Str.ofString "due")]),#v[x,#v[b,#v[k,H.g_quotedata,(H.fn_quotedata).callee,((B8 H).less (by decide)),#v[b,#v[a,39],#v[e]]],#v[b,#v[d,#v[k,H.g__law_mail,(H.fn__law_mail).callee,((uO H).less (by decide)),#v[b,#v[A,#v[b,#v[d,#v[i,#v[a,37],#v[c]],#v[c],gU],#v[b,#v[i,#v[a,37],#v[c]],#v[b,#v[d,#v[i,#v[a,37],#v[c]],#v[c],gU],#v[e]]]]],#v[b,#v[a,38],#v[b,#v[d,#v[A,#v[b,#v[F],#v[e]]],#v[c],i6],#v[e]]]]],#v[F],gU],#v[e]]]],(.cons (@iC _ _ (by kernel_rfl)) (@gM _ _ (41) (by kernel_rfl) (@jX _ (by kernel_rfl))) (.cons (@iC _ _ (by kernel_rfl)) (@gM _ _ (40) (by kernel_rfl) (@jX _ (by kernel_rfl))) i4.nil)),(fun env h=>by (first|exact VS env|cases env);(first|exact VS h|cases h);kernel_rfl),(fun env h=>by (first|exact VS env|cases env);(first|exact VS h|cases h);kernel_rfl)]
noncomputable def lP:List MV→Option (Fl×List MV):= #[x,#[u,#[q,#[40],#[41],pR],#[u,#[q,#[f,#[c,#[f,#[c,(iL 1 #[f,#[f,#[c,#[39],#v[]],qi],itemsOf] #[o,(gX [0] #[n,0]),#[y],#[f,#[c,#[0],#v[]],Bw]]),#v[]],qt],#v[]],lA],#[f,#[c,iL 1 #[f,#[41],itemsOf] #[o,(gX [0] #[n,0]),#[y],#[f,#[c,#[0],#v[]],Bw]],#v[]],qt],pR],(fun _=>some false)]],(gR #[h,#[j,false]] #[k]),#[k]]
theorem ui(H:gK L)(hn:L.exc=none):S1 L #[C,25] gL gJ 2 ((false||false)||false) #[N,21,#[F,#[N,10,#[B,25]]]] lP:= #v[N,#v[am,#v[ag,#v[C,#v[a,40],#v[a,41],sh],#v[ag,#v[C,#v[k,H.g__quote_periods,(H.fn__quote_periods).callee,((tR H).less (by decide)),#v[b,#v[k,H.b_bytes,.type _,(By hn).less (aE _),#v[b,#v[u,[(Str.ofString "sign")],#v[m,#v[k,H.g__fix_eols,(H.fn__fix_eols).callee,((Ca H).less (by decide)),#v[b,#v[a,39],#v[e]]]],#v[s,(fun h=>by (first|exact VS h|cases h)),#v[o,[0],#v[q,#v[g,0]]],Keeps.name,#v[t],#v[k,H.b_ord,.builtin _,Hr.less (aE _),#v[b,#v[a,0],#v[e]]]]],#v[e]]],#v[e]]],#v[k,H.b_bytes,.type _,(By hn).less (aE _),#v[b,#v[u,[(Str.ofString "sign")],#v[m,#v[a,41]],#v[s,(fun h=>by (first|exact VS h|cases h)),#v[o,[0],#v[q,#v[g,0]]],Keeps.name,#v[t],#v[k,H.b_ord,.builtin _,Hr.less (aE _),#v[b,#v[a,0],#v[e]]]]],#v[e]]],sh],(by exact @pS.MG _ _ _ _)]]],#v[y,#v[O,#v[aa]],#v[l]],#v[l]]
noncomputable def lQ:List MV→Option (Fl×List MV):=(fun ρ=>(iL 1 #[f,#[d,(fun ρ=>(#[40] ρ).bind fun p=>(#[c,(fun _=>some (.str (Str.ofString "\r\n"))),#v[]] ρ).bind fun ps=>qw p ps),#[z],#[f,#[i,3],jJ]],itemsOf] #[o,(gX [0] #[n,0]),#[y],(fun ρ=>(#[0] ρ).bind fun p=>(#[c,(fun _=>some (.str (Str.ofString "."))),#v[]] ρ).bind fun ps=>vL p ps)] ρ).map fun v=>(.next,ρ.set 37 (.p v)))
theorem uj(H:gK L)(hn:L.exc=none):S1 L #[C,25] gL gJ 2 false #[N,22,#[F,#[N,10,#[B,25]]]] lQ:= #v[Z,[(Str.ofString "row")],#v[m,#v[I,#v[M,#v[a,40],#v[b,#v[F],#v[e]],BF],#v[P],#v[B,#v[c]]]],#v[s,(fun h=>by (first|exact VS h|cases h)),#v[o,[0],#v[q,#v[g,0]]],Keeps.name,#v[t],#v[M,#v[a,0],#v[b,#v[F],#v[e]],HJ]],#v[g,37],(fun env h=>by (first|exact VS env|cases env);(first|exact VS h|cases h);kernel_rfl)]
noncomputable def lR:List MV→Option (Fl×List MV):= #[e,42,#[l,#[c,#[l,#[c,#[27],#[c,#[b,#[37],#[i,2],gH],#v[]]]],#[c,#[l,#[c,#[26],#[c,#[b,#[b,#[37],#[i,1],gH],#[i,1],kO],#v[]]]],#[c,#[l,#[c,#[25],#[c,#[b,#[37],#[i,0],gH],#v[]]]],#v[]]]]]]
theorem uk(H:gK L)(hn:L.exc=none):S1 L #[C,25] gL gJ 2 false #[N,23,#[F,#[N,10,#[B,25]]]] lR:= #v[z,#v[A,#v[b,#v[A,#v[b,#v[a,27],#v[b,#v[i,#v[a,37],#v[c]],#v[e]]]],#v[b,#v[A,#v[b,#v[a,26],#v[b,#v[d,#v[i,#v[a,37],#v[c]],#v[c],ml],#v[e]]]],#v[b,#v[A,#v[b,#v[a,25],#v[b,#v[i,#v[a,37],#v[c]],#v[e]]]],#v[e]]]]],#v[g,42],(fun env h=>by (first|exact VS env|cases env);(first|exact VS h|cases h);kernel_rfl)]
noncomputable def lS:List MV→Option (Fl×List MV):= #[e,16,#[b,#[b,#[b,#[b,#[d,#[16],#[z],#[f,#[22],jJ]],#[d,#[16],#[r,#[22],#[i,1],gY,jJ],#[f,#[23],jJ]],gY],#[42],gY],#[d,#[16],#[r,#[23],#[i,1],gY,jJ],#[f,#[24],jJ]],gY],#[d,#[16],#[r,#[24],#[i,1],gY,jJ],#[z]],gY]]
theorem um(H:gK L)(hn:L.exc=none):S1 L #[C,25] gL gJ 2 false #[N,24,#[F,#[N,10,#[B,25]]]] lS:= #v[z,#v[d,#v[d,#v[d,#v[d,#v[I,#v[a,16],#v[P],#v[B,#v[a,22]]],#v[I,#v[a,16],#v[B,#v[d,#v[a,22],#v[c],gU]],#v[B,#v[a,23]]],gU],#v[a,42],gU],#v[I,#v[a,16],#v[B,#v[d,#v[a,23],#v[c],gU]],#v[B,#v[a,24]]],gU],#v[I,#v[a,16],#v[B,#v[d,#v[a,24],#v[c],gU]],#v[P]],gU],#v[g,16],(fun env h=>by (first|exact VS env|cases env);(first|exact VS h|cases h);kernel_rfl)]
noncomputable def kq:List MV→Option (Fl×List MV):=(gR jN (gR mw (gR mx (gR my (gR mA (gR mB (gR mD (gR mE (gR mF (gR mG (gR lE (gR lG (gR kc (gR lH (gR lI (gR lJ (gR lK (gR lL (gR lM (gR lN (gR lO (gR lP (gR lQ (gR lR (gR lS #[k])))))))))))))))))))))))))
theorem yz(H:gK L)(hn:L.exc=none):SS L #[C,25] gL gJ 2 (((false||(((false||false)||false)||false))||false)||(false||(false||(false||(((false||false)||false)||(false||(false||(false||(false||(false||(false||(false||(false||(false||(false||(false||(false||(((false||false)||false)||(false||(false||(false||(((false||false)||false)||(false||(false||(false||false))))))))))))))))))))))))) #[F,#[N,10,#[B,25]]] kq:= #v[v,([hU 0 #[F,#[N,10,#[B,25]]],hU 1 #[F,#[N,10,#[B,25]]],hU 2 #[F,#[N,10,#[B,25]]],hU 3 #[F,#[N,10,#[B,25]]],hU 4 #[F,#[N,10,#[B,25]]],hU 5 #[F,#[N,10,#[B,25]]],hU 6 #[F,#[N,10,#[B,25]]],hU 7 #[F,#[N,10,#[B,25]]],hU 8 #[F,#[N,10,#[B,25]]],hU 9 #[F,#[N,10,#[B,25]]],hU 10 #[F,#[N,10,#[B,25]]],hU 11 #[F,#[N,10,#[B,25]]],hU 12 #[F,#[N,10,#[B,25]]],hU 13 #[F,#[N,10,#[B,25]]],hU 14 #[F,#[N,10,#[B,25]]],hU 15 #[F,#[N,10,#[B,25]]],hU 16 #[F,#[N,10,#[B,25]]],hU 17 #[F,#[N,10,#[B,25]]],hU 18 #[F,#[N,10,#[B,25]]],hU 19 #[F,#[N,10,#[B,25]]],hU 20 #[F,#[N,10,#[B,25]]],hU 21 #[F,#[N,10,#[B,25]]],hU 22 #[F,#[N,10,#[B,25]]],hU 23 #[F,#[N,10,#[B,25]]],hU 24 #[F,#[N,10,#[B,25]]]]),#v[f,(@vt _ H hn),#v[f,(@vu _ H hn),#v[f,(@vv _ H hn),#v[f,(@vw _ H hn),#v[f,(@vy _ H hn),#v[f,(@vz _ H hn),#v[f,(@vA _ H hn),#v[f,(@vC _ H hn),#v[f,(@vD _ H hn),#v[f,(@vE _ H hn),#v[f,(@tZ _ H hn),#v[f,(@t6 _ H hn),#v[f,(@t7 _ H hn),#v[f,(@t8 _ H hn),#v[f,(@ua _ H hn),#v[f,(@ub _ H hn),#v[f,(@uc _ H hn),#v[f,(@ud _ H hn),#v[f,(@uf _ H hn),#v[f,(@ug _ H hn),#v[f,(@uh _ H hn),#v[f,(@ui _ H hn),#v[f,(@uj _ H hn),#v[f,(@uk _ H hn),#v[f,(@um _ H hn),#v[w]]]]]]]]]]]]]]]]]]]]]]]]]]]
noncomputable def nS:List MV→Option (Fl×List MV):=(fun ρ=>(#[f,#[f,#[c,#[i,10],#v[]],jW],itemsOf] ρ).bind fun ps=>nj #[n,17] kq #[k] ρ ps)
theorem yA(H:gK L)(hn:L.exc=none):S1 L #[C,25] gL gJ 2 false #[N,10,#[B,25]] nS:= #v[Q,#v[m,#v[k,H.b_range,.type _,jx.less (aE _),#v[b,#v[c],#v[e]]]],#v[q,#v[g,17]],(fun h=>by (first|exact VS h|cases h)),#v[D,(((false||(((false||false)||false)||false))||false)||(false||(false||(false||(((false||false)||false)||(false||(false||(false||(false||(false||(false||(false||(false||(false||(false||(false||(false||(((false||false)||false)||(false||(false||(false||(((false||false)||false)||(false||(false||(false||false))))))))))))))))))))))))),(by exact @yz _ H hn)],#v[D,false,#v[l]]]
noncomputable def rV:List MV→Option (Fl×List MV):=(gR oX (gR oY (gR oZ (gR o3 (gR o4 (gR o5 (gR o6 (gR o7 (gR o8 (gR o9 (gR nS (nt 15 #[k]))))))))))))
theorem DP(H:gK L)(hn:L.exc=none):SS L #[C,25] gL gJ 2 (false||(false||(false||(false||(false||(false||(false||(true||(true||(false||(false||true))))))))))) (wW 11 #[B,25]) rV:= #v[v,([hU 0 #[B,25],hU 1 #[B,25],hU 2 #[B,25],hU 3 #[B,25],hU 4 #[B,25],hU 5 #[B,25],hU 6 #[B,25],hU 7 #[B,25],hU 8 #[B,25],hU 9 #[B,25],hU 10 #[B,25]]),#v[f,(@Av _ H hn),#v[f,(@Aw _ H hn),#v[f,(@Ax _ H hn),#v[f,(@Ay _ H hn),#v[f,(@Az _ H hn),#v[f,(@AA _ H hn),#v[f,(@AB _ H hn),#v[f,(@AD _ H hn),#v[f,(@AE _ H hn),#v[f,(@AF _ H hn),#v[f,(@yA _ H hn),#v[ac,false,(Str.ofString "table"),#v[w],#v[g,15]]]]]]]]]]]]]]
noncomputable def m8:List MV→Option (Fl×List MV):=(gR #[e,43,#[b,#[d,#[3],#[f,#[7],jJ],#[r,#[7],#[i,10],gY,jJ]],#[b,#[l,#[c,ik #[4] #[9] gH,#v[]]],#[f,#[c,#[b,#[9],#[i,0],xK],#v[]],sv],iD],gY]] (gR #[x,#[u,#[q,#[f,#[c,#[b,#[b,#[i,1023],#[b,#[i,2],#[7],lh],iD],#[b,#[9],#[b,#[i,2],#[i,32],lh],iD],gY],#v[]],ji],(fun ρ=>((fun _=>some (.str (Str.ofString ", "))) ρ).bind fun p=>(#[c,#[43],#v[]] ρ).bind fun ps=>tB p ps),pR],#[u,#[q,#[f,#[c,#[b,#[9],#[b,#[i,2],#[i,32],lh],iD],#v[]],ji],ik #[4] #[9] gH,pR],(fun _=>some false)]],(gR #[h,#[j,false]] #[k]),#[k]] (gR #[h,#[b,(iL 1 #[f,#[5],itemsOf] #[o,(gX [0] #[n,0]),#[y],ik #[16] #[0] gH]),#[f,#[c,#[1],#[c,#[2],#[c,#[5],#[c,#[6],#v[]]]]],oV],zI]] #[k])))
theorem xk(H:gK L):SS L #[C,25] gL gJ 2 (false||(((false||false)||false)||(false||false))) (Lk #[N,11,#[B,25]]) m8:= #v[f,(by exact @S1.set _ _ _ _ _ _ _ _ _ _ _ #v[d,#v[I,#v[a,3],#v[B,#v[a,7]],#v[B,#v[d,#v[a,7],#v[c],gU]]],#v[d,#v[A,#v[b,#v[i,#v[a,4],#v[a,9]],#v[e]]],#v[k,H.b_int,.type _,zQ.less (aE _),#v[b,#v[ad,#v[a,9],#v[c],Ea],#v[e]]],i6],gU] #v[j] #v[g,43] (fun env h=>by (first|exact VS env|cases env);(first|exact VS h|cases h);kernel_rfl)),#v[y,#v[ae,#v[am,#v[ag,#v[C,#v[k,H.g_pretty_flags,(H.fn_pretty_flags).callee,((mY H).less (by decide)),#v[b,#v[d,#v[d,#v[c],#v[d,#v[c],#v[a,7],oK],i6],#v[d,#v[a,9],#v[d,#v[c],#v[c],oK],i6],gU],#v[e]]],#v[M,#v[F],#v[b,#v[a,43],#v[e]],Ew],sh],#v[ag,#v[C,#v[k,H.g_pretty_flags,(H.fn_pretty_flags).callee,((mY H).less (by decide)),#v[b,#v[d,#v[a,9],#v[d,#v[c],#v[c],oK],i6],#v[e]]],#v[i,#v[a,4],#v[a,9]],sh],(by exact @pS.MG _ _ _ _)]]],#v[y,#v[O,#v[aa]],#v[l]],#v[l]],#v[y,#v[O,#v[ad,#v[u,[(Str.ofString "pair")],#v[m,#v[a,5]],#v[s,(fun h=>by (first|exact VS h|cases h)),#v[o,[0],#v[q,#v[g,0]]],Keeps.name,#v[t],#v[i,#v[a,16],#v[a,0]]]],#v[k,H.g__law_plain,(H.fn__law_plain).callee,((As H).less (by decide)),#v[b,#v[a,1],#v[b,#v[a,2],#v[b,#v[a,5],#v[b,#v[a,6],#v[e]]]]]],Eb]],#v[l]]]]
end
end
section
open PySem PyProof.Rows
noncomputable def uo:List Str:=["OPTIMIZED","NEWLOCALS","VARARGS","VARKEYWORDS","NESTED","GENERATOR","NOFREE","COROUTINE","ITERABLE_COROUTINE","ASYNC_GENERATOR","0x400","0x800","0x1000","0x2000","0x4000","0x8000","0x10000","0x20000","0x40000","0x80000","0x100000","0x200000","0x400000","0x800000","0x1000000","0x2000000","0x4000000","0x8000000","0x10000000","0x20000000","0x40000000","0x80000000"].map Str.ofString
noncomputable def SG:List Str:=["-0x100000000","0x0","0x100000000","0x200000000"].map Str.ofString
noncomputable def nameAt(i:Nat):Str:=uo.getD i Str.empty
noncomputable def pF(e:Int):Str:=SG.getD (e+1).toNat Str.empty
theorem Pq:(List.range 32).map J4=(List.range 32).map fun i=>PV.str (nameAt i):= (by kernel_rfl)
theorem SH{i:Nat}(h:i<32):J4 i= .str (nameAt i):=List.map_inj_left.mp Pq i (List.mem_range.mpr h)
noncomputable def Nx(s:Str):Bool:=s.length≤20&&s.cps.toList.all (fun c=>c !=44)
theorem e4{e:Int}(h: -1≤e∧e≤2):e∈([-1,0,1,2]:List Int):=by
 obtain⟨n,hn⟩:=cK (show 0≤e+1 from Int.add_le_add_right h.1 1)
 have k: ∀n:Nat,n<4→(n:Int)-1∈([-1,0,1,2]:List Int):=by decide
 have:=k n (Int.ofNat_lt.mp (hn▸Int.lt_add_one_of_le (Int.add_le_add_right h.2 1)))
 rwa [←hn,fG] at this
theorem zh: ∀e∈([-1,0,1,2]:List Int),(baseText "0x" 16 ((2:Int)^32*e)).length≤100000∧Nx (pF e)=true:=by decide+kernel
theorem I5{e:Int}(h: -1≤e∧e≤2):Lz (2^32*e)= .str (pF e)∧(baseText "0x" 16 ((2:Int)^32*e)).length≤100000:=
 ⟨jU (f:=fun e:Int=>Lz (2^32*e)) (g:=fun e=> .str (pF e)) (by kernel_rfl) (e4 h),(zh e (e4 h)).1⟩
noncomputable def jZ(qs:List Nat)(e:Int):List Str:=qs.map nameAt++(if qs≠[]∧e=0 then[] else[pF e])
theorem uP: ∀l:List Str,qb (l.map .str)=some l:=by
 intro l
 induction l with
 |nil=>exact rfl
 |cons a l iu=>
  show Option.map _ (qb (l.map .str))=_
  rw[iu];rfl
theorem Ga: ∀i<32,Nx (nameAt i)=true:=by decide+kernel
theorem I6{e:Int}(h: -1≤e∧e≤2):Nx (pF e)=true:=(zh e (e4 h)).2
theorem uq{qs:List Nat}{e:Int}(hb: ∀q∈qs,q<32)(he: -1≤e∧e≤2): ∀s∈jZ qs e,Nx s=true:=by
 intro s hs
 unfold jZ at hs
 rcases List.mem_append.mp hs with h|h
 ·obtain⟨q,hq,rfl⟩:=List.mem_map.mp h
  exact Ga q (hb q hq)
 ·split at h
  ·(first|exact VS h|cases h)
  ·rw[List.mem_singleton.mp h];exact I6 he
theorem XK(a b c d n:Nat)(h1:a≤20)(h:d≤n+a+2+22*b):d≤n+22*(b+1):=Nat.le_trans h (by rw[Nat.mul_add,fO (22*b),←Nat.add_assoc,Nat.add_assoc n];exact bC (fj (bC h1 2) n) _)
theorem I7: ∀(l:List Str) (n:Nat),(∀s∈l,Nx s=true)→l.foldl (fun a s=>a+s.length+2) n≤n+22*l.length:=by
 intro l
 induction l with
 |nil=>exact @fun n _=>bu _
 |cons s l iu=>
  intro n h
  have h1:=of_decide_eq_true (Bool.and_eq_true_iff.mp (h s (aA ..))).1
  have:=iu (n+s.length+2) fun x hx=>h x (av _ hx)
  rw[aX,bj]
  exact XK _ _ s.length _ n h1 this
theorem joinOk_of{l:List Str}(h: ∀s∈l,Nx s=true)(hl:l.length≤100):JoinOk (Str.ofString ", ") l=true:=by
 unfold JoinOk
 rw[fu,show (Str.ofString ", ").length=2 by decide+kernel]
 have h2:l.foldl (fun a s=>a+s.length+2) 0≤2200:=Nat.le_trans (I7 l 0 h) (by rw[de];exact Nat.mul_le_mul_left 22 hl)
 exact congrArg (fun b=> !b) (decide_eq_false (Nat.not_lt.mpr (Nat.le_trans h2 (by decide))))
theorem ur{qs:List Nat}(hl:qs.length≤90)(e:Int):(jZ qs e).length≤100:=by
 unfold jZ
 rw[aK,aD]
 refine Nat.le_trans (dE hl (?_:_≤1)) (by decide)
 split
 ·exact aE _
 ·exact bu _
theorem I8{qs:List Nat}{e:Int}(hb: ∀q∈qs,q<32)(he: -1≤e∧e≤2):qs.map J4++w8 qs e=(jZ qs e).map .str:=by
 unfold jZ w8
 rw[bA,bL,dZ fun q hq=>SH (hb q hq),(I5 he).1]
 split<;>rfl
theorem pd{qs:List Nat}{e:Int}(hp:qs.Pairwise (· < ·))(hb: ∀q∈qs,q<32)(he: -1≤e∧e≤2)(hl:qs.length≤90):ji [.int (w6 0 qs+e*2^32)]=some (.str (Txt.join (Str.ofString ", ") (jZ qs e))):=
 F5 hp hb (I5 he).2 (I8 hb he▸uP _) (joinOk_of (uq hb he) (ur hl e))
theorem Gb{qs:List Nat}(js:qs≠[])(hl:qs.length≤90)(e:Int):gY (.list ((qs.map nameAt).map .str)) (.list (if e=0 then[] else[PV.str (pF e)]))=some (.list ((jZ qs e).map .str)):=by
 unfold jZ
 by_cases h0:e=0
 ·rw[if_pos h0,if_pos ⟨js,h0⟩]
  exact(if_pos (by rw[aD,aD];exact Nat.le_trans hl (by decide))).trans (by rw[bA];rfl)
 ·rw[if_neg h0,if_neg fun h=>h0 h.2]
  exact(if_pos (by rw[aD,aD];exact Nat.le_trans (bC hl 1) (by decide))).trans (by rw[bA];rfl)
noncomputable def Ny(x:PV)(e:Int):List PV:=if e=0 then[] else[x]
theorem m9{ρ:List MV}{j:Nat}{q:PV}(h:ρ[j]? =some (.p q)):gQ (ρ.map MV.mm)[j]? =some q:=by rw[aL,h];rfl
theorem jH{ρ:List MV}{i j:Nat}{v:MV}{x:Option MV}(h:ρ[j]? =x)(hn:(i !=j)=true):(ρ.set i v)[j]? =x:=(eX (bne_iff_ne.mp hn)).trans h
theorem sU{ρ:List MV}{i:Nat}{v:MV}(h:i<ρ.length):(ρ.set i v)[i]? =some v:=List.getElem?_set_self h
end
section
open PySem PyProof.Rows PySem.StrLaws PySem.Builtin.Str
theorem I9(sep:List Nat): ∀ws:List (List Nat),(∀w∈ws,w.length≤20)→(lg sep ws).length≤(20+sep.length)*ws.length:=by
 intro ws
 induction ws with
 |nil=>
  intro _
  simp[lg]
 |cons w ws ih=>
  cases ws with
  |nil=>
   intro h
   have:=h w (by simp)
   simp only[lg,bj,gn]
   omega
  |cons v ws=>
   intro h
   have h1:=h w (by simp)
   have ih:=ih fun u hu=>h u (av _ hu)
   simp only[lg,aK,bj,Nat.mul_add,Nat.mul_one] at ih ⊢
   omega
theorem uQ{c d:Nat}(hc:c<256)(hd:d<256){ws:List (List Nat)}(js:ws≠[])(hw: ∀w∈ws,c∉w∧w.length≤20)(hl:ws.length≤100):qw (.str ⟨(lg [c,d] ws).toArray⟩) [.str ⟨#[c,d]⟩]=some (.list (ws.map iR)):=by
 have h1:=I9 [c,d] ws fun w h=>(hw w h).2
 have ib:(⟨(lg [c,d] ws).toArray⟩:Str).length≤3000:=by
  show(lg [c,d] ws).toArray.size≤3000
  simp at h1 ⊢
  omega
 have Hp:=F1 hc hd js fun w h=>(hw w h).1
 generalize (⟨(lg [c,d] ws).toArray⟩:Str)=x at ib Hp ⊢
 show(if ((⟨#[c,d]⟩:Str).length==0)=false∧x.length≤100000∧(partsBetween x (occurrences x ⟨#[c,d]⟩ 0 x.length (x.length+1)) (⟨#[c,d]⟩:Str).length).length≤100000 then some (PV.list ((Txt.split x ⟨#[c,d]⟩).map .str)) else none)=_
 rw[if_pos,Hp,bL]
 ·rfl
 ·refine⟨rfl,by omega,?_⟩
  rw[PyProof.Rows.len_partsBetween]
  have:=occ_length_le x ⟨#[c,d]⟩ 0 x.length (x.length+1)
  omega
theorem LM(s:Str):(⟨s.cps.toList.toArray⟩:Str)=s:=by (first|exact VS s|cases s);simp
theorem Co{ts:List Str}(js:ts≠[])(h: ∀s∈ts,Nx s=true)(hl:ts.length≤100):qw (.str (Txt.join (Str.ofString ", ") ts)) [.str (Str.ofString ", ")]=some (.list (ts.map .str)):=by
 have Ai:Str.ofString ", "=⟨#[44,32]⟩:=by decide+kernel
 have GB:ts=(ts.map (·.cps.toList)).map fun w=>⟨w.toArray⟩:=by
  rw[bL]
  conv=>lhs;rw[←List.map_id ts]
  exact dZ fun s _=>(LM s).symm
 have hj:Txt.join (Str.ofString ", ") ts=⟨(lg [44,32] (ts.map (·.cps.toList))).toArray⟩:=by
  conv=>lhs;rw[GB]
  rw[IW,Ai]
 rw[hj,Ai,uQ (by decide) (by decide) (by simpa using js)]
 ·rw[bL]
  congr 2
 ·intro w hw
  obtain⟨s,hs,rfl⟩:=List.mem_map.mp hw
  have:=h s hs
  unfold Nx at this
  rw[cJ,decide_eq_true_eq] at this
  refine⟨fun hm=> ?_,by simpa[Str.length] using this.1⟩
  have:=List.all_eq_true.mp this.2 44 hm
  simp at this
 ·simpa using hl
theorem AG{n:Nat}(h:n≤1000):lh (.int 2) (.int (n:Nat))=some (.int (2^n)):=by
 have hs:(small 2&&decide ((0:Int)≤(n:Int))&&decide ((n:Int)≤1000))=true:=by
  rw[show small 2=true by decide];simp;omega
 simp only[lh,hs,if_true,bG,Ls]
end
section
open PySem PyProof.Rows
noncomputable def iP(l:List Nat):PV:= .list (l.map fun n=> .int (n:Nat))
theorem uR: ∀l:List Int,kz (l.map .int)=some l:=by
 intro l
 induction l with
 |nil=>exact rfl
 |cons a l iu=>exact by show Option.map _ (kz (l.map .int))=_;rw[iu];rfl
theorem lT(t:List Nat):itemsOf (iP t)=some (t.map fun n=>PV.int (n:Nat)):=rfl
theorem Nz:lh (.int 2) (.int 32)=some (.int (2^32)):= (by kernel_rfl)
theorem NA{e:Int}(he: -1≤e∧e≤2):iD (.int e) (.int (2^32))=some (.int (e*2^32)):=if_pos (eK _)
theorem rW(a b:Nat):gY (.int (a:Nat)) (.int (b:Nat))=some (.int ((a+b:Nat):Int)):=rfl
theorem Pr{i n:Nat}(h:i<n):seqIndex? (i:Int) n=some i:=by
 have e: ¬ ((i:Int)<0):=Int.not_lt.mpr (bc i)
 unfold seqIndex?
 rw[if_neg e]
 exact if_pos (by rw[dR,decide_eq_true_eq,decide_eq_true_eq];exact⟨bc i,Int.ofNat_lt.mpr h⟩)
theorem item_list{α:Type}{f:α→PV}{l:List α}{i:Nat}{a:α}(h:l[i]? =some a)(hs:i<1000):gH (.list (l.map f)) (.int i)=some (f a):=
 (if_pos (qy (i:=(i:Int)) (m:=1000) hs rfl)).trans ((gI (Pr (by rw[aD];exact(List.getElem?_eq_some_iff.mp h).1))).trans (by rw[aL,h];rfl))
noncomputable def pe:PV:= .list (uo.map .str)
theorem Ja:(List.range 32).map (fun q=>kS pe [.str (nameAt q)])=(List.range 32).map fun q=>some (PV.int (q:Nat)):= (by kernel_rfl)
theorem Gd{q:Nat}(h:q<32):kS pe [.str (nameAt q)]=some (.int (q:Nat)):=List.map_inj_left.mp Ja q (List.mem_range.mpr h)
theorem VF(n m:Nat):((n:Int).fdiv m)=((n/m:Nat):Int):=cu _ (bc m)
theorem SI(n m:Nat):((n:Int).fmod m)=((n%m:Nat):Int):=bK _ (bc m)
theorem Jb(n:Nat): ∀l:List Str,ry (zF n) (l.map .str) (l.map .str)=some true:=by
 intro l
 induction l with
 |nil=>exact rfl
 |cons a l iu=>exact(gI ((Lu n a a).trans (congrArg some (beq_self_eq_true a)))).trans (hJ (f:=(true&& ·)) (iu))
theorem LN(l:List Str):pR (.list (l.map .str)) (.list (l.map .str))=some (.bool false):=hJ (f:=fun b=>PV.bool !b) (Jb 8 l)
theorem Cp{u:PV→List MV→Option (List MV)}{t:List MV→Option Bool}{e:List MV→Option (List PV)}{f:List MV→List PV→Option (List PV)}{ρ gP:List MV}{p:PV}{ps:List PV}{r:Option (List PV)}(hu:u p ρ=some gP)(ht:t gP=some true)(he:e gP=some ps)(hf:f gP ps=r):sk u t e f ρ p=r:=(gI hu).trans ((gI ht).trans ((gI he).trans hf))
theorem Ge{α:Type}{C:Addr}{nm:Str}{g:PV→Option α}(q:PV):wz C nm g (.inst C nm q)=g q:=if_pos ⟨rfl,rfl⟩
theorem ne_int(n:Int):pR (.int n) (.int n)=some (.bool false):=congrArg (fun b=>some (PV.bool !b)) (beq_self_eq_true n)
theorem qz{α:Type}(l:List α)(n:Nat):cut l none (some (n:Int))=l.take n:=by
 have e:(max 0 (min (if (n:Int)<0 then(n:Int)+l.length else n) (l.length:Int))).toNat-0=min n l.length:=by
  rw[if_neg (Int.not_lt.mpr (bc n))]
  rcases Nat.le_total n l.length with h|h
  ·rw[Int.min_eq_left (Int.ofNat_le.mpr h),dX h,eG (bc _)];rfl
  ·rw[Int.min_eq_right (Int.ofNat_le.mpr h),gh h,eG (bc _)];rfl
 rw[List.take_eq_take_min]
 exact congrArg l.take e
theorem set_same{ρ:List MV}{i:Nat}{v:MV}(h:ρ[i]? =some v):ρ.set i v=ρ:=by
 induction ρ generalizing i with
 |nil=>rfl
 |cons a l ih=>cases i with
  |zero=>exact congrArg (· ::l) (Option.some.inj h).symm
  |succ i=>exact congrArg (a:: ·) (ih (i:=i) h)
theorem zi{f:List MV→Option (Fl×List MV)}{ρ ρ':List MV}(h:f ρ=some (.next,ρ')):gR f #[k] ρ=some (.next,ρ'):=gG h
theorem pf(x:Int)(m:Nat)(hm:0<m):(x.fmod m).toNat<m∧x.fmod m=((x.fmod m).toNat:Int):=
 have h0:=cO x (Int.ofNat_lt.mpr hm)
 ⟨(Int.toNat_lt h0).mpr (dr x (Int.ofNat_lt.mpr hm)),(fm h0).symm⟩
theorem Qo(n:Nat)(a:Int):yI n (.int a) (.int a)=some true:=by rw[EF,beq_self_eq_true]
theorem VG(n:Nat)(a:Int):zF n (.int a) (.int a)=some true:=by cases n<;>exact Qo _ a
theorem jv{f:PV→PV→Option Bool}{p:PV}{l:List PV}(h:f p p=some true)(t:ry f l l=some true):ry f (p::l) (p::l)=some true:=by
 show(f p p).bind _=_
 rw[h]
 show Option.map _ (ry f l l)=_
 rw[t];rfl
theorem LO(a b:Nat):((a:Int)==(b:Int))=(a==b):=Bool.eq_iff_iff.mpr (beq_iff_eq.trans (Int.ofNat_inj.trans beq_iff_eq.symm))
theorem Cq(b:Bool):sv [.bool b]=some (.int (if b then 1 else 0:Nat)):=by cases b<;>rfl
theorem EI(a b c:Nat)(h:a=c+b):kO (.int (a:Nat)) (.int (b:Nat))=some (.int (c:Nat)):=by
 rw[h]
 exact congrArg (fun x=>some (PV.int x)) (show((c+b:Nat):Int)-b=c from fG (c:Int) b)
end
section
structure V5 where
 a:Int
 b:Int
 c:Int
 d:Int
 e:Int
namespace V5
noncomputable def mk'(F:(V5→Int)→Int):V5:=⟨F a,F b,F c,F d,F e⟩
theorem qm{F G:(V5→Int)→Int}(h: ∀p,F p=G p):mk' F=mk' G:=congrArg mk' (funext h)
noncomputable def add(u v:V5):V5:=mk' fun p=>p u+p v
noncomputable def sub(u v:V5):V5:=mk' fun p=>p u-p v
noncomputable def neg(u:V5):V5:=mk' fun p=> -p u
noncomputable def zero:V5:=mk' fun _=>0
noncomputable def at'(u:V5)(i:Int):Int:=if i=0 then u.a else if i=1 then u.b else if i=2 then u.c else if i=3 then u.d else u.e
theorem Jc(F:(V5→Int)→Int)(i:Int): ∃p:V5→Int,(∀u,at' u i=p u)∧at' (mk' F) i=F p:=by
 unfold at'
 by_cases h0:i=0
 ·exact⟨a,fun u=>if_pos h0,if_pos h0⟩
 by_cases h1:i=1
 ·exact⟨b,fun u=>by rw[if_neg h0,if_pos h1],by rw[if_neg h0,if_pos h1];rfl⟩
 by_cases h2:i=2
 ·exact⟨c,fun u=>by rw[if_neg h0,if_neg h1,if_pos h2],by rw[if_neg h0,if_neg h1,if_pos h2];rfl⟩
 by_cases h3:i=3
 ·exact⟨d,fun u=>by rw[if_neg h0,if_neg h1,if_neg h2,if_pos h3],by rw[if_neg h0,if_neg h1,if_neg h2,if_pos h3];rfl⟩
 ·exact⟨e,fun u=>by rw[if_neg h0,if_neg h1,if_neg h2,if_neg h3],by rw[if_neg h0,if_neg h1,if_neg h2,if_neg h3];rfl⟩
theorem Pt(u v:V5)(i:Int):(u.add v).at' i=u.at' i+v.at' i:=by
 obtain⟨p,h,e⟩:=Jc (fun p=>p u+p v) i
 exact e.trans (by rw[h,h])
theorem DQ(u v:V5)(i:Int):(u.sub v).at' i=u.at' i-v.at' i:=by
 obtain⟨p,h,e⟩:=Jc (fun p=>p u-p v) i
 exact e.trans (by rw[h,h])
theorem Pu(u:V5)(i:Int):(u.neg).at' i= -u.at' i:=by
 obtain⟨p,h,e⟩:=Jc (fun p=> -p u) i
 exact e.trans (by rw[h])
noncomputable def zj(K:List (Int×Int))(u:V5):Int:=K.foldr (fun p r=>if 0<u.at' p.1*p.2 then 1 else if u.at' p.1*p.2<0 then-1 else r) 0
theorem oE(i d:Int)(r:List (Int×Int))(u:V5):zj ((i,d)::r) u=if 0<u.at' i*d then 1 else if u.at' i*d<0 then-1 else zj r u:=rfl
theorem oF(K:List (Int×Int))(u:V5):zj K u=1∨zj K u= -1∨zj K u=0:=by
 induction K with
 |nil=>exact .inr (.inr rfl)
 |cons p r ih=>
  obtain⟨i,d⟩:=p
  rw[oE]
  split
  ·exact .inl rfl
  ·split
   ·exact .inr (.inl rfl)
   ·exact ih
theorem EJ(K:List (Int×Int))(u:V5):zj K u.neg= -zj K u:=by
 induction K with
 |nil=>rfl
 |cons p r ih=>
  obtain⟨i,d⟩:=p
  rw[oE,oE,Pu,Int.neg_mul]
  by_cases h1:0<u.at' i*d
  ·rw[if_neg (Int.not_lt.mpr (Int.neg_nonpos_of_nonneg (fS h1))),if_pos (Int.neg_neg_of_pos h1),if_pos h1]
  ·by_cases h2:u.at' i*d<0
   ·rw[if_pos (Int.neg_pos_of_neg h2),if_neg h1,if_pos h2];rfl
   ·rw[if_neg fun h=>h2 (Int.neg_of_neg_pos h),if_neg fun h=>h1 (Int.pos_of_neg_neg h),if_neg h1,if_neg h2];exact ih
theorem LP(K:List (Int×Int))(u v:V5)(hu:zj K u=1)(hv:zj K v=1):zj K (u.add v)=1:=by
 induction K with
 |nil=>(first|exact VS hu|cases hu)
 |cons p r ih=>
  obtain⟨i,d⟩:=p
  rw[oE] at hu hv ⊢
  rw[Pt,Int.add_mul]
  by_cases h1:0<u.at' i*d
  ·by_cases h3:v.at' i*d<0
   ·rw[if_neg (Int.not_lt.mpr (fS h3)),if_pos h3] at hv;(first|exact VS hv|cases hv)
   ·rw[if_pos (Int.add_pos_of_pos_of_nonneg h1 (Int.not_lt.mp h3))]
  ·rw[if_neg h1] at hu
   by_cases h4:u.at' i*d<0
   ·rw[if_pos h4] at hu;(first|exact VS hu|cases hu)
   ·rw[if_neg h4] at hu
    rw[show u.at' i*d=0 from Int.le_antisymm (Int.not_lt.mp h1) (Int.not_lt.mp h4),dF]
    by_cases h2:0<v.at' i*d
    ·rw[if_pos h2]
    ·rw[if_neg h2] at hv ⊢
     by_cases h3:v.at' i*d<0
     ·rw[if_pos h3] at hv;(first|exact VS hv|cases hv)
     ·rw[if_neg h3] at hv ⊢
      exact ih hu hv
structure KeysOK(K:List (Int×Int)):Prop where
 len:K.length=5
 idx: ∀p∈K,0≤p.1∧p.1<5
 dir: ∀p∈K,p.2≠0∧ -5≤p.2∧p.2≤5
 all: ∀i∈[(0:Int),1,2,3,4],∃d,(i,d)∈K
theorem Cr(K:List (Int×Int))(u:V5)(h:zj K u=0): ∀p∈K,u.at' p.1*p.2=0:=by
 induction K with
 |nil=>intro p hp;(first|exact VS hp|cases hp)
 |cons q r ih=>
  obtain⟨i,d⟩:=q
  rw[oE] at h
  by_cases h1:0<u.at' i*d
  ·rw[if_pos h1] at h;(first|exact VS h|cases h)
  ·rw[if_neg h1] at h
   by_cases h2:u.at' i*d<0
   ·rw[if_pos h2] at h;(first|exact VS h|cases h)
   ·rw[if_neg h2] at h
    intro p hp
    rcases List.mem_cons.mp hp with rfl|hp
    ·exact Int.le_antisymm (Int.not_lt.mp h1) (Int.not_lt.mp h2)
    ·exact ih h p hp
theorem SJ{u v:V5}(h1:u.a=v.a)(h2:u.b=v.b)(h3:u.c=v.c)(h4:u.d=v.d)(h5:u.e=v.e):u=v:=by
 show V5.mk u.a u.b u.c u.d u.e=v
 rw[h1,h2,h3,h4,h5]
theorem sV{K:List (Int×Int)}(hK:KeysOK K){u:V5}(h:zj K u=0):u=zero:=by
 have key: ∀i∈[(0:Int),1,2,3,4],u.at' i=0:=fun i hi=>(hK.all i hi).elim fun d hd=>
  (Int.mul_eq_zero.mp (Cr K u h _ hd)).resolve_right (hK.dir _ hd).1
 exact SJ (key 0 (by decide)) (key 1 (by decide)) (key 2 (by decide)) (key 3 (by decide)) (key 4 (by decide))
noncomputable def mn(K:List (Int×Int))(u v:V5):V5:=if zj K (v.sub u)=1 then u else v
section
variable {K:List (Int×Int)}
theorem sW(u v:V5):(u.sub v).neg=v.sub u:=qm (F:=fun p=> -(p u-p v)) (G:=fun p=>p v-p u) fun _=>Int.neg_sub _ _
theorem zk{u v:V5}(h:u.sub v=zero):u=v:=
 SJ (cS (congrArg V5.a h)) (cS (congrArg V5.b h)) (cS (congrArg V5.c h)) (cS (congrArg V5.d h)) (cS (congrArg V5.e h))
noncomputable def le(K:List (Int×Int))(u v:V5):Prop:=zj K (v.sub u)≠ -1
theorem le_total(u v:V5):le K u v∨le K v u:=by
 unfold le
 rw[←sW v u,EJ]
 rcases oF K (v.sub u) with h|h|h<;>rw[h]<;>decide
theorem Jd(hK:KeysOK K){u v:V5}(hu:zj K u≠ -1)(hv:zj K v≠ -1):zj K (u.add v)≠ -1:=by
 rcases oF K u with h|h|h
 ·rcases oF K v with h'|h'|h'
  ·rw[LP K u v h h'];decide
  ·exact absurd h' hv
  ·rw[sV hK h',show u.add zero=mk' fun p=>p u from qm (F:=fun p=>p u+0) fun _=>Int.add_zero _];exact hu
 ·exact absurd h hu
 ·rw[sV hK h,show zero.add v=mk' fun p=>p v from qm (F:=fun p=>0+p v) fun _=>dF _];exact hv
theorem le_trans(hK:KeysOK K){u v w:V5}(h1:le K u v)(h2:le K v w):le K u w:=by
 have:w.sub u=(v.sub u).add (w.sub v):=qm (F:=fun p=>p w-p u) (G:=fun p=>p v-p u+(p w-p v)) fun _=>by omega
 unfold le at*
 rw[this];exact Jd hK h1 h2
theorem Je{u v:V5}(w:V5)(h:le K u v):le K (u.add w) (v.add w):=by
 have:(v.add w).sub (u.add w)=v.sub u:=qm (F:=fun p=>p v+p w-(p u+p w)) (G:=fun p=>p v-p u) fun _=>Int.add_sub_add_right ..
 unfold le at*
 rw[this];exact h
theorem k7(hK:KeysOK K){u v:V5}(h:le K u v):mn K u v=u:=by
 unfold mn
 rcases oF K (v.sub u) with h'|h'|h'
 ·rw[if_pos h']
 ·exact absurd h' h
 ·rw[if_neg (by rw[h'];decide)]
  exact zk (sV hK h')
theorem k8{u v:V5}(h:le K v u):mn K u v=v:=by
 unfold mn
 unfold le at h
 rw[←sW v u,EJ] at h
 exact if_neg fun h'=>h (by rw[h'])
theorem EK(hK:KeysOK K)(u v:V5):mn K u v=mn K v u:=by
 rcases le_total (K:=K) u v with h|h
 ·rw[k7 hK h,k8 h]
 ·rw[k8 h,k7 hK h]
theorem sX(hK:KeysOK K)(u v w:V5):mn K (mn K u v) w=mn K u (mn K v w):=by
 rcases le_total (K:=K) u v with h1|h1
 ·rw[k7 hK h1]
  rcases le_total (K:=K) v w with h2|h2
  ·rw[k7 hK h2,k7 hK (le_trans hK h1 h2),k7 hK h1]
  ·rw[k8 h2]
 ·rw[k8 h1]
  rcases le_total (K:=K) v w with h2|h2
  ·rw[k7 hK h2,k8 h1]
  ·rw[k8 h2,k8 (le_trans hK h2 h1)]
theorem DR(hK:KeysOK K)(u v w:V5):(mn K u v).add w=mn K (u.add w) (v.add w):=by
 rcases le_total (K:=K) u v with h|h
 ·rw[k7 hK h,k7 hK (Je w h)]
 ·rw[k8 h,k8 (Je w h)]
noncomputable def tr(x y m:V5):V5:=mk' fun p=>p x+p y-p m
theorem ro(hK:KeysOK K){u v w u' v':V5}(h:u.add w=u')(h':v.add w=v'):(mn K u v).add w=mn K u' v':=h▸h'▸DR hK u v w
theorem SK{a b c d m:V5}(hK:KeysOK K)(h:mn K b c=m):mn K (mn K a b) (mn K c d)=mn K a (mn K m d):=by
 rw[sX hK,←sX hK b,h]
theorem SM(hK:KeysOK K){qA rX sY qJ qB m1 m2 m3 m4 n1 n2 n3 n4:V5}(RE:mn K qA sY=m1)(VB:mn K (tr qA rX m1) qJ=m2)(Vq:mn K m1 qB=m3)(hm4:mn K (tr sY rX m1) (tr qB m2 m3)=m4)
  (XM:mn K sY qB=n1)(hn2:mn K rX (tr qB qJ n1)=n2)(hn3:mn K qA n1=n3)(hn4:mn K (tr qA n2 n3) (tr sY qJ n1)=n4):
  m3=n3∧m1.add m2=n3.add n4∧m4.add m3=n1.add n2:=by
 have e3:m3=n3:=by rw[←Vq,←RE,sX hK,XM,hn3]
 refine⟨e3,?_,?_⟩
 ·have l1:m1.add m2=mn K (qA.add rX) (qJ.add m1):=by
   rw[show m1.add m2=m2.add m1 from qm fun _=>bh ..,←VB]
   exact ro hK (qm (F:=fun p=>p qA+p rX-p m1+p m1) (G:=fun p=>p qA+p rX) fun _=>d9 ..) rfl
  have l2:qJ.add m1=mn K (qA.add qJ) (sY.add qJ):=by
   rw[show qJ.add m1=m1.add qJ from qm fun _=>bh ..,←RE];exact DR hK ..
  have r1:n3.add n4=mn K (n2.add qA) (n3.add (tr sY qJ n1)):=by
   rw[show n3.add n4=n4.add n3 from qm fun _=>bh ..,←hn4]
   exact ro hK (qm (F:=fun p=>p qA+p n2-p n3+p n3) (G:=fun p=>p n2+p qA) fun _=>by rw[d9,bh]) (qm fun _=>bh ..)
  have r2:n2.add qA=mn K (qA.add rX) (qA.add (tr qB qJ n1)):=by
   rw[←hn2];exact ro hK (qm fun _=>bh ..) (qm fun _=>bh ..)
  have r3:n3.add (tr sY qJ n1)=mn K ((tr sY qJ n1).add qA) (sY.add qJ):=by
   rw[←hn3];exact ro hK (qm fun _=>bh ..) (qm (F:=fun p=>p n1+(p sY+p qJ-p n1)) (G:=fun p=>p sY+p qJ) fun _=>by omega)
  have r4:mn K (qA.add (tr qB qJ n1)) ((tr sY qJ n1).add qA)=qA.add qJ:=by
   have:=ro hK (u:=qB) (v:=sY) (w:=tr qJ qA n1) (u':=qA.add (tr qB qJ n1)) (v':=(tr sY qJ n1).add qA) (qm (F:=fun p=>p qB+(p qJ+p qA-p n1)) (G:=fun p=>p qA+(p qB+p qJ-p n1)) fun _=>by omega) (qm (F:=fun p=>p sY+(p qJ+p qA-p n1)) (G:=fun p=>p sY+p qJ-p n1+p qA) fun _=>by omega)
   rw[←this,EK hK,XM]
   exact qm (F:=fun p=>p n1+(p qJ+p qA-p n1)) (G:=fun p=>p qA+p qJ) fun _=>by omega
  rw[l1,l2,r1,r2,r3,SK hK r4]
 ·have r1:n1.add n2=mn K (n1.add rX) (qB.add qJ):=by
   rw[show n1.add n2=n2.add n1 from qm fun _=>bh ..,←hn2]
   exact ro hK (qm fun _=>bh ..) (qm (F:=fun p=>p qB+p qJ-p n1+p n1) (G:=fun p=>p qB+p qJ) fun _=>d9 ..)
  have r2:n1.add rX=mn K (sY.add rX) (qB.add rX):=by rw[←XM];exact DR hK ..
  have l1:m4.add m3=mn K (m3.add (tr sY rX m1)) (m2.add qB):=by
   rw[←hm4]
   exact ro hK (qm fun _=>bh ..) (qm (F:=fun p=>p qB+p m2-p m3+p m3) (G:=fun p=>p m2+p qB) fun _=>by rw[d9,bh])
  have l2:m3.add (tr sY rX m1)=mn K (sY.add rX) (qB.add (tr sY rX m1)):=by
   rw[←Vq];exact ro hK (qm (F:=fun p=>p m1+(p sY+p rX-p m1)) (G:=fun p=>p sY+p rX) fun _=>by omega) rfl
  have l3:m2.add qB=mn K ((tr qA rX m1).add qB) (qB.add qJ):=by
   rw[←VB];exact ro hK rfl (qm fun _=>bh ..)
  have l4:mn K (qB.add (tr sY rX m1)) ((tr qA rX m1).add qB)=qB.add rX:=by
   have:=ro hK (u:=sY) (v:=qA) (w:=tr rX qB m1) (u':=qB.add (tr sY rX m1)) (v':=(tr qA rX m1).add qB) (qm (F:=fun p=>p sY+(p rX+p qB-p m1)) (G:=fun p=>p qB+(p sY+p rX-p m1)) fun _=>by omega) (qm (F:=fun p=>p qA+(p rX+p qB-p m1)) (G:=fun p=>p qA+p rX-p m1+p qB) fun _=>by omega)
   rw[←this,EK hK,RE]
   exact qm (F:=fun p=>p m1+(p rX+p qB-p m1)) (G:=fun p=>p qB+p rX) fun _=>by omega
  rw[l1,l2,l3,SK hK l4,r1,r2,sX hK]
theorem xl{u v w:V5}(h:u.add v=w):u=w.sub v:=h▸qm (F:=fun p=>p u) (G:=fun p=>p u+p v-p v) fun _=>(fG ..).symm
end
end V5
end
section
open PySem PyProof.Rows PySem.W PySem.W.X
noncomputable def nT(c:Nat):Nat:=c/10
noncomputable def sb(c:Nat):Nat:=10*(c/100)+c%10
noncomputable def nV(c:Nat):Nat:=c%100
noncomputable def qK(n:Nat):List Nat:=(List.range 10).map fun i=>n/1000^i%1000
noncomputable def LQ(l:List Nat):Nat:=l.foldr (fun a r=>1000*r+a) 0
noncomputable def Cs(n:Nat):List Nat:=(qK n).filter fun x=> !Nat.beq x 0
noncomputable def sZ(rows:List Nat)(k:Nat):Nat:=rows.getD k 0
noncomputable def nxt(rows:List Nat)(h:Nat)(ks:List Nat):Option Nat:=
 ks.foldr (fun k r=>bif Nat.ble (sZ rows k%10) (h+1)&&Nat.ble h (sZ rows k%10+1) then bif Nat.beq (sZ rows k%10) h then some k else none else r) none
noncomputable def Pw(rows:List Nat)(k:Nat):Option (Nat×Nat×Nat×Nat):=
 (nxt rows (sZ rows k%10-1) (List.range k).reverse).bind fun f=>(nxt rows (sZ rows k%10-1) (bW (k+1) (9-k))).map fun l=>(10*(sZ rows f/10)+sZ rows k/10%10,f,k,l)
noncomputable def XN(e:Nat×Nat×Nat×Nat)(l:List (Nat×Nat×Nat×Nat)):List (Nat×Nat×Nat×Nat):=l.filter (fun x=>Nat.blt x.1 e.1)++e::l.filter (fun x=> !Nat.blt x.1 e.1)
noncomputable def pG(rows:List Nat):List (Nat×Nat×Nat×Nat):=((List.range 10).filterMap (Pw rows)).foldr XN []
noncomputable def zl(rows:List Nat)(e:Nat×Nat×Nat×Nat):List Nat:=
 rows.take e.2.1++(rows.take e.2.2.1).drop (e.2.1+1)++[10*nV e.1+(sZ rows e.2.1%10+1),10*sb e.1+sZ rows e.2.1%10,10*nT e.1+(sZ rows e.2.1%10+1)]++(rows.take e.2.2.2).drop (e.2.2.1+1)++rows.drop (e.2.2.2+1)
noncomputable def A6(k:Nat):List (Nat×Nat):=([[(341242231143132121044033022011,12013014023024034123124134234)],[(341242231143132044033012021122,123023013124024014034134234),(341242143122131232044033022011,12013014023024034234134124),(232241342143132121044033022011,12013014023024034123124134)],[(341242231143044013032133021122,123023124024134034014234),(341242143122131044023032233011,12013014234034024134124),(341123142243131232044033022011,12013014023024034234134),(232241342143132044033012021122,123023013124024014034134),(232241133142343121044033022011,12013014023024034123124)],[(341242231014043144032133021122,123023124024134034234),(341242143044013022031232133122,234134034124024014123),(341242143122044023012031132233,12234134034014024124),(341123142243131044023032233011,12013014234034024134),(123132141342243232044033022011,12013014023024034234),(232241342143044013032133021122,123023124024134034014),(232241133142343044033012021122,123023013124024014034),(232241133142121034043344022011,12013014023024123124),(232133122141242343044033022011,12013014023024034123)],[(341242014043144022031232133122,234134034124024123),(341242143044013022031123132233,234134034124024014),(341242143044013022123031132233,234134034124024014),(341123142243044023012031132233,12234134034014024),(341123142131024043244032233011,12013014234034134),(123132141342243044023032233011,12013014234034024),(123132141233242343044033022011,12013014023024034),(232241342014043144032133021122,123023124024134034),(232241133142034043344012021122,123023013124024014),(232133122141242034043344022011,12013014023024123),(123132233141242343044033022011,12013014023024034)],[(341014023042243144031232133122,234134034124123),(341242014043144022031123132233,234134034124024),(341242014043144022123031132233,234134034124024),(341123142024043244012031132233,12234134034014),(123132141342024043244032233011,12013014234034),(123132141233242034043344022011,12013014023024),(232241014033042343144133021122,123023124024134),(232241133034013042143344021122,123023013124024),(232133122141034023042243344011,12013014023123),(123132233141242034043344022011,12013014023024)],[(14023032041342243144232133122,123124134234),(341014023042243144031123132233,234134034124),(341014023042243144123031132233,234134034124),(341123024013042143244031132233,12234134034),(123132141024033042343244233011,12013014234),(123132141233034023042243344011,12013014023),(232014033022041242343144133122,123023124134),(232241014033042134143344021122,123023124024),(232241014033134042143344021122,123023124024),(232133034013022041242143344122,123023013124),(232133122034023012041142243344,12013023123),(123132233141034023042243344011,12013014023)],[(14023032041233242343144133122,123124134),(14023032041342243144123132233,234134124),(341014023042124143244031132233,234134034),(341014023124042143244031132233,234134034),(123024013032041342143244132233,12234134),(123132024033012041142343244233,12013234),(123132141024033042234243344011,12013014),(14023032233041242343144133122,123124134),(232014033022041242134143344122,123023124),(232014033134022041242143344122,123023124),(232133034013022041123142243344,123023013),(232133034013022123041142243344,123023013),(123132233034023012041142243344,12013023),(123132141024033234042243344011,12013014)],[(14023032041233242134143344122,123124),(14023032041342124143244132233,234134),(14023124032041342143244132233,234134),(123024013032041133142343244233,12234),(123024013032133041142343244233,12234),(123132024033012041142234243344,12013),(14023032233041242134143344122,123124),(232014033022041134123142243344,123023),(14023032233134041242143344122,123124),(232014033134022041123142243344,123023),(232014033134022123041142243344,123023),(123132024033234012041142243344,12013)],[(14023032041233134123142243344,123),(14023032041124133142343244233,234),(14023124032041133142343244233,234),(123024013032041133142234243344,12),(14023124032133041142343244233,234),(123024013032133041142234243344,12),(14023032233041134123142243344,123),(14023032233134041123142243344,123),(14023032233134123041142243344,123),(123024013032133234041142243344,12)],[(14023032041124133142234243344,0),(14023124032041133142234243344,0),(14023124032133041142234243344,0),(14023032041124133234142243344,0),(14023032124133234041142243344,0),(14023124032133234041142243344,0)]]:List (List (Nat×Nat))).getD k []
noncomputable def Qp:List Nat:=[23014,24013,34012,123014,123024,123034,124013,124023,124034,134012,134023,134024,234012,234013,234014]
noncomputable def uS:List (List Nat):=[[12,13,23,123],[12,14,24,124],[13,14,34,134],[23,24,34,234],[123,124,134,234]]
noncomputable def xm:List Nat→Option (List Nat)
 |[]=>none
 |a::w=>bif Qp.any fun n=>Nat.beq (1000*a+w.headD 0) n&&Nat.beq a (n/1000)&&Nat.beq (w.headD 0) (n%1000) then some (w.headD 0::a::w.tail) else match uS.find? fun q=>Nat.beq (LQ q) (LQ (a::w.take 3).reverse)&&decide (a::w.take 3=q.reverse) with
  |some q=>some (q++w.drop 3)
  |none=>(xm w).map (a:: ·)
noncomputable def AH:Nat→List Nat→List Nat
 |0,w=>w
 |n+1,w=>match xm w with
  |some v=>AH n v
  |none=>w
noncomputable def Px(k n w:Nat)(e:Nat×Nat×Nat×Nat):Bool:=(A6 (k+1)).any fun x=>Nat.beq x.1 (LQ (zl (qK n) e))&&decide (qK x.1=zl (qK n) e∧AH 20 (e.1::Cs x.2)=AH 20 (Cs w))
theorem LR:((List.range 10).all fun k=>(A6 k).all fun x=>(pG (qK x.1)).all (Px k x.1 x.2))=true:=by decide+kernel
theorem LS{k n w:Nat}(hk:k<10)(h:(n,w)∈A6 k){e:Nat×Nat×Nat×Nat}(he:e∈pG (qK n)): ∃n' w',(n',w')∈A6 (k+1)∧qK n'=zl (qK n) e∧AH 20 (e.1::Cs w')=AH 20 (Cs w):=by
 have h1:=List.all_eq_true.mp (List.all_eq_true.mp (List.all_eq_true.mp LR k (List.mem_range.mpr hk)) _ h) e he
 obtain⟨x,hx,hb⟩:=List.any_eq_true.mp h1
 exact⟨x.1,x.2,hx,of_decide_eq_true ((Bool.and_eq_true_iff.mp hb).2)⟩
noncomputable def ix(p:Nat):Nat:=[1,2,3,4,12,13,14,23,24,34].findIdx (Nat.beq p)
section
open V5
variable (K:List (Int×Int))
noncomputable def DS(mf:V5→V5→V5)(tf:V5→V5→V5→V5)(T:List V5)(c:Nat):List V5:=
 (fun i j k=>(fun a b d=>(fun m=>((T.set i (tf a b m)).set j m).set k (tf d b m)) (mf a d)) (T.getD i zero) (T.getD j zero) (T.getD k zero)) (ix (nT c)) (ix (sb c)) (ix (nV c))
noncomputable abbrev A7(T:List V5)(c:Nat):List V5:=DS (mn K) tr T c
noncomputable def kN(T:List V5)(w:List Nat):List V5:=w.foldl (A7 K) T
theorem vP(T:List V5)(c:Nat):(A7 K T c).length=T.length:=by
 show(((T.set _ _).set _ _).set _ _).length=_
 rw[br,br,br]
theorem Jf(w:List Nat): ∀T:List V5,(kN K T w).length=T.length:=by
 induction w with
 |nil=>exact fun _=>rfl
 |cons c w ih=>exact fun T=>(ih _).trans (vP K T c)
theorem Ct(T:List V5)(v w:List Nat):kN K T (v++w)=kN K (kN K T v) w:=List.foldl_append
theorem uu{T:List V5}(h:T.length=10){P:List V5→Prop}(p: ∀a b c d e f g h i j,P [a,b,c,d,e,f,g,h,i,j]):P T:=by
 obtain⟨a,T0,e0,h0⟩:=ir h
 obtain⟨b,T1,e1,h1⟩:=ir h0
 obtain⟨c,T2,e2,h2⟩:=ir h1
 obtain⟨d,T3,e3,h3⟩:=ir h2
 obtain⟨e,T4,e4,h4⟩:=ir h3
 obtain⟨f,T5,e5,h5⟩:=ir h4
 obtain⟨g,T6,e6,h6⟩:=ir h5
 obtain⟨k,T7,e7,h7⟩:=ir h6
 obtain⟨i,T8,e8,h8⟩:=ir h7
 obtain⟨j,T9,e9,h9⟩:=ir h8
 rw[e0,e1,e2,e3,e4,e5,e6,e7,e8,e9,bp h9]
 exact p a b c d e f g k i j
theorem Jg(mf:V5→V5→V5)(tf:V5→V5→V5→V5)(a b c d e f g h i j:V5):Qp.map (fun n=>DS mf tf (DS mf tf [a,b,c,d,e,f,g,h,i,j] (n/1000)) (n%1000))=Qp.map fun n=>DS mf tf (DS mf tf [a,b,c,d,e,f,g,h,i,j] (n%1000)) (n/1000):= (by kernel_rfl)
theorem LU{n:Nat}(h:n∈Qp){T:List V5}(hT:T.length=10):A7 K (A7 K T (n/1000)) (n%1000)=A7 K (A7 K T (n%1000)) (n/1000):=
 uu hT (P:=fun T=>A7 K (A7 K T (n/1000)) (n%1000)=A7 K (A7 K T (n%1000)) (n/1000)) fun a b c d e f g h' i j=>List.map_inj_left.mp (Jg (mn K) tr a b c d e f g h' i j) n h
noncomputable def VH(q:List Nat):List Nat:=[ix (nT (q.getD 0 0)),ix (sb (q.getD 0 0)),ix (sb (q.getD 1 0)),ix (nV (q.getD 0 0)),ix (nV (q.getD 1 0)),ix (nV (q.getD 2 0))]
noncomputable def put(T:List V5)(q:List Nat)(l:List V5):List V5:=(q.zip l).foldl (fun T p=>T.set p.1 p.2) T
noncomputable def XP(mf:V5→V5→V5)(tf:V5→V5→V5→V5)(x:Nat→V5):List V5:=
 (fun m1=>(fun m2=>(fun m3=>(fun m4=>[tf (tf (x 0) (x 1) m1) (x 2) m2,tf m1 m2 m3,m3,tf (tf (x 3) (x 1) m1) (tf (x 4) (x 2) m2) m4,m4,tf (tf (x 5) m2 m3) (tf (x 4) (x 2) m2) m4]) (mf (tf (x 3) (x 1) m1) (tf (x 5) m2 m3))) (mf m1 (x 5))) (mf (tf (x 0) (x 1) m1) (x 4))) (mf (x 0) (x 3))
noncomputable def XQ(mf:V5→V5→V5)(tf:V5→V5→V5→V5)(x:Nat→V5):List V5:=
 (fun n1=>(fun n2=>(fun n3=>(fun n4=>[tf (tf (x 0) n2 n3) (tf (x 1) (x 2) n2) n4,n4,n3,tf (tf (x 3) (x 4) n1) (tf (x 1) (x 2) n2) n4,tf n1 n2 n3,tf (tf (x 5) (x 4) n1) (x 2) n2]) (mf (tf (x 0) n2 n3) (tf (x 3) (x 4) n1))) (mf (x 0) n1)) (mf (x 1) (tf (x 5) (x 4) n1))) (mf (x 3) (x 5))
theorem SN(hK:KeysOK K)(x:Nat→V5):XP (mn K) tr x=XQ (mn K) tr x:=by
 have h:=SM hK (qA:=x 0) (rX:=x 1) (sY:=x 3) (qJ:=x 4) (qB:=x 5) rfl rfl rfl rfl rfl rfl rfl rfl
 revert h
 dsimp only[XP,XQ]
 generalize mn K (x 0) (x 3)=m1
 generalize mn K (tr (x 0) (x 1) m1) (x 4)=m2
 generalize mn K m1 (x 5)=m3
 generalize mn K (tr (x 3) (x 1) m1) (tr (x 5) m2 m3)=m4
 generalize mn K (x 3) (x 5)=n1
 generalize mn K (x 1) (tr (x 5) (x 4) n1)=n2
 generalize mn K (x 0) n1=n3
 generalize mn K (tr (x 0) n2 n3) (tr (x 3) (x 4) n1)=n4
 rintro⟨rfl,h1,h2⟩
 rw[xl h1,xl h2]
 show[_,_,_,_,_,_]=[_,_,_,_,_,_]
 rw[show tr (tr (x 0) (x 1) ((m3.add n4).sub m2)) (x 2) m2=tr (tr (x 0) n2 m3) (tr (x 1) (x 2) n2) n4 from qm (F:=fun p=>p (x 0)+p (x 1)-(p m3+p n4-p m2)+p (x 2)-p m2) (G:=fun p=>p (x 0)+p n2-p m3+(p (x 1)+p (x 2)-p n2)-p n4) fun _=>by omega,
  show tr ((m3.add n4).sub m2) m2 m3=mk' fun p=>p n4 from qm (F:=fun p=>p m3+p n4-p m2+p m2-p m3) fun _=>by omega,
  show tr (tr (x 3) (x 1) ((m3.add n4).sub m2)) (tr (x 4) (x 2) m2) ((n1.add n2).sub m3)=tr (tr (x 3) (x 4) n1) (tr (x 1) (x 2) n2) n4 from qm (F:=fun p=>p (x 3)+p (x 1)-(p m3+p n4-p m2)+(p (x 4)+p (x 2)-p m2)-(p n1+p n2-p m3)) (G:=fun p=>p (x 3)+p (x 4)-p n1+(p (x 1)+p (x 2)-p n2)-p n4) fun _=>by omega,
  show tr (tr (x 5) m2 m3) (tr (x 4) (x 2) m2) ((n1.add n2).sub m3)=tr (tr (x 5) (x 4) n1) (x 2) n2 from qm (F:=fun p=>p (x 5)+p m2-p m3+(p (x 4)+p (x 2)-p m2)-(p n1+p n2-p m3)) (G:=fun p=>p (x 5)+p (x 4)-p n1+p (x 2)-p n2) fun _=>by omega]
 rfl
theorem Py(mf:V5→V5→V5)(tf:V5→V5→V5→V5)(a b c d e f g h i j:V5):uS.map (fun q=>q.foldl (DS mf tf) [a,b,c,d,e,f,g,h,i,j])=uS.map fun q=>put [a,b,c,d,e,f,g,h,i,j] (VH q) (XP mf tf fun n=>[a,b,c,d,e,f,g,h,i,j].getD ((VH q).getD n 0) zero):= (by kernel_rfl)
theorem Pz(mf:V5→V5→V5)(tf:V5→V5→V5→V5)(a b c d e f g h i j:V5):uS.map (fun q=>q.reverse.foldl (DS mf tf) [a,b,c,d,e,f,g,h,i,j])=uS.map fun q=>put [a,b,c,d,e,f,g,h,i,j] (VH q) (XQ mf tf fun n=>[a,b,c,d,e,f,g,h,i,j].getD ((VH q).getD n 0) zero):= (by kernel_rfl)
theorem LV(hK:KeysOK K){q:List Nat}(h:q∈uS){T:List V5}(hT:T.length=10):kN K T q.reverse=kN K T q:=by
 refine uu hT (P:=fun T=>kN K T q.reverse=kN K T q) fun a b c d e f g h' i j=> ?_
 exact(List.map_inj_left.mp (Pz (mn K) tr a b c d e f g h' i j) q h).trans ((congrArg (put _ _) (SN K hK _).symm).trans (List.map_inj_left.mp (Py (mn K) tr a b c d e f g h' i j) q h).symm)
theorem LW(hK:KeysOK K): ∀{w v:List Nat},xm w=some v→ ∀{T:List V5},T.length=10→kN K T v=kN K T w:=by
 intro w
 induction w with
 |nil=>exact fun h=>nomatch h
 |cons a w ih=>
  intro v h T hT
  unfold xm at h
  cases h1:Qp.any fun n=>Nat.beq (1000*a+w.headD 0) n&&Nat.beq a (n/1000)&&Nat.beq (w.headD 0) (n%1000) with
  |true=>
   rw[h1] at h
   obtain⟨n,hn,hb⟩:=List.any_eq_true.mp h1
   obtain⟨hb,h3⟩:=Bool.and_eq_true_iff.mp hb
   have h2:=Nat.eq_of_beq_eq_true (Bool.and_eq_true_iff.mp hb).2
   have h3:=Nat.eq_of_beq_eq_true h3
   cases w with
   |nil=>exact absurd hn ((by decide: ∀n,n∈Qp→n%1000≠0) n hn h3.symm).elim
   |cons b w=>
    rw[←Option.some.inj h]
    show kN K (A7 K (A7 K T b) a) w=kN K (A7 K (A7 K T a) b) w
    rw[show b=n%1000 from h3,h2,LU K hn hT]
  |false=>
   rw[h1] at h
   replace h:(match uS.find? fun q=>Nat.beq (LQ q) (LQ (a::w.take 3).reverse)&&decide (a::w.take 3=q.reverse) with|some q=>some (q++w.drop 3)|none=>(xm w).map (a:: ·))=some v:=h
   cases h2:uS.find? fun q=>Nat.beq (LQ q) (LQ (a::w.take 3).reverse)&&decide (a::w.take 3=q.reverse) with
   |some q=>
    rw[h2] at h
    have h3:=of_decide_eq_true (Bool.and_eq_true_iff.mp (List.find?_some (p:=fun q=>Nat.beq (LQ q) (LQ (a::w.take 3).reverse)&&decide (a::w.take 3=q.reverse)) h2)).2
    rw[←Option.some.inj h,Ct,←LV K hK (List.mem_of_find?_eq_some h2) hT,←h3,←Ct]
    exact congrArg (fun l=>kN K T (a::l)) (List.take_append_drop 3 w)
   |none=>
    rw[h2] at h
    obtain⟨u,hu,e⟩:=Option.map_eq_some_iff.mp h
    rw[←e]
    exact ih hu ((vP K T a).trans hT)
theorem vQ(hK:KeysOK K){T:List V5}(hT:T.length=10)(n:Nat): ∀w:List Nat,kN K T (AH n w)=kN K T w:=by
 induction n with
 |zero=>exact fun _=>rfl
 |succ n ih=>
  intro w
  show kN K T (match xm w with|some v=>AH n v|none=>w)=_
  cases h:xm w with
  |some v=>exact(ih v).trans (LW K hK h hT)
  |none=>rfl
theorem LX(hK:KeysOK K){k n w:Nat}(hk:k<10)(h:(n,w)∈A6 k){e:Nat×Nat×Nat×Nat}(he:e∈pG (qK n)){T:List V5}(hT:T.length=10):
  ∃n' w',(n',w')∈A6 (k+1)∧qK n'=zl (qK n) e∧kN K (A7 K T e.1) (Cs w')=kN K T (Cs w):=by
 obtain⟨n',w',h1,h2,h3⟩:=LS hk h he
 refine⟨n',w',h1,h2,?_⟩
 rw[←vQ K hK hT 20 (Cs w),←h3,vQ K hK hT];rfl
end
end
section
open PySem PyProof.Rows
open V5
noncomputable def V5.l5(u:V5):List Int:=[u.a,u.b,u.c,u.d,u.e]
noncomputable def jf(u:V5):PV:= .list (u.l5.map .int)
noncomputable def xn(u:V5):PV:= .tup (u.l5.map .int)
noncomputable def EL(u:V5):PV:= .ja [Str.ofString "f",Str.ofString "g"] [.int u.e,.tup [.int (u.e-u.d),.int (3*u.a),.int (u.b-u.c),.int (-u.e)]]
noncomputable def jI(u:V5):PV:= .tup [.int u.a,.int u.b,.int u.c,.int u.d,EL u]
noncomputable def s6:PV:= .tup [.int 0,.int 0,.int 0,.int 0,.ja [] []]
theorem xq(u:V5):kW [jf u]=some (jI u):= (by kernel_rfl)
theorem xr(u:V5):j2 [jI u]=some (xn u):= (by kernel_rfl)
theorem LY(u v:V5):hG [jI u,jI v]=some (.tup [.int (v.a+u.a),.int (v.b+u.b),.int (v.c+u.c),.int (v.d+u.d),.ja [Str.ofString "f",Str.ofString "g"] [.int (u.e+v.e),.tup [.int (v.e-v.d+(u.e-u.d)),.int (3*v.a+3*u.a),.int (v.b-v.c+(u.b-u.c)),.int (-v.e+ -u.e)]]]):= (by kernel_rfl)
theorem PA{u v w z y:Int}{a b c d:Int}{r:V5}(h1:a=r.a)(h2:b=r.b)(h3:c=r.c)(h4:d=r.d)(h5:u=r.e)(h6:v=r.e-r.d)(h7:w=3*r.a)(h8:z=r.b-r.c)(h9:y= -r.e):PV.tup [.int a,.int b,.int c,.int d,.ja [Str.ofString "f",Str.ofString "g"] [.int u,.tup [.int v,.int w,.int z,.int y]]]=jI r:=by
 rw[h1,h2,h3,h4,h5,h6,h7,h8,h9]
 rfl
theorem SO(a b c d:Int):c-d+(a-b)=a+c-(b+d):=by rw[fE,fE,fE,Int.neg_add];ac_rfl
theorem AI(u v:V5):hG [jI u,jI v]=some (jI (u.add v)):=
 (LY u v).trans (congrArg some (PA (r:=u.add v) (bh _ _) (bh _ _) (bh _ _) (bh _ _) rfl (SO _ _ _ _) ((bh ..).trans (fg ..).symm) (SO _ _ _ _) ((bh ..).trans Int.neg_add.symm)))
theorem Cu(u:V5):hG [s6,jI u]=some (.tup [.int (u.a+0),.int (u.b+0),.int (u.c+0),.int (u.d+0),EL u]):= (by kernel_rfl)
theorem LZ(u:V5):hG [s6,jI u]=some (jI u):=by
 rw[Cu];simp only[Int.add_zero];rfl
theorem yB(u:V5):hG [jI u,s6]=some (.tup [.int (0+u.a),.int (0+u.b),.int (0+u.c),.int (0+u.d),EL u]):= (by kernel_rfl)
theorem Gf(u:V5):hG [jI u,s6]=some (jI u):=by
 rw[yB];simp only[dF];rfl
noncomputable def Cv(k:Int×Int):PV:= .tup [.int k.1,.int k.2]
noncomputable def kr(K:List (Int×Int)):PV:= .list (K.map Cv)
noncomputable def PB(K:List (Int×Int)):PV:= .inst tJ (Str.ofString "comp_select_list") (.list (K.map Cv))
theorem SP{i:Int}(h0:0≤i)(h5:i<5): ∃n,n∈List.range 5∧i=((n:Nat):Int):=by
 obtain⟨n,rfl⟩:=cK h0
 exact⟨n,List.mem_range.mpr (Int.ofNat_lt.mp h5),rfl⟩
theorem NB{i:Int}(h0:0≤i)(h5:i<5)(u:V5):gH (xn u) (.int i)=some (.int (u.at' i)):=(SP h0 h5).elim fun n h=>h.2▸jU (f:=fun n:Nat=>gH (xn u) (.int (n:Int))) (g:=fun n:Nat=>some (.int (u.at' n))) (by kernel_rfl) h.1
theorem Jh{i:Int}(h0:0≤i)(h5:i<5)(u:V5):gH (jf u) (.int i)=some (.int (u.at' i)):=(SP h0 h5).elim fun n h=>h.2▸jU (f:=fun n:Nat=>gH (jf u) (.int (n:Int))) (g:=fun n:Nat=>some (.int (u.at' n))) (by kernel_rfl) h.1
noncomputable def nU(K:List (Int×Int))(u v:V5):Int:=K.foldr (fun p r=>if u.at' p.1<v.at' p.1 then-p.2 else if v.at' p.1<u.at' p.1 then p.2 else r) 0
theorem EM{i d:Int}{K:List (Int×Int)}{u v:V5}(h:u.at' i<v.at' i):nU ((i,d)::K) u v= -d:=if_pos h
theorem EN{i d:Int}{K:List (Int×Int)}{u v:V5}(h: ¬ u.at' i<v.at' i)(h2:v.at' i<u.at' i):nU ((i,d)::K) u v=d:=(if_neg h).trans (if_pos h2)
theorem EO{i d:Int}{K:List (Int×Int)}{u v:V5}(h: ¬ u.at' i<v.at' i)(h2: ¬ v.at' i<u.at' i):nU ((i,d)::K) u v=nU K u v:=(if_neg h).trans (if_neg h2)
noncomputable def PC(self:MV)(u v:V5)(a b c d:MV):List MV:=[self,.p (xn u),.p (xn v),a,b,c,d]
theorem Ji{u v:V5}{self:MV}: ∀(K:List (Int×Int)) (a b c d:MV),(∀p∈K,0≤p.1∧p.1<5)→ ∃fl ρ',nj #[m,[3,4]] jS #[k] (PC self u v a b c d) (K.map Cv)=some (fl,ρ')∧(fl= .ret (.int (nU K u v))∨fl= .next∧nU K u v=0):=by
 intro K
 induction K with
 |nil=>exact @fun a b c d _=>⟨_,_,rfl,.inr ⟨rfl,rfl⟩⟩
 |cons q0 K iu=>
  obtain⟨i,w⟩:=q0
  intro a b c d h
  have h':=h (i,w) (aA ..)
  have b0 (g):gR jy (gR jz g) (PC self u v (.p (.int i)) (.p (.int w)) c d)=g (PC self u v (.p (.int i)) (.p (.int w)) (.p (.int (u.at' i))) (.p (.int (v.at' i)))):=
   (gG (ρ':=PC self u v (.p (.int i)) (.p (.int w)) (.p (.int (u.at' i))) d) (hJ (ct rfl rfl (NB h'.1 h'.2 u)))).trans (gG (hJ (ct rfl rfl (NB h'.1 h'.2 v))))
  by_cases c1:u.at' i<v.at' i
  ·exact⟨_,_,Cf rfl ((b0 _).trans (j1 (gI (o:=some (decide (u.at' i<v.at' i))) (congrArg some (decide_eq_true c1))))),.inl (by rw[EM c1])⟩
  ·have b1 (g):gR jA g (PC self u v (.p (.int i)) (.p (.int w)) (.p (.int (u.at' i))) (.p (.int (v.at' i))))=g (PC self u v (.p (.int i)) (.p (.int w)) (.p (.int (u.at' i))) (.p (.int (v.at' i)))):=
    gG (gI (o:=some (decide (u.at' i<v.at' i))) (congrArg some (decide_eq_false c1)))
   by_cases c2:v.at' i<u.at' i
   ·exact⟨_,_,Cf rfl ((b0 _).trans ((b1 _).trans (j1 (gI (o:=some (decide (v.at' i<u.at' i))) (congrArg some (decide_eq_true c2)))))),.inl (by rw[EN c1 c2])⟩
   ·exact(iu (.p (.int i)) (.p (.int w)) (.p (.int (u.at' i))) (.p (.int (v.at' i))) fun p hp=>h p (av _ hp)).imp fun fl x=>x.imp fun ρ' x=>
     ⟨(lB rfl ((b0 _).trans ((b1 _).trans (gG (gI (o:=some (decide (v.at' i<u.at' i))) (congrArg some (decide_eq_false c2))))))).trans x.1,by rw[EO c1 c2];exact x.2⟩
theorem DT{K:List (Int×Int)}(hK: ∀p∈K,0≤p.1∧p.1<5)(u v:V5):ju [PB K,xn u,xn v]=some (.int (nU K u v)):=by
 obtain⟨fl,ρ',e,h⟩:=Ji (u:=u) (v:=v) (self:= .p (PB K)) K .un .un .un .un hK
 have h1:jT (PC (.p (PB K)) u v .un .un .un .un)=some (fl,ρ'):=(gI (o:=some (K.map Cv)) rfl).trans e
 rcases h with rfl|⟨rfl,h⟩
 ·exact nH (f:=jt) rfl rfl (j1 h1)
 ·rw[h]
  exact nH (f:=jt) rfl rfl ((gG h1).trans (j1 rfl))
theorem Cw{K:List (Int×Int)}(hK: ∀p∈K,0≤p.1∧p.1<5)(u v:V5):ju (.inst tJ (Str.ofString "comp_select_list") (kr K)::[xn u,xn v])=some (.int (nU K u v)):=DT hK u v
end
section
open PySem PyProof.Rows
open V5
noncomputable def ij:List Nat:=[1,2,3,4,12,13,14,23,24,34]
noncomputable def yC:List Int:=[1,2,3,4,12,13,14,23,24,34]
noncomputable def xt(T:List V5):MV:= .Ba yC (T.map jI)
theorem oG{f:V5→PV}{T:List V5}(h:T.length=10){p:Nat}(hp:p∈ij):kl yC (T.map f) (p:Nat)=some (f (T.getD (ix p) zero)):=
 uu h (P:=fun T=>kl yC (T.map f) (p:Nat)=some (f (T.getD (ix p) zero))) fun a b c d e g k l i j=>
  jU (f:=fun p:Nat=>kl yC ([a,b,c,d,e,g,k,l,i,j].map f) (p:Nat)) (g:=fun p=>some (f ([a,b,c,d,e,g,k,l,i,j].getD (ix p) zero))) (by kernel_rfl) hp
theorem zm{f:V5→PV}{T:List V5}(h:T.length=10){p:Nat}(hp:p∈ij)(x:V5):kB yC (T.map f) (p:Nat) (f x)=(yC,(T.set (ix p) x).map f):=
 uu h (P:=fun T=>kB yC (T.map f) (p:Nat) (f x)=(yC,(T.set (ix p) x).map f)) fun a b c d e g k l i j=>
  jU (f:=fun p:Nat=>kB yC ([a,b,c,d,e,g,k,l,i,j].map f) (p:Nat) (f x)) (g:=fun p=>(yC,([a,b,c,d,e,g,k,l,i,j].set (ix p) x).map f)) (by kernel_rfl) hp
noncomputable def EP(u v w:V5):PV:= .list [EL u,EL v,EL w,.ja [] []]
theorem DU(tl:List MV)(u v w:V5):jV (iF (gX [0] #[n,0]) #[y] #[f,#[c,#[b,#[0],#[i,4],gH],#v[]],(fun ps=>(Dc ps).bind MV.CR)]) (.un::tl) [jI u,jI v,jI w,s6]=some [EL u,EL v,EL w,.ja [] []]:= (by kernel_rfl)
theorem Gg(tl:List MV)(u v w:V5):jV (iF (gX [0] #[n,0]) #[y] #[b,#[0],#[i,4],gH]) (.un::tl) [jI u,jI v,jI w,s6]=some [EL u,EL v,EL w,.ja [] []]:= (by kernel_rfl)
theorem Jj(tl:List MV)(u v:V5):jV (iF (gX [0,1] #[m,[0,1]]) #[y] #[b,#[0],#[1],kO]) (.un:: .un::tl) (wH (u.l5.map .int) (v.l5.map .int))=some ((u.sub v).l5.map .int):= (by kernel_rfl)
section
variable {ρ:List MV} {a b c:V5} {T:List V5} {o i l:Nat}
theorem p8(hT:T.length=10)(ho:o∈ij)(hi:i∈ij)(hl:l∈ij)(Jk:ρ[15]? =some (xt T))(PD:ρ[25]? =some (.p (.int (o:Nat))))(PF:ρ[26]? =some (.p (.int (i:Nat))))(PG:ρ[27]? =some (.p (.int (l:Nat)))):
  mF ρ=some (.next,((ρ.set 30 (.p (jI (T.getD (ix l) zero)))).set 29 (.p (jI (T.getD (ix i) zero)))).set 28 (.p (jI (T.getD (ix o) zero)))):=by
 have g: ∀{j p:Nat},p∈ij→ρ[j]? =some (.p (.int (p:Nat)))→kR 15 (fun σ=>gQ σ[j]?) ρ=some (jI (T.getD (ix p) zero)):=fun hp hj=>gE Jk (gE (congrArg gQ hj) (oG hT hp))
 exact gE (lp (gF (g ho PD) (gF (g hi PF) (gF (g hl PG) rfl))) rfl) rfl
theorem ER(A8:ρ[28]? =some (.p (jI a)))(L0:ρ[29]? =some (.p (jI b)))(A9:ρ[30]? =some (.p (jI c)))(L1:ρ[14]? =some (.p s6)):(#[t,#[c,#[28],#[c,#[29],#[c,#[30],#[c,#[14],#v[]]]]]] ρ).bind itemsOf=some [jI a,jI b,jI c,s6]:=
 gE (lp (gF (congrArg gQ A8) (gF (congrArg gQ L0) (gF (congrArg gQ A9) (gF (congrArg gQ L1) rfl)))) rfl) rfl
theorem p9(A8:ρ[28]? =some (.p (jI a)))(L0:ρ[29]? =some (.p (jI b)))(A9:ρ[30]? =some (.p (jI c)))(L1:ρ[14]? =some (.p s6)):mG ρ=some (.next,ρ.set 31 (.p (EP a b c))):=
 hJ (ip (ER A8 L0 A9 L1) (DU (ρ.map MV.mm) a b c) rfl)
theorem p10(A8:ρ[28]? =some (.p (jI a)))(A9:ρ[30]? =some (.p (jI b))):lE ρ=some (.next,(ρ.set 32 (.p (jf (a.sub b)))).set 33 (.p (.int 0))):=
 gI (lp (gF (ip ((gI (gF ((gI (gF (congrArg gQ A8) rfl)).trans (xr a)) (gF ((gI (gF (congrArg gQ A9) rfl)).trans (xr b)) rfl))).trans (show sE [xn a,xn b]=some (wH (a.l5.map .int) (b.l5.map .int)) from rfl)) (Jj (ρ.map MV.mm) a b) rfl) (gF rfl rfl)) rfl)
noncomputable def mH(K:List (Int×Int))(u v:V5):List Int:=(K.filter fun p=>(u.sub v).at' p.1 !=0).map fun p=>if 0<(u.sub v).at' p.1 then p.2 else-p.2
theorem Cx(u v:V5)(i d:Int)(K:List (Int×Int)):mH ((i,d)::K) u v=if u.at' i<v.at' i then-d::mH K u v else if v.at' i<u.at' i then d::mH K u v else mH K u v:=by
 unfold mH
 have hs:(u.sub v).at' i=u.at' i-v.at' i:=DQ u v i
 rcases dH (u.at' i) (v.at' i) with h|h|h
 ·rw[if_pos h,eA (p:=fun p:Int×Int=>(u.sub v).at' p.1 !=0) (bne_iff_ne.mpr (show(u.sub v).at' i≠0 by omega)),aU,if_neg (show ¬ 0<(u.sub v).at' i by omega)]
 ·rw[if_neg (by omega),if_neg (by omega),List.filter_cons_of_neg (p:=fun p:Int×Int=>(u.sub v).at' p.1 !=0) (by rw[hs,h,Int.sub_self];decide)]
 ·rw[if_neg (by omega),if_pos h,eA (p:=fun p:Int×Int=>(u.sub v).at' p.1 !=0) (bne_iff_ne.mpr (show(u.sub v).at' i≠0 by omega)),aU,if_pos (show 0<(u.sub v).at' i by omega)]
theorem DV(u v:V5): ∀K:List (Int×Int),(mH K u v++[0])[0]? =some (nU K u v):=by
 intro K
 induction K with
 |nil=>exact rfl
 |cons q0 K iu=>
  obtain⟨i,d⟩:=q0
  rw[Cx]
  by_cases h:u.at' i<v.at' i
  ·rw[if_pos h,EM h];rfl
  ·by_cases h2:v.at' i<u.at' i
   ·rw[if_neg h,if_pos h2,EN h h2];rfl
   ·rw[if_neg h,if_neg h2,EO h h2];exact iu
theorem Cy{tl:List MV}(XR:tl[32]? =some (.p (jf (a.sub b))))(K:List (Int×Int))(h: ∀p∈K,0≤p.1∧p.1<5):jV (iF (gX [0,1] #[m,[0,1]]) #[q,ik #[34] #[0] gH,#[i,0],pR] #[w,#[q,ik #[34] #[0] gH,#[i,0],xK],#[1],#[f,#[1],pj]]) (.un:: .un::tl) (K.map Cv)=some ((mH K a b).map .int):=by
 refine(sQ (c:=Cv) (q:=fun p=>(a.sub b).at' p.1 !=0) (g:=fun p=> .int (if 0<(a.sub b).at' p.1 then p.2 else-p.2)) fun p hp=> ?_).trans (congrArg some List.map_map.symm)
 have hi:=Jh (h p hp).1 (h p hp).2 (a.sub b)
 have ht: ∀{o:PV→PV→Option PV} {r:Option PV},o (.int ((a.sub b).at' p.1)) (.int 0)=r→ik #[b,#[34],#[0],gH] #[i,0] o (.p (.int p.1):: .p (.int p.2)::tl)=r:=ct (ct (congrArg gQ XR) rfl hi) rfl
 by_cases c0:((a.sub b).at' p.1 !=0)=true
 ·rw[if_pos c0]
  refine iw (gP:= .p (.int p.1):: .p (.int p.2)::tl) rfl (jj (ht rfl) c0) ?_
  by_cases c1:0<(a.sub b).at' p.1
  ·rw[if_pos c1];exact gI (jj (ht rfl) (decide_eq_true c1))
  ·rw[if_neg c1];exact gI (jj (ht rfl) (decide_eq_false c1))
 ·rw[if_neg c0]
  exact uH (gP:= .p (.int p.1):: .p (.int p.2)::tl) rfl (jj (ht rfl) (Bool.eq_false_iff.mpr c0))
variable {K:List (Int×Int)}
theorem pb0(hK: ∀p∈K,0≤p.1∧p.1<5)(Qq:ρ[34]? =some (.p (kr K)))(A8:ρ[28]? =some (.p (jI a)))(A9:ρ[30]? =some (.p (jI b))):kE ρ=some (.next,ρ.set 33 (.p (.int (nU K a b)))):=
 hJ (gE (gE (gF (congrArg gQ Qq) rfl) (show Ad tJ (Str.ofString "comp_select_list") [kr K]=some (.inst tJ (Str.ofString "comp_select_list") (kr K)) from rfl)) ((Ge _).trans (gE (gF (gE (gF (congrArg gQ A8) rfl) (xr a)) (gF (gE (gF (congrArg gQ A9) rfl) (xr b)) rfl)) (Cw hK a b))))
theorem DW(u v:V5)(K:List (Int×Int)):(mH K u v).length≤K.length:=by
 unfold mH;rw[aD];exact List.length_filter_le _ _
theorem pb1(hK: ∀p∈K,0≤p.1∧p.1<5)(Jl:K.length≤5)(Qq:ρ[34]? =some (.p (kr K)))(GH:ρ[32]? =some (.p (jf (a.sub b))))(XS:ρ[33]? =some (.p (.int (nU K a b)))):kF ρ=some (.next,ρ):=by
 have ib:=Nat.le_trans (DW a b K) Jl
 have hf:pI ((mH K a b).map .int)=true:=decide_eq_true (by rw[aD];exact Nat.le_trans ib (by decide))
 have PH:gY (.list ((mH K a b).map .int)) (.list [.int 0])=some (.list ((mH K a b++[0]).map .int)):=
  (if_pos (by rw[aD];exact Nat.le_trans (bC ib 1) (by decide))).trans (by rw[bA];rfl)
 exact gI (a:=false) (jj (ct (congrArg gQ XS) (ct (ct (ip ((gI (congrArg gQ Qq)).trans rfl) (Cy (tl:=ρ.map MV.mm) (a:=a) (b:=b) (by rw[aL,GH];rfl) K hK) hf) (nG (gF rfl rfl) rfl) PH) rfl (item_list (i:=0) (DV a b K) (by decide))) (ne_int _)) rfl)
theorem pb(hK: ∀p∈K,0≤p.1∧p.1<5)(Jl:K.length≤5)(ib:ρ.length=44)(Qq:ρ[34]? =some (.p (kr K)))(A8:ρ[28]? =some (.p (jI a)))(A9:ρ[30]? =some (.p (jI b)))(GH:ρ[32]? =some (.p (jf (a.sub b)))):lF ρ=some (.next,ρ.set 33 (.p (.int (nU K a b)))):=
 (gG (pb0 hK Qq A8 A9)).trans (gG (pb1 (K:=K) (a:=a) (b:=b) hK Jl (jH Qq rfl) (jH GH rfl) (sU (ib▸by decide))))
noncomputable def L2(ρ:List MV)(K:List (Int×Int))(m:Nat)(a b:V5):List MV:=(((ρ.set 34 (.p (kr (K.take m)))).set 33 (.p (.int (nU (K.take m) a b)))).set 34 (.p (kr K))).set 33 (.p (.int (nU K a b)))
noncomputable def PI(turn:Nat)(x:Int):Nat:=(((turn:Int)+x).fmod 5).toNat
theorem p11{turn:Nat}{cs:List Int}{x:Int}(hK: ∀p∈K,0≤p.1∧p.1<5)(Jl:K.length=5)(ib:ρ.length=44)(h0:ρ[0]? =some (.p (.list (cs.map .int))))(hx:cs[9]? =some x)(h2:ρ[2]? =some (.p (kr K)))(Cz:ρ[17]? =some (.p (.int (turn:Nat))))(A8:ρ[28]? =some (.p (jI a)))(A9:ρ[30]? =some (.p (jI b)))(GH:ρ[32]? =some (.p (jf (a.sub b)))):
  lG ρ=some (.next,L2 ρ K (PI turn x) a b):=by
 have hs:jm (kr K) none (some (PI turn x:Int))=some (kr (K.take (PI turn x))):=
  (if_pos (by rw[aD,Jl];decide)).trans (by rw[qz,←List.map_take];rfl)
 have b1:=pb (ρ:=ρ.set 34 (.p (kr (K.take (PI turn x))))) (K:=K.take (PI turn x)) (a:=a) (b:=b) (fun p hp=>hK p (List.mem_of_mem_take hp)) (Nat.le_trans (dN _ _) (ba Jl)) (by rw[br];exact ib) (sU (ib▸by decide)) (jH A8 rfl) (jH A9 rfl) (jH GH rfl)
 have b2:=pb (ρ:=((ρ.set 34 (.p (kr (K.take (PI turn x))))).set 33 (.p (.int (nU (K.take (PI turn x)) a b)))).set 34 (.p (kr K))) (K:=K) (a:=a) (b:=b) hK (ba Jl) (by rw[br,br,br];exact ib) (sU (by rw[br,br,ib];decide)) (jH (jH (jH A8 rfl) rfl) rfl) (jH (jH (jH A9 rfl) rfl) rfl) (jH (jH (jH GH rfl) rfl) rfl)
 exact gE (gE (lp (gF (gE (congrArg gQ h2) (gE rfl (gE (gE (ct (ct (congrArg gQ Cz) (ct (congrArg gQ h0) rfl (item_list (i:=9) hx (by decide))) rfl) rfl (congrArg (fun x=>some (PV.int x)) (pf ((turn:Int)+x) 5 (by decide)).2)) rfl) hs))) (gF (congrArg gQ h2) rfl)) rfl) rfl) ((lB rfl b1).trans ((lB rfl b2).trans rfl))
end
theorem Jm{x y d:Int}(hd:d≠0){c t:Int}(h:c<0↔t=1):(if x<y then-d else if y<x then d else c)<0↔(if 0<(y-x)*d then 1 else if (y-x)*d<0 then-1 else t)=1:=by
 rcases dH x y with g|g|g
 ·rw[if_pos g]
  rcases dH d 0 with e|e|e
  ·rw[if_neg (eO (Int.mul_neg_of_pos_of_neg (ei g) e)),if_pos (Int.mul_neg_of_pos_of_neg (ei g) e)]
   exact⟨fun k=>absurd k (by omega),nofun⟩
  ·exact absurd e hd
  ·rw[if_pos (Int.mul_pos (ei g) e)]
   exact⟨fun _=>rfl,fun _=>Int.neg_neg_of_pos e⟩
 ·rw[g,if_neg (Int.lt_irrefl y),if_neg (Int.lt_irrefl y),Int.sub_self,fP]
  exact h
 ·rw[if_neg (eO g),if_pos g]
  rcases dH d 0 with e|e|e
  ·rw[if_pos (Int.mul_pos_of_neg_of_neg (dG g) e)]
   exact⟨fun _=>rfl,fun _=>e⟩
  ·exact absurd e hd
  ·rw[if_neg (eO (Int.mul_neg_of_neg_of_pos (dG g) e)),if_pos (Int.mul_neg_of_neg_of_pos (dG g) e)]
   exact⟨fun k=>absurd k (eO e),nofun⟩
theorem ES(u v:V5): ∀K:List (Int×Int),(∀p∈K,p.2≠0)→(nU K u v<0↔zj K (v.sub u)=1):=by
 intro K
 induction K with
 |nil=>exact @fun _=>⟨nofun,nofun⟩
 |cons q0 K iu=>
  obtain⟨i,d⟩:=q0
  intro h
  have e:=Jm (x:=u.at' i) (y:=v.at' i) (h (i,d) (aA ..)) (iu fun p hp=>h p (av _ hp))
  rw[←DQ] at e
  exact e
theorem PJ{K:List (Int×Int)}(hd: ∀p∈K,p.2≠0)(a b:V5):mn K a b=if nU K a b<0 then a else b:=by
 unfold mn
 by_cases h:nU K a b<0
 ·rw[if_pos h,if_pos ((ES a b K hd).mp h)]
 ·rw[if_neg h,if_neg fun h'=>h ((ES a b K hd).mpr h')]
theorem Jn(tl:List MV)(u:V5):jV (iF (gX [0] #[n,0]) #[y] #[f,#[0],pj]) (.un::tl) (u.l5.map .int)=some (u.neg.l5.map .int):= (by kernel_rfl)
theorem AJ(n:Nat)(u:V5):zF (n+2) (EL u) (EL u)=some true:=
 (if_pos rfl).trans (jv (Qo ..) (jv (show ry (yI n) _ _=_ from jv (Qo ..) (jv (Qo ..) (jv (Qo ..) (jv (Qo ..) rfl)))) rfl))
theorem L3(u v w:V5):pR (EP u v w) (EP u v w)=some (.bool false):=congrArg (Option.map fun b=>PV.bool !b) (show ry (zF 8) _ _=_ from jv (AJ 6 u) (jv (AJ 6 v) (jv (AJ 6 w) (jv (p:= .ja [] []) rfl rfl))))
section
variable {ρ:List MV} {a b c m:V5} {T:List V5} {K:List (Int×Int)} {o:Nat}
theorem p12(hd: ∀p∈K,p.2≠0)(L1:ρ[14]? =some (.p s6))(A8:ρ[28]? =some (.p (jI a)))(A9:ρ[30]? =some (.p (jI b)))(XS:ρ[33]? =some (.p (.int (nU K a b)))):kc ρ=some (.next,ρ.set 35 (.p (jI (mn K a b)))):=by
 have he: ∀x:V5,((if decide (nU K a b<0) then gQ ρ[28]? else gQ ρ[30]?)=some (jI x))→kc ρ=some (.next,ρ.set 35 (.p (jI x))):=fun x hx=>
  hJ ((gI (gF (congrArg gQ L1) (gF ((gI (jj (ct (congrArg gQ XS) rfl rfl) rfl)).trans hx) rfl))).trans (LZ x))
 rw[PJ hd]
 by_cases h:nU K a b<0
 ·rw[if_pos h]
  exact he a ((if_pos (decide_eq_true h)).trans (congrArg gQ A8))
 ·rw[if_neg h]
  exact he b ((if_neg (by rw[decide_eq_false h];decide)).trans (congrArg gQ A9))
theorem p13(XT:ρ[35]? =some (.p (jI m)))(L1:ρ[14]? =some (.p s6)):lH ρ=some (.next,ρ.set 36 (.p (jI m.neg))):=by
 have hc:=ip (n:=1) (f₀:=fun ρ=>(#[f,#[c,#[35],#v[]],j2] ρ).bind itemsOf) (f₁:=jV (iF (gX [0] #[n,0]) #[y] #[f,#[0],pj]))
  ((gI ((gI (gF (congrArg gQ XT) rfl)).trans (xr m))).trans rfl) (Jn (ρ.map MV.mm) m) rfl
 exact hJ ((gI (gF ((gI (gF hc rfl)).trans (xq m.neg)) (gF (congrArg gQ L1) rfl))).trans (Gf m.neg))
theorem AK(hT:T.length=10)(ho:o∈ij){j:Nat}{f:List MV→Option PV}{x:V5}(Jk:ρ[15]? =some (xt T))(hj:ρ[j]? =some (.p (.int (o:Nat))))(hf:f ρ=some (jI x)):uZ 15 (fun σ=>gQ σ[j]?) f ρ=some (.next,ρ.set 15 (xt (T.set (ix o) x))):=by
 refine gE hf (gE (congrArg gQ hj) (hJ ((gI Jk).trans ((if_pos (e:=none) (show 10≤100000 by decide)).trans ?_))))
 rw[zm hT ho];rfl
theorem Jo(x y m:V5):(x.add y).add m.neg=tr x y m:=qm (F:=fun p=>p x+p y+ -p m) (G:=fun p=>p x+p y-p m) fun _=>Int.sub_eq_add_neg.symm
theorem L4(x y m:V5):(y.add x).add m.neg=tr x y m:=(congrArg (add · m.neg) (qm fun _=>bh ..)).trans (Jo x y m)
theorem p14(hT:T.length=10)(ho:o∈ij)(Jk:ρ[15]? =some (xt T))(PD:ρ[25]? =some (.p (.int (o:Nat))))(A8:ρ[28]? =some (.p (jI a)))(L0:ρ[29]? =some (.p (jI b)))(XU:ρ[36]? =some (.p (jI m.neg))):lI ρ=some (.next,ρ.set 15 (xt (T.set (ix o) (tr a b m)))):=
 AK hT ho Jk PD ((gI (gF ((gI (gF (congrArg gQ A8) (gF (congrArg gQ L0) rfl))).trans (AI a b)) (gF (congrArg gQ XU) rfl))).trans ((AI _ _).trans (congrArg (fun x=>some (jI x)) (Jo a b m))))
theorem p15(hT:T.length=10)(ho:o∈ij)(Jk:ρ[15]? =some (xt T))(PF:ρ[26]? =some (.p (.int (o:Nat))))(XT:ρ[35]? =some (.p (jI m))):lJ ρ=some (.next,ρ.set 15 (xt (T.set (ix o) m))):=
 AK hT ho Jk PF (congrArg gQ XT)
theorem p16(hT:T.length=10)(ho:o∈ij)(Jk:ρ[15]? =some (xt T))(PG:ρ[27]? =some (.p (.int (o:Nat))))(L0:ρ[29]? =some (.p (jI b)))(A9:ρ[30]? =some (.p (jI c)))(XU:ρ[36]? =some (.p (jI m.neg))):lK ρ=some (.next,ρ.set 15 (xt (T.set (ix o) (tr c b m)))):=
 AK hT ho Jk PG ((gI (gF ((gI (gF (congrArg gQ L0) (gF (congrArg gQ A9) rfl))).trans (AI b c)) (gF (congrArg gQ XU) rfl))).trans ((AI _ _).trans (congrArg (fun x=>some (jI x)) (L4 c b m))))
theorem p17(A8:ρ[28]? =some (.p (jI a)))(L0:ρ[29]? =some (.p (jI b)))(A9:ρ[30]? =some (.p (jI c)))(L1:ρ[14]? =some (.p s6))(XR:ρ[31]? =some (.p (EP a b c))):lL ρ=some (.next,ρ):=
 gE (a:=false) (jj (ct (ip (ER A8 L0 A9 L1) (Gg (ρ.map MV.mm) a b c) rfl) (congrArg gQ XR) (L3 a b c)) rfl) rfl
end
end
section
open PySem PyProof.Rows
open V5
noncomputable def hV:List Nat:=[12,13,14,23,24,34,123,124,134,234]
noncomputable def Gh(c:Nat):Nat:=hV.findIdx (Nat.beq c)
noncomputable def L5(x:Nat):PV:= .list [.int (x/10:Nat),.int (x%10:Nat)]
noncomputable def lq(rows:List Nat):PV:= .list (rows.map L5)
noncomputable abbrev AL:=Nat×Nat×Nat×Nat
noncomputable def AM(e:AL):PV:= .list [.int (e.1:Nat),.int (e.2.1:Nat),.int (e.2.2.1:Nat),.int (e.2.2.2:Nat)]
noncomputable def s7(l:List AL):PV:= .list (l.map AM)
theorem Jp:(List.range 10).map (fun k=>(A6 k).map fun x=>kM [lq (qK x.1)])=(List.range 10).map fun k=>(A6 k).map fun x=>some (s7 (pG (qK x.1))):= (by kernel_rfl)
theorem L6{k:Nat}(hk:k<10): ∀x∈A6 k,kM [lq (qK x.1)]=some (s7 (pG (qK x.1))):=List.map_inj_left.mp (List.map_inj_left.mp Jp k (List.mem_range.mpr hk))
theorem L7{k n w:Nat}(hk:k<10)(h:(n,w)∈A6 k):kM [lq (qK n)]=some (s7 (pG (qK n))):=L6 hk (n,w) h
end
section
open PySem PyProof.Rows
open V5
noncomputable def VI(l:List AL):Bool:=l.all (fun e=>hV.contains e.1)&&decide (l.length∈[1,2,3])&&decide ((l.map fun e=>Gh e.1).Pairwise (· < ·))&&l.all fun e=>decide (l.filter (fun x=>x.1==e.1)=[e])
noncomputable def XW(rows:List Nat)(e:AL):Bool:=let a:=sZ rows e.2.1%10
 decide (rows[e.2.1]? =some (10*nT e.1+a)∧rows[e.2.2.1]? =some (10*sb e.1+(a+1))∧rows[e.2.2.2]? =some (10*nV e.1+a)∧a∈[1,2,3]∧e.2.1<e.2.2.1∧e.2.2.1<e.2.2.2∧e.2.2.2<10∧rows.length=10)
theorem L8:((List.range 10).all fun k=>(A6 k).all fun x=>VI (pG (qK x.1))&&(pG (qK x.1)).all (XW (qK x.1)))=true:=by decide+kernel
theorem SQ{k n w:Nat}(hk:k<10)(h:(n,w)∈A6 k):VI (pG (qK n))=true∧ ∀e∈pG (qK n),XW (qK n) e=true:=by
 have h1:=Bool.and_eq_true_iff.mp (List.all_eq_true.mp (List.all_eq_true.mp L8 k (List.mem_range.mpr hk)) _ h)
 exact⟨h1.1,List.all_eq_true.mp h1.2⟩
structure J5(l:List AL):Prop where
 mem: ∀e∈l,e.1∈hV
 len:l.length∈[1,2,3]
 ord:(l.map fun e=>Gh e.1).Pairwise (· < ·)
 one: ∀e∈l,l.filter (fun x=>x.1==e.1)=[e]
theorem J5.of{l:List AL}(h:VI l=true):J5 l:=by
 simp only[VI,cJ,decide_eq_true_eq,List.all_eq_true,List.contains_iff_mem] at h
 obtain⟨⟨⟨h1,h2⟩,h4⟩,h5⟩:=h
 exact⟨h1,h2,h4,h5⟩
theorem PK{c:Nat}(h:c∈hV):kS (iP hV) [.int (c:Nat)]=some (.int (Gh c:Nat)):=
 jU (f:=fun c:Nat=>kS (iP hV) [.int (c:Nat)]) (g:=fun c=>some (.int (Gh c:Nat))) (by kernel_rfl) h
theorem Jq{c:Nat}(h:c∈hV):gH (iP hV) (.int (Gh c:Nat))=some (.int (c:Nat)):=
 jU (f:=fun c:Nat=>gH (iP hV) (.int (Gh c:Nat))) (g:=fun c=>some (.int (c:Nat))) (by kernel_rfl) h
theorem Jr: ∀c∈hV,Gh c<10:=by decide+kernel
theorem NC{s t:Nat}(hs:s<23)(ht:t<10):s+t<32:=bR (dE (dD hs) (dD ht)) (by decide)
noncomputable def vF(l:List AL)(s:Nat):List Nat:=l.map fun e=>s+Gh e.1
theorem SR{l:List AL}(F:J5 l){s:Nat}(hs:s<23):(vF l s).Pairwise (· < ·)∧(∀q∈vF l s,q<32)∧vF l s≠[]∧(vF l s).length≤3:=by
 refine⟨?_,fun q hq=> ?_,?_,?_⟩
 ·have:vF l s=(l.map fun e=>Gh e.1).map (s+ ·):=List.map_map.symm
  rw[this,List.pairwise_map]
  exact F.ord.imp fun h=>Nat.add_lt_add_left h s
 ·obtain⟨e,he,rfl⟩:=List.mem_map.mp hq
  exact NC hs (Jr _ (F.mem e he))
 ·intro h
  have:=F.len
  rw[List.map_eq_nil_iff.mp h] at this
  exact absurd this (by decide)
 ·unfold vF
  rw[aD]
  exact (by decide: ∀n∈[1,2,3],n≤3) _ F.len
noncomputable def xu:PV:= .list ([0,1,2].map fun e:Int=> .str (pF e))
theorem SU{e:Int}(h:0≤e∧e≤2):e∈([0,1,2]:List Int):=by
 have:=e4 (e:=e) ⟨Int.le_trans (by decide) h.1,h.2⟩
 rcases List.mem_cons.mp this with rfl|h'
 ·exact absurd h.1 (by decide)
 ·exact h'
theorem CA{e:Int}(he:0≤e∧e≤2):gH xu (.int e)=some (.str (pF e)):=jU (f:=fun e:Int=>gH xu (.int e)) (g:=fun e=>some (.str (pF e))) (by kernel_rfl) (SU he)
theorem Js{e:Int}(he:0≤e∧e≤2)(x:PV):((ik #[i,e] #[i,0] xK []).bind fun b=>(sv [b]).bind fun n=>iD (.list [x]) n)=some (.list (Ny x e)):=
 jU (f:=fun e:Int=>(ik #[i,e] #[i,0] xK []).bind fun b=>(sv [b]).bind fun n=>iD (.list [x]) n) (g:=fun e=>some (.list (Ny x e))) (by kernel_rfl) (SU he)
section
variable {ρ:List MV} {s:Nat} {e:Int}
theorem Jt{turn:Nat}(Cz:ρ[17]? =some (.p (.int (turn:Nat)))){b:Bool}(h:(turn%2==0)=b):(ik #[b,#[17],#[i,2],iX] #[i,0] zI ρ).bind mJ=some b:=by
 have e:(((turn:Int).fmod 2)==0)=b:=by rw[←h,bK _ (by decide)];exact(decide_eq_decide.mpr (Int.natCast_inj (m:=turn%2) (n:=0)))
 exact jj (ct (ct (congrArg gQ Cz) rfl rfl) rfl rfl) e
theorem L9{turn:Nat}{n:Int}{r:List PV}{xs:List PV}{nums:List Int}(ht:turn%2=0)(Cz:ρ[17]? =some (.p (.int (turn:Nat))))(DA:ρ[13]? =some (.mj xs))(hx:GF 2 g0 xs=some (n,r))(SV:ρ[11]? =some (.p (.list (nums.map .int))))(hn:nums[turn/2]? =some n)(hl:turn<100)(ib:17<ρ.length):
  jN ρ=some (.next,(ρ.set 13 (.mj r)).set 10 (.p (.int n))):=by
 have e5:gH (.list (nums.map .int)) (.int ((turn:Int).fdiv 2))=some (.int n):=by
  rw[cu _ (by decide)]
  exact item_list hn (bR (Nat.div_le_self _ _) (bO hl (by decide)))
 have g11:=jH (i:=10) (v:= .p (.int n)) (jH (i:=13) (v:= .mj r) SV rfl) rfl
 have g17:=jH (i:=10) (v:= .p (.int n)) (jH (i:=13) (v:= .mj r) Cz rfl) rfl
 have g10:((ρ.set 13 (.mj r)).set 10 (.p (.int n)))[10]? =some (.p (.int n)):=sU (by rw[br];omega)
 exact(gI (Jt Cz (beq_iff_eq.mpr ht))).trans ((gG (ρ':=(ρ.set 13 (.mj r)).set 10 (.p (.int n))) ((gI (show(ρ[13]?).bind MV.Ij=some xs from gI DA)).trans (hJ hx))).trans (gG (gI (a:=false) (jj (ct (congrArg gQ g10) (ct (congrArg gQ g11) (ct (congrArg gQ g17) rfl rfl) e5) rfl) (congrArg (fun b=> !b) (beq_self_eq_true n))))))
theorem PL{turn:Nat}(ht:turn%2=1)(Cz:ρ[17]? =some (.p (.int (turn:Nat)))):jN ρ=some (.next,ρ):=
 gI (Jt (b:=false) Cz (by rw[ht];rfl))
noncomputable def xx(z:Int)(turn:Nat):Int:=(z.fdiv 23+turn).fmod 3
theorem xy(z:Int)(turn:Nat):0≤xx z turn∧xx z turn≤2:=
 ⟨cO _ (by decide),Int.le_of_lt_add_one (dr _ (by decide))⟩
theorem p1{turn:Nat}{cs:List Int}{z:Int}{rows:List Nat}{fl:List AL}(hf:kM [lq rows]=some (s7 fl))(SW:ρ[16]? =some (.p (lq rows)))(h0:ρ[0]? =some (.p (.list (cs.map .int))))(hz:cs[1]? =some z)(Cz:ρ[17]? =some (.p (.int (turn:Nat)))):
  mw ρ=some (.next,(ρ.set 9 (.p (.int (xx z turn)))).set 18 (.p (s7 fl))):=
 gE (lp (gF (gE (gF (congrArg gQ SW) rfl) hf) (gF (ct (ct (ct (ct (congrArg gQ h0) rfl (item_list (i:=1) hz (by decide))) rfl rfl) (congrArg gQ Cz) rfl) rfl rfl) rfl)) rfl) rfl
theorem s8{α:Type}{f:α→PV}{l:List α}(h:l.length≤3):pI (l.map f)=true:=decide_eq_true (by rw[aD];exact Nat.le_trans h (by decide))
variable {fl:List AL}
theorem DX(F:J5 fl):fl.length≤3:=(by decide: ∀n∈[1,2,3],n≤3) _ F.len
theorem p2(F:J5 fl)(SY:ρ[18]? =some (.p (s7 fl)))(h7:ρ[7]? =some (.p (.int (s:Nat))))(h6:ρ[6]? =some (.p (iP hV))):mx ρ=some (.next,ρ.set 19 (.p (iP (vF fl s)))):=
 hJ (ip (gE (congrArg gQ SY) rfl) ((i9 (c:=AM) (g:=fun e=> .int ((s+Gh e.1:Nat):Int)) fun e he=>iw (gP:= .p (AM e)::ρ.map MV.mm) rfl rfl (ct (m9 h7) (gE (m9 h6) (gE (gF (ct rfl rfl (show gH (AM e) (.int 0)=some (.int (e.1:Nat)) from rfl)) rfl) (PK (F.mem e he)))) (rW _ _))).trans (by unfold vF;rw[bL];rfl)) (s8 (by unfold vF;rw[aD];exact DX F)))
variable {qs:List Nat}
theorem p3(hp:qs.Pairwise (· < ·))(hb: ∀q∈qs,q<32)(js:qs≠[])(hl:qs.length≤3)(he:0≤e∧e≤2)(XX:ρ[19]? =some (.p (iP qs)))(h9:ρ[9]? =some (.p (.int e))):
  my ρ=some (.next,ρ.set 20 (.p (.list ((jZ qs e).map .str)))):=by
 have td: -1≤e∧e≤2:=⟨Int.le_trans (by decide) he.1,he.2⟩
 have Qr:qs.length≤90:=Nat.le_trans hl (by decide)
 have hw:jZ qs e≠[]:=fun h=>js (List.map_eq_nil_iff.mp (List.append_eq_nil_iff.mp h).1)
 have O9:C9 [.list (qs.map fun q=>PV.int (2^q))]=some (.int (w6 0 qs)):=by
  rw[show qs.map (fun q=>PV.int (2^q))=(qs.map fun q=>(2:Int)^q).map .int from List.map_map.symm]
  exact hJ (uR _)
 exact hJ (gE (gE (gF (ct (gE (gF (ip (gE (congrArg gQ XX) (lT qs)) (i9 (c:=fun q:Nat=>PV.int (q:Nat)) (g:=fun q=> .int (2^q)) fun q hq=>iw (gP:= .p (.int (q:Nat))::ρ.map MV.mm) rfl rfl (ct rfl rfl (AG (Nat.le_trans (d6 (hb q hq)) (by decide))))) (s8 hl)) rfl) O9) (ct (congrArg gQ h9) (ct rfl rfl Nz) (NA td)) rfl) rfl) (pd hp hb td Qr)) (gE (gF rfl rfl) (Co hw (uq hb td) (ur Qr e))))
theorem ET{f:List MV→Option PV}(h4:ρ[4]? =some (.p xu))(h9:ρ[9]? =some (.p (.int e)))(he:0≤e∧e≤2)(hf:f ρ=some (.list ((qs.map nameAt).map .str)))(js:qs≠[])(hl:qs.length≤90):
  ik f #[b,#[l,#[c,ik #[4] #[9] gH,#v[]]],#[f,#[c,#[b,#[9],#[i,0],xK],#v[]],sv],iD] gY ρ=some (.list ((jZ qs e).map .str)):=by
 have h1:ik #[9] #[i,0] xK ρ=some (.bool (decide (0<e))):=ct (congrArg gQ h9) rfl rfl
 exact ct hf (ct (nG (gF (ct (congrArg gQ h4) (congrArg gQ h9) (CA he)) rfl) rfl) (gI (gF h1 rfl)) (Js he (.str (pF e)))) (Gb js hl e)
theorem p4(hb: ∀q∈qs,q<32)(js:qs≠[])(hl:qs.length≤3)(he:0≤e∧e≤2)(XY:ρ[20]? =some (.p (.list ((jZ qs e).map .str))))(XX:ρ[19]? =some (.p (iP qs)))(h3:ρ[3]? =some (.p pe))(h4:ρ[4]? =some (.p xu))(h9:ρ[9]? =some (.p (.int e))):
  mA ρ=some (.next,ρ):=
 gI (a:=false) (jj (ct (congrArg gQ XY) (ET h4 h9 he (ip (gE (congrArg gQ XX) (lT qs)) ((i9 (c:=fun q:Nat=>PV.int (q:Nat)) (g:=fun q=> .str (nameAt q)) fun q hq=>iw (gP:= .p (.int (q:Nat))::ρ.map MV.mm) rfl rfl (ct (m9 h3) rfl (item_list (by unfold nameAt;rw[aY,aG (show _<uo.length from hb q hq)];rfl) (bO (hb q hq) (by decide))))).trans (congrArg some List.map_map.symm)) (s8 (by rw[aD];exact hl))) js (Nat.le_trans hl (by decide))) (LN _)) rfl)
noncomputable def VJ(n:Nat)(asked:Int)(turn:Nat):Nat:=(((asked.fdiv (64^(turn%2))).fmod 64).fmod n).toNat
noncomputable def uT(fl:List AL)(asked:Int)(turn:Nat):AL:=fl.getD (VJ fl.length asked turn) (0,0,0,0)
theorem EU(F:J5 fl)(asked:Int)(turn:Nat):fl[VJ fl.length asked turn]? =some (uT fl asked turn):=by
 have h:VJ fl.length asked turn<fl.length:=(pf _ fl.length ((by decide: ∀n∈[1,2,3],0<n) _ F.len)).1
 unfold uT
 rw[aY,aG h];rfl
theorem CB(F:J5 fl)(asked:Int)(turn:Nat):uT fl asked turn∈fl:=bt (EU F asked turn)
theorem ND(n:Nat):lh (.int 64) (.int ((n:Int).fmod 2))=some (.int (64^(n%2)))∧(small (64^(n%2))&&((64:Int)^(n%2)!=0))=true:=by
 rw[show(n:Int).fmod 2=_ from SI n 2]
 rcases Nat.mod_two_eq_zero_or_one n with h|h<;>rw[h]<;>exact⟨rfl,rfl⟩
theorem p5(F:J5 fl)(hs:s<23){asked:Int}{turn:Nat}{a:AL}(ha:uT fl asked turn=a)(h6:ρ[6]? =some (.p (iP hV)))(h3:ρ[3]? =some (.p pe))(XY:ρ[20]? =some (.p (.list ((jZ (vF fl s) e).map .str))))(yb:ρ[10]? =some (.p (.int asked)))(Cz:ρ[17]? =some (.p (.int (turn:Nat))))(SY:ρ[18]? =some (.p (s7 fl)))(h7:ρ[7]? =some (.p (.int (s:Nat)))):
  mB ρ=some (.next,ρ.set 21 (.p (.int (a.1:Nat)))):=by
 subst ha
 have hm:=F.mem _ (CB F asked turn)
 have hi:=Jr _ hm
 have hn:((fl.length:Int)!=0)=true:=(by decide: ∀n∈[1,2,3],(((n:Nat):Int)!=0)=true) _ F.len
 have ib:Hq [s7 fl]=some (.int (fl.length:Nat)):=(if_pos (s8 (DX F))).trans (by rw[aD])
 have hj:=pf ((asked.fdiv (64^(turn%2))).fmod 64) fl.length ((by decide: ∀n∈[1,2,3],0<n) _ F.len)
 have e5:gH (.list ((jZ (vF fl s) e).map .str)) (.int (VJ fl.length asked turn:Nat))=some (.str (nameAt (s+Gh (uT fl asked turn).1))):=by
  refine item_list ?_ (bO hj.1 (bR (DX F) (by decide)))
  unfold jZ vF
  rw[bL,ed (by rw[aD];exact hj.1),aL,EU F]
  rfl
 have e7:kO (.int ((s+Gh (uT fl asked turn).1:Nat):Int)) (.int (s:Nat))=some (.int (Gh (uT fl asked turn).1:Nat)):=EI _ _ _ (fO ..)
 exact hJ (ct (congrArg gQ h6) (ct (gE (congrArg gQ h3) (gE (gF (ct (congrArg gQ XY) (ct (ct (ct (congrArg gQ yb) (ct rfl (ct (congrArg gQ Cz) rfl rfl) (ND turn).1) (if_pos (ND turn).2)) rfl rfl) (gE (gF (congrArg gQ SY) rfl) ib) ((if_pos hn).trans (congrArg (fun x=>some (PV.int x)) hj.2))) e5) rfl) (Gd (NC hs hi)))) (congrArg gQ h7) e7) (Jq hm))
theorem p6(F:J5 fl){a:AL}(ha:a∈fl)(SY:ρ[18]? =some (.p (s7 fl)))(XZ:ρ[21]? =some (.p (.int (a.1:Nat)))):mD ρ=some (.next,((ρ.set 22 (.p (.int (a.2.1:Nat)))).set 23 (.p (.int (a.2.2.1:Nat)))).set 24 (.p (.int (a.2.2.2:Nat)))):=by
 have hl:=sQ (step:=iF (gX [0] #[n,0]) #[q,#[b,#[0],#[i,0],gH],#[22],zI] #[d,#[0],#[f,#[i,1],jJ],#[z]]) (ρ:= .un::ρ.map MV.mm) (c:=AM) (g:=fun x=> .list [.int (x.2.1:Nat),.int (x.2.2.1:Nat),.int (x.2.2.2:Nat)]) (q:=fun x=>x.1==a.1) (l:=fl) fun x _=>by
  have ht: ∀{b:Bool},(x.1==a.1)=b→(ik #[b,#[0],#[i,0],gH] #[22] zI (.p (AM x)::ρ.map MV.mm)).bind mJ=some b:=fun hb=>
   jj (ct (ct rfl rfl (show gH (AM x) (.int 0)=some (.int (x.1:Nat)) from rfl)) (m9 XZ) rfl) ((LO _ _).trans hb)
  cases hb:x.1==a.1 with
  |true=>exact iw (gP:= .p (AM x)::ρ.map MV.mm) rfl (ht hb) rfl
  |false=>exact uH (gP:= .p (AM x)::ρ.map MV.mm) rfl (ht hb)
 rw[F.one a ha] at hl
 exact gE (ct (ip (gE (congrArg gQ SY) rfl) hl rfl) rfl rfl) rfl
theorem p7{c:Nat}(XZ:ρ[21]? =some (.p (.int (c:Nat)))):mE ρ=some (.next,((ρ.set 27 (.p (.int (nV c:Nat)))).set 26 (.p (.int (sb c:Nat)))).set 25 (.p (.int (nT c:Nat)))):=
 have g:=congrArg gQ XZ
 gE (lp (gF (ct g rfl (congrArg (fun x=>some (PV.int x)) (VF c 10))) (gF (ct (ct rfl (ct g rfl (congrArg (fun x=>some (PV.int x)) (VF c 100))) ((An.1 _ _).trans (if_pos (by rw[show small 10=true by decide,eJ])))) (ct g rfl (congrArg (fun x=>some (PV.int x)) (SI c 10))) (rW (10*(c/100)) _)) (gF (ct g rfl (congrArg (fun x=>some (PV.int x)) (SI c 100))) rfl))) rfl) rfl
end
end
section
open PySem PyProof.Rows
noncomputable def DY(r k:Nat):List Nat:=[[10],[13],[13,10]].getD ((r+k)%3) []
noncomputable def EV(r:Nat):PV:= .list ((List.range (6-r)).map fun k=>iR (DY r k))
noncomputable def Ju:PV:= .list [iR [13,10],iR [13,10],iR [13,10]]
noncomputable def X0(c:Nat):List Nat:=[97+ix (nT c),97+ix (sb c),97+ix (nV c)]
noncomputable def DZ(c:Nat):PV:= .list ((X0 c).map fun x=>iR [x])
noncomputable def k9(c a r:Nat):List Nat:=List.replicate a 46++[97+ix (nT c)]++DY r 0++[97+ix (sb c)]++List.replicate (a+1) 46++DY r 1++List.replicate a 46++[97+ix (nV c)]++DY r 2
noncomputable def qn(c a:Nat):List (List Nat):=[List.replicate (a+1) 46++[97+ix (nT c)],(97+ix (sb c))::List.replicate (a+1) 46,List.replicate (a+1) 46++[97+ix (nV c)]]
noncomputable def qL(c a:Nat):List Nat:=(qn c a).flatMap fun w=>w++[13,10]
theorem PM{β:Type}{f g:Nat→Nat→β}(h:hV.map (fun c=>[1,2,3].map (f c))=hV.map fun c=>[1,2,3].map (g c)){c a:Nat}(hc:c∈hV)(ha:a∈[1,2,3]):f c a=g c a:=jU (jU h hc) ha
theorem Ma{c a:Nat}(hc:c∈hV)(ha:a∈[1,2,3]){r:Nat}(hr:r∈[0,1,2]):j4 [iP [a,a+1,a],DZ c,EV r]=some (iR (k9 c a r)):=
 jU (PM (f:=fun c a=>[0,1,2].map fun r=>j4 [iP [a,a+1,a],DZ c,EV r]) (g:=fun c a=>[0,1,2].map fun r=>some (iR (k9 c a r))) (by kernel_rfl) hc ha) hr
theorem CC{c a:Nat}(hc:c∈hV)(ha:a∈[1,2,3]):j4 [iP [a+1,a+1,a+1],DZ c,Ju]=some (iR (qL c a)):=
 PM (f:=fun c a=>j4 [iP [a+1,a+1,a+1],DZ c,Ju]) (g:=fun c a=>some (iR (qL c a))) (by kernel_rfl) hc ha
noncomputable def S0(c a:Nat):Bool:=([0,1,2].all fun r=>decide (jM true (iZ false (k9 c a r++[13]))=qL c a++[13,10])&&decide ((k9 c a r).length≤1000)&&(k9 c a r++[13]).all (· <128)&&(iZ false (k9 c a r++[13])).all (· <128))&&
 (qL c a++[13,10]).all (· <128)&&decide ((qL c a).length≤1000)&&decide (qL c a++[13,10]=lg [13,10] (qn c a++[[],[]]))&&(qn c a++[[],[]]).all fun w=> !w.contains 13&&decide (w.length≤20)
theorem Jv:(hV.all fun c=>[1,2,3].all (S0 c))=true:=by decide+kernel
theorem oH{c a:Nat}(hc:c∈hV)(ha:a∈[1,2,3]):(∀r∈[0,1,2],jM true (iZ false (k9 c a r++[13]))=qL c a++[13,10]∧(k9 c a r).length≤1000∧(k9 c a r++[13]).all (· <128)=true∧(iZ false (k9 c a r++[13])).all (· <128)=true)∧
  (qL c a++[13,10]).all (· <128)=true∧(qL c a).length≤1000∧qL c a++[13,10]=lg [13,10] (qn c a++[[],[]])∧((qn c a++[[],[]]).all fun w=> !w.contains 13&&decide (w.length≤20))=true:=by
 have h:=List.all_eq_true.mp (List.all_eq_true.mp Jv c hc) a ha
 obtain⟨h,h5⟩:=Bool.and_eq_true_iff.mp h
 obtain⟨h,h4⟩:=Bool.and_eq_true_iff.mp h
 obtain⟨h,h3⟩:=Bool.and_eq_true_iff.mp h
 obtain⟨h1,h2⟩:=Bool.and_eq_true_iff.mp h
 refine⟨fun r hr=> ?_,h2,of_decide_eq_true h3,of_decide_eq_true h4,h5⟩
 obtain⟨h,k4⟩:=Bool.and_eq_true_iff.mp (List.all_eq_true.mp h1 r hr)
 obtain⟨h,k3⟩:=Bool.and_eq_true_iff.mp h
 obtain⟨k1,k2⟩:=Bool.and_eq_true_iff.mp h
 exact⟨of_decide_eq_true k1,of_decide_eq_true k2,k3,k4⟩
theorem Gi{c a:Nat}(hc:c∈hV)(ha:a∈[1,2,3]): ∀w∈qn c a,vL (iR w) [.str (Str.ofString ".")]=some (.int (a+1:Nat)):=
 List.map_inj_left.mp (PM (f:=fun c a=>(qn c a).map fun w=>vL (iR w) [.str (Str.ofString ".")]) (g:=fun c a=>(qn c a).map fun _=>some (PV.int (a+1:Nat))) (by kernel_rfl) hc ha)
theorem PN{p:Nat}(hp:p∈ij):((kS (iP ij) [.int (p:Nat)]).bind fun j=>gH (.str (Str.ofString "abcdefghij")) j)=some (iR [97+ix p]):=
 jU (f:=fun p:Nat=>(kS (iP ij) [.int (p:Nat)]).bind fun j=>gH (.str (Str.ofString "abcdefghij")) j) (g:=fun p=>some (iR [97+ix p])) (by kernel_rfl) hp
theorem AN: ∀c∈hV,nT c∈ij∧sb c∈ij∧nV c∈ij:=by decide
end
section
open PySem PyProof.Rows
theorem CD{a b:List Nat}(h:a.length+b.length≤100000):gY (iR a) (iR b)=some (iR (a++b)):=
 (if_pos h).trans (congrArg (fun x=>some (PV.str ⟨x⟩)) (Array.toList_inj.mp (Array.toList_append ..)))
theorem S3:PV.str (Str.ofString "\r")=iR [13]:= (by kernel_rfl)
theorem Mb:PV.str (Str.ofString "\r\n")=iR [13,10]:= (by kernel_rfl)
theorem Jw:iD (.list [.str (Str.ofString "\n"),.str (Str.ofString "\r"),.str (Str.ofString "\r\n")]) (.int 2)=some (.list ((List.range 6).map fun k=>iR (DY 0 k))):= (by kernel_rfl)
theorem Jx: ∀r∈[0,1,2],jm (.list ((List.range 6).map fun k=>iR (DY 0 k))) (some (r:Nat)) none=some (EV r):=fun _ hr=>
 jU (f:=fun r:Nat=>jm (.list ((List.range 6).map fun k=>iR (DY 0 k))) (some (r:Nat)) none) (g:=fun r=>some (EV r)) (by kernel_rfl) hr
theorem D0:iD (.list [.str (Str.ofString "\r\n")]) (.int 3)=some Ju:= (by kernel_rfl)
theorem str_beq(l:List Nat):pR (iR l) (iR l)=some (.bool false):=congrArg (fun b=>some (PV.bool !b)) (beq_self_eq_true (⟨l.toArray⟩:Str))
theorem Gj(l:List Nat):pR (yy l) (yy l)=some (.bool false):=by
 show some (PV.bool !(_==_))=_
 rw[beq_self_eq_true]
 rfl
theorem CE{l:List Nat}(h:l.all (· <128)=true):itemsOf (iR l)=some (l.map fun c=>PV.str ⟨#[c]⟩):=by
 have ha:Ek ⟨l.toArray⟩=true:=by
  unfold Ek strIterType
  simp only[decide_eq_true_eq]
  rw[if_pos]
  simpa using h
 show(if Ek ⟨l.toArray⟩=true then some (signs ⟨l.toArray⟩) else none)=_
 rw[if_pos ha]
 unfold signs
 simp
theorem NF{l:List Nat}(h:l.all (· <128)=true){c:Nat}(hc:c∈l):c<128:=of_decide_eq_true (List.all_eq_true.mp h c hc)
theorem Jy(tl:List MV)(l:List Nat):jV (iF (gX [0] #[n,0]) #[y] #[f,#[c,#[0],#v[]],Bw]) (.un::tl) (l.map fun c=>PV.str ⟨#[c]⟩)=some (l.map fun c=>PV.int (c:Nat)):=
 i9 fun c _=>iw (gP:= .p (.str ⟨#[c]⟩)::tl) rfl rfl (gE (gF rfl rfl) rfl)
theorem Jz{l:List Nat}(h:l.all (· <128)=true)(hl:l.length≤10000):qt [.list (l.map fun c=>PV.int (c:Nat))]=some (yy l):=by
 have e:(l.map fun c=>PV.int (c:Nat))=(l.map fun c:Nat=>(c:Int)).map .int:=List.map_map.symm
 have C5:(l.map fun c:Nat=>(c:Int)).all (fun n=>decide (0≤n)&&decide (n<256))=true:=List.all_eq_true.mpr fun n hn=>
  (List.mem_map.mp hn).elim fun c hc=>hc.2▸Bool.and_eq_true_iff.mpr ⟨decide_eq_true (bc c),decide_eq_true (Int.ofNat_lt.mpr (bO (NF h hc.1) (by decide)))⟩
 have hf:pI ((l.map fun c:Nat=>(c:Int)).map .int)=true:=decide_eq_true (by rw[aD,aD];exact Nat.le_trans hl (by decide))
 rw[e,FX]
 refine gE (uR _) ((if_pos (Bool.and_eq_true_iff.mpr ⟨C5,hf⟩)).trans (congrArg (fun x=>some (PV.bytes x)) ?_))
 unfold byteArr
 rw[bL]
 rfl
section
variable {ρ:List MV} {c a:Nat}
theorem AO(p:Nat)(ha:a<10):L5 (10*p+a)= .list [.int (p:Nat),.int (a:Nat)]:=by
 unfold L5
 rw[Nat.mul_add_div (by decide),Nat.div_eq_of_lt ha,Nat.mul_add_mod,Nat.mod_eq_of_lt ha];rfl
structure S4(rows:List Nat)(e:AL)(a:Nat):Prop where
 r0:rows[e.2.1]? =some (10*nT e.1+a)
 r1:rows[e.2.2.1]? =some (10*sb e.1+(a+1))
 r2:rows[e.2.2.2]? =some (10*nV e.1+a)
 ha:a∈[1,2,3]
 l0:e.2.1<10
 l1:e.2.2.1<10
 l2:e.2.2.2<10
 len:rows.length=10
theorem S4.of{rows:List Nat}{e:AL}(h:XW rows e=true):S4 rows e (sZ rows e.2.1%10):=by
 obtain⟨h1,h2,h3,h4,h5,h6,h7,h8⟩:=of_decide_eq_true h
 exact⟨h1,h2,h3,h4,bO h5 (bO h6 h7),bO h6 h7,h7,h8⟩
theorem S5(ha:a∈[1,2,3]):a<10∧a+1<10:=(by decide: ∀a∈[1,2,3],a<10∧a+1<10) a ha
theorem p18{rows:List Nat}{e:AL}(hE:S4 rows e a)(hc:e.1∈hV)(SW:ρ[16]? =some (.p (lq rows)))(h5:ρ[5]? =some (.p (iP ij)))(VK:ρ[22]? =some (.p (.int (e.2.1:Nat))))(VM:ρ[23]? =some (.p (.int (e.2.2.1:Nat))))(VN:ρ[24]? =some (.p (.int (e.2.2.2:Nat))))
  (PD:ρ[25]? =some (.p (.int (nT e.1:Nat))))(PF:ρ[26]? =some (.p (.int (sb e.1:Nat))))(PG:ρ[27]? =some (.p (.int (nV e.1:Nat)))):
  lM ρ=some (.next,(ρ.set 38 (.p (DZ e.1))).set 37 (.p (iP [a,a+1,a]))):=by
 have hd: ∀{k p b:Nat},rows[k]? =some (10*p+b)→k<10→b<10→iF (gX [0] #[n,0]) #[y] #[b,ik #[17] #[0] gH,#[i,1],gH] (.un::ρ.map MV.mm) (.int (k:Nat))=some [.int (b:Nat)]:=fun{k p b} hk oN hb=>
  iw (gP:= .p (.int (k:Nat))::ρ.map MV.mm) rfl rfl (ct (ct (m9 SW) rfl (item_list hk (bO oN (by decide)))) rfl (by rw[AO p hb];rfl))
 have hl: ∀{p:Nat},p∈ij→iF (gX [0] #[n,0]) #[y] #[b,(fun _=>some (.str (Str.ofString "abcdefghij"))),(fun ρ=>(#[6] ρ).bind fun p=>(#[c,#[0],#v[]] ρ).bind fun ps=>kS p ps),gH] (.un::ρ.map MV.mm) (.int (p:Nat))=some [iR [97+ix p]]:=fun{p} hp=>
  (Option.bind_eq_some_iff.mp (PN hp)).elim fun j hj=>iw (gP:= .p (.int (p:Nat))::ρ.map MV.mm) rfl rfl (ct rfl (gE (m9 h5) (gE (gF rfl rfl) hj.1)) hj.2)
 obtain⟨a1,a2⟩:=S5 hE.ha
 obtain⟨m1,m2,m3⟩:=AN _ hc
 exact gE (lp (gF (ip (gE (lp (gF (congrArg gQ VK) (gF (congrArg gQ VM) (gF (congrArg gQ VN) rfl))) rfl) rfl) (iO (hd hE.r0 hE.l0 a1) (iO (hd hE.r1 hE.l1 a2) (iO (hd hE.r2 hE.l2 a1) rfl))) rfl) (gF (ip (gE (lp (gF (congrArg gQ PD) (gF (congrArg gQ PF) (gF (congrArg gQ PG) rfl))) rfl) rfl) (iO (hl m1) (iO (hl m2) (iO (hl m3) rfl))) rfl) rfl)) rfl) rfl
noncomputable def X1(plan:Int)(turn:Nat):Nat:=(((turn:Int)+plan).fmod 3).toNat
theorem EW(plan:Int)(turn:Nat):X1 plan turn∈[0,1,2]:=(show ∀n∈List.range 3,n∈[0,1,2] from fun _ h=>h) _ (List.mem_range.mpr (pf ((turn:Int)+plan) 3 (by decide)).1)
theorem p19(hc:c∈hV)(ha:a∈[1,2,3]){plan:Int}{turn:Nat}(S6:ρ[37]? =some (.p (iP [a,a+1,a])))(X2:ρ[38]? =some (.p (DZ c)))(Cz:ρ[17]? =some (.p (.int (turn:Nat))))(h8:ρ[8]? =some (.p (.int plan))):
  lN ρ=some (.next,ρ.set 39 (.p (iR (k9 c a (X1 plan turn)++[13])))):=by
 have hr:=EW plan turn
 exact hJ (ct (gE (gF (congrArg gQ S6) (gF (congrArg gQ X2) (gF (gE (ct (nG rfl rfl) rfl Jw) (gE (gE (ct (ct (congrArg gQ Cz) (congrArg gQ h8) rfl) rfl (b:= .int 3) (r:=some (.int (X1 plan turn:Nat))) (congrArg (fun x=>some (PV.int x)) (pf ((turn:Int)+plan) 3 (by decide)).2)) rfl) (gE rfl (Jx _ hr)))) rfl))) (Ma hc ha hr)) (congrArg some S3) (CD (Nat.le_trans (bC ((oH hc ha).1 _ hr).2.1 1) (by decide))))
theorem p20(hc:c∈hV)(ha:a∈[1,2,3]){r:Nat}(hr:r∈[0,1,2])(X3:ρ[39]? =some (.p (iR (k9 c a r++[13]))))(S6:ρ[37]? =some (.p (iP [a,a+1,a])))(X2:ρ[38]? =some (.p (DZ c))):
  lO ρ=some (.next,(ρ.set 41 (.p (iR (qL c a++[13,10])))).set 40 (.p (iR (qL c a++[13,10])))):=by
 obtain⟨f1,f2,f3,f4⟩:=(oH hc ha).1 _ hr
 obtain⟨g1,g2,_⟩:=(oH hc ha).2
 have hq:=I4 (l:=k9 c a r++[13]) (by rw[aK];exact Nat.le_trans (bC f2 1) (by decide))
 rw[f1] at hq
 have g:=congrArg gQ S6
 exact gE (lp (gF (gE (gF (congrArg gQ X3) rfl) hq) (gF (ct (gE (gF (nG (gF (ct (ct g rfl rfl) rfl rfl) (gF (ct g rfl rfl) (gF (ct (ct g rfl rfl) rfl rfl) rfl))) rfl) (gF (congrArg gQ X2) (gF (ct (nG (gF rfl rfl) rfl) rfl D0) rfl))) (CC hc ha)) (congrArg some Mb) (CD (Nat.le_trans (bC g2 2) (by decide)))) rfl)) rfl) rfl
theorem p21(hc:c∈hV)(ha:a∈[1,2,3]){r:Nat}(hr:r∈[0,1,2])(X3:ρ[39]? =some (.p (iR (k9 c a r++[13]))))(X4:ρ[40]? =some (.p (iR (qL c a++[13,10]))))(h41:ρ[41]? =some (.p (iR (qL c a++[13,10])))):lP ρ=some (.next,ρ):=by
 obtain⟨f1,f2,f3,f4⟩:=(oH hc ha).1 _ hr
 obtain⟨g1,g2,_⟩:=(oH hc ha).2
 have hM:(k9 c a r++[13]).length≤1001:=by rw[aK];exact bC f2 1
 have hx:=Pp (l:=k9 c a r++[13]) (Nat.le_trans hM (by decide))
 have hE:(iZ false (k9 c a r++[13])).length≤3000:=by
  have:=tI (k9 c a r++[13]) false
  omega
 have hk: ∀{l:List Nat} {f0:List MV→Option (List PV)},l.all (· <128)=true→l.length≤3000→f0 ρ=itemsOf (iR l)→(((iL 1 f0 #[o,(gX [0] #[n,0]),#[y],#[f,#[c,#[0],#v[]],Bw]] ρ).bind fun a=>(#v[] ρ).map (a:: ·)).bind qt)=some (yy l):=fun{l f0} h1 h2 h3=>
  gE (gF (ip (h3.trans (CE h1)) (Jy (ρ.map MV.mm) l) (decide_eq_true (by rw[aD];exact Nat.le_trans h2 (by decide)))) rfl) (Jz h1 (Nat.le_trans h2 (by decide)))
 have hqp:=LL (l:=iZ false (k9 c a r++[13])) (Nat.le_trans hE (by decide)) (fun c h=>bO (NF f4 h) (by decide))
 rw[f1] at hqp
 exact gE (a:=false) (gE (jj (ct (congrArg gQ X4) (congrArg gQ h41) (str_beq _)) rfl) (gE (jj (ct (gE (gF (hk f4 hE (gE (gE (gF (congrArg gQ X3) rfl) hx) rfl)) rfl) hqp) (hk g1 (by rw[aK];exact Nat.le_trans (bC g2 2) (by decide)) (gE (congrArg gQ h41) rfl)) (Gj _)) rfl) rfl)) rfl
theorem p22(hc:c∈hV)(ha:a∈[1,2,3])(X4:ρ[40]? =some (.p (iR (qL c a++[13,10])))):lQ ρ=some (.next,ρ.set 37 (.p (iP [a+1,a+1,a+1]))):=by
 obtain⟨_,g1,g2,g3,g4⟩:=oH hc ha
 have Hp:qw (iR (qL c a++[13,10])) [.str (Str.ofString "\r\n")]=some (.list ((qn c a++[[],[]]).map iR)):=by
  rw[g3,show PV.str (Str.ofString "\r\n")= .str ⟨#[13,10]⟩ by kernel_rfl]
  refine uQ (by decide) (by decide) (List.append_ne_nil_of_right_ne_nil _ nofun) (fun w hw=> ?_) (show 5≤100 by decide)
  have:=Bool.and_eq_true_iff.mp (List.all_eq_true.mp g4 w hw)
  exact⟨fun h=>by rw[List.contains_iff_mem.mpr h] at this;exact absurd this.1 nofun,of_decide_eq_true this.2⟩
 have PO:jm (.list ((qn c a++[[],[]]).map iR)) none (some 3)=some (.list ((qn c a).map iR)):=
  (if_pos (e:=none) (show 5≤100000 by decide)).trans (congrArg (fun x=>some (PV.list x)) (qz _ 3))
 exact hJ (ip (gE (gE (gE (congrArg gQ X4) (gE (gF rfl rfl) Hp)) (gE rfl (gE (gE rfl rfl) PO))) rfl) (i9 (c:=iR) (g:=fun _=> .int (a+1:Nat)) fun w hw=>iw (gP:= .p (iR w)::ρ.map MV.mm) rfl rfl (gE rfl (gE (gF rfl rfl) (Gi hc ha w hw)))) rfl)
noncomputable def AP(c a:Nat):List Nat:=[10*nV c+(a+1),10*sb c+a,10*nT c+(a+1)]
theorem p23(ha:a∈[1,2,3])(S6:ρ[37]? =some (.p (iP [a+1,a+1,a+1])))(PD:ρ[25]? =some (.p (.int (nT c:Nat))))(PF:ρ[26]? =some (.p (.int (sb c:Nat))))(PG:ρ[27]? =some (.p (.int (nV c:Nat)))):lR ρ=some (.next,ρ.set 42 (.p (lq (AP c a)))):=by
 obtain⟨a1,a2⟩:=S5 ha
 have g:=congrArg gQ S6
 unfold AP lq
 rw[aU,aU,aU,List.map_nil,AO _ a2,AO _ a1,AO _ a2]
 exact hJ (nG (gF (nG (gF (congrArg gQ PG) (gF (ct g rfl rfl) rfl)) rfl) (gF (nG (gF (congrArg gQ PF) (gF (ct (ct g rfl rfl) rfl (EI (a+1) 1 a rfl)) rfl)) rfl) (gF (nG (gF (congrArg gQ PD) (gF (ct g rfl rfl) rfl)) rfl) rfl))) rfl)
theorem xA(n m:Nat)(d:Int):uU m d (some (n:Int))=((min n m:Nat):Int):=by
 show max 0 (min (if (n:Int)<0 then(n:Int)+m else n) (m:Int))=_
 rw[if_neg (Int.not_lt.mpr (bc n))]
 rcases Nat.le_total n m with h|h
 ·rw[Int.min_eq_left (Int.ofNat_le.mpr h),dX h];exact eG (bc _)
 ·rw[Int.min_eq_right (Int.ofNat_le.mpr h),gh h];exact eG (bc _)
theorem AQ{α:Type}(l:List α)(i j:Nat)(h:i≤l.length):cut l (some (i:Int)) (some (j:Int))=(l.take j).drop i:=by
 unfold cut
 rw[xA,xA,bG,bG,dX h,List.drop_take]
 rcases Nat.le_total j l.length with h'|h'
 ·rw[dX h']
 ·rw[gh h',←c7,fX,cg (by rw[c7];exact Nat.sub_le_sub_right h' i)]
theorem CF{α:Type}(l:List α)(i:Nat)(h:i≤l.length):cut l (some (i:Int)) none=l.drop i:=by
 have:=AQ l i l.length h
 rw[fX] at this
 rw[←this]
 unfold cut
 rw[xA l.length,d5];rfl
theorem EX{rows:List Nat}(h:rows.length=10){lo hi:Option Int}{l:List Nat}(hc:cut rows lo hi=l):jm (lq rows) lo hi=some (lq l):=
 (if_pos (e:=none) (by rw[aD,h];decide)).trans (by rw[←hc];unfold cut;rw[aD,←List.map_drop,←List.map_take];rfl)
theorem s9{l m:List Nat}(h:l.length≤40)(h':m.length≤10):gY (lq l) (lq m)=some (lq (l++m)):=
 (if_pos (by rw[aD,aD];exact Nat.le_trans (dE h h') (by decide))).trans (by rw[←bA];rfl)
theorem p24{rows:List Nat}{e:AL}(hE:S4 rows e a)(SW:ρ[16]? =some (.p (lq rows)))(VK:ρ[22]? =some (.p (.int (e.2.1:Nat))))(VM:ρ[23]? =some (.p (.int (e.2.2.1:Nat))))(VN:ρ[24]? =some (.p (.int (e.2.2.2:Nat))))(h42:ρ[42]? =some (.p (lq (AP e.1 a))))(hn:sZ rows e.2.1%10=a):
  lS ρ=some (.next,ρ.set 16 (.p (lq (zl rows e)))):=by
 have VO:=congrArg gQ SW
 have l0:=hE.len
 have t1:(rows.take e.2.1).length≤10:=Nat.le_trans (dN ..) (ba l0)
 have t2:((rows.take e.2.2.1).drop (e.2.1+1)).length≤10:=by rw[c7];exact Nat.le_trans (Nat.sub_le ..) (Nat.le_trans (dN ..) (ba l0))
 have t3:((rows.take e.2.2.2).drop (e.2.2.1+1)).length≤10:=by rw[c7];exact Nat.le_trans (Nat.sub_le ..) (Nat.le_trans (dN ..) (ba l0))
 have t4:(rows.drop (e.2.2.2+1)).length≤10:=by rw[c7];exact Nat.le_trans (Nat.sub_le ..) (ba l0)
 have up: ∀{l m:List Nat} {b d:Nat},l.length≤b→m.length≤d→(l++m).length≤b+d:=fun h h'=>by rw[aK];exact dE h h'
 unfold zl
 rw[hn]
 exact hJ (ct (ct (ct (ct (gE VO (gE rfl (gE (gE (congrArg gQ VK) rfl) (EX l0 (qz rows e.2.1))))) (gE VO (gE (gE (ct (congrArg gQ VK) rfl (rW _ 1)) rfl) (gE (gE (congrArg gQ VM) rfl) (EX l0 (AQ rows _ _ (l0.symm▸hE.l0)))))) (s9 (Nat.le_trans t1 (by decide)) t2)) (congrArg gQ h42) (s9 (Nat.le_trans (up t1 t2) (by decide)) (show 3≤10 by decide)))
  (gE VO (gE (gE (ct (congrArg gQ VM) rfl (rW _ 1)) rfl) (gE (gE (congrArg gQ VN) rfl) (EX l0 (AQ rows _ _ (l0.symm▸hE.l1)))))) (s9 (Nat.le_trans (up (up t1 t2) (show 3≤10 by decide)) (by decide)) t3)) (gE VO (gE (gE (ct (congrArg gQ VN) rfl (rW _ 1)) rfl) (gE rfl (EX l0 (CF rows _ (l0.symm▸hE.l2)))))) (s9 (Nat.le_trans (up (up (up t1 t2) (show 3≤10 by decide)) t3) (by decide)) t4))
end
end
section
open PySem PyProof.Rows
open V5
theorem PQ{ρ:List MV}{turn:Nat}{nums:List Int}{T:Nat→List PV}{a:Int}(h6:turn<10)(hT: ∀j<5,∃n,nums[j]? =some n∧GF 2 g0 (T j)=some (n,T (j+1)))(hl:17<ρ.length)(Cz:ρ[17]? =some (.p (.int (turn:Nat))))(DA:ρ[13]? =some (.mj (T ((turn+1)/2))))(SV:ρ[11]? =some (.p (.list (nums.map .int))))(yb:ρ[10]? =some (.p (.int a))):
  ∃a,jN ρ=some (.next,(ρ.set 13 (.mj (T ((turn+1+1)/2)))).set 10 (.p (.int a))):=by
 have e:=Nat.div_add_mod turn 2
 have two (n:Nat):(2*(turn/2)+n)/2=turn/2+n/2:=Nat.mul_add_div (by decide) _ n
 rcases Nat.mod_two_eq_zero_or_one turn with he|he
 ·rw[he] at e
  have e1:(turn+1)/2=turn/2:=(congrArg (fun x=>(x+1)/2) e.symm).trans (two 1)
  have e2:(turn+1+1)/2=turn/2+1:=(congrArg (fun x=>(x+1+1)/2) e.symm).trans (two 2)
  refine(hT (turn/2) (Nat.div_lt_of_lt_mul h6)).elim fun n hn=>⟨n,?_⟩
  rw[e1] at DA
  rw[e2]
  exact L9 he Cz DA hn.2 SV hn.1 (bO h6 (by decide)) hl
 ·rw[he] at e
  have e1:(turn+1+1)/2=(turn+1)/2:=(congrArg (fun x=>(x+1+1)/2) e.symm).trans ((two 3).trans ((two 2).symm.trans (congrArg (fun x=>(x+1)/2) e)))
  refine⟨a,?_⟩
  rw[e1,set_same DA,set_same yb]
  exact PL he Cz
noncomputable def PR(m:Nat→MV)(cs:List Int)(st:PV)(K:List (Int×Int))(s:Nat)(plan:Int)(nums:List Int)(X5:List PV)(a:Int)(T:List V5)(rows:List Nat):List MV:=
 [.p (.list (cs.map .int)),.p st,.p (kr K),.p pe,.p xu,.p (iP ij),.p (iP hV),.p (.int (s:Nat)),.p (.int plan),m 9,.p (.int a),.p (.list (nums.map .int)),m 12,.mj X5,.p s6,xt T,.p (lq rows),
  m 17,m 18,m 19,m 20,m 21,m 22,m 23,m 24,m 25,m 26,m 27,m 28,m 29,m 30,m 31,m 32,m 33,m 34,m 35,m 36,m 37,m 38,m 39,m 40,m 41,m 42,m 43]
noncomputable def TI(cs:List Int)(st:PV)(K:List (Int×Int))(s:Nat)(plan:Int)(nums:List Int)(tp:Nat→List PV)(Z:List V5)(turn:Nat)(ρ:List MV):Prop:=
 ∃m a T n w,ρ=PR m cs st K s plan nums (tp ((turn+1)/2)) a T (qK n)∧(n,w)∈A6 turn∧T.length=10∧kN K T (Cs w)=Z
theorem JA{cs:List Int}{st:PV}{K:List (Int×Int)}{s:Nat}{plan:Int}{nums:List Int}{tp:Nat→List PV}{Z:List V5}{turn:Nat}{ρ:List MV}{a:Int}{T:List V5}{rows:List Nat}{n w:Nat}(h:ρ=PR (fun j=>ρ.getD j .un) cs st K s plan nums (tp ((turn+1)/2)) a T rows)(hn:qK n=rows)(h1:(n,w)∈A6 turn)(h2:T.length=10)(h3:kN K T (Cs w)=Z):TI cs st K s plan nums tp Z turn ρ:=
 ⟨_,a,T,n,w,hn▸h,h1,h2,h3⟩
structure JB(K:List (Int×Int)):Prop extends KeysOK K where
 both: ∀p∈K,(0≤p.1∧p.1<5)∧ -5≤p.2∧p.2≤5
section
variable {cs:List Int} {st:PV} {K:List (Int×Int)} {s:Nat} {plan z y:Int} {nums:List Int} {tp:Nat→List PV} {Z:List V5}
theorem Mc{turn:Nat}{NG:List MV}(hK:JB K)(hs:s<23)(hz:cs[1]? =some z)(hy:cs[9]? =some y)(hT: ∀j<5,∃n,nums[j]? =some n∧GF 2 g0 (tp j)=some (n,tp (j+1)))(h6:turn<10)(I:TI cs st K s plan nums tp Z turn NG):
  ∃ρ',kq (NG.set 17 (.p (.int (turn:Nat))))=some (.next,ρ')∧ρ'[9]? =some (.p (.int (xx z turn)))∧TI cs st K s plan nums tp Z (turn+1) ρ':=by
 obtain⟨m,a,T,n,w,rfl,hl,yb,hw⟩:=I
 have hex:=xy z turn
 obtain⟨asked,s0⟩:=PQ (ρ:=(PR m cs st K s plan nums (tp ((turn+1)/2)) a T (qK n)).set 17 (.p (.int (turn:Nat)))) (a:=a) h6 hT (dJ rfl) rfl rfl rfl rfl
 have hf:=L7 h6 hl
 obtain⟨o1,o2⟩:=SQ h6 hl
 have hgo:=fun{e:AL} (he:e∈pG (qK n))=>LX K hK.toKeysOK h6 hl he yb
 generalize pG (qK n)=fl at hf o1 o2 hgo
 have F:=J5.of o1
 obtain⟨q1,q2,q3,q4⟩:=SR F hs
 obtain⟨e,ea⟩: ∃e,uT fl asked turn=e:=⟨_,rfl⟩
 have he:e∈fl:=ea▸CB F asked turn
 have hE:=S4.of (o2 e he)
 have hc:=F.mem e he
 obtain⟨m1,m2,m3⟩:=AN _ hc
 obtain⟨n',w',l1,l2,l3⟩:=hgo he
 generalize qK n=rows at hf hE l2 s0
 generalize hb:sZ rows e.2.1%10=b at hE
 have hr:=EW plan turn
 have NH: ∀{i:Nat} {x:V5},(T.set i x).length=10:=by intros;rw[br];exact yb
 have S7: ∀{i j:Nat} {x y:V5},((T.set i x).set j y).length=10:=by intros;rw[br];exact NH
 have hA:kq ((PR m cs st K s plan nums (tp ((turn+1)/2)) a T rows).set 17 (.p (.int (turn:Nat))))=some (.next,_):=(gG s0).trans ((gG (p1 (turn:=turn) (cs:=cs) (z:=z) hf (by kernel_rfl) (by kernel_rfl) hz (by kernel_rfl))).trans
  ((gG (p2 (s:=s) F (by kernel_rfl) (by kernel_rfl) (by kernel_rfl))).trans ((gG (p3 (e:=xx z turn) q1 q2 q3 q4 hex (by kernel_rfl) (by kernel_rfl))).trans ((gG (p4 (e:=xx z turn) q2 q3 q4 hex (by kernel_rfl) (by kernel_rfl) (by kernel_rfl) (by kernel_rfl) (by kernel_rfl))).trans
  ((gG (p5 (e:=xx z turn) F hs ea (by kernel_rfl) (by kernel_rfl) (by kernel_rfl) (by kernel_rfl) (by kernel_rfl) (by kernel_rfl) (by kernel_rfl))).trans ((gG (p6 F he (by kernel_rfl) (by kernel_rfl))).trans ((gG (p7 (c:=e.1) (by kernel_rfl))).trans
  ((gG (p8 yb m1 m2 m3 (by kernel_rfl) (by kernel_rfl) (by kernel_rfl) (by kernel_rfl))).trans
  ((gG (p9 (a:=T.getD (ix (nT e.1)) zero) (b:=T.getD (ix (sb e.1)) zero) (c:=T.getD (ix (nV e.1)) zero) (by kernel_rfl) (by kernel_rfl) (by kernel_rfl) (by kernel_rfl))).trans
  ((gG (p10 (a:=T.getD (ix (nT e.1)) zero) (b:=T.getD (ix (nV e.1)) zero) (by kernel_rfl) (by kernel_rfl))).trans
  ((gG (p11 (K:=K) (turn:=turn) (x:=y) (cs:=cs) (a:=T.getD (ix (nT e.1)) zero) (b:=T.getD (ix (nV e.1)) zero) (fun p hp=>(hK.both p hp).1) hK.len (by kernel_rfl) (by kernel_rfl) hy (by kernel_rfl) (by kernel_rfl) (by kernel_rfl) (by kernel_rfl) (by kernel_rfl))).trans
  ((gG (p12 (K:=K) (a:=T.getD (ix (nT e.1)) zero) (b:=T.getD (ix (nV e.1)) zero) (fun p hp=>(hK.dir p hp).1) (by kernel_rfl) (by kernel_rfl) (by kernel_rfl) (by kernel_rfl))).trans
  ((gG (p13 (m:=mn K (T.getD (ix (nT e.1)) zero) (T.getD (ix (nV e.1)) zero)) (by kernel_rfl) (by kernel_rfl))).trans
  ((gG (p14 (T:=T) (a:=T.getD (ix (nT e.1)) zero) (b:=T.getD (ix (sb e.1)) zero) (m:=mn K (T.getD (ix (nT e.1)) zero) (T.getD (ix (nV e.1)) zero)) yb m1 (by kernel_rfl) (by kernel_rfl) (by kernel_rfl) (by kernel_rfl) (by kernel_rfl))).trans
  ((gG (p15 (T:=T.set (ix (nT e.1)) (tr (T.getD (ix (nT e.1)) zero) (T.getD (ix (sb e.1)) zero) (mn K (T.getD (ix (nT e.1)) zero) (T.getD (ix (nV e.1)) zero)))) (m:=mn K (T.getD (ix (nT e.1)) zero) (T.getD (ix (nV e.1)) zero)) NH m2 (by kernel_rfl) (by kernel_rfl) (by kernel_rfl))).trans
  ((gG (p16 (T:=(T.set (ix (nT e.1)) (tr (T.getD (ix (nT e.1)) zero) (T.getD (ix (sb e.1)) zero) (mn K (T.getD (ix (nT e.1)) zero) (T.getD (ix (nV e.1)) zero)))).set (ix (sb e.1)) (mn K (T.getD (ix (nT e.1)) zero) (T.getD (ix (nV e.1)) zero))) (b:=T.getD (ix (sb e.1)) zero) (c:=T.getD (ix (nV e.1)) zero) (m:=mn K (T.getD (ix (nT e.1)) zero) (T.getD (ix (nV e.1)) zero)) S7 m3 (by kernel_rfl) (by kernel_rfl) (by kernel_rfl) (by kernel_rfl) (by kernel_rfl))).trans
  ((gG (p17 (a:=T.getD (ix (nT e.1)) zero) (b:=T.getD (ix (sb e.1)) zero) (c:=T.getD (ix (nV e.1)) zero) (by kernel_rfl) (by kernel_rfl) (by kernel_rfl) (by kernel_rfl) (by kernel_rfl))).trans
  ((gG (p18 hE hc (by kernel_rfl) (by kernel_rfl) (by kernel_rfl) (by kernel_rfl) (by kernel_rfl) (by kernel_rfl) (by kernel_rfl) (by kernel_rfl))).trans
  ((gG (p19 (plan:=plan) (turn:=turn) hc hE.ha (by kernel_rfl) (by kernel_rfl) (by kernel_rfl) (by kernel_rfl))).trans ((gG (p20 hc hE.ha hr (by kernel_rfl) (by kernel_rfl) (by kernel_rfl))).trans ((gG (p21 hc hE.ha hr (by kernel_rfl) (by kernel_rfl) (by kernel_rfl))).trans ((gG (p22 hc hE.ha (by kernel_rfl))).trans ((gG (p23 (c:=e.1) hE.ha (by kernel_rfl) (by kernel_rfl) (by kernel_rfl) (by kernel_rfl))).trans
  (zi (p24 hE (by kernel_rfl) (by kernel_rfl) (by kernel_rfl) (by kernel_rfl) (by kernel_rfl) hb)))))))))))))))))))))))))
 exact⟨_,hA,(by kernel_rfl),JA (a:=asked) (T:=A7 K T e.1) (by kernel_rfl) l2 l1 ((vP K T e.1).trans yb) (l3.trans hw)⟩
theorem Md(hK:JB K)(hs:s<23)(hz:cs[1]? =some z)(hy:cs[9]? =some y)(hT: ∀j<5,∃n,nums[j]? =some n∧GF 2 g0 (tp j)=some (n,tp (j+1))): ∀(m k:Nat) (ρ:List MV),k+m=10→(m=0→ρ[9]? =some (.p (.int (xx z 9))))→TI cs st K s plan nums tp Z k ρ→
  ∃ρ',nj #[n,17] kq #[k] ρ ((bW k m).map fun k=>PV.int (k:Nat))=some (.next,ρ')∧ρ'[9]? =some (.p (.int (xx z 9)))∧TI cs st K s plan nums tp Z 10 ρ':=by
 intro m
 induction m with
 |zero=>
  intro k ρ hk h9 I
  skip;(first|exact VS hk|cases hk)
  exact⟨ρ,rfl,h9 rfl,I⟩
 |succ m iu=>
  intro k ρ hk _ I
  obtain⟨ρ',e1,e2,I'⟩:=Mc hK hs hz hy hT (hk▸Nat.lt_add_of_pos_right (Nat.succ_pos m)) I
  rw[dK,aU]
  exact(iu (k+1) ρ' ((d8 k 1 m).trans hk) (fun hm=>by (first|exact VS hm|cases hm);(first|exact VS hk|cases hk);exact e2) I').imp fun BQ h=>⟨(lB rfl e1).trans h.1,h.2⟩
theorem JC(hK:JB K)(hs:s<23)(hz:cs[1]? =some z)(hy:cs[9]? =some y)(hT: ∀j<5,∃n,nums[j]? =some n∧GF 2 g0 (tp j)=some (n,tp (j+1))){ρ:List MV}(I:TI cs st K s plan nums tp Z 0 ρ):
  ∃ρ',nS ρ=some (.next,ρ')∧ρ'[9]? =some (.p (.int (xx z 9)))∧TI cs st K s plan nums tp Z 10 ρ':=by
 obtain⟨ρ',e,h9,I'⟩:=Md hK hs hz hy hT 10 0 ρ rfl (fun h=>by (first|exact VS h|cases h)) I
 exact⟨ρ',gE (gE (gE (gF rfl rfl) rfl) (show itemsOf (.CP 0 10 1)=some ((bW 0 10).map fun k=>PV.int (k:Nat)) by kernel_rfl)) e,h9,I'⟩
end
end
section
open PySem PyProof.Rows
open V5
section
variable {K:List (Int×Int)}
noncomputable def qo(K:List (Int×Int))(u:V5):List PV:=K.map fun p=> .int (u.at' p.1*p.2)
noncomputable def qp(K:List (Int×Int))(u:V5):PV:= .list (qo K u++u.l5.map .int)
noncomputable abbrev D3:=Fz (yI 2) (FA 2 false) false
theorem CG(a b:Int)(l m:List PV):D3 (.int a::l) (.int b::m)=if a=b then D3 l m else some (decide (a<b)):=by
 show(yI 2 (.int a) (.int b)).bind _=_
 rw[EF]
 by_cases h:a=b
 ·rw[if_pos h,h]
  show(if (b==b)=true then _ else _)=_
  rw[if_pos (beq_self_eq_true b)]
 ·rw[if_neg h]
  show(if (a==b)=true then _ else _)=_
  rw[if_neg (by rw[beq_iff_eq];exact h)];rfl
theorem JD(u v:V5)(l m:List PV):D3 (qo K v++l) (qo K u++m)=if zj K (v.sub u)=1 then some false else if zj K (v.sub u)= -1 then some true else D3 l m:=by
 induction K with
 |nil=>rfl
 |cons p K ih=>
  obtain⟨i,d⟩:=p
  show D3 (.int (v.at' i*d)::(qo K v++l)) (.int (u.at' i*d)::(qo K u++m))=_
  rw[CG,ih,oE,DQ,Int.sub_mul]
  rcases dH (v.at' i*d) (u.at' i*d) with h|h|h
  ·rw[if_neg (Int.ne_of_lt h),decide_eq_true h,if_neg (Int.not_lt.mpr (fS (dG h))),if_pos (dG h)];rfl
  ·rw[if_pos h,h,Int.sub_self];rfl
  ·rw[if_neg (fQ h),decide_eq_false (eO h),if_pos (ei h)];rfl
theorem JE: ∀l:List Int,D3 (l.map .int) (l.map .int)=some false:=by
 intro l
 induction l with
 |nil=>rfl
 |cons a l ih=>exact(CG a a _ _).trans ((if_pos rfl).trans ih)
theorem Me(hK:KeysOK K)(u v:V5):Dq [.list [qp K u,qp K v]]=some (qp K (mn K u v)):=by
 show(FA 3 false (qp K v) (qp K u)).bind (fun y=>if y then some (qp K v) else some (qp K u))=_
 show(D3 (qo K v++v.l5.map .int) (qo K u++u.l5.map .int)).bind (fun y=>if y then some (qp K v) else some (qp K u))=_
 rw[JD]
 unfold mn
 rcases oF K (v.sub u) with h|h|h
 ·rw[h];rfl
 ·rw[h];rfl
 ·rw[h,show v=u from zk (sV hK h),JE];rfl
theorem X6(hl:K.length=5)(u:V5):jm (qp K u) (some 5) none=some (jf u):=by
 have h:(qo K u).length=5:=(aD ..).trans hl
 refine(if_pos (e:=none) (by rw[aK,h];exact dJ rfl)).trans (congrArg (fun x=>some (PV.list x)) ?_)
 rw[show(5:Int)=((5:Nat):Int) from rfl,CF _ 5 (by rw[aK,h];exact df ..)]
 exact List.drop_left' h
noncomputable def mI(T:List V5):MV:= .Ba yC (T.map jf)
noncomputable def lX(T:List V5):PV:= .list (T.map jf)
noncomputable def sd(K:List (Int×Int))(rs:List V5)(h x5 x6 x7 x8 x9:MV):List MV:=[.p (lX rs),.p (kr K),.p (iP ij),.p (iP hV),h,x5,x6,x7,x8,x9]
variable {rs T:List V5} {x5 x6 x7 x8 x9:MV} {c:Nat}
theorem xB(h:rs.length=10){k:Nat}(hk:k∈List.range 10):gH (lX rs) (.int (k:Nat))=some (jf (rs.getD k zero)):=
 have oN:=List.mem_range.mp hk
 item_list (by rw[aY,aG (h.symm▸oN)];rfl) (bO oN (by decide))
theorem zo{k:Nat}(hk:k∈List.range 10):gH (iP ij) (.int (k:Nat))=some (.int (ij.getD k 0:Nat)):=
 jU (f:=fun k:Nat=>gH (iP ij) (.int (k:Nat))) (g:=fun k=>some (.int (ij.getD k 0:Nat))) (by kernel_rfl) hk
theorem NI:itemsOf (.CP 0 10 1)=some ((List.range 10).map fun k=>PV.int (k:Nat)):= (by kernel_rfl)
theorem CH{f:V5→PV}(h:rs.length=10):mh [.list ((List.range 10).map fun k=> .tup [.int (ij.getD k 0:Nat),f (rs.getD k zero)])]=some (.Ba yC (rs.map f)):=
 uu h (P:=fun rs=>mh [.list ((List.range 10).map fun k=> .tup [.int (ij.getD k 0:Nat),f (rs.getD k zero)])]=some (.Ba yC (rs.map f))) fun a b c d e g h i j k=>by kernel_rfl
theorem lp0(h:rs.length=10):m6 (sd K rs .un .un .un .un .un .un)=some (.next,sd K rs (mI rs) .un .un .un .un .un):=
 (if_pos (e:=none) (bu 10)).trans (hJ (gE (gF (ip (gE (gE (gF rfl rfl) rfl) NI) (i9 (c:=fun k:Nat=>PV.int (k:Nat)) (g:=fun k=> .tup [.int (ij.getD k 0:Nat),jf (rs.getD k zero)]) fun k hk=>iw (gP:= .p (.int (k:Nat))::(sd K rs .un .un .un .un .un .un).map MV.mm) rfl rfl (lp (gF (ct rfl rfl (zo hk)) (gF (ct rfl rfl (xB h hk)) rfl)) rfl)) rfl) rfl) (CH (f:=jf) h)))
theorem AR{h:MV}:ik #[5] #[i,10] iS (sd K rs h (.p (.int (c:Nat))) x6 x7 x8 x9)=some (.int (nT c:Nat))∧ik #[b,#[i,10],#[b,#[5],#[i,100],iS],iD] #[b,#[5],#[i,10],iX] gY (sd K rs h (.p (.int (c:Nat))) x6 x7 x8 x9)=some (.int (sb c:Nat))∧ik #[5] #[i,100] iX (sd K rs h (.p (.int (c:Nat))) x6 x7 x8 x9)=some (.int (nV c:Nat)):=
 ⟨ct rfl rfl (congrArg (fun x=>some (PV.int x)) (VF c 10)),ct (ct rfl (ct rfl rfl (congrArg (fun x=>some (PV.int x)) (VF c 100))) ((An.1 _ _).trans (if_pos (by rw[show small 10=true by decide,eJ])))) (ct rfl rfl (congrArg (fun x=>some (PV.int x)) (SI c 10))) (rW (10*(c/100)) _),ct rfl rfl (congrArg (fun x=>some (PV.int x)) (SI c 100))⟩
theorem X7(hT:T.length=10)(hc:c∈hV):lC (sd K rs (mI T) (.p (.int (c:Nat))) x6 x7 x8 x9)=some (.next,sd K rs (mI T) (.p (.int (c:Nat))) (.p (jf (T.getD (ix (nT c)) zero))) (.p (jf (T.getD (ix (sb c)) zero))) (.p (jf (T.getD (ix (nV c)) zero))) x9):=by
 obtain⟨m1,m2,m3⟩:=AN _ hc
 obtain⟨k1,k2,k3⟩:=AR (K:=K) (rs:=rs) (c:=c) (h:=mI T) (x6:=x6) (x7:=x7) (x8:=x8) (x9:=x9)
 exact gE (lp (gF (gE rfl (gE k1 (oG hT m1))) (gF (gE rfl (gE k2 (oG hT m2))) (gF (gE rfl (gE k3 (oG hT m3))) rfl))) rfl) rfl
variable {a b m:V5}
theorem JF(hb: ∀p∈K,(0≤p.1∧p.1<5)∧ -5≤p.2∧p.2≤5)(tl:List MV)(u:V5):jV (iF (gX [0,1] #[m,[0,1]]) #[y] #[b,ik #[2] #[0] gH,#[1],iD]) (.un:: .un:: .p (jf u)::tl) (K.map Cv)=some (qo K u):=
 i9 (g:=fun p=> .int (u.at' p.1*p.2)) fun p hp=>iw (gP:= .p (.int p.1):: .p (.int p.2):: .p (jf u)::tl) rfl rfl (ct (ct rfl rfl (Jh (hb p hp).1.1 (hb p hp).1.2 u)) rfl (if_pos (by rw[qy (i:=p.2) (m:=6) (by have:=(hb p hp).2;omega) rfl,eK])))
theorem X8(hK:JB K):lD (sd K rs (mI T) x5 (.p (jf a)) x7 (.p (jf b)) x9)=some (.next,sd K rs (mI T) x5 (.p (jf a)) x7 (.p (jf b)) (.p (jf (mn K a b)))):=by
 have Jl:=hK.len
 have hs: ∀u:V5,iF (gX [0] #[n,0]) #[y] #[b,(iL 2 #[f,#[2],itemsOf] #[o,(gX [0,1] #[m,[0,1]]),#[y],ik #[b,#[2],#[0],gH] #[1] iD]),#[0],gY] (.un::(sd K rs (mI T) x5 (.p (jf a)) x7 (.p (jf b)) x9).map MV.mm) (jf u)=some [qp K u]:=fun u=>
  iw (gP:= .p (jf u)::(sd K rs (mI T) x5 (.p (jf a)) x7 (.p (jf b)) x9).map MV.mm) rfl rfl (ct (ip (gE rfl rfl) (JF hK.both _ u) (decide_eq_true (by unfold qo;rw[aD,Jl];decide))) rfl (if_pos (by unfold qo;rw[aD,Jl];exact dJ rfl)))
 exact hJ (gE (gE (gF (ip (gE (lp (gF rfl (gF rfl rfl)) rfl) rfl) (iO (hs a) (iO (hs b) rfl)) rfl) rfl) (Me hK.toKeysOK a b)) (gE rfl (gE rfl (X6 Jl _))))
theorem Mf(tl:List MV)(u v w:V5):((sE [jf u,jf v,jf w]).bind fun ps=>jV (iF (gX [0,1,2] #[m,[0,1,2]]) #[y] #[b,ik #[0] #[1] gY,#[2],kO]) (.un:: .un:: .un::tl) ps)=some ((tr u v w).l5.map .int):= (by kernel_rfl)
theorem AU(hT:T.length=10){o:Nat}(ho:o∈ij){ke f:List MV→Option PV}{x:V5}(hk:ke (sd K rs (mI T) x5 x6 x7 x8 x9)=some (.int (o:Nat)))(hf:f (sd K rs (mI T) x5 x6 x7 x8 x9)=some (jf x)):uZ 4 ke f (sd K rs (mI T) x5 x6 x7 x8 x9)=some (.next,sd K rs (mI (T.set (ix o) x)) x5 x6 x7 x8 x9):=by
 refine gE hf (gE hk (hJ (a:=mI (T.set (ix o) x)) ((gI (show(sd K rs (mI T) x5 x6 x7 x8 x9)[4]? =some (mI T) from rfl)).trans ((if_pos (e:=none) (show 10≤100000 by decide)).trans ?_))))
 rw[zm hT ho];rfl
theorem NJ{ρ:List MV}{f₀:List MV→Option (List PV)}{u v w:V5}(h:f₀ ρ=sE [jf u,jf v,jf w]):iL 3 f₀ #[o,(gX [0,1,2] #[m,[0,1,2]]),#[y],#[b,ik #[0] #[1] gY,#[2],kO]] ρ=some (jf (tr u v w)):=
 ip (h.trans rfl) (Mf (ρ.map MV.mm) u v w) rfl
theorem S8: ∀c∈hV,ix (sb c)≠ix (nV c):=by decide+kernel
theorem Mg(hK:JB K)(hT:T.length=10)(hc:c∈hV): ∃y6 y7 y8 y9,j3 (sd K rs (mI T) (.p (.int (c:Nat))) x6 x7 x8 x9)=some (.next,sd K rs (mI (A7 K T c)) (.p (.int (c:Nat))) y6 y7 y8 y9):=by
 obtain⟨m1,m2,m3⟩:=AN _ hc
 have e:j3 (sd K rs (mI T) (.p (.int (c:Nat))) x6 x7 x8 x9)=some (.next,sd K rs (mI (((T.set (ix (nT c)) (tr (T.getD (ix (nT c)) zero) (T.getD (ix (sb c)) zero) (mn K (T.getD (ix (nT c)) zero) (T.getD (ix (nV c)) zero)))).set (ix (nV c)) (tr (T.getD (ix (nV c)) zero) (T.getD (ix (sb c)) zero) (mn K (T.getD (ix (nT c)) zero) (T.getD (ix (nV c)) zero)))).set (ix (sb c)) (mn K (T.getD (ix (nT c)) zero) (T.getD (ix (nV c)) zero)))) (.p (.int (c:Nat))) (.p (jf (T.getD (ix (nT c)) zero))) (.p (jf (T.getD (ix (sb c)) zero))) (.p (jf (T.getD (ix (nV c)) zero))) (.p (jf (mn K (T.getD (ix (nT c)) zero) (T.getD (ix (nV c)) zero))))):=
  (gG (X7 hT hc)).trans ((gG (X8 hK)).trans ((gG (AU (x:=tr (T.getD (ix (nT c)) zero) (T.getD (ix (sb c)) zero) (mn K (T.getD (ix (nT c)) zero) (T.getD (ix (nV c)) zero))) hT m1 AR.1 (NJ rfl))).trans ((gG (AU (x:=tr (T.getD (ix (nV c)) zero) (T.getD (ix (sb c)) zero) (mn K (T.getD (ix (nT c)) zero) (T.getD (ix (nV c)) zero))) ((br ..).trans hT) m3 AR.2.2 (NJ rfl))).trans (zi (AU (x:=(mn K (T.getD (ix (nT c)) zero) (T.getD (ix (nV c)) zero))) (by rw[br,br];exact hT) m2 AR.2.1 rfl)))))
 rw[List.set_comm _ _ (S8 c hc).symm] at e
 exact⟨_,_,_,_,e⟩
theorem Mh(hK:JB K): ∀(l:List Nat) (T:List V5) (x5 x6 x7 x8 x9:MV),T.length=10→(∀c∈l,c∈hV)→ ∃y5 y6 y7 y8 y9,nj #[n,5] j3 #[k] (sd K rs (mI T) x5 x6 x7 x8 x9) (l.map fun n=>PV.int (n:Nat))=some (.next,sd K rs (mI (kN K T l)) y5 y6 y7 y8 y9):=by
 intro l
 induction l with
 |nil=>exact fun T x5 x6 x7 x8 x9 _ _=>⟨x5,x6,x7,x8,x9,rfl⟩
 |cons c l ih=>
  intro T x5 x6 x7 x8 x9 hT hl
  obtain⟨y6,y7,y8,y9,e⟩:=Mg (rs:=rs) (x6:=x6) (x7:=x7) (x8:=x8) (x9:=x9) hK hT (hl c (aA ..))
  obtain⟨z5,z6,z7,z8,z9,e2⟩:=ih (A7 K T c) (.p (.int (c:Nat))) y6 y7 y8 y9 ((vP K T c).trans hT) fun x hx=>hl x (av _ hx)
  exact⟨z5,z6,z7,z8,z9,(lB rfl e).trans e2⟩
theorem CI{f:V5→PV}(h:T.length=10):(ij.map fun p=>f (T.getD (ix p) zero))=T.map f:=
 uu h (P:=fun T=>(ij.map fun p=>f (T.getD (ix p) zero))=T.map f) fun a b c d e g h i j k=>rfl
theorem Gk(hK:JB K)(h:rs.length=10):oV [lX rs,kr K,iP ij,iP hV]=some (.list ((kN K rs hV).map jI)):=by
 obtain⟨y5,y6,y7,y8,y9,e⟩:=Mh (rs:=rs) hK hV rs .un .un .un .un .un h fun _ h=>h
 have hl:=(Jf K hV rs).trans h
 have h1:m7 (sd K rs (mI rs) .un .un .un .un .un)=some (.next,sd K rs (mI (kN K rs hV)) y5 y6 y7 y8 y9):=gE (a:=hV.map fun n=>PV.int (n:Nat)) (gE (a:=iP hV) rfl (lT hV)) e
 generalize kN K rs hV=Z at h1 hl ⊢
 have h2:kX (sd K rs (.p (.kj yC (Z.map jf))) y5 y6 y7 y8 y9)=some (.ret (.list (Z.map jI)),sd K rs (.p (.kj yC (Z.map jf))) y5 y6 y7 y8 y9):=
  hJ (ip (gE (a:=iP ij) rfl (lT ij)) ((i9 (c:=fun n:Nat=>PV.int (n:Nat)) (g:=fun p=>jI (Z.getD (ix p) zero)) fun p hp=>iw (gP:= .p (.int (p:Nat))::(sd K rs (.p (.kj yC (Z.map jf))) y5 y6 y7 y8 y9).map MV.mm) rfl rfl (gE (gF (ct rfl rfl (oG (f:=jf) hl hp)) rfl) (xq _))).trans (congrArg some (CI hl))) (decide_eq_true (by rw[aD,hl];decide)))
 have h3:nt 4 (gR kX #[k]) (sd K rs (mI Z) y5 y6 y7 y8 y9)=some (.ret (.list (Z.map jI)),sd K rs (.p (.kj yC (Z.map jf))) y5 y6 y7 y8 y9):=
  (rR (m:=mI Z) (q:= .kj yC (Z.map jf)) rfl rfl).trans (j1 h2)
 exact nH (f:=oU) rfl rfl ((gG (lp0 h)).trans ((gG h1).trans h3))
end
end
section
open PySem PyProof.Rows
open V5
theorem JG{f g:List MV→Option (Fl×List MV)}{ρ ρ' BQ:List MV}(h:f ρ=some (.next,ρ'))(e:ρ'=BQ):gR f g ρ=g BQ:=e▸gG h
section
variable {ρ:List MV} {cs:List Int}
noncomputable def AV:PV:= .list ((uo.take 8).map .str)
theorem q0:oX ρ=some (.next,ρ.set 3 (.p AV)):=rfl
theorem Gl(tl:List MV):jV (iF (gX [0] #[n,0]) #[y] #[b,#[b,(fun _=>some (.str (Str.ofString "0x"))),#[b,(fun _=>some (.str (Str.ofString "1248"))),#[b,#[0],#[i,4],iX],gH],gY],#[b,(fun _=>some (.str (Str.ofString "0"))),#[b,#[0],#[i,4],iS],iD],gY]) (.un::tl) ((bW 10 22).map fun k=>PV.int (k:Nat))=some ((uo.drop 10).map .str):= (by kernel_rfl)
theorem q1(h3:ρ[3]? =some (.p AV)):oY ρ=some (.next,ρ.set 3 (.p pe)):=
 hJ (ct (ct (congrArg gQ h3) (nG rfl rfl) (show gY AV (.list [.str (Str.ofString "ITERABLE_COROUTINE"),.str (Str.ofString "ASYNC_GENERATOR")])=some (.list ((uo.take 10).map .str)) by kernel_rfl)) (ip (gE (gE (gF rfl (gF rfl rfl)) rfl) (show itemsOf (.CP 10 32 1)=some ((bW 10 22).map fun k=>PV.int (k:Nat)) by kernel_rfl)) (Gl (ρ.map MV.mm)) (by kernel_rfl)) (by kernel_rfl))
theorem q2:oZ ρ=some (.next,ρ.set 4 (.p xu)):=rfl
theorem q3:o3 ρ=some (.next,(ρ.set 5 (.p (iP ij))).set 6 (.p (iP hV))):=gE (lp (gF (nG rfl rfl) (gF (nG rfl rfl) rfl)) rfl) rfl
noncomputable def Qs(z:Int):Nat:=(z.fmod 23).toNat
theorem PS(z:Int):Qs z<23∧z.fmod 23=(Qs z:Int):=pf z 23 (by decide)
theorem q4{z:Int}(h0:ρ[0]? =some (.p (.list (cs.map .int))))(h1:cs[1]? =some z):o4 ρ=some (.next,(((ρ.set 7 (.p (.int (Qs z:Nat)))).set 8 (.p (.int (z.fdiv 69)))).set 9 (.p (.int 0))).set 10 (.p (.int 0))):=
 have e:=item_list (f:=PV.int) (l:=cs) (i:=1) h1 (by decide)
 gE (lp (gF (ct (ct (congrArg gQ h0) rfl e) rfl (congrArg (fun x=>some (PV.int x)) (PS z).2)) (gF (ct (ct (congrArg gQ h0) rfl e) rfl rfl) (gF rfl (gF rfl rfl)))) rfl) rfl
noncomputable def PT(n d:Int):List Int:=[64+n.fdiv 4096+128*(d.fdiv (2^0)).fmod 2,64+(n.fdiv 64).fmod 64+128*(d.fdiv (2^1)).fmod 2,n.fmod 64+128*(d.fdiv (2^2)).fmod 2]
noncomputable def EY(n:Int):List Int:=[64+n.fdiv 4096,64+(n.fdiv 64).fmod 64,n.fmod 64]
theorem X9(n d:Int)(x:MV):mr [.p (.int n),.p (.int d),x]=some (.next,[.p (.int n),.p (.int d),.p (.list ((EY n).map .int))]):= (by kernel_rfl)
theorem Ya(n d:Int):mu [.p (.int n),.p (.int d),.p (.list ((EY n).map .int))]=some (.next,[.p (.int n),.p (.int d),.p (.list ((PT n d).map .int))]):= (by kernel_rfl)
theorem Gm(a b c:PV)(i:Nat)(h:i∈[0,1,2]):jm (.list [a,b,c]) (some i) none=some (.list ([a,b,c].drop i)):=
 jU (f:=fun i:Nat=>jm (.list [a,b,c]) (some i) none) (g:=fun i=>some (.list ([a,b,c].drop i))) (by kernel_rfl) h
theorem JH: ∀p q:Bool,∀c∈List.range 2,((if p then 1 else 0)+(if q then 1 else 0))*c∈[0,1,2]:=by decide
theorem Gn(n d:Int):lW [.int n,.int d]=some (.list ((DO n d).map .int)):=by
 have f:((d.fdiv 8).fmod 2).toNat<2∧(d.fdiv 8).fmod 2=(((d.fdiv 8).fmod 2).toNat:Int):=pf (d.fdiv 8) 2 (by decide)
 have PO:=Gm (.int (64+n.fdiv 4096+128*(d.fdiv (2^0)).fmod 2)) (.int (64+(n.fdiv 64).fmod 64+128*(d.fdiv (2^1)).fmod 2)) (.int (n.fmod 64+128*(d.fdiv (2^2)).fmod 2)) _ (JH (decide (n<64)) (decide (n<4096)) _ (List.mem_range.mpr f.1))
 have hm:iD (.int (((if decide (n<64) then 1 else 0)+(if decide (n<4096) then 1 else 0):Nat):Int)) (.int ((d.fdiv 8).fmod 2))=some (.int ((((if decide (n<64) then 1 else 0)+(if decide (n<4096) then 1 else 0))*((d.fdiv 8).fmod 2).toNat:Nat):Int)):=
  (congrArg (fun x=>iD _ (.int x)) f.2).trans (if_pos (by rw[qy (i:=(((d.fdiv 8).fmod 2).toNat:Int)) (m:=2) f.1 rfl,eK]))
 refine nH (f:=nR) rfl rfl ((gG (X9 n d .un)).trans ((gG (Ya n d)).trans (j1 (hJ (gE rfl (gE (gE (ct (ct (gE (gF rfl rfl) (Cq _)) (gE (gF rfl rfl) (Cq _)) (rW _ _)) (ct (ct rfl rfl rfl) rfl rfl) hm) rfl) (gE rfl (PO.trans ?_))))))))
 unfold DO
 rw[List.map_drop]
 rfl
theorem EZ(k:PV)(tl:List MV): ∀l:List PV,jV (iF (gX [1] #[n,1]) #[y] #[1]) (.p k:: .un::tl) l=some l
 |[]=>rfl
 |p::l=>iO (a:=[p]) rfl (EZ k tl l)
theorem JI(n d:Int):(DO n d).length≤3:=(List.drop_sublist _ _).length_le
theorem PU(x:PV){m:Nat}(h:m<3):iD (.list [x]) (.int (m:Nat))=some (.list (List.replicate m x)):=
 jU (l:=List.range 3) (f:=fun m:Nat=>iD (.list [x]) (.int (m:Nat))) (g:=fun m=>some (.list (List.replicate m x))) (by kernel_rfl) (List.mem_range.mpr h)
theorem S9{k:Nat}(h:k<5):lh (.int 16) (.int (k:Nat))=some (.int (16^k)):=
 jU (l:=List.range 5) (f:=fun k:Nat=>lh (.int 16) (.int (k:Nat))) (g:=fun k=>some (.int (16^k))) (by kernel_rfl) (List.mem_range.mpr h)
theorem Mi: ∀k∈List.range 5,(small (16^k)&&((16:Int)^k !=0))=true:=by decide
variable {z0 z1 a0 a1 a2 a3 a4 d t9 y:Int} {rest:List Int}
noncomputable abbrev la(z0 z1 a0 a1 a2 a3 a4 d t9 y:Int)(rest:List Int):List Int:=z0::z1::a0::a1::a2::a3::a4::d::t9::y::rest
noncomputable def numsOf(a0 a1 a2 a3 a4:Int):List Int:=[a0.fmod 262144,a1.fmod 262144,a2.fmod 262144,a3.fmod 262144,a4.fmod 262144]
theorem JJ(tl:List MV):jV (iF (gX [0] #[n,0]) #[y] #[b,#[0],#[i,262144],iX]) (.un::tl) [.int a0,.int a1,.int a2,.int a3,.int a4]=some ((numsOf a0 a1 a2 a3 a4).map .int):= (by kernel_rfl)
theorem Gp(hr:rest.length=50):jm (.list ((la z0 z1 a0 a1 a2 a3 a4 d t9 y rest).map .int)) (some 2) (some 7)=some (.list [.int a0,.int a1,.int a2,.int a3,.int a4]):=by
 have hl:((la z0 z1 a0 a1 a2 a3 a4 d t9 y rest).map PV.int).length=60:=by rw[aD];exact congrArg (· +10) hr
 refine(if_pos (hl▸by decide)).trans ?_
 unfold cut uU
 rw[hl]
 rfl
theorem q5(hr:rest.length=50)(h0:ρ[0]? =some (.p (.list ((la z0 z1 a0 a1 a2 a3 a4 d t9 y rest).map .int)))):o5 ρ=some (.next,ρ.set 11 (.p (.list ((numsOf a0 a1 a2 a3 a4).map .int)))):=
 hJ (ip (gE (gE (congrArg gQ h0) (gE (gE rfl rfl) (gE (gE rfl rfl) (Gp hr)))) rfl) (JJ (ρ.map MV.mm)) rfl)
noncomputable def yD(nums:List Int)(d:Int)(k:Nat):List Int:=DO (nums.getD k 0) (d.fdiv (16^k))
noncomputable def xC(nums:List Int)(d:Int):List Int:=(List.range 5).flatMap (yD nums d)
theorem xD(nums:List Int)(d:Int):(xC nums d).length≤15:=by
 have h: ∀l:List Nat,(l.flatMap (yD nums d)).length≤3*l.length:=fun l=>by
  induction l with
  |nil=>exact bu _
  |cons a l ih=>
   rw[List.flatMap_cons,aK,bj]
   have:=JI (nums.getD a 0) (d.fdiv (16^a))
   unfold yD at ih ⊢
   rw[Nat.mul_succ,fO]
   exact dE ih this
 exact h (List.range 5)
theorem q6{nums:List Int}(hn:nums.length=5)(h0:ρ[0]? =some (.p (.list ((la z0 z1 a0 a1 a2 a3 a4 d t9 y rest).map .int))))(SV:ρ[11]? =some (.p (.list (nums.map .int)))):o6 ρ=some (.next,ρ.set 12 (.p (.list ((xC nums d).map .int)))):=by
 have step: ∀(k:Nat),k<5→sk (gX [0] #[n,0]) #[y] #[f,#[f,#[c,ik #[13] #[0] gH,#[c,#[b,#[b,#[2],#[i,7],gH],#[b,#[i,16],#[0],lh],iS],#v[]]],lW],itemsOf] #[o,(gX [1] #[n,1]),#[y],#[1]] (.un:: .un::ρ.map MV.mm) (.int (k:Nat))=some ((yD nums d k).map .int):=fun k hk=>
  Cp (gP:= .p (.int (k:Nat)):: .un::ρ.map MV.mm) rfl rfl (gE (gE (gF (ct (m9 SV) rfl (item_list (by rw[aY,aG (hn.symm▸hk)];rfl) (bO hk (by decide)))) (gF (ct (ct (m9 h0) rfl (item_list (f:=PV.int) (l:=la z0 z1 a0 a1 a2 a3 a4 d t9 y rest) (i:=7) rfl (by decide))) (ct rfl rfl (S9 hk)) (if_pos (Mi k (List.mem_range.mpr hk)))) rfl)) (Gn _ _)) rfl) (EZ _ _ _)
 refine hJ (ip (gE (gE (gF rfl rfl) rfl) (show itemsOf (.CP 0 5 1)=some ([0,1,2,3,4].map fun k:Nat=>PV.int (k:Nat)) by kernel_rfl)) ((iO (step 0 (by decide)) (iO (step 1 (by decide)) (iO (step 2 (by decide)) (iO (step 3 (by decide)) (iO (step 4 (by decide)) rfl))))).trans (congrArg some ?_)) (decide_eq_true (by rw[aD];exact Nat.le_trans (xD _ _) (by decide))))
 show _=(yD nums d 0++(yD nums d 1++(yD nums d 2++(yD nums d 3++(yD nums d 4++[]))))).map PV.int
 rw[bA,bA,bA,bA,bA];rfl
noncomputable def E1(t9:Int):Nat:=((t9.fdiv 64).fmod 3).toNat
theorem ta(t9:Int):E1 t9<3∧(t9.fdiv 64).fmod 3=(E1 t9:Int):=pf (t9.fdiv 64) 3 (by decide)
noncomputable def JK(t9:Int):List PV:=List.replicate (E1 t9) (.int (64+t9.fmod 64))
noncomputable def rq(nums:List Int)(d t9:Int)(j:Nat):List PV:=((bW j (5-j)).flatMap (yD nums d)).map .int++JK t9
theorem Mj{nums:List Int}(hn:nums.length=5)(hb: ∀n∈nums,0≤n∧n<262144): ∀j<5,∃n,nums[j]? =some n∧GF 2 g0 (rq nums d t9 j)=some (n,rq nums d t9 (j+1)):=fun j hj=>by
 have NW:j<nums.length:=hn.symm▸hj
 have e:rq nums d t9 j=(DO (nums.getD j 0) (d.fdiv (16^j))).map .int++rq nums d t9 (j+1):=by
  unfold rq
  rw[show 5-j=5-(j+1)+1 from(Nat.succ_pred (Nat.sub_ne_zero_of_lt hj)).symm,dK,List.flatMap_cons,bA,b9];rfl
 have hg:nums.getD j 0=nums[j]:=by rw[aY,aG NW];rfl
 refine⟨nums[j],aG NW,?_⟩
 rw[e,hg]
 exact F9 (hb _ (fZ NW)).1 (hb _ (fZ NW)).2 _
theorem q7{nums:List Int}(ib:ρ.length=44)(h0:ρ[0]? =some (.p (.list ((la z0 z1 a0 a1 a2 a3 a4 d t9 y rest).map .int))))(h12:ρ[12]? =some (.p (.list ((xC nums d).map .int)))):o7 ρ=some (.next,ρ.set 13 (.mj (rq nums d t9 0))):=by
 have h8:=(item_list (f:=PV.int) (l:=la z0 z1 a0 a1 a2 a3 a4 d t9 y rest) (i:=8) rfl (by decide))
 have PH:gY (.list ((xC nums d).map .int)) (.list (JK t9))=some (.list (rq nums d t9 0)):=
  if_pos (by unfold JK;rw[aD,eS];exact Nat.le_trans (dE (xD _ _) (d6 (ta t9).1)) (by decide))
 exact(if_pos (ba ib)).trans (hJ (gE (gF (ct (congrArg gQ h12) (ct (nG (gF (ct rfl (ct (ct (congrArg gQ h0) rfl h8) rfl rfl) rfl) rfl) rfl) (ct (ct (ct (congrArg gQ h0) rfl h8) rfl rfl) rfl (congrArg (fun x=>some (PV.int x)) (ta t9).2)) (PU _ (ta t9).1)) PH) rfl) rfl))
theorem q8{rs:List V5}(NK:rs.length=10)(ib:ρ.length=44)(h5:ρ[5]? =some (.p (iP ij)))(h1:ρ[1]? =some (.p (lX rs))):o8 ρ=some (.next,(ρ.set 14 (.p s6)).set 15 (xt rs)):=
 (if_pos (ba ib)).trans (gE (lp (gF rfl (gF rfl (gF rfl (gF rfl (gF rfl rfl))))) rfl) (hJ (gE (gF (ip (gE (gE (gF rfl rfl) rfl) NI) (i9 (c:=fun k:Nat=>PV.int (k:Nat)) (g:=fun k=> .tup [.int (ij.getD k 0:Nat),jI (rs.getD k zero)]) fun k hk=>iw (gP:= .p (.int (k:Nat))::ρ.map MV.mm) rfl rfl (lp (gF (ct (m9 h5) rfl (zo hk)) (gF (gE (gF (ct (m9 h1) rfl (xB NK hk)) rfl) (xq _)) rfl)) rfl)) rfl) rfl) (CH NK))))
noncomputable def CK:Nat:=((A6 0).headD (0,0)).1
noncomputable def AW:Nat:=((A6 0).headD (0,0)).2
theorem Yb:(CK,AW)∈A6 0:=by decide+kernel
theorem JL(tl:List MV):jV (iF (gX [0] #[n,0]) #[y] #[l,#[c,#[0],#[c,#[b,#[b,#[0],#[i,10],iX],#[b,#[0],#[i,10],iS],kO],#v[]]]]) (.un::tl) (ij.map fun n=>PV.int (n:Nat))=some ((qK CK).map L5):= (by kernel_rfl)
theorem q9(h5:ρ[5]? =some (.p (iP ij))):o9 ρ=some (.next,ρ.set 16 (.p (lq (qK CK)))):=
 hJ (ip (gE (congrArg gQ h5) (lT ij)) (JL (ρ.map MV.mm)) rfl)
theorem Ta: ∀x∈A6 10,Cs x.2=[]:=by decide+kernel
theorem PW{K:List (Int×Int)}{rs:List V5}(hK:JB K)(hr:rest.length=50)(NK:rs.length=10): ∃m a rows T,T=kN K rs (Cs AW)∧T.length=10∧rV ([PV.list ((la z0 z1 a0 a1 a2 a3 a4 d t9 y rest).map .int),lX rs,kr K].map .p++List.replicate 41 .un)=some (.next,(PR m (la z0 z1 a0 a1 a2 a3 a4 d t9 y rest) (lX rs) K (Qs z1) (z1.fdiv 69) (numsOf a0 a1 a2 a3 a4) (rq (numsOf a0 a1 a2 a3 a4) d t9 5) a T rows).set 15 (.p (.kj yC (T.map jI))))∧m 9= .p (.int (xx z1 9)):=by
 have hb: ∀n∈numsOf a0 a1 a2 a3 a4,0≤n∧n<262144:=fun n hn=>by
  have hm: ∀a:Int,0≤a.fmod 262144∧a.fmod 262144<262144:=fun a=>⟨cO a (by decide),dr a (by decide)⟩
  obtain⟨a,_,rfl⟩:=List.mem_map.mp (show n∈[a0,a1,a2,a3,a4].map (Int.fmod · 262144) from hn)
  exact hm a
 let J6:List MV:=PR (fun j=>([.un,.un,.un,.un,.un,.un,.un,.un,.un,.p (.int 0),.un,.un,.p (.list ((xC (numsOf a0 a1 a2 a3 a4) d).map .int))]:List MV).getD j .un) (la z0 z1 a0 a1 a2 a3 a4 d t9 y rest) (lX rs) K (Qs z1) (z1.fdiv 69) (numsOf a0 a1 a2 a3 a4) (rq (numsOf a0 a1 a2 a3 a4) d t9 0) 0 rs (qK CK)
 obtain⟨J7,s10,h9,m,a,T,n,w,rfl,hl,yb,hw⟩:=JC (Z:=kN K rs (Cs AW)) (ρ:=J6) (cs:=la z0 z1 a0 a1 a2 a3 a4 d t9 y rest) (z:=z1) (y:=y) hK (PS z1).1 rfl rfl (Mj (d:=d) (t9:=t9) rfl hb) ⟨_,0,rs,CK,AW,rfl,Yb,NK,rfl⟩
 have hT:T=kN K rs (Cs AW):=by rw[←hw,Ta (n,w) hl];rfl
 exact⟨m,a,qK n,T,hT,yb,(gG q0).trans ((gG (q1 (by kernel_rfl))).trans ((gG q2).trans ((gG q3).trans ((gG (q4 (z:=z1) (cs:=la z0 z1 a0 a1 a2 a3 a4 d t9 y rest) (by kernel_rfl) rfl)).trans ((gG (q5 (z0:=z0) (z1:=z1) (a0:=a0) (a1:=a1) (a2:=a2) (a3:=a3) (a4:=a4) (d:=d) (t9:=t9) (y:=y) hr (by kernel_rfl))).trans ((gG (q6 (z0:=z0) (z1:=z1) (a0:=a0) (a1:=a1) (a2:=a2) (a3:=a3) (a4:=a4) (d:=d) (t9:=t9) (y:=y) (rest:=rest) (nums:=numsOf a0 a1 a2 a3 a4) rfl (by kernel_rfl) (by kernel_rfl))).trans
  ((gG (q7 (z0:=z0) (z1:=z1) (a0:=a0) (a1:=a1) (a2:=a2) (a3:=a3) (a4:=a4) (d:=d) (t9:=t9) (y:=y) (rest:=rest) (nums:=numsOf a0 a1 a2 a3 a4) (by kernel_rfl) (by kernel_rfl) (by kernel_rfl))).trans ((gG (q8 (rs:=rs) NK (by kernel_rfl) (by kernel_rfl) (by kernel_rfl))).trans ((JG (BQ:=J6) (q9 (by kernel_rfl)) (by kernel_rfl)).trans ((gG s10).trans (rR rfl rfl))))))))))),Option.some.inj h9⟩
end
end
section
open PySem PyProof.Rows
section
variable {L:ig}
noncomputable def tc:List Str:=[(Str.ofString "script"),(Str.ofString "own"),(Str.ofString "cells"),(Str.ofString "step"),(Str.ofString "keys")]
noncomputable def uv:gO:=[((Str.ofString "script"),0),((Str.ofString "own"),1),((Str.ofString "cells"),2),((Str.ofString "step"),3),((Str.ofString "keys"),4)]
noncomputable def AX:List MV→Option (Fl×List MV):= #[e,1,#[b,#[l,(fun _=>some [.int 107,.int 3,.int 5,.int 153727,.int 64,.int 4072,.int 7,.int 43036,.int 169,.int 1])],(iL 1 #[f,#[f,#[c,#[i,50],#v[]],jW],itemsOf] #[o,(gX [0] #[n,0]),#[y],#[b,#[l,(fun _=>some [.int 1,.int 0,.int 0,.int 1,.int (-1),.int 0,.int 2])],#[b,#[0],#[i,7],iX],gH]]),gY]]
theorem Ml(H:gK L):S1 L #[C,26] uv tc 0 false #[N,0,#[B,26]] AX:= #v[z,#v[d,#v[A,#v[Y]],#v[u,[(Str.ofString "place")],#v[m,#v[k,H.b_range,.type _,jx.less (aE _),#v[b,#v[c],#v[e]]]],#v[s,(fun h=>by (first|exact VS h|cases h)),#v[o,[0],#v[q,#v[g,0]]],Keeps.name,#v[t],#v[i,#v[A,#v[Y]],#v[d,#v[a,0],#v[c],iQ]]]],gU],#v[g,1],(fun env h=>by (first|exact VS env|cases env);(first|exact VS h|cases h);kernel_rfl)]
noncomputable def AY:List MV→Option (Fl×List MV):= #[e,2,(iL 2 #[f,#[c,#[1],#[c,#[b,#[d,#[0],#[z],#[f,#[i,60],jJ]],#[b,#[l,#[c,#[i,0],#v[]]],#[i,60],iD],gY],#v[]]],sE] #[o,(gX [0,1] #[m,[0,1]]),#[y],#[b,#[0],#[1],gY]])]
theorem Mm(H:gK L):S1 L #[C,26] uv tc 0 false #[N,1,#[B,26]] AY:= #v[z,#v[u,([(Str.ofString "mine"),(Str.ofString "number")]),#v[af,H.b_zip,#v[b,#v[a,1],#v[b,#v[d,#v[I,#v[a,0],#v[P],#v[B,#v[c]]],#v[d,#v[A,#v[b,#v[c],#v[e]]],#v[c],i6],gU],#v[e]]]],#v[s,(fun _=>rfl),#v[o,[0,1],#v[E,.cons (.cons ia.nil),(.cons (@iC _ _ (by kernel_rfl)) (@gM _ _ (0) (by kernel_rfl) (@jX _ (by kernel_rfl))) (.cons (@iC _ _ (by kernel_rfl)) (@gM _ _ (1) (by kernel_rfl) (@jX _ (by kernel_rfl))) i4.nil))]],Keeps.tup,#v[t],#v[d,#v[a,0],#v[a,1],gU]]],#v[g,2],(fun env h=>by (first|exact VS env|cases env);(first|exact VS h|cases h);kernel_rfl)]
noncomputable def AZ:List MV→Option (Fl×List MV):= #[e,3,#[b,#[i,1],#[b,#[b,#[b,#[2],#[i,0],gH],#[i,5],iS],#[i,4],iX],gY]]
theorem Mn(H:gK L):S1 L #[C,26] uv tc 0 false #[N,2,#[B,26]] AZ:= #v[z,#v[d,#v[c],#v[d,#v[d,#v[i,#v[a,2],#v[c]],#v[c],iW],#v[c],iQ],gU],#v[g,3],(fun env h=>by (first|exact VS env|cases env);(first|exact VS h|cases h);kernel_rfl)]
noncomputable def A0:List MV→Option (Fl×List MV):=(fun ρ=>(iL 1 #[f,#[f,#[c,#[i,5],#v[]],jW],itemsOf] #[o,(gX [0] #[n,0]),#[y],#[t,#[c,#[b,#[b,#[b,#[3],#[i,0],gH],ik #[0] #[4] iD,gY],#[i,5],iX],#[c,#[b,#[b,#[0],#[i,1],gY],#[b,#[i,1],#[b,#[i,2],#[b,#[b,#[b,#[b,#[3],#[i,0],gH],#[i,20],iS],#[b,#[i,2],#[0],lh],iS],#[i,2],iX],iD],kO],iD],#v[]]]]] ρ).map fun v=>(.next,ρ.set 4 (.p v)))
theorem Mo(H:gK L):S1 L #[C,26] uv tc 0 false #[N,3,#[B,26]] A0:= #v[Z,[(Str.ofString "k")],#v[m,#v[k,H.b_range,.type _,jx.less (aE _),#v[b,#v[c],#v[e]]]],#v[s,(fun h=>by (first|exact VS h|cases h)),#v[o,[0],#v[q,#v[g,0]]],Keeps.name,#v[t],#v[x,#v[b,#v[d,#v[d,#v[i,#v[a,3],#v[c]],#v[d,#v[a,0],#v[a,4],i6],gU],#v[c],iQ],#v[b,#v[d,#v[d,#v[a,0],#v[c],gU],#v[d,#v[c],#v[d,#v[c],#v[d,#v[d,#v[d,#v[i,#v[a,3],#v[c]],#v[c],iW],#v[d,#v[c],#v[a,0],oK],iW],#v[c],iQ],i6],ml],i6],#v[e]]]]],#v[g,4],(fun env h=>by (first|exact VS env|cases env);(first|exact VS h|cases h);kernel_rfl)]
noncomputable def NL:List MV→Option (Fl×List MV):=(gR AX (gR AY (gR AZ (gR A0 #[k]))))
theorem Tb(H:gK L):SS L #[C,26] uv tc 0 (false||(false||(false||(false||false)))) (wW 4 #[B,26]) NL:= #v[v,([hU 0 #[B,26],hU 1 #[B,26],hU 2 #[B,26],hU 3 #[B,26]]),#v[f,(@Ml _ H),#v[f,(@Mm _ H),#v[f,(@Mn _ H),#v[f,(@Mo _ H),#v[w]]]]]]
noncomputable def rY:List MV→Option (List PV):= #[c,#[2],#[c,(iL 1 #[f,#[f,#[c,#[i,10],#v[]],jW],itemsOf] #[o,(gX [0] #[n,0]),#[y],#[d,#[3],#[r,#[b,#[i,5],#[0],iD],#[i,10],gY,jJ],#[r,#[b,#[i,5],#[0],iD],#[i,15],gY,jJ]]]),#[c,#[4],#v[]]]]
theorem D4(H:gK L):LE L #[C,26] uv 0 (Ph #[N,4,#[B,26]]) rY:=(@LE.cons _ _ _ _ _ _ _ _ #v[a,2] #v[b,#v[u,[(Str.ofString "k")],#v[m,#v[k,H.b_range,.type _,jx.less (aE _),#v[b,#v[c],#v[e]]]],#v[s,(fun h=>by (first|exact VS h|cases h)),#v[o,[0],#v[q,#v[g,0]]],Keeps.name,#v[t],#v[I,#v[a,3],#v[B,#v[d,#v[d,#v[c],#v[a,0],i6],#v[c],gU]],#v[B,#v[d,#v[d,#v[c],#v[a,0],i6],#v[c],gU]]]]],#v[b,#v[a,4],#v[e]]] (fun _=>rfl))
end
end
section
open PySem PyProof.Rows
open V5
noncomputable def pg(s:Nat):List Nat:=(List.range 10).map (s+ ·)
theorem Mp{s:Nat}(hs:s<23):(pg s).Pairwise (· < ·)∧(∀q∈pg s,q<32)∧(pg s).length=10∧w6 0 (pg s)=1023*2^s:=by
 have h:(List.range 23).all (fun s=>decide ((pg s).Pairwise (· < ·))&&(pg s).all (fun q=>decide (q<32))&&decide ((pg s).length=10)&&decide (w6 0 (pg s)=1023*2^s))=true:=by decide+kernel
 have h1:=List.all_eq_true.mp h s (List.mem_range.mpr hs)
 simp only[cJ,decide_eq_true_eq,List.all_eq_true] at h1
 exact⟨h1.1.1.1,h1.1.1.2,h1.1.2,h1.2⟩
theorem Gq:(List.range 23).map (fun(s:Nat)=>jm pe (some (s:Int)) (some ((s:Int)+10)))=(List.range 23).map fun(s:Nat)=>some (PV.list (((pg s).map nameAt).map .str)):= (by kernel_rfl)
theorem JM{s:Nat}(h:s<23):jm pe (some (s:Int)) (some ((s:Int)+10))=some (PV.list (((pg s).map nameAt).map .str)):=List.map_inj_left.mp Gq s (List.mem_range.mpr h)
theorem Mq{s:Nat}:iD (.int 1023) (.int (2^s))=some (.int (1023*2^s)):=(An.1 _ _).trans (if_pos (by rw[show small 1023=true by decide,eJ]))
theorem ne_str(t:Str):pR (.str t) (.str t)=some (.bool false):=congrArg (fun b=>some (PV.bool !b)) (beq_self_eq_true t)
theorem Gr{e:Int}(he: -1≤e∧e≤2):ji [.int (e*2^32)]=some (.str (pF e)):=by
 have h:=pd (qs:=[]) (e:=e) List.Pairwise.nil (fun _ h=>nomatch h) he (by decide)
 rw[show w6 0 []+e*2^32=e*2^32 from dF _,show jZ [] e=[pF e] from congrArg (_++ ·) (if_neg fun h=>h.1 rfl)] at h
 exact h
theorem PX(n:Nat)(u:V5):zF (n+3) (jI u) (jI u)=some true:=show ry (zF (n+2)) _ _=_ from jv (VG ..) (jv (VG ..) (jv (VG ..) (jv (VG ..) (jv (AJ ..) rfl))))
theorem Mr(T:List V5):zI (.list (T.map jI)) (.list (T.map jI))=some (.bool true):=by
 have h: ∀l:List V5,ry (zF 8) (l.map jI) (l.map jI)=some true:=fun l=>by
  induction l with
  |nil=>rfl
  |cons a l ih=>exact jv (PX 5 a) ih
 exact hJ (h T)
theorem PY{K:List (Int×Int)}(hK:JB K){rs:List V5}(h:rs.length=10):kN K rs hV=kN K rs (Cs AW):=by
 rw[←vQ K hK.toKeysOK h 20 hV,←vQ K hK.toKeysOK h 20 (Cs AW),show AH 20 hV=AH 20 (Cs AW) by decide+kernel]
theorem Ms{ρ:List MV}{s:Nat}{e:Int}{K:List (Int×Int)}{rs T:List V5}(hK:JB K)(NK:rs.length=10)(hT:T.length=10)(hZ:T=kN K rs (Cs AW))(hl:ρ.length=44)(hs:s<23)(he:0≤e∧e≤2)(h7:ρ[7]? =some (.p (.int (s:Nat))))(h3:ρ[3]? =some (.p pe))(h4:ρ[4]? =some (.p xu))(h9:ρ[9]? =some (.p (.int e)))
  (h5:ρ[5]? =some (.p (iP ij)))(h6:ρ[6]? =some (.p (iP hV)))(h1:ρ[1]? =some (.p (lX rs)))(h2:ρ[2]? =some (.p (kr K)))(Jk:ρ[15]? =some (.p (.kj yC (T.map jI)))):
  ∃NM,m8 ρ=some (.ret (.bool true),NM):=by
 obtain⟨q1,q2,q3,q4⟩:=Mp hs
 have td: -1≤e∧e≤2:=⟨Int.le_trans (by decide) he.1,he.2⟩
 have Qr:(pg s).length≤90:=q3▸by decide
 have hp:=pd q1 q2 td Qr
 rw[q4] at hp
 have hj:tB (.str (Str.ofString ", ")) [.list ((jZ (pg s) e).map .str)]=some (.str (Txt.join (Str.ofString ", ") (jZ (pg s) e))):=
  (gI (uP _)).trans (if_pos (joinOk_of (uq q2 td) (ur Qr e)))
 have up: ∀{j:Nat} {x:MV},ρ[j]? =some x→(43 !=j)=true→(ρ.set 43 (.p (.list ((jZ (pg s) e).map .str))))[j]? =some x:=fun h hn=>jH h hn
 have g43:(ρ.set 43 (.p (.list ((jZ (pg s) e).map .str))))[43]? =some (.p (.list ((jZ (pg s) e).map .str))):=sU (hl▸by decide)
 have GH:ik #[9] #[b,#[i,2],#[i,32],lh] iD (ρ.set 43 (.p (.list ((jZ (pg s) e).map .str))))=some (.int (e*2^32)):=ct (congrArg gQ (up h9 rfl)) (ct rfl rfl Nz) (NA td)
 have K3:((fun ρ:List MV=>gQ ρ[3]?) ρ).bind (fun a=>(#[f,#[7],jJ] ρ).bind fun b=>(#[r,#[7],#[i,10],gY,jJ] ρ).bind fun c=>jm a b c)=some (.list (((pg s).map nameAt).map .str)):=by
  refine gE (congrArg gQ h3) ?_
  refine gE (a:=some (s:Int)) (gE (congrArg gQ h7) rfl) ?_
  refine gE (a:=some ((s:Int)+10)) (gE (ct (congrArg gQ h7) rfl rfl) rfl) ?_
  exact JM hs
 have JN:=Gk (rs:=rs) hK NK
 rw[PY hK NK,←hZ] at JN
 exact⟨_,(gG (hJ (ET h4 h9 he K3 (fun h=>nomatch q3.symm.trans (congrArg List.length h)) Qr))).trans ((gG (gE (a:=false) (gE (jj (ct (gE (gF (ct (ct rfl (ct rfl (congrArg gQ (up h7 rfl)) (AG (n:=s) (Nat.le_trans (d6 hs) (by decide)))) Mq) GH rfl) rfl) hp) (gE rfl (gE (gF (congrArg gQ g43) rfl) hj)) (ne_str _)) rfl) (gE (jj (ct (gE (gF GH rfl) (Gr td)) (ct (congrArg gQ (up h4 rfl)) (congrArg gQ (up h9 rfl)) (CA he)) (ne_str _)) rfl) rfl)) rfl)).trans
  (j1 (hJ (ct (ip (gE (congrArg gQ (up h5 rfl)) (lT ij)) ((i9 (c:=fun n:Nat=>PV.int (n:Nat)) (g:=fun p=>jI (T.getD (ix p) zero)) fun p hp=>iw (gP:= .p (.int (p:Nat))::(ρ.set 43 (.p (.list ((jZ (pg s) e).map .str)))).map MV.mm) rfl rfl (ct (m9 (up Jk rfl)) rfl (oG (f:=jI) hT hp))).trans (congrArg some (CI hT))) (decide_eq_true (by rw[aD,hT];decide))) (gE (gF (congrArg gQ (up h1 rfl)) (gF (congrArg gQ (up h2 rfl)) (gF (congrArg gQ (up h5 rfl)) (gF (congrArg gQ (up h6 rfl)) rfl)))) JN) (Mr T)))))⟩
noncomputable def CL:List Int:=[107,3,5,153727,64,4072,7,43036,169,1]++(List.range 50).map fun p=>[1,0,0,1, -1,0,2].getD (p%7) 0
noncomputable def Gs(ns:List Int):List Int:=ns.take 60++List.replicate 60 0
noncomputable def E2(ns:List Int):List Int:=(CL.zip (Gs ns)).map fun p=>p.1+p.2
theorem Mt:CL.length=60:=by decide
theorem xE(ns:List Int):(E2 ns).length=60:=by
 unfold E2 Gs
 rw[aD,List.length_zip,Mt,aK,eS]
 exact dX (gr ..)
theorem l0(x:PV):AX [.p x,.un,.un,.un,.un]=some (.next,[.p x,.p (.list (CL.map .int)),.un,.un,.un]):= (by kernel_rfl)
theorem zq: ∀a b:List Int,wH (a.map .int) (b.map .int)=(a.zip b).map fun p=>PV.tup [.int p.1,.int p.2]
 |[],_=>rfl
 |_::_,[]=>rfl
 |x::a,y::b=>by
  show PV.tup _::wH (a.map .int) (b.map .int)=_
  rw[zq a b];rfl
theorem l1{ns:List Int}(hn:ns.length≤90000):AY [.p (.list (ns.map .int)),.p (.list (CL.map .int)),.un,.un,.un]=some (.next,[.p (.list (ns.map .int)),.p (.list (CL.map .int)),.p (.list ((E2 ns).map .int)),.un,.un]):=by
 have e1:jm (.list (ns.map .int)) none (some 60)=some (.list ((ns.take 60).map .int)):=
  (if_pos (by rw[aD];exact Nat.le_trans hn (by decide))).trans (by rw[show(60:Int)=((60:Nat):Int) from rfl,qz,List.map_take])
 have e3:gY (.list ((ns.take 60).map .int)) (.list ((List.replicate 60 (0:Int)).map .int))=some (.list ((Gs ns).map .int)):=
  (if_pos (by rw[aD];exact Nat.le_trans (bC (List.length_take_le _ _) _) (by decide))).trans (by unfold Gs;rw[bA])
 have hz:sE [.list (CL.map .int),.list ((Gs ns).map .int)]=some ((CL.zip (Gs ns)).map fun p=>PV.tup [.int p.1,.int p.2]):=congrArg some (zq _ _)
 exact hJ (ip (gE (gF rfl (gF (ct (gE rfl (gE rfl (gE (gE rfl rfl) e1))) (ct (nG (gF rfl rfl) rfl) rfl (show iD (.list [.int 0]) (.int 60)=some (.list ((List.replicate 60 (0:Int)).map .int)) by kernel_rfl)) e3) rfl)) hz) ((i9 (g:=fun p:Int×Int=> .int (p.1+p.2)) fun p _=>rfl).trans (congrArg some List.map_map.symm)) (decide_eq_true (by rw[aD,xE];decide)))
noncomputable def stepI(z:Int):Int:=1+(z.fdiv 5).fmod 4
theorem l2{a b e:MV}{z:Int}{r:List Int}:AZ [a,b,.p (.list ((z::r).map .int)),.un,e]=some (.next,[a,b,.p (.list ((z::r).map .int)),.p (.int (stepI z)),e]):=
 hJ (ct rfl (ct (ct (ct rfl rfl (item_list (f:=PV.int) (l:=z::r) (i:=0) rfl (by decide))) rfl rfl) rfl rfl) rfl)
noncomputable def A1(z:Int)(k:Nat):Int:=((k:Int)+1)*(1-2*(((z.fdiv 20).fdiv (2^k)).fmod 2))
noncomputable def PZ(z:Int)(k:Nat):Int×Int:=((z+k*stepI z).fmod 5,A1 z k)
noncomputable def D5(z:Int):List (Int×Int):=(List.range 5).map (PZ z)
theorem Gu(x:Int):x.fmod 2=0∨x.fmod 2=1:=by
 rw[bK _ (by decide)]
 exact eT x
theorem Gv(z:Int)(k:Nat):A1 z k=k+1∨A1 z k= -(k+1:Int):=
 (Gu _).imp (fun h=>by unfold A1;rw[h];exact gq _) fun h=>by unfold A1;rw[h];exact Int.mul_neg_one _
theorem CM(z:Int):stepI z∈([1,2,3,4]:List Int):=by
 have h:((z.fdiv 5).fmod 4).toNat<4∧(z.fdiv 5).fmod 4=(((z.fdiv 5).fmod 4).toNat:Int):=pf (z.fdiv 5) 4 (by decide)
 unfold stepI
 rw[h.2]
 exact (by decide: ∀n∈List.range 4,1+((n:Nat):Int)∈([1,2,3,4]:List Int)) _ (List.mem_range.mpr h.1)
theorem E3: ∀k:Nat,k<5→((k:Int)+1≠0∧ -5≤(k:Int)+1∧(k:Int)+1≤5)∧(-((k:Int)+1)≠0∧ -5≤ -((k:Int)+1)∧ -((k:Int)+1)≤5):=by decide
theorem Mu: ∀s∈([1,2,3,4]:List Int),∀a∈List.range 5,∀b∈List.range 5,∃k∈List.range 5,(((a:Nat):Int)+(k:Nat)*s)%5=(b:Nat):=by decide
theorem A2(x:Int):(x%5).toNat∈List.range 5∧((x%5).toNat:Int)=x%5:=
 have h0:=gu x (b:=5) (by decide)
 ⟨List.mem_range.mpr ((Int.toNat_lt h0).mpr (fF x (by decide))),fm h0⟩
theorem P0(z i:Int): ∃k:Nat,k<5∧(z+k*stepI z)%5=i%5:=by
 obtain⟨k,hk,e⟩:=Mu (stepI z) (CM z) _ (A2 z).1 _ (A2 i).1
 rw[(A2 z).2,(A2 i).2,Int.emod_add_emod] at e
 exact⟨k,List.mem_range.mp hk,e⟩
theorem E4(z:Int):JB (D5 z):=by
 have hm: ∀p∈D5 z,(0≤p.1∧p.1<5)∧p.2≠0∧ -5≤p.2∧p.2≤5:=by
  intro p hp
  obtain⟨k,hk,rfl⟩:=List.mem_map.mp hp
  have hk:=List.mem_range.mp hk
  refine⟨⟨cO _ (by decide),dr _ (by decide)⟩,?_⟩
  show A1 z k≠0∧_≤A1 z k∧A1 z k≤_
  rcases Gv z k with h|h<;>rw[h]
  ·exact(E3 k hk).1
  ·exact(E3 k hk).2
 refine{len:=by unfold D5;rw[aD];rfl,idx:=fun p hp=>(hm p hp).1,dir:=fun p hp=>(hm p hp).2,all:= ?_,both:=fun p hp=>⟨(hm p hp).1,(hm p hp).2.2⟩}
 intro i hi
 have h5:i%5=i:=(by decide: ∀i∈([0,1,2,3,4]:List Int),i%5=i) i hi
 exact(P0 z i).elim fun k h=>⟨A1 z k,List.mem_map.mpr ⟨k,List.mem_range.mpr h.1,by unfold PZ;rw[bK _ (by decide),h.2,h5]⟩⟩
theorem D6(z:Int):small (stepI z)=true:=(by decide: ∀i∈([1,2,3,4]:List Int),small i=true) _ (CM z)
theorem Tc: ∀k∈List.range 5,(small (2^k)&&((2:Int)^k !=0))=true:=by decide
theorem Yc:itemsOf (.CP 0 5 1)=some ((List.range 5).map fun k=>PV.int (k:Nat)):= (by kernel_rfl)
theorem l3{a b:MV}{z:Int}{r:List Int}:A0 [a,b,.p (.list ((z::r).map .int)),.p (.int (stepI z)),.un]=some (.next,[a,b,.p (.list ((z::r).map .int)),.p (.int (stepI z)),.p (kr (D5 z))]):=by
 have e1:gH (.list ((z::r).map .int)) (.int 0)=some (.int z):=item_list (f:=PV.int) (l:=z::r) (i:=0) rfl (by decide)
 refine hJ (ip (gE (gE (gF rfl rfl) rfl) Yc) ((i9 (c:=fun k:Nat=>PV.int (k:Nat)) (g:=fun k=>Cv (PZ z k)) fun k hk=> ?_).trans (congrArg some List.map_map.symm)) rfl)
 have hk5:=List.mem_range.mp hk
 exact iw (gP:= .p (.int (k:Nat))::[a.mm,b.mm,.p (.list ((z::r).map .int)),.p (.int (stepI z)),.un]) rfl rfl (lp (gF (ct (ct (ct rfl rfl e1) (ct rfl rfl (if_pos (by rw[D6,eK]))) rfl) rfl rfl) (gF (ct (ct rfl rfl rfl) (ct rfl (ct rfl (ct (ct (ct (ct rfl rfl e1) rfl rfl) (ct rfl rfl (AG (n:=k) (Nat.le_trans (d6 hk5) (by decide)))) (if_pos (Tc k hk))) rfl rfl) rfl) rfl) (if_pos (by rw[qy (i:=(k:Int)+1) (m:=7) (by omega) rfl,eJ]))) rfl)) rfl)
end
section
open PySem PyProof.Rows
section
variable {L:ig}
theorem FS.P1{sc:Scope}{σ:gO}{own:List Str}{env:b8}{Y Z:List Addr}{h:Heap}{ρ:List MV}(F:FS L sc σ own env Y Z h ρ)(hf:env.frame=some env.locals):h.FunFrames E0 [env]:=by
 obtain⟨m,o,es,ep,ho,hd,_⟩:=F.ns
 exact⟨(by rw[F.fr.scope,F.fr.kind];intro h;(first|exact VS h|cases h)),⟨_,o,hf,rfl,ho,fun vs h=>by rw[hd] at h;(first|exact VS h|cases h)⟩,trivial⟩
theorem Mv(hn:L.exc=none)(GB:sysModules≠L.tb)
  {a1:Addr}{fd1:FuncData}{P2:Scope}{Td:List Str}{Yd:gO}{NN P4:List Stmt}{x1:Str}{g1:Bool}{m1 k1:Nat}{f1:List MV→Option (Fl×List MV)}{fa:List MV→Option (List PV)}
  (D1:iI L a1 fd1 P2 [x1] NN)(S1':sx P2 Yd Td [x1])(MQ:SS L P2 Yd Td k1 g1 P4 f1){rn:Str}{np cp rp:cP}{e:aM}{es:List aM}
  (JO:NN=P4++[.Return (some (.Call (.Name rn np) (e::es) [] cp)) rp])(Te:LE L P2 Yd k1 (e::es) fa)
  (he: ∀env,starEach (e::es) env=(false,eval e env)::starEach es env)(qD: ∀env,(starEach (e::es) env).any (·.1)=false)
  {a2:Addr}{fd2:FuncData}{NO:Scope}{P5 Ye:List Str}{VP:gO}{NP P6:List Stmt}{g2 gg:Bool}{m2 k2 kk:Nat}{f2 fs:List MV→Option (Fl×List MV)}
  (D2:iI L a2 fd2 NO Ye NP)(S2:sx NO VP P5 Ye)(RH:SS L NO VP P5 k2 g2 P6 f2)
  {a:Addr}{fd:FuncData}{Ac:Scope}{y':Str}{BP:List Str}{K6:gO}{body:List Stmt}{m k:Nat}{f:List MV→Option (Option Fl×List MV)}(C:K5 L a fd Ac y' BP K6 body k m f)
  {y fn sn:Str}{yp np' cp' ep sp hp pos:cP}{i:Nat}{FO:Stmt}{zc more:List Stmt}
  (JP:NP=P6++ .Try [.Expr (.Call (.Name fn np') [.Name y yp] [] cp') ep] [.ExceptHandler (some (.Name sn sp)) none (FO::zc) hp] [] [] pos::more)
  (Xe: ∀e oe js Dz hx,SS (L.jg e oe js Dz hx) NO VP P5 kk gg (FO::zc) fs)(hkk:kk≤k2)(hk2:k+1≤k2)(hk1:k1≤k2+1)(hk9:k2≤50)
  (hrn:P2.names.lookup rn=some .globalImplicit)(hrv:L.gl rn=some (.ref a2))(hg:NO.names.lookup fn=some .globalImplicit)(hv:L.gl fn=some (.ref a))(hi:lb VP y i)
  (Vu:NO.names.lookup sn=some .globalImplicit)(hsv:L.gl sn=some (.type "StopIteration"))(Tf:E7 P2=false)(K9:E7 NO=false)
  (hd0:(rn==("__debug__":Str))=false)(hd:(fn==("__debug__":Str))=false)(hd2:(y==("__debug__":Str))=false)(Qm:(sn==("__debug__":Str))=false)(hsw: ∀env,swapsWith (.Call (.Name fn np') [.Name y yp] [] cp') none ep.line env=pure false)
  {s:aq}{v:Value}{p:PV}{ps:List PV}{J6 J7 J2 NM:List MV}{rest:List PV}{bb:Bool}
  (h1:f1 (.p p::List.replicate m1 .un)=some (.next,J6))(h2:fa J6=some ps)(hps:ps.length=Ye.length)(h3:f2 (ps.map .p++List.replicate m2 .un)=some (.next,J7))(h4:J7[i]? =some (.mj rest))(h5:f (.mj rest::List.replicate m .un)=some (none,J2))(h6:fs (J7.map MV.mm)=some (.ret (.bool bb),NM))
  (I:Inv L s)(x:XO L [L.tb,sysModules] s.heap)(hv0:VR L.prog L.w s.heap [L.tb,sysModules] p v){Q:Value→aq→Prop}{E:Value→aq→Prop}
  (hQ: ∀s',AllBare s'.gens→s'.os=s.os→s'.drawn=s.drawn→(∀a o,L.look a=some o→s'.heap.get? a=some o)→(∃fp,L.tabI s'.heap fp)→(∀o,s.heap.get? sysModules=some o→s'.heap.get? sysModules=some o)→Q (.bool bb) s'):
  wpAny L.M callerA (call (.ref a1) [v]) Q E s:=by
 have R0:i5 L (k2+3) callerA:=⟨by rw[hn];rfl,by show 1+300+(k2+3)<900;omega,by show 4+100*(k2+3)<9000;omega⟩
 refine zR (k:=k2+2) (ps:=[p]) (m:=m1) D1 S1' R0 x I (gV.cons hv0 gV.nil) rfl fun yE Y1 s₁ jq uV hY1 Yf Yg Tg CN=> ?_
 rw[JO]
 have R1:=R0.deeper yE
 refine mR (MQ yE _ Y1 [L.tb,sysModules] s₁ _ J6 .next _ _ (R1.less (by omega)) jq uV (by simp) (by simp) h1 fun fv Yh gZ qE jK ac2 _ gW=> ?_)
 skip;(first|exact VS qE|cases qE)
 have sa:yE.scope.kind= .function:=by rw[jK.fr.scope];exact jK.fr.kind
 refine dk (wpAny_Return_some (bT (aN sa (by unfold b8.kindOf;rw[jK.fr.scope];exact hrn) (L.rt gZ yE _ rn _ _ _ gW.inv.iA jK.fr.globals jK.fr.builtins.1 hrv ?_) hd0)))
 refine sr D2.callee Te he qD (R1.less (by omega)) jK.fr gW.inv h2 fun vs jc jE jb=> ?_
 have kQ:=jK.done jb
 refine zR (k:=k2+1) (ps:=ps) (m:=m2) (vs:=vs) D2 S2 R1 jb.xo jb.inv jE hps fun Th Y2 s₄ wk Oj hY2 P7 Yi Ti aaS=> ?_
 rw[JP]
 have R2:=R1.deeper Th
 have hZt:L.tb∈Yh++[L.tb,sysModules]:=by simp
 have VQ:sysModules∈Yh++[L.tb,sysModules]:=by simp
 refine mR (RH Th _ Y2 _ s₄ _ J7 .next _ _ (R2.less (by omega)) wk Oj hZt VQ h3 fun fv Y2' rE qE Bq Yj _ tu=> ?_)
 skip;(first|exact VS qE|cases qE)
 have JY:yE.locals∈Yh++[L.tb,sysModules]:=az _ kQ.tq
 have jF:yE.locals≠L.tb:=kQ.fr.locals.1
 have KN:yE.locals∉Y2':=fun h=>by
  rcases Yj _ h with h'|h'
  ·obtain⟨o,ho⟩:=kQ.fr.locals.2
   have:=hY2 _ h'
   rw[ho] at this;(first|exact VS this|cases this)
  ·obtain⟨o,ho⟩:=kQ.fr.locals.2
   rw[P7 _ _ ho] at h';(first|exact VS h'|cases h')
 have ac4:sysModules∉Y2':=fun h=>Bq.apart _ h VQ
 have Mw:sysModules∉Y2:=fun h=>wk.apart _ h VQ
 have P8:yE.locals∉Y2:=fun h=>wk.apart _ h JY
 have Yk:sysModules∉Y1:=fun h=>jq.apart _ h (by simp)
 have ff1:rE.heap.FunFrames E0 [yE]:=by
  obtain⟨q1,⟨Lc,o,q2,q3,q4,q5⟩,_⟩:=kQ.P1 (L:=L) CN
  rw[CN] at q2;(first|exact VS q2|cases q2)
  exact⟨q1,⟨_,o,CN,q3,tu.keep _ o jF P8 (P7 _ _ q4),q5⟩,trivial⟩
 refine dk (Iw hn C hg hv hi h4 h5 Vu hsv K9 (outer:=[yE]) rfl ff1 ?_ Xe h6 hkk hk2 (R2.less (by omega)) Bq tu.inv hZt VQ GB hd hd2 Qm hsw ?_ fun Yl b1 b2 b3 b4 b5 b6=> ?_)
 ·intro b hb
  rw[cb,CN] at hb
  rcases List.mem_cons.mp hb with rfl|hb
  ·exact⟨au _ JY,jF⟩
  ·(first|exact VS hb|cases hb)
 ·intro hb
  rw[cb,CN] at hb
  rcases List.mem_cons.mp hb with h|hb
  ·exact kQ.apart _ kQ.tq (h▸(by simp))
  ·(first|exact VS hb|cases hb)
 ·refine hQ Yl b1 ?_ ?_ b4 b5 fun o ho=>b6 o (tu.keep _ o GB Mw (P7 _ _ (jb.keep _ o GB (gW.keep _ o GB Yk (Yf _ _ ho)))))
  ·rw[b2,tu.os,Yi,jb.os,gW.os,Yg]
  ·rw[b3,tu.drawn,Ti,jb.drawn,gW.drawn,Tg]
theorem xF{l:List Stmt}{n:Nat}(h:decide (n<l.length)=true):l=wW n l++hU n l::l.drop (n+1):=by
 have h:=of_decide_eq_true h
 unfold wW hU
 rw[aY,aG h]
 show l=l.take n++l[n]::l.drop (n+1)
 rw[List.getElem_cons_drop,List.take_append_drop]
theorem Gw{l:List Stmt}{n:Nat}(h:decide (n<l.length)=true)(h':(l.drop (n+1)).isEmpty=true):l=wW n l++[hU n l]:=by
 conv=>lhs;rw[xF h]
 rw[List.isEmpty_iff.mp h']
end
end
section
open PySem PyProof.Rows PySem.W PySem.W.X PySem.Builtin.Re
theorem atM{α β:Type}{f g:α→β}{l:List α}(h:l.map f=l.map g){a:α}(ha:a∈l):f a=g a:=List.map_inj_left.mp h a ha
theorem Gx{a b c:Addr}(h:(decide (a≠b)&&decide (a≠c))=true):a≠b∧a≠c:=(Bool.and_eq_true_iff.mp h).imp of_decide_eq_true of_decide_eq_true
theorem Qc.ns{T:KT}{h:Heap}{a:Addr}(H:KT.Holds h 1 0 T)(x:Qc T a):h.Ns a (nsFind (jP T a)):=⟨_,_,_,eU H x.obj,x.data,fun _ he=>⟨_,_,atM x.keys (Array.mem_toList_iff.mpr he)⟩,fun _=>rfl⟩
section
variable {T:KT} {tb hc:Addr}
noncomputable def zr(h:Heap)(tb:Addr)(a:Addr):Option Obj:=if a=tb∨a=sysModules then none else h.get? a
theorem ku{h:Heap}{a:Addr}{o:Obj}(e:h.get? a=some o)(n:a≠tb∧a≠sysModules):zr h tb a=some o:=(if_neg fun h=>h.elim n.1 n.2).trans e
theorem Gy{h:Heap}{a:Addr}{o:Obj}(e:zr h tb a=some o):h.get? a=some o∧a≠tb∧a≠sysModules:=by
 unfold zr at e
 by_cases hn:a=tb∨a=sysModules
 ·rw[if_pos hn] at e;(first|exact VS e|cases e)
 ·rw[if_neg hn] at e;exact⟨e,fun h=>hn (.inl h),fun h=>hn (.inr h)⟩
theorem Tj{h h':Heap}{a:Addr}{m}(x:h.Ns a m)(hk: ∀o,h.get? a=some o→h'.get? a=some o):h'.Ns a m:=let ⟨o,es,ep,e,r⟩:=x;⟨o,es,ep,hk _ e,r⟩
noncomputable def NQ(hc tb:Addr)(h:Heap)(ps:Array Value):Prop:=h.IsCode hc tb ps∧h.TableAt hc tb ps
theorem CO{h:Heap}(H:KT.Holds h 1 0 T)(C:TopC T tb hc):NQ hc tb h #[]:=
 ⟨⟨_,_,_,_,_,_,_,_,_,_,eU H C.co,C.cc.2.1,C.cc.2.2.2,C.cf.1,C.cf.2.1,C.cf.2.2.1,C.cf.2.2.2,eU H C.tab,rfl,by simp[TriplesOk],C.n1.1⟩,⟨_,_,eU H C.co,C.cc.1,C.cc.2.1,C.cc.2.2.1⟩,eU H C.tab⟩
theorem P9{h':Heap}{ps:Array Value}{o':Obj}(y:h'.TableAt hc tb ps)(e:h'.get? hc=some o'):o'.cls≠ .type "list"∧o'.cls≠ .type "dict":=
 y.1.elim fun o x=>x.elim fun vs x=>by
  rw[←Option.some.inj (x.1.symm.trans e),x.2.1]
  decide
theorem E5{h h':Heap}{a:Addr}(H:KT.Holds h 1 0 T)(x:Qc T a)(hk: ∀a o,zr h tb a=some o→h'.get? a=some o)(n:a≠tb∧a≠sysModules):h'.Ns a (nsFind (jP T a)):=Tj (x.ns H) fun o e=>hk _ o (ku e n)
theorem Mx{prog:Program}{w:dw}{h:Heap}(H:KT.Holds h 1 0 T)(C:TopC T tb hc){s:aq}{env:b8}{A:aF}{x:Str}{v:Value}{Q E:Value→aq→Prop}(hk: ∀a o,zr h tb a=some o→s.heap.get? a=some o)(hg:env.globals=mainGlobals)(hb:env.builtins=builtinsNs)(hv:U8 T x=some v)(hq:Q v s):
  wpAny (model prog w) A (loadGlobal env x) Q E s:=by
 have n1:s.heap.Ns env.globals (nsFind (jP T mainGlobals)):=by rw[hg];exact E5 H C.m hk ⟨C.n1.2.2.2.1,by decide⟩
 have n2:s.heap.Ns env.builtins (nsFind (jP T builtinsNs)):=by rw[hb];exact E5 H C.b hk ⟨C.n1.2.2.2.2.1,by decide⟩
 unfold U8 at hv
 cases hu:nsFind (jP T mainGlobals) x with
 |some u=>rw[hu] at hv;exact Calls.loadGlobal_global n1 (hu.trans hv) hq
 |none=>rw[hu] at hv;exact Calls.loadGlobal_builtin n1 hu n2 hv hq
noncomputable def pH(prog:Program)(w:dw)(h:Heap)(T:KT)(tb hc:Addr)(H:KT.Holds h 1 0 T)(C:TopC T tb hc):ig where
 prog:=prog
 w:=w
 look:=zr h tb
 tb:=tb
 tabI:=fun h' fp=>fp=[hc]∧ ∃ps,NQ hc tb h' ps
 vS:=fun h' nI fp t hk=>⟨t.1,t.2.imp fun ps t'=>⟨zb t'.1 (fun o e=>hk _ o (.inr (t.1▸bJ _)) e) (fun o e=>hk _ o (.inl rfl) e),wL t'.2 (fun o e=>hk _ o (.inr (t.1▸bJ _)) e) (fun o e=>hk _ o (.inl rfl) e)⟩⟩
 Bb:=fun h' fp t=>t.2.elim fun ps t'=>⟨⟨_,t'.2.2⟩,fun a ha=>List.mem_singleton.mp (t.1▸ha)▸t'.2.1.imp fun _ h=>h.elim fun _ h=>h.1⟩
 GK:=fun h' fp t a ha o' e=>t.2.elim fun ps t'=>P9 t'.2 (List.mem_singleton.mp (t.1▸ha)▸e)
 vU:=if_pos (.inl rfl)
 noLimit:=fun h' hk=>⟨_,E5 H C.c hk ⟨C.n1.2.2.2.2.2,by decide⟩,C.lim⟩
 gl:=U8 T
 rt:=fun s env A x v Q E hk hg hb hv hq=>Mx H C hk hg hb hv hq
 iK:=hc
 vV:=⟨_,ku (eU H C.co) ⟨C.n1.1,C.n1.2.1⟩⟩
 zw:=fun _=>True
 GL:=fun _ _ _=>trivial
 zx:=fun h' fp t=>t.2.imp fun ps t'=>⟨t'.1,t'.2,trivial⟩
 GN:=fun h' ps t=>⟨[hc],⟨rfl,ps,t.1,t.2.1⟩,fun a ha=>List.mem_singleton.mp ha⟩
 Ka:=fun s A Q E hk hq=>wpAny_builtinsFor (E5 H C.m hk ⟨C.n1.2.2.2.1,by decide⟩) C.bm C.bn.1 (hk _ _ (ku (eU H C.bo) C.bn.2)) C.bx.1 C.bx.2.1 C.bx.2.2 hq
 exc:=none
 D8:=fun a h=>hO h
variable {prog:Program} {w:dw} {h:Heap} {H:KT.Holds h 1 0 T} {C:TopC T tb hc}
theorem oI.fn{a:Addr}{st:Stmt}{ns:List Str}(x:oI T tb hc a st ns):iI (pH prog w h T tb hc H C) a (fdOf T a) (ic st) ns (iB st):=
 ⟨⟨_,ku (eU H x.obj) (Gx x.ne),x.data⟩,fun h' hk=>⟨_,_,_,_,x.code,hk _ _ (ku (eU H x.VU) (Gx x.ne')),x.cdata,x.cq⟩,x.body,x.scope,x.globals,x.builtins,x.closure,x.bind,fun hs=>by
  have:=x.host
  rw[hs] at this
  exact x.code.trans (congrArg _ (of_decide_eq_true this))⟩
theorem GI.pat{a tup:Addr}{code:Array Nat}{k:Nat}(x:GI T tb a code k tup):DE (pH prog w h T tb hc H C) a code k:=
 fun h' hk=>⟨_,_,tup,_,_,_,hk _ _ (ku (eU H x.obj) (Gx x.ne)),x.cls,x.dict,x.data,x.f2,x.f5,x.f6,hk _ _ (ku (eU H x.VV) (Gx x.ne')),x.Qu,x.Qv⟩
theorem xG: ∀{as:List Addr} {a:Addr} {o:Obj},(fragOf T as).lookup a=some o→a∈as∧T.get a=some o:=by
 intro as
 induction as with
 |nil=>exact @fun a o e=>hO e
 |cons b as iu=>
  intro a o e
  unfold fragOf at e
  rw[cb] at e
  cases hb:T.get b with
  |none=>
   rw[hb] at e
   exact(iu e).imp_left (av _)
  |some o'=>
   rw[hb] at e
   replace e:(match a==b with|true=>some o'|false=>(fragOf T as).lookup a)=some o:=e
   cases heq:a==b with
   |true=>
    rw[heq] at e
    cases beq_iff_eq.mp heq
    exact⟨aA ..,hb.trans e⟩
   |false=>
    rw[heq] at e
    exact(iu e).imp_left (av _)
theorem JQ{as:List Addr}(js:(as.all fun a=>decide (a≠tb)&&decide (a≠sysModules))=true): ∀h':Heap,(∀a o,(pH prog w h T tb hc H C).look a=some o→h'.get? a=some o)→Frag.In (fragOf T as) h':=fun h' hk a o e=>
 hk _ _ (ku (eU H (xG e).2) (Gx (List.all_eq_true.mp js a (xG e).1)))
theorem JR: ∀{es:List DictEntry},(∀e∈es,(e.key,e.val,e.hash)=(.int (vInt e.key) (zt e.key),.str (vStr e.val) (zt e.val),hashInt (vInt e.key)))→
  Pairs (intKind prog w) es (es.map fun e=>(vInt e.key,e.val))∧ ∀h X,gV prog w h X (es.map fun e=> .str (vStr e.val)) (es.map fun e=>e.val):=by
 intro es
 induction es with
 |nil=>exact @fun _=>⟨.nil,fun _ _=>gV.nil⟩
 |cons e es iu=>exact @fun h=>have i:=iu fun e' td=>h e' (av _ td)
  have q:=h e (aA ..)
  ⟨.cons ((congrArg (fun p:Value×Value×Int=>Value.isInt (vInt e.key) p.1) q).trans (beq_self_eq_true _)) rfl i.1,fun h X=>gV.cons (.intro _ (congrArg (fun p:Value×Value×Int=>p.2.1) q)) (i.2 h X)⟩
theorem NR.vr{a:Addr}{ks:List Int}{vs:List Str}(x:NR T tb a ks vs): ∀(h':Heap) (X:List Addr),(∀b o,(pH prog w h T tb hc H C).look b=some o→h'.get? b=some o)→(∀b∈X,(pH prog w h T tb hc H C).look b=none)→VR prog w h' X (.kj ks (vs.map .str)) (.ref a):=fun h' X hk hX=>by
 have hl:(pH prog w h T tb hc H C).look a=some (iV T a):=ku (eU H x.obj) (Gx x.ne)
 have he:=fun e he=>atM x.all (a:=e) he
 have p:=JR (prog:=prog) (w:=w) he
 have nd:=of_decide_eq_true x.nd
 rw[←x.ks,←x.vs,bL]
 rw[←x.ks] at nd
 refine⟨a,_,rfl,fun hm=>hO ((hX a hm).symm.trans hl),⟨_,_,_,hk _ _ hl,x.ex,x.data,fun e hm=> ?_,p.1,?_⟩,?_,?_⟩
 ·have q:=he e (Array.mem_toList_iff.mpr hm)
  exact⟨_,(congrArg (fun p:Value×Value×Int=>Value.isInt (vInt e.key) p.1) q).trans (beq_self_eq_true _),congrArg (fun p:Value×Value×Int=>p.2.2) q⟩
 ·rw[bL];exact nd
 ·rw[bL];rfl
 ·rw[bL];exact p.2 h' X
theorem Tn:XO (pH prog w h T tb hc H C) [tb,sysModules] h where
 tb:=aA ..
 sm:= .tail _ (.head _)
 there:=fun a ha=>(List.mem_cons.mp ha).elim (fun e=>e▸⟨_,eU H C.tab⟩) fun ha=>List.mem_singleton.mp ha▸⟨_,eU H C.sm⟩
 look:=fun a ha=>if_pos ((List.mem_cons.mp ha).imp_right List.mem_singleton.mp)
 tab:=⟨[hc],⟨rfl,#[],CO H C⟩,fun a ha hm=>by
  rw[List.mem_singleton.mp ha] at hm
  exact(List.mem_cons.mp hm).elim C.n1.1 fun h=>C.n1.2.1 (List.mem_singleton.mp h)⟩
theorem Qa{s:aq}{H:KT.Holds s.heap 1 0 T}(hg:s.gens= #[]):Inv (pH prog w s.heap T tb hc H C) s:=⟨fun a o e=>(Gy e).1,.of_eq hg⟩
theorem My{h':Heap}(h1: ∀a o,(pH prog w h T tb hc H C).look a=some o→h'.get? a=some o)(h2: ∃fp,(pH prog w h T tb hc H C).tabI h' fp)(h3: ∀o,h.get? sysModules=some o→h'.get? sysModules=some o):OldK h h':=
 h2.elim fun fp h2=>h2.2.elim fun ps h2=>by
  have h0:=(CO H C).2
  have k: ∀b o,h.get? b=some o→b=tb∨h'.get? b=some o:=fun b o e=>by
   by_cases hb:b=tb
   ·exact .inl hb
   ·by_cases hs:b=sysModules
    ·(first|exact VS hs|cases hs);exact .inr (h3 o e)
    ·exact .inr (h1 b o (ku e ⟨hb,hs⟩))
  refine⟨fun b o e=>(k b o e).elim (fun hb=> .inr (.inl ?_)) .inl,fun b o e=>(k b o e).elim (fun hb=>hb▸⟨_,h2.2.2⟩) fun e'=>⟨o,e'⟩⟩
  skip;(first|exact VS hb|cases hb)
  cases Option.some.inj (e.symm.trans h0.2)
  exact⟨h0.isCodeTable,rfl,#[],ps,rfl,by rw[h2.2.2,ft]⟩
end
end
section
open PySem PyProof.Rows PySem.W PySem.W.X
noncomputable def JS(ns:List Int):Prop:= ∃J6 ps J7 rest J2 NM,NL (.p (.list (ns.map .int))::List.replicate 4 .un)=some (.next,J6)∧rY J6=some ps∧ps.length=3∧rV (ps.map .p++List.replicate 41 .un)=some (.next,J7)∧J7[13]? =some (.mj rest)∧g0 (.mj rest::List.replicate 2 .un)=some (none,J2)∧m8 (J7.map MV.mm)=some (.ret (.bool true),NM)
theorem Mz{h:Heap}{T:KT}(_:KT.Holds h 1 0 T)(C:TopC T 68 72):TopC T 68 72:=C
noncomputable abbrev Qb{h:Heap}{T:KT}(_:KT.Holds h 1 0 T):KT:=T
theorem core{prog:Program}{w:dw}{s₁:aq}{T:KT}(H:KT.Holds s₁.heap 1 0 T)(C:TopC T 68 72)(H':gK (pH prog w s₁.heap T 68 72 H C))(hd:H'.ad 26=Vy 26)(hg:s₁.gens= #[]){vs:List Value}{ns:List Int}(hl:s₁.heap.get? 178=some {cls:= .type "list",data:= .seq vs.toArray})(hi:IntsAre vs ns)(hp:JS ns){Q:Value→aq→Prop}{E:Value→aq→Prop}
  (hQ: ∀s',OldK s₁.heap s'.heap→s'.os=s₁.os→AllBare s'.gens→Q (.bool true) s'):wpAny (model prog w) callerA (call (.ref (Vy 26)) [.ref 178]) Q E s₁:=by
 rw[←hd]
 obtain⟨J6,ps,J7,rest,J2,NM,p1,p2,p3,p4,p5,p6,p7⟩:=hp
 let L:=pH prog w s₁.heap T 68 72 H C
 have hn:L.exc=none:=rfl
 refine Mv (L:=L) hn (by show sysModules≠68;decide) (fd1:=H'.fd 26) (P2:=ic #[S,26]) (P4:=wW 4 #[B,26]) H'.fn_law (sx.of (by kernel_rfl)) (Tb H') (JO:=Gw (n:=4) (by kernel_rfl) (by kernel_rfl)) (D4 H') (fun _=>rfl) (fun _=>rfl)
  (fd2:=H'.fd 25) (NO:=ic #[S,25]) (P6:=wW 11 #[B,25]) H'.fn__law_run (sx.of (by kernel_rfl)) (DP H' hn) (pz H' hn) (JP:=xF (n:=11) (by kernel_rfl)) (fun e oe js Dz hx=>xk (H'.jg e oe js Dz hx)) (hkk:= ?_) (hk2:= ?_) (hk1:= ?_) (hk9:= ?_) (hrn:=by kernel_rfl) (hrv:=H'.g__law_run) (hg:=by kernel_rfl) (hv:=H'.g__parse_varint) (hi:=gM (i:=13) (by kernel_rfl) (jX (by kernel_rfl))) (Vu:=by kernel_rfl) (hsv:=H'.b_StopIteration)
  (Tf:=by kernel_rfl) (K9:=by kernel_rfl) (hd0:=by kernel_rfl) (hd:=by kernel_rfl) (hd2:=by kernel_rfl) (Qm:=by kernel_rfl) (hsw:=fun env=>by (first|exact VS env|cases env);kernel_rfl) (h1:=p1) (h2:=p2) (hps:=p3) (h3:=p4) (h4:=p5) (h5:=p6) (h6:=p7) (I:=Qa hg) (x:=Tn) (hv0:= ?_) ?_
 ·decide
 ·decide
 ·decide
 ·decide
 ·exact .intro _ ⟨_,_,rfl,by show 178∉[68,sysModules];decide,hl,gV.ofInts (L:=L) hi⟩
 ·intro s' b1 b2 b3 b4 b5 b6
  exact hQ s' (My b4 b5 b6) b2 b1
end
section
open PySem PyProof.Rows
open V5
theorem vG{n:Nat}{l:List Int}(h:l.length=n+5): ∃(r:V5) (l':List Int),l=r.l5++l'∧l'.length=n:=
 (ir h).elim fun a h=>h.elim fun _ h=>(ir h.2).elim fun b h1=>h1.elim fun _ h1=>(ir h1.2).elim fun c h2=>h2.elim fun _ h2=>(ir h2.2).elim fun d h3=>h3.elim fun _ h3=>(ir h3.2).elim fun e h4=>h4.elim fun l' h4=>
  ⟨⟨a,b,c,d,e⟩,l',by rw[h.1,h1.1,h2.1,h3.1,h4.1];rfl,h4.2⟩
theorem MA{A B S k:PV}{g h r0 r1 r2 r3 r4 r5 r6 r7 r8 r9:V5}:rY [.p A,.p B,.p (.list ((g.l5++(h.l5++(r0.l5++(r1.l5++(r2.l5++(r3.l5++(r4.l5++(r5.l5++(r6.l5++(r7.l5++(r8.l5++r9.l5))))))))))).map .int)),.p S,.p k]=some [.list ((g.l5++(h.l5++(r0.l5++(r1.l5++(r2.l5++(r3.l5++(r4.l5++(r5.l5++(r6.l5++(r7.l5++(r8.l5++r9.l5))))))))))).map .int),lX [r0,r1,r2,r3,r4,r5,r6,r7,r8,r9],k]:= (by kernel_rfl)
theorem Ym{l:List MV}{j:Nat}{p:PV}(h:l[j]? =some (MV.p p)):(l.map MV.mm)[j]? =some (MV.p p):=by rw[aL,h];rfl
theorem JT{ns:List Int}(hn:ns.length≤90000){z0 z1 a0 a1 a2 a3 a4 d t9 y:Int}{rest:List Int}{r0 r1 r2 r3 r4 r5 r6 r7 r8 r9:V5}(er:r0.l5++(r1.l5++(r2.l5++(r3.l5++(r4.l5++(r5.l5++(r6.l5++(r7.l5++(r8.l5++r9.l5))))))))=rest)(e:E2 ns=la z0 z1 a0 a1 a2 a3 a4 d t9 y rest):JS ns:=by
 have vX:rest.length=50:=Nat.add_right_cancel (m:=10) ((congrArg List.length e).symm.trans (xE ns))
 have hc1:=l1 hn
 have ha:=MA (A:= .list (ns.map .int)) (B:= .list (CL.map .int)) (S:= .int (stepI z0)) (k:=kr (D5 z0)) (g:=⟨z0,z1,a0,a1,a2⟩) (h:=⟨a3,a4,d,t9,y⟩) (r0:=r0) (r1:=r1) (r2:=r2) (r3:=r3) (r4:=r4) (r5:=r5) (r6:=r6) (r7:=r7) (r8:=r8) (r9:=r9)
 rw[e] at hc1
 rw[er] at ha
 obtain⟨m,a,rows,T,hZ,hT,Yn,h9⟩:=PW (K:=D5 z0) (rs:=[r0,r1,r2,r3,r4,r5,r6,r7,r8,r9]) (z0:=z0) (z1:=z1) (a0:=a0) (a1:=a1) (a2:=a2) (a3:=a3) (a4:=a4) (d:=d) (t9:=t9) (y:=y) (E4 z0) vX rfl
 obtain⟨J2,hv⟩:=LJ (x:=64+t9.fmod 64) (by have h:=(DN (t9.fmod 64) 0 (cO _ (by decide)) (dr _ (by decide))).2;rwa [Int.mul_zero,Int.add_zero] at h) (E1 t9) (dD (ta t9).1)
 exact(Ms (ρ:=((PR m (la z0 z1 a0 a1 a2 a3 a4 d t9 y rest) (lX [r0,r1,r2,r3,r4,r5,r6,r7,r8,r9]) (D5 z0) (Qs z1) (z1.fdiv 69) (numsOf a0 a1 a2 a3 a4) (rq (numsOf a0 a1 a2 a3 a4) d t9 5) a T rows).set 15 (.p (.kj yC (T.map jI)))).map MV.mm) (E4 z0) rfl hT hZ rfl (PS z1).1 (xy z1 9) rfl rfl rfl (Ym (congrArg some h9)) rfl rfl rfl rfl rfl).elim fun NM Yo=>
  ⟨_,_,_,_,J2,NM,(gG (l0 (.list (ns.map .int)))).trans ((gG hc1).trans ((gG l2).trans ((gG l3).trans rfl))),ha,rfl,Yn,rfl,hv,Yo⟩
theorem plain{ns:List Int}(hn:ns.length≤90000):JS ns:=by
 obtain⟨g,l,e,hl⟩:=vG (n:=55) (xE ns)
 obtain⟨h,l,e',hl⟩:=vG (n:=50) hl
 obtain⟨r0,l0,e0,hl⟩:=vG (n:=45) hl
 obtain⟨r1,l1,e1,hl⟩:=vG (n:=40) hl
 obtain⟨r2,l2,e2,hl⟩:=vG (n:=35) hl
 obtain⟨r3,l3,e3,hl⟩:=vG (n:=30) hl
 obtain⟨r4,l4,e4,hl⟩:=vG (n:=25) hl
 obtain⟨r5,l5,e5,hl⟩:=vG (n:=20) hl
 obtain⟨r6,l6,e6,hl⟩:=vG (n:=15) hl
 obtain⟨r7,l7,e7,hl⟩:=vG (n:=10) hl
 obtain⟨r8,l8,e8,hl⟩:=vG (n:=5) hl
 obtain⟨r9,l9,e9,hl⟩:=vG (n:=0) hl
 rw[e8,e9,bp hl,bN] at e7
 rw[e',e0,e1,e2,e3,e4,e5,e6,e7] at e
 exact JT hn rfl e
end
section
open PySem PySem.W PyProof.Rows
open PySem.W.X PySem.W.ZRun
noncomputable def dg:Nat→Nat→List Nat→List Nat
 |0,_,a=>a
 |f+1,n,a=>cond (Nat.beq n 0) a (dg f (n/256) (n%256::a))
noncomputable def dc(n:Nat):Str:=⟨⟨dg 40 n []⟩⟩
theorem sl0:Str.ofString "_sre"=dc 1601401445:=rfl
theorem sl1:Str.ofString "__name__"=dc 6872332921116909407:=rfl
theorem sl2:Str.ofString "cpy313.pstats"=dc 7878396931784602534337879045235:=rfl
theorem sl3:Str.ofString "TupleComp"=dc 1557988885073610370416:=rfl
theorem sl4:Str.ofString "__init__"=dc 6872327479327219551:=rfl
theorem sl5:Str.ofString "self"=dc 1936026726:=rfl
theorem sl6:Str.ofString "comp_select_list"=dc 132172136219745618274778209440068367220:=rfl
theorem sl7:Str.ofString "compare"=dc 27988538521907813:=rfl
theorem sl8:Str.ofString "left"=dc 1818584692:=rfl
theorem sl9:Str.ofString "right"=dc 491394656372:=rfl
theorem Yp:Str.ofString "index"=dc 452823639416:=rfl
theorem Yq:Str.ofString "direction"=dc 1852272654370111844206:=rfl
theorem Yr:Str.ofString "l"=dc 108:=rfl
theorem Ys:Str.ofString "r"=dc 114:=rfl
theorem Yt:Str.ofString "add_func_stats"=dc 1975347611638421067394526019155059:=rfl
theorem Yu:Str.ofString "target"=dc 127961880028532:=rfl
theorem Yv:Str.ofString "source"=dc 126922548994917:=rfl
theorem Yw:Str.ofString "cc"=dc 25443:=rfl
theorem Yx:Str.ofString "nc"=dc 28259:=rfl
theorem Yy:Str.ofString "tt"=dc 29812:=rfl
theorem Yz:Str.ofString "ct"=dc 25460:=rfl
theorem YA:Str.ofString "callers"=dc 27973140997304947:=rfl
theorem YB:Str.ofString "t_cc"=dc 1952408419:=rfl
theorem YC:Str.ofString "t_nc"=dc 1952411235:=rfl
theorem YD:Str.ofString "t_tt"=dc 1952412788:=rfl
theorem YE:Str.ofString "t_ct"=dc 1952408436:=rfl
theorem YF:Str.ofString "t_callers"=dc 2146695757124908446323:=rfl
theorem YG:Str.ofString "add_callers"=dc 117739892698757940023489139:=rfl
theorem YH:Str.ofString "new_callers"=dc 133461001208368389421363827:=rfl
theorem YI:Str.ofString "func"=dc 1718972003:=rfl
theorem YJ:Str.ofString "caller"=dc 109270082020722:=rfl
theorem YK:Str.ofString "items"=dc 452924370291:=rfl
theorem YL:Str.ofString "isinstance"=dc 497977453406354454504293:=rfl
theorem YM:Str.ofString "tuple"=dc 500186508389:=rfl
theorem YN:Str.ofString "i"=dc 105:=rfl
theorem YO:Str.ofString "j"=dc 106:=rfl
theorem YP:Str.ofString "zip"=dc 8022384:=rfl
theorem YQ:Str.ofString ".0"=dc 11824:=rfl
theorem YR:Str.ofString "cpy313.dis"=dc 469589050518548638886259:=rfl
theorem YS:Str.ofString "COMPILER_FLAG_NAMES"=dc 1501058107351238011062017083075586557091857747:=rfl
theorem YT:Str.ofString "OPTIMIZED"=dc 1463081113840424469828:=rfl
theorem YU:Str.ofString "NEWLOCALS"=dc 1443842583964250360915:=rfl
theorem YV:Str.ofString "VARARGS"=dc 24278669536151379:=rfl
theorem YW:Str.ofString "VARKEYWORDS"=dc 104276092365098237912302675:=rfl
theorem YX:Str.ofString "NESTED"=dc 86059657741636:=rfl
theorem YY:Str.ofString "GENERATOR"=dc 1314712834489764302674:=rfl
theorem YZ:Str.ofString "NOFREE"=dc 86102389179717:=rfl
theorem Y0:Str.ofString "COROUTINE"=dc 1241647571043531443781:=rfl
theorem Y3:Str.ofString "ITERABLE_COROUTINE"=dc 6387872735663517682875358495813052404420165:=rfl
theorem Y4:Str.ofString "ASYNC_GENERATOR"=dc 339189811329609389533518329965465426:=rfl
theorem Y5:Str.ofString "pretty_flags"=dc 34800617750656642081657808755:=rfl
theorem Y6:Str.ofString "flags"=dc 439904986995:=rfl
theorem Y7:Str.ofString "names"=dc 474080961907:=rfl
theorem Y8:Str.ofString "range"=dc 491260897125:=rfl
theorem Y9:Str.ofString "flag"=dc 1718378855:=rfl
theorem Za:Str.ofString "append"=dc 107135549927012:=rfl
theorem Zb:Str.ofString "get"=dc 6776180:=rfl
theorem Zc:Str.ofString "hex"=dc 6841720:=rfl
theorem Zd:Str.ofString ", "=dc 11296:=rfl
theorem Ze:Str.ofString "join"=dc 1785686382:=rfl
theorem Zf:Str.ofString "_parse_varint"=dc 7561455566238064641011471707764:=rfl
theorem Zg:Str.ofString "iterator"=dc 7598810013216567154:=rfl
theorem Zh:Str.ofString "b"=dc 98:=rfl
theorem Zi:Str.ofString "next"=dc 1852143732:=rfl
theorem Zj:Str.ofString "val"=dc 7758188:=rfl
theorem Zk:Str.ofString "cpy313.smtplib"=dc 2016869614536858249628325147076962:=rfl
theorem Zl:Str.ofString "_twin_re_1"=dc 450773242715085891526449:=rfl
theorem Zm:Str.ofString "compile"=dc 27988538522430565:=rfl
theorem Zn:Str.ofString "(?m)^\\."=dc 11328737146461230:=rfl
theorem Zo:Str.ofString "_twin_re_2"=dc 450773242715085891526450:=rfl
theorem Zp:Str.ofString "_twin_re_3"=dc 450773242715085891526451:=rfl
theorem Zq:Str.ofString "(?:\\r\\n|\\n|\\r(?!\\n))"=dc 229769661751034732796307005307605985825626401065:=rfl
theorem Zr:Str.ofString "CRLF"=dc 1129466950:=rfl
theorem Zs:Str.ofString "\x0d\n"=dc 3338:=rfl
theorem Zt:Str.ofString "quotedata"=dc 2092944190532856411233:=rfl
theorem Zu:Str.ofString "data"=dc 1684108385:=rfl
theorem Zv:Str.ofString "sub"=dc 7566690:=rfl
theorem Zw:Str.ofString ".."=dc 11822:=rfl
theorem Zx:Str.ofString "_quote_periods"=dc 1935818039197600145292435104162931:=rfl
theorem Zy:Str.ofString "bindata"=dc 27700470569071713:=rfl
theorem Zz:Str.ofString "_fix_eols"=dc 1759820248817949699187:=rfl
theorem ZA:Str.ofString "law_xc0012_02"=dc 8586805910511325499698775535666:=rfl
theorem ZC:Str.ofString "_law_entry"=dc 450624087419610083914361:=rfl
theorem ZD:Str.ofString "row"=dc 7499639:=rfl
theorem ZE:Str.ofString "f"=dc 102:=rfl
theorem ZF:Str.ofString "g"=dc 103:=rfl
theorem ZG:Str.ofString "_law_row"=dc 6875977896418242423:=rfl
theorem ZI:Str.ofString "entry"=dc 435644822137:=rfl
theorem ZJ:Str.ofString "_law_plain"=dc 450624087419657293752686:=rfl
theorem ZK:Str.ofString "starts"=dc 126943688291443:=rfl
theorem ZL:Str.ofString "keys"=dc 1801812339:=rfl
theorem ZM:Str.ofString "pairs"=dc 482670637683:=rfl
theorem ZO:Str.ofString "triples"=dc 32776894481720691:=rfl
theorem ZP:Str.ofString "held"=dc 1751477348:=rfl
theorem ZQ:Str.ofString "dict"=dc 1684628340:=rfl
theorem ZR:Str.ofString "k"=dc 107:=rfl
theorem ZS:Str.ofString "triple"=dc 128034744069221:=rfl
theorem ZU:Str.ofString "near"=dc 1852137842:=rfl
theorem ZV:Str.ofString "between"=dc 27696098611389806:=rfl
theorem ZW:Str.ofString "far"=dc 6709618:=rfl
theorem Tp:Str.ofString "least"=dc 465557353332:=rfl
theorem Tq:Str.ofString "min"=dc 7170414:=rfl
theorem Tr:Str.ofString "way"=dc 7823737:=rfl
theorem Tt:Str.ofString "x"=dc 120:=rfl
theorem Tu:Str.ofString "y"=dc 121:=rfl
theorem Tv:Str.ofString "z"=dc 122:=rfl
theorem Tw:Str.ofString "pair"=dc 1885432178:=rfl
theorem Tx:Str.ofString "fast"=dc 1717662580:=rfl
theorem Tz:Str.ofString "_law_next"=dc 1760250341483002296436:=rfl
theorem TA:Str.ofString "rows"=dc 1919907699:=rfl
theorem TB:Str.ofString "places"=dc 123610792682867:=rfl
theorem TC:Str.ofString "lower"=dc 465726563698:=rfl
theorem TF:Str.ofString "place"=dc 482854658917:=rfl
theorem TG:Str.ofString "abs"=dc 6382195:=rfl
theorem TH:Str.ofString "_law_free"=dc 1760250341482868925797:=rfl
theorem TJ:Str.ofString "found"=dc 439956631140:=rfl
theorem TK:Str.ofString "first"=dc 439855772532:=rfl
theorem TL:Str.ofString "last"=dc 1818325876:=rfl
theorem TM:Str.ofString "sorted"=dc 126922498794852:=rfl
theorem TN:Str.ofString "_law_octets"=dc 115359766379431129352860787:=rfl
theorem TP:Str.ofString "number"=dc 121450625394034:=rfl
theorem TQ:Str.ofString "dress"=dc 431415980915:=rfl
theorem TR:Str.ofString "octet"=dc 478409942388:=rfl
theorem TS:Str.ofString "enumerate"=dc 1871080539643590046821:=rfl
theorem TU:Str.ofString "int"=dc 6909556:=rfl
theorem TV:Str.ofString "_law_mail"=dc 1760250341482985253228:=rfl
theorem TX:Str.ofString "dots"=dc 1685025907:=rfl
theorem TY:Str.ofString "letters"=dc 30510848328168051:=rfl
theorem TZ:Str.ofString "ends"=dc 1701733491:=rfl
theorem Ua:Str.ofString "outer"=dc 478711932274:=rfl
theorem Ub:Str.ofString "middle"=dc 120299423296613:=rfl
theorem Uc:Str.ofString "."=dc 46:=rfl
theorem Ud:Str.ofString "_law_run"=dc 6875977896418243950:=rfl
theorem Ue:Str.ofString "cells"=dc 426903366771:=rfl
theorem Ug:Str.ofString "0x"=dc 12408:=rfl
theorem Uh:Str.ofString "1248"=dc 825373752:=rfl
theorem Ui:Str.ofString "0"=dc 48:=rfl
theorem Uj:Str.ofString "tops"=dc 1953460339:=rfl
theorem Uk:Str.ofString "0x0"=dc 3176496:=rfl
theorem Ul:Str.ofString "0x100000000"=dc 58596030682234465807249456:=rfl
theorem Um:Str.ofString "0x200000000"=dc 58596049128978539516801072:=rfl
theorem Un:Str.ofString "shift"=dc 495672977012:=rfl
theorem Uo:Str.ofString "plan"=dc 1886151022:=rfl
theorem Uq:Str.ofString "extra"=dc 435812594273:=rfl
theorem Ur:Str.ofString "asked"=dc 418548245860:=rfl
theorem Us:Str.ofString "numbers"=dc 31091360100872819:=rfl
theorem Ut:Str.ofString "cell"=dc 1667591276:=rfl
theorem Uu:Str.ofString "octets"=dc 122472945251443:=rfl
theorem Uv:Str.ofString "tape"=dc 1952542821:=rfl
theorem Uw:Str.ofString "iter"=dc 1769235826:=rfl
theorem Ux:Str.ofString "none"=dc 1852796517:=rfl
theorem Uy:Str.ofString "table"=dc 499850046565:=rfl
theorem Uz:Str.ofString "turn"=dc 1953854062:=rfl
theorem UA:Str.ofString "free"=dc 1718773093:=rfl
theorem UB:Str.ofString "one"=dc 7302757:=rfl
theorem UC:Str.ofString "told"=dc 1953459300:=rfl
theorem UD:Str.ofString "sum"=dc 7566701:=rfl
theorem UE:Str.ofString "split"=dc 495807392116:=rfl
theorem UG:Str.ofString "len"=dc 7103854:=rfl
theorem UH:Str.ofString "inner"=dc 452824294770:=rfl
theorem UI:Str.ofString "other"=dc 478694368626:=rfl
theorem UJ:Str.ofString "kept"=dc 1801810036:=rfl
theorem UK:Str.ofString "gaps"=dc 1734439027:=rfl
theorem UL:Str.ofString "verdict"=dc 33325589237162868:=rfl
theorem UM:Str.ofString "some"=dc 1936682341:=rfl
theorem UN:Str.ofString "lack"=dc 1818321771:=rfl
theorem UO:Str.ofString "abcdefghij"=dc 459884491718377043683690:=rfl
theorem UP:Str.ofString "mail"=dc 1835100524:=rfl
theorem UQ:Str.ofString "\n"=dc 10:=rfl
theorem UR:Str.ofString "\x0d"=dc 13:=rfl
theorem US:Str.ofString "sent"=dc 1936027252:=rfl
theorem UT:Str.ofString "due"=dc 6583653:=rfl
theorem UU:Str.ofString "bytes"=dc 422944466291:=rfl
theorem UW:Str.ofString "ord"=dc 7303780:=rfl
theorem UX:Str.ofString "sign"=dc 1936287598:=rfl
theorem UY:Str.ofString "count"=dc 427071729268:=rfl
theorem UZ:Str.ofString "turned"=dc 128047779833188:=rfl
theorem U0:Str.ofString "StopIteration"=dc 6611972470849238906499613945710:=rfl
theorem U1:Str.ofString "words"=dc 512970876019:=rfl
theorem U2:Str.ofString "law"=dc 7102839:=rfl
theorem U3:Str.ofString "script"=dc 126870958469236:=rfl
theorem U4:Str.ofString "own"=dc 7305070:=rfl
theorem U5:Str.ofString "mine"=dc 1835626085:=rfl
theorem U6:Str.ofString "step"=dc 1937007984:=rfl
theorem U7:Str.ofString "/claim/cut.py"=dc 3754493678145579991176426975353:=rfl
noncomputable def Ho(_:Program):Type:=Unit
noncomputable def Ho.get{p:Program}(_:Ho p):Program:=p
noncomputable def hd.tw9543268500339783494:Program:=by
 have h:Ho PySem.Challenge.pw_xc0012_02:=()
 delta PySem.Challenge.pw_xc0012_02 at h
 dsimp only[sl0,sl1,sl2,sl3,sl4,sl5,sl6,sl7,sl8,sl9,Yp,Yq,Yr,Ys,Yt,Yu,Yv,Yw,Yx,Yy,Yz,YA,YB,YC,YD,YE,YF,YG,YH,YI,YJ,YK,YL,YM,YN,YO,YP,YQ,YR,YS,YT,YU,YV,YW,YX,YY,YZ,Y0,Y3,Y4,Y5,Y6,Y7,Y8,Y9,Za,Zb,Zc,Zd,Ze,Zf,Zg,Zh,Zi,Zj,Zk,Zl,Zm,Zn,Zo,Zp,Zq,Zr,Zs,Zt,Zu,Zv,Zw,Zx,Zy,Zz,ZA,ZC,ZD,ZE,ZF,ZG,ZI,ZJ,ZK,ZL,ZM,ZO,ZP,ZQ,ZR,ZS,ZU,ZV,ZW,Tp,Tq,Tr,Tt,Tu,Tv,Tw,Tx,Tz,TA,TB,TC,TF,TG,TH,TJ,TK,TL,TM,TN,TP,TQ,TR,TS,TU,TV,TX,TY,TZ,Ua,Ub,Uc,Ud,Ue,Ug,Uh,Ui,Uj,Uk,Ul,Um,Un,Uo,Uq,Ur,Us,Ut,Uu,Uv,Uw,Ux,Uy,Uz,UA,UB,UC,UD,UE,UG,UH,UI,UJ,UK,UL,UM,UN,UO,UP,UQ,UR,US,UT,UU,UW,UX,UY,UZ,U0,U1,U2,U3,U4,U5,U6,U7] at h
 exact h.get
theorem hd.te9543268500339783494:PySem.Challenge.pw_xc0012_02=hd.tw9543268500339783494:= (by kernel_rfl)
end
section
open PySem PyProof.Rows PySem.W PySem.W.X PySem.Builtin.Re
noncomputable def fnL(T:KT)(tb hc a:Addr)(st:Stmt):=(T.get a,(iV T a).data,decide (a≠tb)&&decide (a≠sysModules),decide (i0 (fdOf T a)≠tb)&&decide (i0 (fdOf T a)≠sysModules),(fdOf T a).code,T.get (i0 (fdOf T a)),(iV T (i0 (fdOf T a))).data,
 (iy T (i0 (fdOf T a)))[1]?,(fdOf T a).body,(fdOf T a).scope,(fdOf T a).globals,(fdOf T a).builtins,(fdOf T a).closure,!vR (ic st)||decide (i0 (fdOf T a)=hc))
noncomputable def fnR(T:KT)(a:Addr)(st:Stmt):=(some (iV T a),Data.func (fdOf T a),true,true,Value.ref (i0 (fdOf T a)),some (iV T (i0 (fdOf T a))),Data.fields (iy T (i0 (fdOf T a))),
 some (Value.str (fdOf T a).qualname (CS (iy T (i0 (fdOf T a)))[1]?)),FuncBody.stmts (iB st),ic st,mainGlobals,builtinsNs,(fdOf T a).closure.take 0,true)
theorem oI.of{T:KT}{tb hc a:Addr}{st:Stmt}{ns:List Str}(e:fnL T tb hc a st=fnR T a st)(b: ∀vs:List Value,vs.length=ns.length→bindArgs (fdOf T a) ⟨vs,[]⟩=pure (ns.zip vs)):oI T tb hc a st ns:=
 ⟨congrArg (·.1) e,congrArg (·.2.1) e,congrArg (·.2.2.1) e,congrArg (·.2.2.2.1) e,congrArg (·.2.2.2.2.1) e,congrArg (·.2.2.2.2.2.1) e,congrArg (·.2.2.2.2.2.2.1) e,congrArg (·.2.2.2.2.2.2.2.1) e,congrArg (·.2.2.2.2.2.2.2.2.1) e,congrArg (·.2.2.2.2.2.2.2.2.2.1) e,
  congrArg (·.2.2.2.2.2.2.2.2.2.2.1) e,congrArg (·.2.2.2.2.2.2.2.2.2.2.2.1) e,congrArg (·.2.2.2.2.2.2.2.2.2.2.2.2.1) e,b,congrArg (·.2.2.2.2.2.2.2.2.2.2.2.2.2) e⟩
end
end Mine.Internal
open PySem PySem.W PyProof.Rows
open PySem.W.X PySem.W.ZRun
set_option Elab.async true in
theorem Mine.Internal.hd:PySem.Challenge.rw_xc0012_02.Holds:=by
 w_on;o_law;refine Mine.Internal.qq9 ?_
 k_fill
 intro w s₀ s₁ mg mb G y fa o pm cd doc dV kV ho hd hcd hD hmg hg args vals as L hpre hlay hrd hwl hlo
 z_open y L KX ZH ZN ZT
 refine Ground.open G ?_
 intro T B D TE TW
 wrow_args hpre hlay hrd hwl hlo
 obtain⟨hat,hsz⟩:=script_at L
 have htk:=script_toks L ZT
 rw[ZN] at hat hsz
 subst hat
 x_fa T KX hmg
 have C:=Mine.Internal.Mz ZH (open Mine.Internal in ⟨⟨by kernel_rfl,by kernel_rfl,by kernel_rfl⟩,⟨by kernel_rfl,by kernel_rfl,by kernel_rfl⟩,⟨by kernel_rfl,by kernel_rfl,by kernel_rfl⟩,by kernel_rfl,by kernel_rfl,by kernel_rfl,⟨of_decide_eq_true (by kernel_rfl),of_decide_eq_true (by kernel_rfl),of_decide_eq_true (by kernel_rfl)⟩,by kernel_rfl,⟨by kernel_rfl,by kernel_rfl,by kernel_rfl⟩,by kernel_rfl,by kernel_rfl,⟨by kernel_rfl,by kernel_rfl,by kernel_rfl,by kernel_rfl⟩,⟨by kernel_rfl,by kernel_rfl,by kernel_rfl,by kernel_rfl⟩,by decide⟩)
 rename_i hI hr2 hc1 hc2 hL w1 r0
 exact Mine.Internal.core ZH C (open Mine.Internal in {ad:=Vy,fd:=fun i=>fdOf (Qb ZH) (Vy i),b_StopIteration:=by kernel_rfl,b_abs:=by kernel_rfl,b_bytes:=by kernel_rfl,b_dict:=by kernel_rfl,b_enumerate:=by kernel_rfl,b_hex:=by kernel_rfl,b_int:=by kernel_rfl,b_isinstance:=by kernel_rfl,b_iter:=by kernel_rfl,b_len:=by kernel_rfl,b_min:=by kernel_rfl,b_next:=by kernel_rfl,b_ord:=by kernel_rfl,b_range:=by kernel_rfl,b_sorted:=by kernel_rfl,b_sum:=by kernel_rfl,b_tuple:=by kernel_rfl,b_zip:=by kernel_rfl,g_CRLF:=by kernel_rfl,u_CRLF:=(.str (Str.ofString "\r\n") (CS (U8 (Qb ZH) (Str.ofString "CRLF")))),v_CRLF:=fun _ _ _ _=> .intro _ rfl,g_flags:=by kernel_rfl,u_flags:= .ref 74,v_flags:=NR.vr (ks:=[1,2,4,8,16,32,64,128,256,512]) (vs:=[(Str.ofString "OPTIMIZED"),(Str.ofString "NEWLOCALS"),(Str.ofString "VARARGS"),(Str.ofString "VARKEYWORDS"),(Str.ofString "NESTED"),(Str.ofString "GENERATOR"),(Str.ofString "NOFREE"),(Str.ofString "COROUTINE"),(Str.ofString "ITERABLE_COROUTINE"),(Str.ofString "ASYNC_GENERATOR")]) ⟨by kernel_rfl,by kernel_rfl,⟨by kernel_rfl,by kernel_rfl,by kernel_rfl⟩,by kernel_rfl,by kernel_rfl,by kernel_rfl,by kernel_rfl,by kernel_rfl⟩,g_tw1:=by kernel_rfl,p_tw1:=GI.pat (tup:=92) ⟨by kernel_rfl,by kernel_rfl,by kernel_rfl,by kernel_rfl,by kernel_rfl,by kernel_rfl,by kernel_rfl,by kernel_rfl,by kernel_rfl,by kernel_rfl,by kernel_rfl,by kernel_rfl⟩,g_tw2:=by kernel_rfl,p_tw2:=GI.pat (tup:=97) ⟨by kernel_rfl,by kernel_rfl,by kernel_rfl,by kernel_rfl,by kernel_rfl,by kernel_rfl,by kernel_rfl,by kernel_rfl,by kernel_rfl,by kernel_rfl,by kernel_rfl,by kernel_rfl⟩,g_tw3:=by kernel_rfl,p_tw3:=GI.pat (tup:=102) ⟨by kernel_rfl,by kernel_rfl,by kernel_rfl,by kernel_rfl,by kernel_rfl,by kernel_rfl,by kernel_rfl,by kernel_rfl,by kernel_rfl,by kernel_rfl,by kernel_rfl,by kernel_rfl⟩,K:=(fragOf (Qb ZH) Sv),cd:=⟨JQ (by kernel_rfl),(by kernel_rfl),(by kernel_rfl),(by kernel_rfl),(by kernel_rfl),(by kernel_rfl),(by kernel_rfl),(by kernel_rfl),(by kernel_rfl),(by kernel_rfl),(by kernel_rfl)⟩,g_TupleComp:=by kernel_rfl,m_compare:=by kernel_rfl,t_compare:=by kernel_rfl,fn_TupleComp_init:=oI.fn (oI.of (by kernel_rfl) (zu (fun v0 v1=>by kernel_rfl))),fn_TupleComp_compare:=oI.fn (oI.of (by kernel_rfl) (D7 (fun v0 v1 v2=>by kernel_rfl))),g_add_func_stats:=by kernel_rfl,fn_add_func_stats:=oI.fn (oI.of (by kernel_rfl) (zu (fun v0 v1=>by kernel_rfl))),g_add_callers:=by kernel_rfl,fn_add_callers:=oI.fn (oI.of (by kernel_rfl) (zu (fun v0 v1=>by kernel_rfl))),g_pretty_flags:=by kernel_rfl,fn_pretty_flags:=oI.fn (oI.of (by kernel_rfl) (se (fun v0=>by kernel_rfl))),g__parse_varint:=by kernel_rfl,fn__parse_varint:=oI.fn (oI.of (by kernel_rfl) (se (fun v0=>by kernel_rfl))),g_quotedata:=by kernel_rfl,fn_quotedata:=oI.fn (oI.of (by kernel_rfl) (se (fun v0=>by kernel_rfl))),g__quote_periods:=by kernel_rfl,fn__quote_periods:=oI.fn (oI.of (by kernel_rfl) (se (fun v0=>by kernel_rfl))),g__fix_eols:=by kernel_rfl,fn__fix_eols:=oI.fn (oI.of (by kernel_rfl) (se (fun v0=>by kernel_rfl))),g__law_entry:=by kernel_rfl,fn__law_entry:=oI.fn (oI.of (by kernel_rfl) (se (fun v0=>by kernel_rfl))),g__law_row:=by kernel_rfl,fn__law_row:=oI.fn (oI.of (by kernel_rfl) (se (fun v0=>by kernel_rfl))),g__law_plain:=by kernel_rfl,fn__law_plain:=oI.fn (oI.of (by kernel_rfl) (Qw (fun v0 v1 v2 v3=>by kernel_rfl))),g__law_next:=by kernel_rfl,fn__law_next:=oI.fn (oI.of (by kernel_rfl) (D7 (fun v0 v1 v2=>by kernel_rfl))),g__law_free:=by kernel_rfl,fn__law_free:=oI.fn (oI.of (by kernel_rfl) (se (fun v0=>by kernel_rfl))),g__law_octets:=by kernel_rfl,fn__law_octets:=oI.fn (oI.of (by kernel_rfl) (zu (fun v0 v1=>by kernel_rfl))),g__law_mail:=by kernel_rfl,fn__law_mail:=oI.fn (oI.of (by kernel_rfl) (D7 (fun v0 v1 v2=>by kernel_rfl))),g__law_run:=by kernel_rfl,fn__law_run:=oI.fn (oI.of (by kernel_rfl) (D7 (fun v0 v1 v2=>by kernel_rfl))),g_law:=by kernel_rfl,fn_law:=oI.fn (oI.of (by kernel_rfl) (se (fun v0=>by kernel_rfl)))}) rfl hg (script_obj L hL) hI (Mine.Internal.plain (by omega)) fun s' ho hos hb=>Mine.Internal.GJ (by intros;rfl) (by first|rfl|kernel_rfl) ho hos hb
theorem PySem.Challenge.cw_xc0012_02_holds : PySem.Challenge.rw_xc0012_02.Holds :=
 Mine.Internal.hd
