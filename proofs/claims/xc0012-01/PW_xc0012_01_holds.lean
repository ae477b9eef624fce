import PyProof.Rows.All
import Wide.All
import OpenK.AllK
import Wide.FinOn
import KE.KDictIter
import KE.KBits
import Lean
import PySem.Challenge.RW_xc0012_01
set_option Elab.async false
set_option maxRecDepth 100000
set_option maxHeartbeats 0
set_option linter.all false
namespace Mine.Internal
local macro_rules (kind:=Lean.Parser.Command.declaration)
 | s=>if s.getPos?.isSome then pure (s.rewriteBottomUp (·.setInfo .none)) else Lean.Macro.throwUnsupported
local macro_rules
 | `(tactic|k_head)=> `(tactic|z_head)
open_top qq9 for PySem.Challenge.rw_xc0012_01.row
open PySem renaming wpAny_bind→ao,Shared→aq,wpAny_pure→aA,Builtin→aD,Around→aH,Expr→aN,wpAny_field→aU,wpAny_holding→aX,codeAny_builtin→ba,wpAny_seqItems→bf,wpAny_callSpecial?_slot→bg,plainId_quiet→bz,wpAny_specialOf→bG,wpAny_call_entry→bH,wpAny_mono→bI,builtinLookup_eq_fast→bJ,wpAny_newObj_type→bL,wpAny_standAt→bP,wpAny_Call_NameR→bT,wpAny_richCompare_same_room→bU,Env→b9,Comprehension→cb,typeLookup_type→cj,wpAny_setField→cB,slot_listiter_next→cC,wpAny_loadName_local→cF,World→cL,Pos→cM,wpAny_rule→cS,wpAny_items_nil→cW,wpAny_pyIter_list→cZ,wpAny_of_eq→c8,wpAny_items_cons→df,wpAny_isInstance→dh,wpAny_execs_cons→di,entry_listiter_next→dq,wpAny_attempt→dw,args_listiter_next→dA,wpAny_pyNext_list_item→dD,wpAny_pyIter_zip→dO,entryFor_of_tree→dP,call_meets→dQ,wpAny_letGo→dT,wpAny_updateSeq→dX,codeAny_of_tree→dZ,wpAny_tryCatch→d6,wpAny_setField_rec→d7,isSubtype_type→d8,wpAny_truthy_bool→eB,wpAny_Assign_Name→eC,wpAny_typeOf→e9,typeIs_str→fc,wpAny_execs_nil→fg,isSubtype_stop→fu,Result→fx,IsZip→fB,list_getitem_lookup→fG,Fin→fH,wpAny_onRaise→fV,wpAny_call→fZ,wpAny_Name→f7,wpAny_Constant_str→f9,Tok→gh
open List renaming mem_append_right→au,mem_cons_of_mem→av,mem_append_left→aw,mem_cons_self→az,length_map→aF,getElem?_eq_getElem→aG,getElem?_map→aJ,drop_eq_getElem_cons→aK,foldl_cons→aL,length_append→aP,map_cons→aQ,getD_eq_getElem?_getD→aS,length_cons→aY,map_map→bh,mem_of_getElem?→bu,eq_nil_of_length_eq_zero→bw,append_nil→bB,lookup_cons→bC,range'→bE,mem_singleton_self→bK,toList_toArray→bM,map_append→bO,drop_eq_nil_of_le→bV,append_assoc→bW,not_mem_nil→bY,cons_ne_nil→bZ,filterMap_cons→cg,getElem_range→cu,range'_succ→cG,take_of_length_le→cK,length_set→cP,length_filter_le→cQ,getElem?_eq_none→cR,length_range→cT,cons_append→c6,any_cons→de,nil_append→dk,drop_of_length_le→dz,all_cons→dF,getElem?_of_mem→dH,forIn_cons→dN,length_reverse→dS,getElem?_append_left→d2,getElem_zip→ee,getElem?_cons_zero→ef,filter_cons_of_pos→eg,length_singleton→eQ,length_replicate→eR,getElem?_set_ne→eW,forIn_nil→eX,drop_zero→eY,map_congr_left→fh,mem_cons→fk,foldl_toArray→ft,append_cons→fX,length_nil→gj,getElem?_append_right→gu
open PySem.Heap renaming get?_push_of_some→aB,get?_push_size→aE,lt_size→aI,size_push→aZ,get?_update_self→bc,get?_update_other→bX,ExtBut→cX,get?_none_of_le→dJ,SameBut→fE
open Nat renaming zero_le→aC,succ_ne_zero→aV,lt_trans→bj,add_le_add_right→bk,lt_of_lt_of_le→bq,le_refl→br,le_of_eq→bt,lt_irrefl→bD,lt_of_lt_of_eq→bQ,lt_of_le_of_lt→bR,lt_or_ge→ck,le_of_ble_eq_true→cx,le_of_lt→cD,succ_le_succ→cI,zero_add→cN,le_add_right→c7,add_right_comm→dr,add_sub_cancel_left→dv,lt_succ_self→dE,le_succ→dM,not_lt_zero→dR,ne_of_gt→dU,min_le_right→ez,exists_eq_add_of_lt→eA,ne_of_lt→eG,min_self→eH,min_eq_left→eP,add_le_add→fe,add_le_add_left→fj,pos_of_ne_zero→fz,lt_of_le_of_ne→fA,ne_zero_of_lt→fJ,lt_succ_of_lt→fK,le_succ_of_le→fL,le_of_succ_le→fN,le_of_lt_succ→fO,le_add_left→gn
open PySem.Around renaming under_plainId→aM
open PySem.Calls renaming Name_function_global→aO,evalArgs_plain→b8,call_function_entry→dj,callWith_function→ed
open Array renaming getElem?_eq_none→aR,length_toList→aW,getElem?_toList→bF,getElem?_eq_getElem→cA,getElem?_setIfInBounds_self_of_lt→cV,toList_push→dy,empty_append→fq,getElem?_setIfInBounds_ne→fF,size_map→gr
open Int renaming fmod_eq_emod_of_nonneg→aT,natCast_nonneg→bA,toNat_natCast→bN,eq_ofNat_of_zero_le→bS,fdiv_eq_ediv_of_nonneg→cw,eq_of_sub_eq_zero→cy,fmod_nonneg_of_pos→cO,fmod_lt_of_pos→du,lt_trichotomy→dB,lt_trans→dC,mul_assoc→dI,zero_add→dW,pow_succ→eI,ne_of_gt→eJ,lt_asymm→eK,ediv_eq_zero_of_lt→eL,emod_two_eq→eS,emod_nonneg→eT,mul_add→ff,toNat_of_nonneg→fm,sub_eq_add_neg→fC,emod_lt_of_pos→fD,zero_mul→fP,sub_pos_of_lt→fQ,sub_neg_of_lt→fR,mul_comm→fS,emod_eq_of_lt→fT,max_eq_right→gc,one_mul→gk,mul_one→gm
open Bool renaming false_ne_true→bl,false_eq_true→bp,not_eq_true→b7,and_eq_true→cH,and_true→dG,and_eq_true_iff→dK,or_true→eE,or_eq_true→eO,and_false→eZ,false_and→gw
open PyProof.Rows renaming assign_Name→cm,assignInOrder_cons→c9,assignInOrder_nil→dm,IntsAre→d4,IsTup→eD,Assign_Tuple_swapped→eF,slicePart_none→fi,Assign_Tuple→fy,bindName_→fW,add_int→gi
open PySem.F renaming slot_tuple_iterator_next→cz,slot_zip_next→cE,plain_max_loop→cJ,args_tuple_iterator_next_1→cU,entry_tuple_iterator_next→cY,args_zip_next_1→ei,slot_str_split→eM,entry_zip_next→eN,args_str_split_2→fU,entry_str_split→gf,plainAttrs_str→gp,entry_max_loop→gq,slot_dict_itemiterator_iter→gv
open Option renaming bind_some→d5,map_some→eu
open PySem.W renaming Frag→d9,plainGet_of→eV
open PySem.Sre renaming Frame→et
open PySem.W.X renaming kt_at→eU
open PySem
theorem VD{α:Type}{a:α}{P:Prop}(h:none=some a):P:=nomatch h
local macro_rules
 | `(tactic|omega)=> `(tactic|first|with_reducible assumption|decide|exact Nat.le_trans (by assumption) (by decide)|exact bq (by assumption) (by decide)|lia)
section
open PySem PyProof.Rows PySem.W PySem.W.X PySem.Builtin.Re
noncomputable def jM(p:Program)(i:Nat):Stmt:=p.main.body.getD i (.Pass ⟨0,0,0,0⟩)
noncomputable def ij:Stmt→List Stmt
 | .FunctionDef _ _ body _ _ _ _ _ _ _=>body
 |_=>[]
noncomputable def hU:Stmt→Scope
 | .FunctionDef _ _ _ _ _ _ sc _ _ _=>sc
 |_=>default
noncomputable def jK:Stmt→Nat→Stmt
 | .ClassDef _ _ _ body _ _ _ _ _ _ _,j=>body.getD j (.Pass ⟨0,0,0,0⟩)
 |s,_=>s
noncomputable def vM(sc:Scope):Bool:=sc.names.any fun x=>x.1=="new_callers"
noncomputable def c1:Array Nat:= #[14,4,0,1,1,6,1,16,46,1]
noncomputable def c3:Array Nat:= #[14,9,4,1,2,16,10,16,13,0,7,7,16,13,16,10,15,18,5,16,10,15,13,11,16,13,5,5,0,16,10,1,15,2,0,1]
noncomputable def iL(T:KT)(a:Addr):Obj:=(T.get a).getD default
noncomputable def jY(T:KT)(a:Addr):Array DictEntry:=match (iL T a).data with| .dict es _=>es|_=> #[]
noncomputable def MF(T:KT)(a:Addr):Nat:=match (iL T a).data with| .dict _ n=>n|_=>0
noncomputable def fdOf(T:KT)(a:Addr):FuncData:=match (iL T a).data with| .func fd=>fd|_=>default
noncomputable def ik(T:KT)(a:Addr):Array Value:=match (iL T a).data with| .fields vs=>vs|_=> #[]
noncomputable def MG(T:KT)(a:Addr):Array Value:=match (iL T a).data with| .seq vs _=>vs|_=> #[]
noncomputable def VE(T:KT)(a:Addr):Nat:=match (iL T a).data with| .seq _ n=>n|_=>0
noncomputable def QE:Value→Addr| .ref c=>c|_=>0
noncomputable def vStr:Value→Str| .str x _=>x|_=>default
noncomputable def vInt:Value→Int| .int i _=>i|_=>0
noncomputable def vBool:Value→Bool| .bool b=>b|_=>false
noncomputable def zj:Value→gh| .str _ t=>t| .int _ t=>t|_=>0
noncomputable def Cr:Option Value→gh|some v=>zj v|_=>0
noncomputable def iR(fd:FuncData):Addr:=QE fd.code
noncomputable def U8(T:KT)(x:Str):Option Value:=match nsFind (jY T mainGlobals) x with
 |some v=>some v
 |none=>nsFind (jY T builtinsNs) x
noncomputable def J2(T:KT):Addr:=QE ((nsFind (jY T mainGlobals) "__builtins__").getD .none)
structure Qo(T:KT)(a:Addr):Prop where
 obj:T.get a=some (iL T a)
 data:(iL T a).data= .dict (jY T a) (MF T a)
 keys:(jY T a).toList.map (fun e=>e.key)=(jY T a).toList.map fun e=> .str (vStr e.key) (zj e.key)
structure TopC(T:KT)(tb hc:Addr):Prop where
 m:Qo T mainGlobals
 b:Qo T builtinsNs
 c:Qo T cStatics
 lim:nsFind (jY T cStatics) "sys.recursionlimit"=none
 sm:T.get sysModules=some (iL T sysModules)
 bm:nsFind (jY T mainGlobals) "__builtins__"=some (.ref (J2 T))
 bn:J2 T≠builtinsNs∧J2 T≠tb∧J2 T≠sysModules
 bo:T.get (J2 T)=some (iL T (J2 T))
 bx:(iL T (J2 T)).cls= .type "module"∧(iL T (J2 T)).dict=some builtinsNs∧(iL T (J2 T)).data= .plain
 tab:T.get tb=some {cls:= .none,data:= .fields #[]}
 co:T.get hc=some (iL T hc)
 cc:(iL T hc).cls= .type "code"∧(iL T hc).data= .fields (ik T hc)∧(ik T hc)[11]? =some (.ref tb)∧(ik T hc).getD 11 .none= .ref tb
 cf:(ik T hc).getD 18 .none= .str (vStr ((ik T hc).getD 18 .none)) (zj ((ik T hc).getD 18 .none))∧(ik T hc).getD 7 .none= .int (vInt ((ik T hc).getD 7 .none)) (zj ((ik T hc).getD 7 .none))∧
  (ik T hc).getD 9 .none= .bool (vBool ((ik T hc).getD 9 .none))∧(ik T hc).getD 10 .none= .int (vInt ((ik T hc).getD 10 .none)) (zj ((ik T hc).getD 10 .none))
 n1:hc≠tb∧hc≠sysModules∧tb≠sysModules∧mainGlobals≠tb∧builtinsNs≠tb∧cStatics≠tb
structure nX(T:KT)(tb hc a:Addr)(st:Stmt)(ns:List Str):Prop where
 obj:T.get a=some (iL T a)
 data:(iL T a).data= .func (fdOf T a)
 ne:(decide (a≠tb)&&decide (a≠sysModules))=true
 ne':(decide (iR (fdOf T a)≠tb)&&decide (iR (fdOf T a)≠sysModules))=true
 code:(fdOf T a).code= .ref (iR (fdOf T a))
 VF:T.get (iR (fdOf T a))=some (iL T (iR (fdOf T a)))
 cdata:(iL T (iR (fdOf T a))).data= .fields (ik T (iR (fdOf T a)))
 cq:(ik T (iR (fdOf T a)))[1]? =some (.str (fdOf T a).qualname (Cr (ik T (iR (fdOf T a)))[1]?))
 body:(fdOf T a).body= .stmts (ij st)
 scope:(fdOf T a).scope=hU st
 globals:(fdOf T a).globals=mainGlobals
 builtins:(fdOf T a).builtins=builtinsNs
 closure:(fdOf T a).closure=[]
 bind: ∀vs:List Value,vs.length=ns.length→bindArgs (fdOf T a) ⟨vs,[]⟩=pure (ns.zip vs)
 host:(!vM (hU st)||decide (iR (fdOf T a)=hc))=true
structure Gw(T:KT)(tb a:Addr)(code:Array Nat)(k:Nat)(tup:Addr):Prop where
 obj:T.get a=some (iL T a)
 ne:(decide (a≠tb)&&decide (a≠sysModules))=true
 ne':(decide (tup≠tb)&&decide (tup≠sysModules))=true
 cls:(iL T a).cls= .type "re.Pattern"
 dict:(iL T a).dict=none
 data:(iL T a).data= .fields (ik T a)
 f2:reRawNat ((ik T a).getD 2 .none)=0
 f5:(ik T a).getD 5 .none= .ref tup
 f6:reRawNat ((ik T a).getD 6 .none)=k
 VG:T.get tup=some (iL T tup)
 QF:(iL T tup).data= .seq (MG T tup) (VE T tup)
 QG:((MG T tup).map reRawOf).map (·.toNat)=code
noncomputable def fragOf(T:KT)(as:List Addr):Frag:=as.filterMap fun a=>(T.get a).map fun o=>(a,o)
structure N4(T:KT)(tb a:Addr)(ks:List Int)(vs:List Str):Prop where
 obj:T.get a=some (iL T a)
 ne:(decide (a≠tb)&&decide (a≠sysModules))=true
 ex:(iL T a).cls= .type "dict"∧(iL T a).dict=none∧(iL T a).slots= #[]
 data:(iL T a).data= .dict (jY T a) (MF T a)
 nd:decide ks.Nodup=true
 ks:(jY T a).toList.map (fun e=>vInt e.key)=ks
 vs:(jY T a).toList.map (fun e=>vStr e.val)=vs
 all:(jY T a).toList.map (fun e=>(e.key,e.val,e.hash))=(jY T a).toList.map fun e=>(.int (vInt e.key) (zj e.key),.str (vStr e.val) (zj e.val),hashInt (vInt e.key))
theorem iY{α:Type}{n:Nat}: ∀{l:List α},l.length=n+1→ ∃u r,l=u::r∧r.length=n
 |u::r,h=>⟨u,r,rfl,Nat.succ.inj h⟩
theorem sa{fd:FuncData}{a:Str}(h: ∀u:Value,bindArgs fd ⟨[u],[]⟩=pure [(a,u)])(vs:List Value)(hl:vs.length=[a].length):bindArgs fd ⟨vs,[]⟩=pure ([a].zip vs):=
 (iY hl).elim fun u x=>x.elim fun r x=>by rw[x.1,bw x.2];exact h u
theorem sY{fd:FuncData}{a b:Str}(h: ∀u v:Value,bindArgs fd ⟨[u,v],[]⟩=pure [(a,u),(b,v)])(vs:List Value)(hl:vs.length=[a,b].length):bindArgs fd ⟨vs,[]⟩=pure ([a,b].zip vs):=
 (iY hl).elim fun u x=>x.elim fun r x=>(iY x.2).elim fun v y=>y.elim fun r y=>by rw[x.1,y.1,bw y.2];exact h u v
theorem Gx{fd:FuncData}{a b c:Str}(h: ∀u v w:Value,bindArgs fd ⟨[u,v,w],[]⟩=pure [(a,u),(b,v),(c,w)])(vs:List Value)(hl:vs.length=[a,b,c].length):bindArgs fd ⟨vs,[]⟩=pure ([a,b,c].zip vs):=
 (iY hl).elim fun u x=>x.elim fun r x=>(iY x.2).elim fun v y=>y.elim fun r y=>(iY y.2).elim fun w z=>z.elim fun r z=>by rw[x.1,y.1,z.1,bw z.2];exact h u v w
theorem QH{fd:FuncData}{a b c d:Str}(h: ∀u v w x:Value,bindArgs fd ⟨[u,v,w,x],[]⟩=pure [(a,u),(b,v),(c,w),(d,x)])(vs:List Value)(hl:vs.length=[a,b,c,d].length):bindArgs fd ⟨vs,[]⟩=pure ([a,b,c,d].zip vs):=
 (iY hl).elim fun u x=>x.elim fun r x=>(iY x.2).elim fun v y=>y.elim fun r y=>(iY y.2).elim fun w z=>z.elim fun r z=>(iY z.2).elim fun t q=>q.elim fun r q=>by rw[x.1,y.1,z.1,q.1,bw q.2];exact h u v w t
theorem Gy{c:ClaimW}{cl:Str→Option Addr}{VH:ExcName→Option Value}{args:List WData}{s₁ s':aq}(hr: ∀cls,c.raises args cls=false)(hp:c.post args (.bool true) args=true)(ho:OldK s₁.heap s'.heap)(hos:s'.os=s₁.os)(hb:AllBare s'.gens):
  GoodWG c cl VH args s₁ (.ok (.ret (.bool true))) s':=
 ⟨.inl ⟨_,_,[],rfl,hr,ReadsW.bool true,hp,fun _=>⟨List.nodup_nil,fun _ hm=>(nomatch hm)⟩⟩,ho,hos,hb⟩
end
section
open PySem
inductive PV where
 |none
 |bool (b:Bool)
 |int (i:Int)
 |str (s:Str)
 |bytes (b:Array UInt8)
 |tup (l:List PV)
 |list (l:List PV)
 |la (ks:List Int) (vs:List PV)
 |iM (ks:List Str) (vs:List PV)
 |vN (a b c:Int)
 |val (v:Value)
 |inst (C:Addr) (nm:Str) (p:PV)
 deriving Inhabited
section
variable (prog:Program) (w:cL) (h:Heap) (X:List Addr)
mutual
noncomputable def VR:PV→Value→Prop
 | .none,v=>v= .none
 | .bool b,v=>v= .bool b
 | .int i,v=> ∃t,v= .int i t
 | .str s,v=> ∃t,v= .str s t
 | .bytes b,v=> ∃t,v= .bytes b t
 | .tup l,v=> ∃a xs n,v= .ref a∧a∉X∧h.get? a=some {cls:= .type "tuple",data:= .seq xs n}∧gM l xs.toList
 | .list l,v=> ∃a xs n,v= .ref a∧a∉X∧h.get? a=some {cls:= .type "list",data:= .seq xs n}∧gM l xs.toList
 | .la ks vs,v=> ∃a kvs,v= .ref a∧a∉X∧h.DictOf (intKind prog w) a kvs∧kvs.map (·.1)=ks∧gM vs (kvs.map (·.2))
 | .iM ks vs,v=> ∃a kvs,v= .ref a∧a∉X∧h.DictOf (strKind prog w) a kvs∧kvs.map (·.1)=ks∧gM vs (kvs.map (·.2))
 | .vN a b c,v=> ∃ad t u w,v= .ref ad∧ad∉X∧IsRange h ad a b c t u w
 | .val x,v=>v=x
 | .inst C nm p,v=> ∃x dx es n J3 t u,v= .ref x∧x∉X∧dx∉X∧h.get? x=some {cls:= .ref C,dict:=some dx,data:= .plain}∧h.get? dx=some {cls:= .type "dict",data:= .dict es n}∧es= #[⟨J3,.str nm t,u⟩]∧VR p u
noncomputable def gM:List PV→List Value→Prop
 |[],vs=>vs=[]
 |p::ps,vs=> ∃v r,vs=v::r∧VR p v∧gM ps r
end
end
noncomputable def Up(h:Heap)(X:List Addr)(h':Heap)(X':List Addr):Prop:= ∀a o,a∉X→h.get? a=some o→a∉X'∧h'.get? a=some o
theorem Up.trans{h h' qD:Heap}{X X' ZF:List Addr}(x:Up h X h' X')(y:Up h' X' qD ZF):Up h X qD ZF:=fun a o ha e=>y a o (x a o ha e).1 (x a o ha e).2
theorem Up.refl(h:Heap)(X:List Addr):Up h X h X:=fun _ _ ha e=>⟨ha,e⟩
section
variable {prog:Program} {w:cL} {h h':Heap} {X X':List Addr}
theorem jc{K:Type}[DecidableEq K]{knd:KeyKind prog w K}{a:Addr}{kvs:List (K×Value)}(x:h.DictOf knd a kvs)(hk: ∀o,h.get? a=some o→h'.get? a=some o):h'.DictOf knd a kvs:=
 x.elim fun o x=>x.elim fun es x=>x.elim fun ep x=>⟨o,es,ep,hk o x.1,x.2⟩
theorem kj{K:Type}[DecidableEq K]{knd:KeyKind prog w K}{a:Addr}{kvs:List (K×Value)}(x:h.DictOf knd a kvs): ∃o,h.get? a=some o:=
 x.elim fun o x=>x.elim fun _ x=>x.elim fun _ x=>⟨o,x.1⟩
mutual
theorem VR.up(u:Up h X h' X'): ∀{p:PV} {v:Value},VR prog w h X p v→VR prog w h' X' p v
 | .none,_,x=>x
 | .bool _,_,x=>x
 | .int _,_,x=>x
 | .str _,_,x=>x
 | .bytes _,_,x=>x
 | .val _,_,x=>x
 | .inst C nm p,_,x=>by
  obtain⟨a,dx,es,n,J3,t,w,e,ha,hd,ho,Gj,he,hp⟩:=x
  exact .intro a ⟨dx,es,n,J3,t,w,e,(u a _ ha ho).1,(u dx _ hd Gj).1,(u a _ ha ho).2,(u dx _ hd Gj).2,he,VR.up u hp⟩
 | .vN a b c,v,x=>by
  obtain⟨ad,t,u',w,e,ha,ho⟩:=x
  exact .intro ad ⟨t,u',w,e,(u ad _ ha ho).1,(u ad _ ha ho).2⟩
 | .tup l,v,x=>by
  obtain⟨a,xs,n,e,ha,ho,hl⟩:=x
  exact .intro a ⟨xs,n,e,(u a _ ha ho).1,(u a _ ha ho).2,gM.up u hl⟩
 | .list l,v,x=>by
  obtain⟨a,xs,n,e,ha,ho,hl⟩:=x
  exact .intro a ⟨xs,n,e,(u a _ ha ho).1,(u a _ ha ho).2,gM.up u hl⟩
 | .la ks vs,v,x=>by
  obtain⟨a,kvs,e,ha,hd,hk,hl⟩:=x
  obtain⟨_,ho⟩:=kj hd
  exact .intro a ⟨kvs,e,(u a _ ha ho).1,jc hd fun o e=>(u a o ha e).2,hk,gM.up u hl⟩
 | .iM ks vs,v,x=>by
  obtain⟨a,kvs,e,ha,hd,hk,hl⟩:=x
  obtain⟨_,ho⟩:=kj hd
  exact .intro a ⟨kvs,e,(u a _ ha ho).1,jc hd fun o e=>(u a o ha e).2,hk,gM.up u hl⟩
theorem gM.up(u:Up h X h' X'): ∀{ps:List PV} {vs:List Value},gM prog w h X ps vs→gM prog w h' X' ps vs
 |[],_,x=>x
 |p::ps,_,x=>by
  obtain⟨v,r,e,hv,hr⟩:=x
  exact .intro v ⟨r,e,VR.up u hv,gM.up u hr⟩
end
end
end
section
open PySem
inductive MV where
 |un
 |p (v:PV)
 |ol (l:List PV)
 |ug (ks:List Int) (vs:List PV)
 |zk (ks:List Str) (vs:List PV)
 |lR (rest:List PV)
 deriving Inhabited
set_option genSizeOf false in
set_option genInjectivity false in
structure ic where
 prog:Program
 w:cL
 look:Addr→Option Obj
 tb:Addr
 tabI:Heap→List Addr→Prop
 vO: ∀h h' fp,tabI h fp→(∀b o,b=tb∨b∈fp→h.get? b=some o→h'.get? b=some o)→tabI h' fp
 AO: ∀h fp,tabI h fp→(∃o,h.get? tb=some o)∧ ∀a∈fp,∃o,h.get? a=some o
 Gz: ∀h fp,tabI h fp→ ∀a∈fp,∀o,h.get? a=some o→o.cls≠ .type "list"∧o.cls≠ .type "dict"
 vP:look tb=none
 noLimit: ∀h:Heap,(∀a o,look a=some o→h.get? a=some o)→h.NoLimit
 gl:Str→Option Value
 rm: ∀(s:aq) (env:b9) (A:aH) (x:Str) (v:Value) (Q:Value→aq→Prop) (E:Value→aq→Prop),(∀a o,look a=some o→s.heap.get? a=some o)→env.globals=mainGlobals→env.builtins=builtinsNs→gl x=some v→Q v s→
  wpAny (model prog w) A (loadGlobal env x) Q E s
 iI:Addr
 vQ: ∃o,look iI=some o
 zl:Array Value→Prop
 GA: ∀ps more,zl ps→zl (ps++more)
 zm: ∀h fp,tabI h fp→ ∃ps,h.IsCode iI tb ps∧h.TableAt iI tb ps∧zl ps
 GB: ∀h ps,h.IsCode iI tb ps∧h.TableAt iI tb ps∧zl ps→ ∃fp,tabI h fp∧ ∀a∈fp,a=iI
 J4: ∀(s:aq) (A:aH) (Q:Addr→aq→Prop) (E:Value→aq→Prop),(∀a o,look a=some o→s.heap.get? a=some o)→Q builtinsNs s→wpAny (model prog w) A (builtinsFor mainGlobals builtinsNs) Q E s
 exc:Option Addr
 GC: ∀a,exc=some a→ ∃o vs,look a=some o∧o.data= .fields vs∧vs[2]? =some .none
noncomputable abbrev ic.M(L:ic):Model:=model L.prog L.w
structure Inv(L:ic)(s:aq):Prop where
 ir: ∀a o,L.look a=some o→s.heap.get? a=some o
 bare:PyProof.Rows.AllBare s.gens
structure XO(L:ic)(X:List Addr)(h:Heap):Prop where
 tb:L.tb∈X
 sm:sysModules∈X
 there: ∀a∈X,∃o,h.get? a=some o
 look: ∀a∈X,L.look a=none
 tab: ∃fp,L.tabI h fp∧ ∀a∈fp,a∉X
theorem XO.keep{L:ic}{X:List Addr}{h h':Heap}(x:XO L X h)(hk: ∀b o,h.get? b=some o→h'.get? b=some o):XO L X h' where
 tb:=x.tb
 sm:=x.sm
 there:=fun a ha=>let ⟨o,ho⟩:=x.there a ha;⟨o,hk a o ho⟩
 look:=x.look
 tab:=let ⟨fp,hf,hn⟩:=x.tab;⟨fp,L.vO _ _ fp hf fun b o _ e=>hk b o e,hn⟩
theorem XO.mut{L:ic}{X:List Addr}{h h':Heap}(x:XO L X h){D:Addr}(hD:D∈X)(iS:D≠L.tb)(hk: ∀b o,b≠D→h.get? b=some o→h'.get? b=some o)(hex: ∃o,h'.get? D=some o):XO L X h' where
 tb:=x.tb
 sm:=x.sm
 there:=fun a ha=>by
  by_cases e:a=D
  ·rw[e];exact hex
  ·obtain⟨o,ho⟩:=x.there a ha;exact⟨o,hk a o e ho⟩
 look:=x.look
 tab:=by
  obtain⟨fp,hf,hn⟩:=x.tab
  refine⟨fp,L.vO _ _ fp hf fun b o hb e=>hk b o ?_ e,hn⟩
  rintro rfl
  rcases hb with rfl|hb
  ·exact iS rfl
  ·exact hn _ hb hD
theorem XO.sub{L:ic}{X X':List Addr}{h:Heap}(x:XO L X h)(hs: ∀a∈X',a∈X)(h1:L.tb∈X')(h2:sysModules∈X'):XO L X' h where
 tb:=h1
 sm:=h2
 there:=fun a ha=>x.there a (hs a ha)
 look:=fun a ha=>x.look a (hs a ha)
 tab:=let ⟨fp,hf,hn⟩:=x.tab;⟨fp,hf,fun a ha h=>hn a ha (hs a h)⟩
theorem XO.widen{L:ic}{X X':List Addr}{h h':Heap}(x:XO L X h)(hk: ∀b o,h.get? b=some o→h'.get? b=some o)(EE: ∀a o,L.look a=some o→h.get? a=some o)
  (hX: ∀a∈X',a∈X∨h.get? a=none)(hs: ∀a∈X,a∈X')(hex: ∀a∈X',∃o,h'.get? a=some o):XO L X' h' where
 tb:=hs _ x.tb
 sm:=hs _ x.sm
 there:=hex
 look:=fun a ha=>by
  rcases hX a ha with h1|h1
  ·exact x.look a h1
  ·cases e:L.look a with
   |none=>rfl
   |some o=>have:=EE a o e;rw[h1] at this;(first|exact VD this|cases this)
 tab:=by
  obtain⟨fp,hf,hn⟩:=x.tab
  refine⟨fp,L.vO _ _ fp hf fun b o _ e=>hk b o e,fun a ha hm=> ?_⟩
  rcases hX a hm with h1|h1
  ·exact hn a ha h1
  ·obtain⟨o,ho⟩:=(L.AO _ _ hf).2 a ha;rw[h1] at ho;(first|exact VD ho|cases ho)
structure gI(L:ic)(X:List Addr)(s s':aq):Prop where
 keep: ∀b o,b≠L.tb→s.heap.get? b=some o→s'.heap.get? b=some o
 inv:Inv L s'
 xo:XO L X s'.heap
 os:s'.os=s.os
 drawn:s'.drawn=s.drawn
theorem gI.refl{L:ic}{X:List Addr}{s:aq}(i:Inv L s)(x:XO L X s.heap):gI L X s s:=⟨fun _ _ _ e=>e,i,x,rfl,rfl⟩
theorem gI.trans{L:ic}{X:List Addr}{s s' pd:aq}(x:gI L X s s')(y:gI L X s' pd):gI L X s pd:=
 ⟨fun b o hb e=>y.keep b o hb (x.keep b o hb e),y.inv,y.xo,y.os.trans x.os,y.drawn.trans x.drawn⟩
theorem Inv.keeps{L:ic}{s:aq}(i:Inv L s){h':Heap}(hk: ∀b o,s.heap.get? b=some o→h'.get? b=some o)(tk:Nat):Inv L {s with heap:=h',toks:=tk}:=
 ⟨fun a o e=>hk a o (i.ir a o e),i.bare⟩
theorem gI.of_keep{L:ic}{X:List Addr}{s:aq}(i:Inv L s)(x:XO L X s.heap){h':Heap}(hk: ∀b o,s.heap.get? b=some o→h'.get? b=some o)(tk:Nat):gI L X s {s with heap:=h',toks:=tk}:=
 ⟨fun b o _ e=>hk b o e,i.keeps hk tk,x.keep hk,rfl,rfl⟩
theorem gI.toks{L:ic}{X:List Addr}{s:aq}(i:Inv L s)(x:XO L X s.heap)(tk:Nat):gI L X s {s with toks:=tk}:=gI.of_keep i x (fun _ _ e=>e) tk
theorem gI.up{L:ic}{X:List Addr}{s s':aq}(d:gI L X s s'):Up s.heap X s'.heap X:=fun a o ha e=>⟨ha,d.keep a o (fun h=>ha (h▸d.xo.tb)) e⟩
theorem gI.sub{L:ic}{X X':List Addr}{s s':aq}(d:gI L X s s')(hs: ∀a∈X',a∈X)(h1:L.tb∈X')(h2:sysModules∈X'):gI L X' s s':=⟨d.keep,d.inv,d.xo.sub hs h1 h2,d.os,d.drawn⟩
theorem XO.fresh{L:ic}{X:List Addr}{h:Heap}(x:XO L X h){a:Addr}(ha:h.get? a=none):a∉X:=fun hm=>by
 obtain⟨o,ho⟩:=x.there a hm;rw[ha] at ho;(first|exact VD ho|cases ho)
theorem gY(h:Heap):h.get? h.objs.size=none:=by
 cases e:h.get? h.objs.size with
 |none=>rfl
 |some o=>exact absurd (aI e) (bD _)
theorem XO.size{L:ic}{X:List Addr}{h:Heap}(x:XO L X h):h.objs.size∉X:=x.fresh (gY h)
structure iU(L:ic)(k:Nat)(A:aH):Prop where
 handled:A.handled=L.exc.map Value.ref
 depth:A.depth+k<900
 units:A.units+100*k<9000
theorem iU.in1{L:ic}{k:Nat}{A:aH}(r:iU L (k+1) A):iU L k A.in1:=⟨r.handled,by have:=r.depth;show A.depth+k<900;omega,by have:=r.units;show A.units+1+100*k<9000;omega⟩
theorem iU.less{L:ic}{k j:Nat}{A:aH}(r:iU L k A)(h:j≤k):iU L j A:=⟨r.handled,bR (fj h _) r.depth,bR (fj (Nat.mul_le_mul_left 100 h) _) r.units⟩
theorem iU.deeper{L:ic}{k:Nat}{A:aH}(r:iU L (k+1) A)(env:b9):iU L k (A.deeper env):=
 ⟨r.handled,by have:=r.depth;show A.depth+1+k<900;omega,by have:=r.units;show A.units+3+100*k<9000;omega⟩
theorem iU.none{L:ic}{k:Nat}{A:aH}(r:iU L k A)(h:L.exc=Option.none):A.handled=Option.none:=by rw[r.handled,h];rfl
theorem iU.limit{L:ic}{k:Nat}{A:aH}(r:iU L k A):A.depth<recursionLimit:=by have:=r.depth;show A.depth<1000;omega
noncomputable def Reads(env:b9)(h:Heap)(x:Str)(v:Value):Prop:=
 (env.kindOf x=some .local∧ ∃m,h.Ns env.locals m∧m x=some v)∨
 ((env.kindOf x=some .cell∨env.kindOf x=some .free)∧(x==("__classdict__":Str))=false∧ ∃c,env.cells.lookup x=some c∧h.IsCell c (some v))
noncomputable def ro(L:ic)(h:Heap)(X:List Addr):MV→Value→Prop
 | .un,_=>True
 | .p q,v=>VR L.prog L.w h X q v
 | .ol l,v=> ∃a xs n,v= .ref a∧a∈X∧a≠L.tb∧a≠sysModules∧h.get? a=some {cls:= .type "list",data:= .seq xs n}∧gM L.prog L.w h X l xs.toList
 | .ug ks vs,v=> ∃a kvs,v= .ref a∧a∈X∧a≠L.tb∧a≠sysModules∧h.DictOf (intKind L.prog L.w) a kvs∧kvs.map (·.1)=ks∧gM L.prog L.w h X vs (kvs.map (·.2))
 | .zk ks vs,v=> ∃a kvs,v= .ref a∧a∈X∧a≠L.tb∧a≠sysModules∧h.DictOf (strKind L.prog L.w) a kvs∧kvs.map (·.1)=ks∧gM L.prog L.w h X vs (kvs.map (·.2))
 | .lR rest,v=> ∃a ax l i,v= .ref a∧a∈X∧a≠L.tb∧a≠sysModules∧h.IsListIter a ax i∧VR L.prog L.w h X (.list l) (.ref ax)∧l.drop i=rest
noncomputable abbrev gJ:=List (Str×Nat)
noncomputable def EF(sc:Scope):Bool:=sc.names.any fun x=>x.1==".0"
structure FR(L:ic)(sc:Scope)(σ:gJ)(env:b9)(X:List Addr)(h:Heap)(ρ:List MV):Prop where
 scope:env.scope=sc
 kind:sc.kind= .function
 globals:env.globals=mainGlobals
 builtins:env.builtins=builtinsNs∧(vM sc=true→env.code= .ref L.iI)∧(EF sc=false→env.frame=some env.locals)
 xo:XO L X h
 locals:env.locals≠L.tb∧ ∃o,h.get? env.locals=some o
 cells: ∀x c,env.cells.lookup x=some c→c≠L.tb∧ ∃o,h.get? c=some o
 has: ∀x,(sc.names.lookup x=some .cell∨sc.names.lookup x=some .free)→ ∃c,env.cells.lookup x=some c
 rd: ∀x i,σ.lookup x=some i→ ∀mv,ρ[i]? =some mv→mv≠ .un→ ∃v,Reads env h x v∧ro L h X mv v
theorem Reads.map{env:b9}{h h':Heap}{x:Str}{v:Value}(r:Reads env h x v)(hl: ∀m,h.Ns env.locals m→h'.Ns env.locals m)(hc: ∀c u,env.cells.lookup x=some c→h.IsCell c u→h'.IsCell c u):Reads env h' x v:=by
 rcases r with⟨hk,m,hn,hm⟩|⟨hk,hd,c,pP,hv⟩
 ·exact .inl ⟨hk,m,hl m hn,hm⟩
 ·exact .inr ⟨hk,hd,c,pP,hc c _ pP hv⟩
theorem Reads.up{env:b9}{h h':Heap}{x:Str}{v:Value}(r:Reads env h x v)(hl: ∀o,h.get? env.locals=some o→h'.get? env.locals=some o)
  (hc: ∀c o,env.cells.lookup x=some c→h.get? c=some o→h'.get? c=some o):Reads env h' x v:=
 r.map (fun m hn=>hn.at' hl) fun c u pP hv=>let ⟨o,ho,e⟩:=hv;⟨o,hc c o pP ho,e⟩
noncomputable def MV.owned:MV→Bool
 | .ol _| .ug _ _| .zk _ _| .lR _=>true
 |_=>false
theorem uh{es:Array DictEntry}{n:Nat}{u:Option Value}:Data.dict es n≠ .cell u:=nofun
theorem Cs{xs:Array Value}{n:Nat}{u:Option Value}:Data.seq xs n≠ .cell u:=nofun
theorem qM{xs:Array Value}{u:Option Value}:Data.fields xs≠ .cell u:=nofun
noncomputable def AP(h:Heap)(a:Addr)(C:Heap→Prop):Prop:= ∃o,h.get? a=some o∧(∀u,o.data≠ .cell u)∧ ∀h':Heap,h'.get? a=some o→C h'
theorem AQ{K:Type}[DecidableEq K]{prog:Program}{w:cL}{knd:KeyKind prog w K}{h:Heap}{a:Addr}{kvs:List (K×Value)}(x:h.DictOf knd a kvs):AP h a fun h'=>h'.DictOf knd a kvs:=
 x.elim fun o x=>x.elim fun es x=>x.elim fun ep x=>⟨o,x.1,fun _=>x.2.2.1▸uh,fun _ hg=>⟨o,es,ep,hg,x.2⟩⟩
theorem GD{h:Heap}{a l:Addr}{i:Nat}(x:h.IsListIter a l i):AP h a fun h'=>h'.IsListIter a l i:=
 x.elim fun o x=>⟨o,x.1,fun _=>x.2.2▸qM,fun _ hg=>⟨o,hg,x.2⟩⟩
theorem J5{h:Heap}{a:Addr}{xs:Array Value}{n:Nat}{c:String}(x:h.get? a=some {cls:= .type c,data:= .seq xs n}):AP h a fun h'=>h'.get? a=some {cls:= .type c,data:= .seq xs n}:=
 ⟨_,x,fun _=>Cs,fun _ hg=>hg⟩
noncomputable def MH(L:ic)(h:Heap)(X:List Addr)(mv:MV)(v:Value):Prop:= ∃a o,v= .ref a∧a∈X∧a≠L.tb∧h.get? a=some o∧(∀u,o.data≠ .cell u)∧ ∀h' X',Up h X h' X'→a∈X'→h'.get? a=some o→ro L h' X' mv v
theorem AP.own{L:ic}{h:Heap}{X:List Addr}{mv:MV}{v:Value}{a:Addr}{C:Heap→Prop}(x:AP h a C)(e:v= .ref a)(ha:a∈X)(ht:a≠L.tb)(k: ∀h' X',Up h X h' X'→a∈X'→C h'→ro L h' X' mv v):MH L h X mv v:=
 x.elim fun o x=>⟨a,o,e,ha,ht,x.1,x.2.1,fun h' X' u xE hg=>k h' X' u xE (x.2.2 h' hg)⟩
theorem ro.view{L:ic}{h:Heap}{X:List Addr}{mv:MV}{v:Value}(r:ro L h X mv v)(ho:mv.owned=true):MH L h X mv v:=by
 cases mv with
 |un=>exact Bool.noConfusion ho
 |p q=>exact Bool.noConfusion ho
 |ol l=>exact r.elim fun a r=>r.elim fun xs r=>r.elim fun n r=>(J5 r.2.2.2.2.1).own r.1 r.2.1 r.2.2.1 fun h' X' u xE hg=>⟨a,xs,n,r.1,xE,r.2.2.1,r.2.2.2.1,hg,gM.up u r.2.2.2.2.2⟩
 |ug ks vs=>exact r.elim fun a r=>r.elim fun kvs r=>(AQ r.2.2.2.2.1).own r.1 r.2.1 r.2.2.1 fun h' X' u xE hg=>⟨a,kvs,r.1,xE,r.2.2.1,r.2.2.2.1,hg,r.2.2.2.2.2.1,gM.up u r.2.2.2.2.2.2⟩
 |zk ks vs=>exact r.elim fun a r=>r.elim fun kvs r=>(AQ r.2.2.2.2.1).own r.1 r.2.1 r.2.2.1 fun h' X' u xE hg=>⟨a,kvs,r.1,xE,r.2.2.1,r.2.2.2.1,hg,r.2.2.2.2.2.1,gM.up u r.2.2.2.2.2.2⟩
 |lR rest=>exact r.elim fun a r=>r.elim fun ax r=>r.elim fun l r=>r.elim fun i r=>(GD r.2.2.2.2.1).own r.1 r.2.1 r.2.2.1 fun h' X' u xE hg=>⟨a,ax,l,i,r.1,xE,r.2.2.1,r.2.2.2.1,hg,VR.up u r.2.2.2.2.2.1,r.2.2.2.2.2.2⟩
theorem ro.vD{L:ic}{h h':Heap}{X X':List Addr}{mv:MV}{v:Value}(r:ro L h X mv v)(u:Up h X h' X')(hh: ∀a o,v= .ref a→a∈X→a≠L.tb→h.get? a=some o→(∀u,o.data≠ .cell u)→mv.owned=true→a∈X'∧h'.get? a=some o):ro L h' X' mv v:=by
 cases ho:mv.owned with
 |true=>
  obtain⟨a,o,e,ha,ht,hg,hc,k⟩:=r.view ho
  obtain⟨h1,h2⟩:=hh a o e ha ht hg hc ho
  exact k h' X' u h1 h2
 |false=>cases mv<;>first|exact Bool.noConfusion ho|exact trivial|exact VR.up u r
theorem ro.up{L:ic}{h h':Heap}{X X':List Addr}(u:Up h X h' X')(hX: ∀a∈X,a≠L.tb→a∈X'∧ ∀o,h.get? a=some o→h'.get? a=some o){mv:MV}{v:Value}(r:ro L h X mv v):ro L h' X' mv v:=
 r.vD u fun a o _ ha ht hg _ _=>⟨(hX a ha ht).1,(hX a ha ht).2 o hg⟩
theorem ro.addr{L:ic}{h:Heap}{X:List Addr}{mv:MV}{v:Value}(r:ro L h X mv v)(ho:mv.owned=true): ∃a o,v= .ref a∧a∈X∧a≠L.tb∧h.get? a=some o∧(∀u,o.data≠ .cell u):=by
 obtain⟨a,o,e,ha,ht,hg,hc,_⟩:=r.view ho
 exact⟨a,o,e,ha,ht,hg,hc⟩
theorem FR.done{L:ic}{sc:Scope}{σ:gJ}{env:b9}{X:List Addr}{s s':aq}{ρ:List MV}(F:FR L sc σ env X s.heap ρ)(d:gI L X s s'):FR L sc σ env X s'.heap ρ where
 scope:=F.scope
 kind:=F.kind
 globals:=F.globals
 builtins:=F.builtins
 xo:=d.xo
 locals:=⟨F.locals.1,let ⟨o,ho⟩:=F.locals.2;⟨o,d.keep _ _ F.locals.1 ho⟩⟩
 cells:=fun x c hc=>⟨(F.cells x c hc).1,let ⟨o,ho⟩:=(F.cells x c hc).2;⟨o,d.keep _ _ (F.cells x c hc).1 ho⟩⟩
 has:=F.has
 rd:=fun x i hi mv jy hu=>by
  obtain⟨v,r,m⟩:=F.rd x i hi mv jy hu
  exact⟨v,r.up (fun o e=>d.keep _ o F.locals.1 e) (fun c o hc e=>d.keep c o (F.cells x c hc).1 e),m.up d.up fun a ha iS=>⟨ha,fun o e=>d.keep a o iS e⟩⟩
theorem Up.sub(h:Heap){X X':List Addr}(hs: ∀a∈X',a∈X):Up h X h X':=fun a o ha e=>⟨fun h=>ha (hs a h),e⟩
theorem FR.widen{L:ic}{sc:Scope}{σ:gJ}{env:b9}{X X':List Addr}{h h':Heap}{ρ:List MV}(F:FR L sc σ env X h ρ)(hk: ∀b o,h.get? b=some o→h'.get? b=some o)(EE: ∀a o,L.look a=some o→h.get? a=some o)
  (hX: ∀a∈X',a∈X∨h.get? a=none)(hs: ∀a∈X,a∈X')(hex: ∀a∈X',∃o,h'.get? a=some o):FR L sc σ env X' h' ρ where
 scope:=F.scope
 kind:=F.kind
 globals:=F.globals
 builtins:=F.builtins
 xo:=F.xo.widen hk EE hX hs hex
 locals:=⟨F.locals.1,let ⟨o,ho⟩:=F.locals.2;⟨o,hk _ _ ho⟩⟩
 cells:=fun x c hc=>⟨(F.cells x c hc).1,let ⟨o,ho⟩:=(F.cells x c hc).2;⟨o,hk _ _ ho⟩⟩
 has:=F.has
 rd:=fun x i hi mv jy hu=>by
  obtain⟨v,r,m⟩:=F.rd x i hi mv jy hu
  refine⟨v,r.up (fun o e=>hk _ o e) (fun c o hc e=>hk c o e),m.up (fun a o ha e=>⟨fun hm=> ?_,hk a o e⟩) fun a ha iS=>⟨hs a ha,fun o e=>hk a o e⟩⟩
  rcases hX a hm with h1|h1
  ·exact ha h1
  ·rw[h1] at e;(first|exact VD e|cases e)
noncomputable def SE(L:ic)(sc:Scope)(σ:gJ)(k:Nat)(e:aN)(f:List MV→Option PV):Prop:=
 ∀(env:b9) (A:aH) (X:List Addr) (s:aq) (ρ:List MV) (p:PV) (Q:Value→aq→Prop) (E:Value→aq→Prop),
  iU L k A→FR L sc σ env X s.heap ρ→Inv L s→f ρ=some p→
  (∀v s',VR L.prog L.w s'.heap X p v→gI L X s s'→Q v s')→wpAny L.M A (eval e env) Q E s
theorem SE.less{L:ic}{sc:Scope}{σ:gJ}{k j:Nat}{e:aN}{f:List MV→Option PV}(h:SE L sc σ j e f)(hk:j≤k):SE L sc σ k e f:=
 fun env A X s ρ p Q E R F I hf hQ=>h env A X s ρ p Q E (R.less hk) F I hf hQ
section
variable {L:ic} {sc:Scope} {σ:gJ} {k:Nat}
theorem Reads.eval{env:b9}{A:aH}{s:aq}{x:Str}{v:Value}{pos:cM}{Q:Value→aq→Prop}{E:Value→aq→Prop}{M:Model}(r:Reads env s.heap x v)(hk:env.scope.kind= .function)(h:Q v s)
  (hd:(x==("__debug__":Str))=false):wpAny M A (eval (.Name x pos) env) Q E s:=by
 refine f7 ?_ hd
 rcases r with⟨hl,m,hn,hm⟩|⟨hl|hl,hcd,c,hc,hv⟩
 ·exact cF hk hl hn hm h
 ·exact wpAny_loadName_cell hk hl hc hv h
 ·exact wpAny_loadName_free hk hl hc hv h hcd
noncomputable def gX:Option MV→Option PV
 |some (.p q)=>some q
 |_=>none
theorem g8{α:Type}{a:α}{P:Prop}(h:none=some a):P:=nomatch h
theorem qq{o:Option MV}{p:PV}(h:gX o=some p):o=some (.p p):=by
 cases o with
 |none=>exact g8 h
 |some mv=>cases mv<;>first|exact g8 h|exact congrArg (fun o=>some (MV.p o)) (Option.some.inj h)
theorem SE.var{x:Str}{pos:cM}{i:Nat}(hi:σ.lookup x=some i)(hd:(x==("__debug__":Str))=false:=by decide):SE L sc σ k (.Name x pos) (fun ρ=>gX ρ[i]?):=by
 intro env A X s ρ p Q E R F I hf hQ
 have jy:=qq hf
 obtain⟨v,r,m⟩:=F.rd x i hi _ jy (by intro h;(first|exact VD h|cases h))
 exact r.eval (by rw[F.scope];exact F.kind) (hQ v s m (gI.refl I F.xo)) hd
theorem SE.int{n:Int}{kk:Nat}{pos:cM}:SE L sc σ k (.Constant (.int n) kk pos) (fun _=>some (.int n)):=by
 intro env A X s ρ p Q E R F I hf hQ
 skip;(first|exact VD hf|cases hf)
 exact wpAny_Constant_int (hQ _ _ (by exact .intro _ rfl) (gI.toks I F.xo _))
theorem SE.str{x:Str}{kk:Nat}{pos:cM}:SE L sc σ k (.Constant (.str x) kk pos) (fun _=>some (.str x)):=by
 intro env A X s ρ p Q E R F I hf hQ
 skip;(first|exact VD hf|cases hf)
 exact f9 (hQ _ _ (by exact .intro _ rfl) (gI.toks I F.xo _))
theorem SE.bool{b:Bool}{kk:Nat}{pos:cM}:SE L sc σ k (.Constant (.bool b) kk pos) (fun _=>some (.bool b)):=by
 intro env A X s ρ p Q E R F I hf hQ
 skip;(first|exact VD hf|cases hf)
 exact wpAny_Constant_bool (hQ _ _ (rfl) (gI.refl I F.xo))
theorem SE.none{kk:Nat}{pos:cM}:SE L sc σ k (.Constant .none kk pos) (fun _=>some .none):=by
 intro env A X s ρ p Q E R F I hf hQ
 skip;(first|exact VD hf|cases hf)
 exact wpAny_Constant_none (hQ _ _ (rfl) (gI.refl I F.xo))
noncomputable def ni(L:ic)(t:Value→Value→Sem Value)(g:PV→PV→Option PV):Prop:=
 ∀(A:aH) (X:List Addr) (s:aq) (p q r:PV) (u v:Value) (Q:Value→aq→Prop) (E:Value→aq→Prop),
  iU L 0 A→XO L X s.heap→Inv L s→VR L.prog L.w s.heap X p u→VR L.prog L.w s.heap X q v→g p q=some r→
  (∀x s',VR L.prog L.w s'.heap X r x→gI L X s s'→Q x s')→wpAny L.M A (t u v) Q E s
noncomputable def iy(f g:List MV→Option PV)(o:PV→PV→Option PV):List MV→Option PV:=fun ρ=>(f ρ).bind fun a=>(g ρ).bind fun b=>o a b
theorem oE{f g:List MV→Option PV}{o:PV→PV→Option PV}{ρ:List MV}{r:PV}(h:iy f g o ρ=some r): ∃a b,f ρ=some a∧g ρ=some b∧o a b=some r:=
 (Option.bind_eq_some_iff.mp h).elim fun a h=>(Option.bind_eq_some_iff.mp h.2).elim fun b h'=>⟨a,b,h.1,h'.1,h'.2⟩
theorem SE.binop{op:Operator}{l r:aN}{pos:cM}{f g:List MV→Option PV}{o:PV→PV→Option PV}(hl:SE L sc σ k l f)(hr:SE L sc σ k r g)(ho:ni L (binaryOp op) o):
  SE L sc σ k (.BinOp l op r pos) (iy f g o):=by
 intro env A X s ρ p Q E R F I hf hQ
 obtain⟨a,b,uN,GF,Ct⟩:=oE hf
 refine wpAny_BinOp (hl env A X s ρ a _ E R F I uN fun u s₁ hu iu=>hr env A X s₁ ρ b _ E R (F.done iu) iu.inv GF fun v gQ hv gP=> ?_)
 exact ho A X gQ a b p u v Q E (R.less (aC _)) ((F.done iu).done gP).xo gP.inv (hu.up gP.up) hv Ct fun x s' hx i5=>hQ x s' hx ((iu.trans gP).trans i5)
theorem SE.cmp{op:CmpOp}{l r:aN}{pos:cM}{f g:List MV→Option PV}{o:PV→PV→Option PV}(hl:SE L sc σ k l f)(hr:SE L sc σ k r g)(ho:ni L (compareOp op) o)
  (hm:behindInMarks op r=false:=by rfl):SE L sc σ k (.Compare l [op] [r] pos) (iy f g o):=by
 intro env A X s ρ p Q E R F I hf hQ
 obtain⟨a,b,uN,GF,Ct⟩:=oE hf
 refine wpAny_Compare1 (hm:=hm) (hl env A X s ρ a _ E R F I uN fun u s₁ hu iu=>hr env A X s₁ ρ b _ E R (F.done iu) iu.inv GF fun v gQ hv gP=> ?_)
 exact ho A X gQ a b p u v Q E (R.less (aC _)) ((F.done iu).done gP).xo gP.inv (hu.up gP.up) hv Ct fun x s' hx i5=>hQ x s' hx ((iu.trans gP).trans i5)
end
end
section
open PySem
section
variable {prog:Program} {w:cL} {h:Heap} {X:List Addr}
theorem gM.length: ∀{ps:List PV} {vs:List Value},gM prog w h X ps vs→vs.length=ps.length:=by
 intro ps
 induction ps with
 |nil=>exact @fun _ x=>by (first|exact VD x|cases x);rfl
 |cons p ps hV=>
  intro _ x
  obtain⟨v,r,rfl,_,hr⟩:=x
  simp[hV hr]
theorem gM.nil:gM prog w h X [] []:=rfl
theorem gM.cons{p:PV}{ps:List PV}{v:Value}{vs:List Value}(hv:VR prog w h X p v)(hr:gM prog w h X ps vs):gM prog w h X (p::ps) (v::vs):=by
 exact .intro v ⟨vs,rfl,hv,hr⟩
theorem gM.inv{p:PV}{ps:List PV}{vs:List Value}(x:gM prog w h X (p::ps) vs): ∃v r,vs=v::r∧VR prog w h X p v∧gM prog w h X ps r:=by
 exact x
theorem gM.append: ∀{ps qs:List PV} {vs us:List Value},gM prog w h X ps vs→gM prog w h X qs us→gM prog w h X (ps++qs) (vs++us):=by
 intro ps
 induction ps with
 |nil=>exact @fun _ _ _ x y=>by (first|exact VD x|cases x);exact y
 |cons _ _ hV=>
  intro _ _ _ x y
  obtain⟨v,r,rfl,hv,hr⟩:=x.inv
  exact gM.cons hv (hV hr y)
theorem gM.get: ∀{ps:List PV} {vs:List Value} {i:Nat} {p:PV},gM prog w h X ps vs→ps[i]? =some p→ ∃v,vs[i]? =some v∧VR prog w h X p v:=by
 intro ps
 induction ps with
 |nil=>intro _ _ _ _ e;exact Option.noConfusion rfl (heq_of_eq (show(none:Option PV)=some _ from e))
 |cons q ps ih=>
  intro vs i p x e
  obtain⟨v,r,rfl,hv,hr⟩:=x.inv
  cases i with
  |zero=>exact⟨v,rfl,Option.some.inj e▸hv⟩
  |succ i=>have y:=ih hr e;exact y
theorem gM.take: ∀{ps:List PV} {vs:List Value} (n:Nat),gM prog w h X ps vs→gM prog w h X (ps.take n) (vs.take n):=by
 intro ps
 induction ps with
 |nil=>intro _ _ x;(first|exact VD x|cases x);rw[List.take_nil,List.take_nil];exact gM.nil
 |cons q ps ih=>
  intro vs n x
  cases n with
  |zero=>rw[List.take_zero,List.take_zero];exact gM.nil
  |succ n=>obtain⟨v,r,rfl,hv,hr⟩:=x.inv;exact gM.cons hv (ih n hr)
theorem gM.drop: ∀{ps:List PV} {vs:List Value} (n:Nat),gM prog w h X ps vs→gM prog w h X (ps.drop n) (vs.drop n):=by
 intro ps
 induction ps with
 |nil=>intro _ _ x;(first|exact VD x|cases x);rw[List.drop_nil,List.drop_nil];exact gM.nil
 |cons q ps ih=>
  intro vs n x
  cases n with
  |zero=>exact x
  |succ n=>obtain⟨v,r,rfl,_,hr⟩:=x.inv;exact ih n hr
theorem gM.replicate{p:PV}{v:Value}(hv:VR prog w h X p v): ∀n:Nat,gM prog w h X (List.replicate n p) (List.replicate n v):=by
 intro n
 induction n with
 |zero=>exact gM.nil
 |succ n hV=>exact gM.cons hv (hV)
theorem VR.jZ{i:Int}{v:Value}(x:VR prog w h X (.int i) v): ∃t,v= .int i t:=x
theorem VR.ll{i:Str}{v:Value}(x:VR prog w h X (.str i) v): ∃t,v= .str i t:=x
theorem VR.pQ{i:Bool}{v:Value}(x:VR prog w h X (.bool i) v):v= .bool i:=x
theorem VR.listE{l:List PV}{v:Value}(x:VR prog w h X (.list l) v): ∃a xs n,v= .ref a∧a∉X∧h.get? a=some {cls:= .type "list",data:= .seq xs n}∧gM prog w h X l xs.toList:=x
theorem VR.lY{l:List PV}{v:Value}(x:VR prog w h X (.tup l) v): ∃a xs n,v= .ref a∧a∉X∧h.get? a=some {cls:= .type "tuple",data:= .seq xs n}∧gM prog w h X l xs.toList:=x
@[elab_as_elim] theorem VR.rq{i:Int}{v:Value}(x:VR prog w h X (.int i) v){P:Value→Prop}(k: ∀t,P (.int i t)):P v:=by obtain⟨t,rfl⟩:=x.jZ;exact k t
@[elab_as_elim] theorem VR.EG{i:Str}{v:Value}(x:VR prog w h X (.str i) v){P:Value→Prop}(k: ∀t,P (.str i t)):P v:=by obtain⟨t,rfl⟩:=x.ll;exact k t
@[elab_as_elim] theorem VR.vR{l:List PV}{v:Value}(x:VR prog w h X (.list l) v){P:Value→Prop}(k: ∀a xs n,a∉X→h.get? a=some {cls:= .type "list",data:= .seq xs n}→gM prog w h X l xs.toList→P (.ref a)):P v:=by
 obtain⟨a,xs,n,rfl,ha,ho,hl⟩:=x.listE
 exact k a xs n ha ho hl
@[elab_as_elim] theorem VR.J6{l:List PV}{v:Value}(x:VR prog w h X (.tup l) v){P:Value→Prop}(k: ∀a xs n,a∉X→h.get? a=some {cls:= .type "tuple",data:= .seq xs n}→gM prog w h X l xs.toList→P (.ref a)):P v:=by
 obtain⟨a,xs,n,rfl,ha,ho,hl⟩:=x.lY
 exact k a xs n ha ho hl
theorem gM.xF{ps:List PV}{xs:Array Value}{i:Nat}{p:PV}(x:gM prog w h X ps xs.toList)(e:ps[i]? =some p){P:Prop}(k: ∀v,xs[i]? =some v→VR prog w h X p v→P):P:=by
 obtain⟨v,hv,hp⟩:=x.get e
 exact k v (bF▸hv) hp
theorem VR.mkInt(i:Int)(t:Nat):VR prog w h X (.int i) (.int i t):=by exact .intro t rfl
theorem VR.mkStr(i:Str)(t:Nat):VR prog w h X (.str i) (.str i t):=by exact .intro t rfl
theorem VR.GG(b:Bool):VR prog w h X (.bool b) (.bool b):=rfl
end
section
variable {L:ic}
theorem iq(h:Heap)(o:Obj): ∀b o',h.get? b=some o'→(h.push o).get? b=some o':=fun _ _ e=>aB o e
theorem gI.push{X:List Addr}{s:aq}(i:Inv L s)(x:XO L X s.heap)(o:Obj)(tk:Nat):gI L X s {s with heap:=s.heap.push o,toks:=tk}:=gI.of_keep i x (iq _ _) tk
theorem newList{s:aq}{X:List Addr}{l:List PV}{xs:Array Value}(i:Inv L s)(x:XO L X s.heap)(hl:gM L.prog L.w s.heap X l xs.toList)(tk:Nat):
  VR L.prog L.w ({s with heap:=s.heap.push {cls:= .type "list",data:= .seq xs},toks:=tk}:aq).heap X (.list l) (.ref s.heap.objs.size):=by
 have d:=gI.push i x {cls:= .type "list",data:= .seq xs} tk
 exact .intro _ ⟨xs,0,rfl,x.size,aE _ rfl,gM.up d.up hl⟩
theorem zo{s:aq}{X:List Addr}{l:List PV}{xs:Array Value}(i:Inv L s)(x:XO L X s.heap)(hl:gM L.prog L.w s.heap X l xs.toList)(tk:Nat):
  VR L.prog L.w ({s with heap:=s.heap.push {cls:= .type "tuple",data:= .seq xs},toks:=tk}:aq).heap X (.tup l) (.ref s.heap.objs.size):=by
 have d:=gI.push i x {cls:= .type "tuple",data:= .seq xs} tk
 exact .intro _ ⟨xs,0,rfl,x.size,aE _ rfl,gM.up d.up hl⟩
noncomputable def small(n:Int):Bool:=decide (n.natAbs<2^63)
theorem mK{n:Int}(h:small n=true):aD.Int.intBits n≤64:=by
 have:=of_decide_eq_true h
 exact intBits_le_64 (by omega) (by omega)
noncomputable def kM(g:Int→Int→Option PV):PV→PV→Option PV
 | .int a,.int b=>g a b
 |_,_=>none
theorem qr{g:Int→Int→Option PV}{p q r:PV}(h:kM g p q=some r): ∃a b,p= .int a∧q= .int b∧g a b=some r:=by
 cases p<;>try exact g8 h
 cases q<;>try exact g8 h
 exact⟨_,_,rfl,rfl,h⟩
theorem kA{o:Value→Value→Sem Value}{g:Int→Int→Option PV}(H: ∀{A:aH} {X:List Addr} {s:aq} {a b:Int} {t t':Nat} {r:PV} {Q:Value→aq→Prop} {E:Value→aq→Prop},g a b=some r→XO L X s.heap→Inv L s→
  (∀x s',VR L.prog L.w s'.heap X r x→gI L X s s'→Q x s')→wpAny L.M A (o (.int a t) (.int b t')) Q E s):ni L o (kM g):=by
 intro A X s p q r u v Q E R x I hp hq hg hQ
 obtain⟨a,b,rfl,rfl,h⟩:=qr hg
 obtain⟨t,rfl⟩:=hp.jZ
 obtain⟨t',rfl⟩:=hq.jZ
 exact H h x I hQ
theorem xB{c:Prop}[Decidable c]{α:Type}{x:Option α}{r:α}(h:(if c then x else none)=some r):c∧x=some r:=by
 by_cases hc:c
 ·rw[if_pos hc] at h;exact⟨hc,h⟩
 ·rw[if_neg hc] at h;exact g8 h
theorem jU{c:Prop}[Decidable c]{α:Type}{a r:α}(h:(if c then some a else none)=some r):c∧r=a:=by
 split at h
 ·(first|exact VD h|cases h);exact⟨‹c›,rfl⟩
 ·exact g8 h
theorem kB{α:Type}{a b:α}(h:some a=some b):a=b:=Option.some.inj h
theorem jz{a b:Bool}(h:(a&&b)=true):a=true∧b=true:=by simpa using h
noncomputable def gR:PV→PV→Option PV
 | .int a,.int b=>some (.int (a+b))
 | .str a,.str b=>if a.length+b.length≤100000 then some (.str (a++b)) else none
 | .list a,.list b=>if a.length+b.length≤100000 then some (.list (a++b)) else none
 | .tup a,.tup b=>if a.length+b.length≤100000∧a≠[]∧b≠[] then some (.tup (a++b)) else none
 |_,_=>none
noncomputable def ko(p q:PV):Option PV:=kM (fun a b=>some (.int (a-b))) p q
noncomputable def rt(x:Str)(n:Int):Str:=if n<1 then Str.empty else if (n==1||x.length==0)=true then x else⟨(List.replicate n.toNat x.cps).foldl (· ++ ·) #[]⟩
noncomputable def iA:PV→PV→Option PV
 | .int a,.int b=>if small a||small b then some (.int (a*b)) else none
 | .str a,.int n=>if decide (-1000≤n)&&decide (n≤1000)&&decide (a.length≤1000)&&decide ((rt a n).length≤100000) then some (.str (rt a n)) else none
 | .list a,.int n=>if decide (-1000≤n)&&decide (n≤1000)&&decide (a.length≤1000) then some (.list (List.replicate n.toNat a).flatten) else none
 |_,_=>none
noncomputable def j0(p q:PV):Option PV:=kM (fun a b=>if small b&&b !=0 then some (.int (a.fdiv b)) else none) p q
noncomputable def jn(p q:PV):Option PV:=kM (fun a b=>if b !=0 then some (.int (a.fmod b)) else none) p q
noncomputable def kS(p q:PV):Option PV:=kM (fun a n=>if small a&&decide (0≤n)&&decide (n≤1000) then some (.int (a^n.toNat)) else none) p q
noncomputable def vS(p q:PV):Option PV:=kM (fun a n=>if small a&&decide (0≤n)&&decide (n≤1000) then some (.int (a*2^n.toNat)) else none) p q
noncomputable def ui(p q:PV):Option PV:=kM (fun a b=>some (.int (aD.bitAnd a b))) p q
noncomputable def N5(p q:PV):Option PV:=kM (fun a b=>some (.int (aD.bitOr a b))) p q
noncomputable def MI(p q:PV):Option PV:=kM (fun a b=>some (.int (aD.bitXor a b))) p q
theorem kp:ni L (binaryOp .Sub) ko:=kA fun h x I hQ=>PyProof.Rows.sub_int (hQ _ _ (Option.some.inj h▸VR.mkInt _ _) (gI.toks I x _))
theorem zq:ni L (binaryOp .BitAnd) ui:=kA fun h x I hQ=>PyProof.Rows.and_int (hQ _ _ (Option.some.inj h▸VR.mkInt _ _) (gI.toks I x _))
theorem yC{b:Int}(h:small b=true):b.natAbs.log2<64:=by
 have hb:=mK h
 unfold aD.Int.intBits at hb
 split at hb
 ·rename_i h0;rw[eq_of_beq h0];decide
 ·exact hb
theorem jN:ni L (binaryOp .FloorDiv) j0:=kA fun h x I hQ=>by
 replace h:=jU h
 obtain⟨hc,rfl⟩:=h
 obtain⟨h1,h2⟩:=jz hc
 exact PyProof.Rows.floordiv_int (bne_iff_ne.mp h2) (hQ _ _ (VR.mkInt _ _) (gI.toks I x _)) (.inl (PyProof.noPylong_of_log2 (bq (yC h1) (by decide))))
theorem iV:ni L (binaryOp .Mod) jn:=kA fun h x I hQ=>by
 replace h:=jU h
 obtain⟨hc,rfl⟩:=h
 exact PyProof.Rows.mod_int (bne_iff_ne.mp hc) (hQ _ _ (VR.mkInt _ _) (gI.toks I x _))
theorem oF:ni L (binaryOp .Pow) kS:=kA fun{_ _ _ a n _ _ _ _ _} h x I hQ=>by
 replace h:=jU h
 obtain⟨hc,rfl⟩:=h
 obtain⟨hc,h1⟩:=jz hc
 obtain⟨ha,h0⟩:=jz hc
 refine PyProof.Rows.pow_int (of_decide_eq_true h0) ?_ (hQ _ _ (VR.mkInt _ _) (gI.toks I x _))
 exact Int.le_trans (Int.mul_le_mul (Int.ofNat_le.mpr (mK ha)) (of_decide_eq_true h1) (of_decide_eq_true h0) (by decide)) (by decide)
theorem N6:ni L (binaryOp .LShift) vS:=kA fun h x I hQ=>by
 replace h:=jU h
 obtain⟨hc,rfl⟩:=h
 obtain⟨hc,h1⟩:=jz hc
 obtain⟨ha,h0⟩:=jz hc
 have:=of_decide_eq_true ha
 have h0:=of_decide_eq_true h0
 have h1:=of_decide_eq_true h1
 exact PyProof.Rows.lshift_int_small h0 (by omega) (by omega) (hQ _ _ (VR.mkInt _ _) (gI.toks I x _))
theorem Cu{p q r:PV}{P:Prop}(h:gR p q=some r)(h1: ∀a b,p= .int a→q= .int b→r= .int (a+b)→P)(h2: ∀a b,p= .str a→q= .str b→a.length+b.length≤100000→r= .str (a++b)→P)
  (h3: ∀a b,p= .tup a→q= .tup b→(a.length+b.length≤100000∧a≠[]∧b≠[])→r= .tup (a++b)→P)(h4: ∀a b,p= .list a→q= .list b→a.length+b.length≤100000→r= .list (a++b)→P):P:=by
 cases p<;>try exact g8 h
 ·cases q<;>try exact g8 h
  exact h1 _ _ rfl rfl (Option.some.inj h).symm
 ·cases q<;>try exact g8 h
  exact h2 _ _ rfl rfl (jU h).1 (jU h).2
 ·cases q<;>try exact g8 h
  exact h3 _ _ rfl rfl (jU h).1 (jU h).2
 ·cases q<;>try exact g8 h
  exact h4 _ _ rfl rfl (jU h).1 (jU h).2
theorem gM.size{prog:Program}{w:cL}{h:Heap}{X:List Addr}{ps:List PV}{xs:Array Value}(x:gM prog w h X ps xs.toList):xs.size=ps.length:=by rw[←x.length,aW]
theorem mw{n:Nat}(h:n≤100000):n≤sizeLine:=Nat.le_trans h (by decide)
theorem gM.app{prog:Program}{w:cL}{h:Heap}{X:List Addr}{ps qs:List PV}{xs ys:Array Value}(x:gM prog w h X ps xs.toList)(y:gM prog w h X qs ys.toList):gM prog w h X (ps++qs) (xs++ys).toList:=by rw[Array.toList_append];exact x.append y
theorem gM.ne{prog:Program}{w:cL}{h:Heap}{X:List Addr}{ps:List PV}{xs:Array Value}(x:gM prog w h X ps xs.toList)(hn:ps≠[]): ¬ xs.isEmpty=true:=fun e=>hn (List.length_eq_zero_iff.mp (by rw[←x.size];exact of_decide_eq_true e))
theorem gS:ni L (binaryOp .Add) gR:=by
 intro A X s p q r u v Q E R x I hp hq hg hQ
 refine Cu hg (fun a b e1 e2 e3=> ?_) (fun a b e1 e2 hc e3=> ?_) (fun l m e1 e2 hc e3=> ?_) (fun l m e1 e2 hc e3=> ?_)<;>subst e1 e2 e3
 ·obtain⟨t,rfl⟩:=hp.jZ
  obtain⟨t',rfl⟩:=hq.jZ
  exact gi (hQ _ _ (VR.mkInt _ _) (gI.toks I x _))
 ·obtain⟨t,rfl⟩:=hp.ll
  obtain⟨t',rfl⟩:=hq.ll
  exact PyProof.Rows.add_str (fun t' tk=>hQ _ _ (VR.mkStr _ _) (gI.toks I x _)) (mw hc)
 ·obtain⟨a,xs,n,rfl,ha,ho,hl⟩:=hp.lY
  obtain⟨b,ys,n',rfl,hb,lp,jA⟩:=hq.lY
  exact P.add_tuple ho lp (hl.ne hc.2.1) (jA.ne hc.2.2) (hQ _ _ (zo I x (hl.app jA) _) (gI.push I x _ _)) (by rw[hl.size,jA.size];exact mw hc.1)
 ·obtain⟨a,xs,n,rfl,ha,ho,hl⟩:=hp.listE
  obtain⟨b,ys,n',rfl,hb,lp,jA⟩:=hq.listE
  exact P.add_list ho lp (hQ _ _ (newList I x (hl.app jA) _) (gI.push I x _ _)) (by rw[hl.size,jA.size];exact mw hc)
end
end
section
open PySem
theorem gM.J7{prog:Program}{w:cL}{h:Heap}{X:List Addr}{ps:List PV}{vs:List Value}(hl:gM prog w h X ps vs): ∀n:Nat,gM prog w h X (List.replicate n ps).flatten (List.replicate n vs).flatten:=by
 intro n
 induction n with
 |zero=>exact gM.nil
 |succ n hV=>exact by simpa[List.replicate_succ] using hl.append (hV)
section
variable {L:ic}
theorem DH{p q r:PV}(h:iA p q=some r):(∃a,p= .int a)∨(∃a,p= .str a)∨(∃a,p= .list a):=by
 cases p<;>try exact g8 h
 ·exact .inl ⟨_,rfl⟩
 ·exact .inr (.inl ⟨_,rfl⟩)
 ·exact .inr (.inr ⟨_,rfl⟩)
theorem GH{p q r:PV}(h:iA p q=some r): ∃b,q= .int b:=by
 rcases DH h with⟨a,rfl⟩|⟨a,rfl⟩|⟨a,rfl⟩<;>(cases q<;>first|exact⟨_,rfl⟩|exact g8 h)
theorem GI{n:Int}(h0:decide (-1000≤n)=true)(h1:decide (n≤1000)=true):(decide (n< -(2^63))||decide (n≥2^63))=false:=by
 have h0:=of_decide_eq_true h0
 have h1:=of_decide_eq_true h1
 rw[decide_eq_false (fun h=>absurd (Int.le_trans h0 (Int.le_of_lt h)) (by decide)),decide_eq_false (fun h=>absurd (Int.le_trans h h1) (by decide))];rfl
theorem yD{k:Nat}{n:Int}(hk:k≤1000)(hn:decide (n≤1000)=true):k*n.toNat≤1000000:=Nat.mul_le_mul hk (Int.toNat_le.mpr (of_decide_eq_true hn))
theorem jd:ni L (binaryOp .Mult) iA:=by
 intro A X s p q r u v Q E R x I hp hq hg hQ
 obtain⟨n,rfl⟩:=GH hg
 obtain⟨t',rfl⟩:=hq.jZ
 rcases DH hg with⟨a,rfl⟩|⟨a,rfl⟩|⟨a,rfl⟩
 ·replace hg:=jU hg
  obtain⟨hc,rfl⟩:=hg
  obtain⟨t,rfl⟩:=hp.jZ
  exact PyProof.Rows.mul_int (hQ _ _ (VR.mkInt _ _) (gI.toks I x _)) ((Bool.or_eq_true_iff.mp hc).elim (fun h=>IntMulOk.of_left (mK h)) fun h=>IntMulOk.of_right (mK h))
 ·replace hg:=jU hg
  obtain⟨hc,rfl⟩:=hg
  obtain⟨hc,h3⟩:=jz hc
  obtain⟨hc,h2⟩:=jz hc
  obtain⟨h0,h1⟩:=jz hc
  obtain⟨t,rfl⟩:=hp.ll
  have hr:=yD (of_decide_eq_true h2) h1
  refine P.mul_str (GI h0 h1) (fun g1 _ hgt=> ?_) (fun g1 _=> ?_) ?_
  ·have h1:=of_decide_eq_true h1
   have h2:=of_decide_eq_true h2
   have h4:=(Int.ediv_lt_iff_lt_mul (by omega:(0:Int)<n)).mp hgt
   have:(a.length:Int)*n≤1000*1000:=Int.mul_le_mul (Int.ofNat_le.mpr h2) h1 (by omega) (by decide)
   omega
  ·exact decide_eq_false (Nat.not_lt.mpr (Nat.le_trans hr (by decide)))
  ·have h3:=mw (of_decide_eq_true h3)
   have fin:Q (.str (rt a n) s.toks) {s with toks:=s.toks+1}:=hQ _ _ (VR.mkStr _ _) (gI.toks I x _)
   have J8:Q (.str (rt a n) t) s:=hQ _ _ (VR.mkStr _ _) (gI.refl I x)
   unfold rt at fin J8 h3
   split
   ·rw[if_pos ‹_›] at fin
    exact⟨by decide,fin⟩
   ·rw[if_neg ‹_›] at fin J8 h3
    split
    ·rw[if_pos ‹_›] at J8
     exact J8
    ·rw[if_neg ‹_›] at fin h3
     exact⟨h3,fin⟩
 ·replace hg:=jU hg
  obtain⟨hc,rfl⟩:=hg
  obtain⟨hc,h2⟩:=jz hc
  obtain⟨h0,h1⟩:=jz hc
  obtain⟨b,xs,m,rfl,ha,ho,hl⟩:=hp.listE
  have hsz:xs.size*n.toNat≤1000000:=yD (hl.size▸of_decide_eq_true h2) h1
  have h0:=of_decide_eq_true h0
  have h1:=of_decide_eq_true h1
  refine wpAny_binaryOp_repeat_ref (T:="list") (U:="int") (by decide) ⟨_,ho,rfl⟩ (fun s'=>typeIs_int s' n t') noFill_list_mul F.fills_int_mul F.slot_int_rmul repeat_list F.slot_int_index.lookup
   (dQ F.slot_int_rmul (typeIs_int s n t') F.entry_int_rmul (F.args_int_rmul_2 _ _) (int___rmul___int_list n t' b xs m)
    ⟨ho,rfl,⟨_,ho,rfl⟩,dQ F.slot_list_mul ⟨_,ho,rfl⟩ F.entry_list_mul (F.args_list_mul_2 _ _)
     (AutoListH.list___mul___list_int_3 b xs m n t' (by simp[aD.List.listFitsIndex];omega) (by omega) (by simp[aD.List.listTooLong,sizeLine];omega))
     ⟨ho,?_⟩⟩)
  refine hQ _ _ (newList I x (l:=(List.replicate n.toNat a).flatten) ?_ _) (gI.push I x _ _)
  rw[PyProof.Rows.listMul_foldl_if]
  exact gM.J7 hl n.toNat
noncomputable def vU:PV→Option PV
 | .int a=>some (.int (-a))
 |_=>none
noncomputable def QI(L:ic)(t:Value→Sem Value)(g:PV→Option PV):Prop:=
 ∀(A:aH) (X:List Addr) (s:aq) (p r:PV) (u:Value) (Q:Value→aq→Prop) (E:Value→aq→Prop),
  iU L 0 A→XO L X s.heap→Inv L s→VR L.prog L.w s.heap X p u→g p=some r→
  (∀x s',VR L.prog L.w s'.heap X r x→gI L X s s'→Q x s')→wpAny L.M A (t u) Q E s
theorem GJ:QI L (unaryOp .USub) vU:=by
 intro A X s p r u Q E R x I hp hg hQ
 cases p<;>try exact g8 hg
 skip;(first|exact VD hg|cases hg)
 obtain⟨t,rfl⟩:=hp.jZ
 exact PyProof.Rows.neg_int (hQ _ _ (VR.mkInt _ _) (gI.toks I x _))
noncomputable def GK(p q:PV):Option PV:=kM (fun a b=>some (.bool (decide (a<b)))) p q
noncomputable def J9(p q:PV):Option PV:=kM (fun a b=>some (.bool (decide (b<a)))) p q
theorem DI:ni L (compareOp .Lt) GK:=kA fun h x I hQ=>PyProof.Rows.lt_int (hQ _ _ (Option.some.inj h▸VR.GG _) (gI.refl I x))
theorem MJ:ni L (compareOp .Gt) J9:=kA fun h x I hQ=>PyProof.Rows.gt_int (hQ _ _ (Option.some.inj h▸VR.GG _) (gI.refl I x))
end
end
section
open PySem PySem.SeqAt PySem.MeetsSeq PySem.MeetsSeq2 PySem.MeetsSeq3 PySem.SeqRoads2
open PySem.AutoSeq1 (wpAny_loadPart')
noncomputable def AG(L:ic)(A:aH)(s:aq)(y x:Value)(b:Bool):Prop:=
 ∀(E:Value→aq→Prop) (Q:Bool→aq→Prop),Q b s→wpAny L.M A (eqBool y x) Q E s
theorem AG.of{L:ic}{A:aH}{s:aq}{y x:Value}{b:Bool}(h:EqAt A s y x b):AG L A s y x b:=fun E Q hq=>h L.prog L.w E Q hq
noncomputable abbrev jB(L:ic)(A:aH)(t:Sem Fin)(R:fx→aq→Prop)(s:aq):Prop:=
 wpAny L.M A.in1 t (fun fin s'=>match fin with| .done f=>R (.ok f) s'| .again c'=>c'.quiet=true∧codeAny L.M A c' R s') (fun e s'=>R (.error e) s') s
section
variable {L:ic} {A:aH} {R:fx→aq→Prop}
theorem AR{l b:Addr}{xs ys:Array Value}{n n2:Nat}{e:Nat→Bool}(hsz:xs.size=ys.size)(k:Nat): ∀(i:Nat) (s:aq),xs.size-i=k→
  s.heap.get? l=some {cls:= .type "list",data:= .seq xs n}→s.heap.get? b=some {cls:= .type "list",data:= .seq ys n2}→
  (∀j (h1:j<xs.size) (h2:j<ys.size),AG L A.in1 s xs[j] ys[j] (e j))→R (.ok (.ret (.bool (((List.range xs.size).drop i).all e)))) s→
  jB L A (aD.«list.__eq__.loop» ⟨[.ref l,.ref b,rawInt i,rawInt 2],[]⟩) R s:=by
 induction k with
 |zero=>
  intro i s hk hl hb he h
  obtain⟨hp,g,d,tk,os⟩:=s
  unfold jB
  wp_walk using wpAny_loadPart' hl,wpAny_loadPart' hb
  have le:xs.size≤i:=Nat.le_of_sub_eq_zero hk
  have a1:xs[((i:Nat):Int).toNat]? =none:=aR le
  have a2:ys[((i:Nat):Int).toNat]? =none:=aR (Nat.le_trans (bt hsz.symm) le)
  have a3:(List.range xs.size).drop i=[]:=bV (by rw[cT];exact le)
  rw[a3] at h
  rw[a1,a2]
  wp_walk using wpAny_loadPart' hl,wpAny_loadPart' hb
  show R (.ok (.ret (.bool (xs.size==ys.size)))) _
  rw[hsz]
  simpa using h
 |succ k ih=>
  intro i s hk hl hb he h
  obtain⟨hp,g,d,tk,os⟩:=s
  unfold jB
  wp_walk using wpAny_loadPart' hl,wpAny_loadPart' hb
  have b1:i<xs.size:=Nat.lt_of_sub_eq_succ hk
  have b2:i<ys.size:=bQ b1 hsz
  have a1:xs[((i:Nat):Int).toNat]? =some xs[i]:=cA b1
  have a2:ys[((i:Nat):Int).toNat]? =some ys[i]:=cA b2
  have a3:(List.range xs.size).drop i=i::(List.range xs.size).drop (i+1):=(aK (bQ b1 List.length_range.symm)).trans (congrArg (· ::_) (cu _))
  have a4:((i:Int)+1)=((i+1:Nat):Int):=by push_cast;rfl
  rw[a3,dF] at h
  rw[a1,a2]
  refine ao (he i b1 b2 _ _ ?_)
  cases xC:e i with
  |true=>
   rw[xC] at h
   wp_walk
   rw[a4]
   exact⟨bz plain_eq_loop _,ba entry_eq_loop (by
    rw[aM plain_eq_loop _]
    exact ih (i+1) _ (congrArg Nat.pred hk) hl hb he (by simpa using h))⟩
  |false=>
   rw[xC] at h
   wp_walk using wpAny_loadPart' hl,wpAny_loadPart' hb
   rw[a1,a2]
   wp_walk
   simpa using h
theorem AU{l b:Addr}{xs ys:Array Value}{n n2:Nat}{e:Nat→Bool}(hsz:xs.size=ys.size)(k:Nat): ∀(i:Nat) (s:aq),xs.size-i=k→
  s.heap.get? l=some {cls:= .type "list",data:= .seq xs n}→s.heap.get? b=some {cls:= .type "list",data:= .seq ys n2}→
  (∀j (h1:j<xs.size) (h2:j<ys.size),AG L A.in1 s xs[j] ys[j] (e j))→R (.ok (.ret (.bool (!((List.range xs.size).drop i).all e)))) s→
  jB L A (aD.«list.__eq__.loop» ⟨[.ref l,.ref b,rawInt i,rawInt 3],[]⟩) R s:=by
 induction k with
 |zero=>
  intro i s hk hl hb he h
  obtain⟨hp,g,d,tk,os⟩:=s
  unfold jB
  wp_walk using wpAny_loadPart' hl,wpAny_loadPart' hb
  have le:xs.size≤i:=Nat.le_of_sub_eq_zero hk
  have a1:xs[((i:Nat):Int).toNat]? =none:=aR le
  have a2:ys[((i:Nat):Int).toNat]? =none:=aR (Nat.le_trans (bt hsz.symm) le)
  have a3:(List.range xs.size).drop i=[]:=bV (by rw[cT];exact le)
  rw[a3] at h
  rw[a1,a2]
  wp_walk using wpAny_loadPart' hl,wpAny_loadPart' hb
  show R (.ok (.ret (.bool (xs.size !=ys.size)))) _
  rw[hsz]
  simpa using h
 |succ k ih=>
  intro i s hk hl hb he h
  obtain⟨hp,g,d,tk,os⟩:=s
  unfold jB
  wp_walk using wpAny_loadPart' hl,wpAny_loadPart' hb
  have b1:i<xs.size:=Nat.lt_of_sub_eq_succ hk
  have b2:i<ys.size:=bQ b1 hsz
  have a1:xs[((i:Nat):Int).toNat]? =some xs[i]:=cA b1
  have a2:ys[((i:Nat):Int).toNat]? =some ys[i]:=cA b2
  have a3:(List.range xs.size).drop i=i::(List.range xs.size).drop (i+1):=(aK (bQ b1 List.length_range.symm)).trans (congrArg (· ::_) (cu _))
  have a4:((i:Int)+1)=((i+1:Nat):Int):=by push_cast;rfl
  rw[a3,dF] at h
  rw[a1,a2]
  refine ao (he i b1 b2 _ _ ?_)
  cases xC:e i with
  |true=>
   rw[xC] at h
   wp_walk
   rw[a4]
   exact⟨bz plain_eq_loop _,ba entry_eq_loop (by
    rw[aM plain_eq_loop _]
    exact ih (i+1) _ (congrArg Nat.pred hk) hl hb he (by simpa using h))⟩
  |false=>
   rw[xC] at h
   wp_walk using wpAny_loadPart' hl,wpAny_loadPart' hb
   rw[a1,a2]
   wp_walk
   simpa using h
theorem lq{T id:String}{name:Str}{B:aD}{u v:Value}{s:aq}{Q E:Value→aq→Prop}(slot:Slot T name id)(hT:s.TypeIs u T)
  (entry:entryFor table id=some B)(args:argsOk id ⟨[u,v],[]⟩)(h:jB L A (B ⟨[u,v],[]⟩) (wants Q E) s):wpAny L.M A (call (.builtin id) [u,v]) Q E s:=
 fZ (codeAny_call_builtin slot.plain entry (slot.check _ _ _ _ _ _ _ _ hT args h))
theorem AG.refs{l b:Addr}{s:aq}{k:Bool}(iS:l≠b)(h: ∀(E Q:Value→aq→Prop),Q (.bool k) s→wpAny L.M A (richCompare .Eq (.ref l) (.ref b)) Q E s):AG L A s (.ref l) (.ref b) k:=fun E Q hq=>by
 unfold eqBool
 refine aX ?_
 refine wpAny_ite_split (fun Ct=>absurd (by have:=eq_of_beq Ct;injection this) iS) (fun _=> ?_)
 exact ao (h E _ (eB hq))
variable {s:aq} {E Q:Value→aq→Prop} {l b:Addr} {xs ys:Array Value} {n n2:Nat} {e:Nat→Bool}
theorem AV(hl:s.heap.get? l=some {cls:= .type "list",data:= .seq xs n})(hb:s.heap.get? b=some {cls:= .type "list",data:= .seq ys n2})(hsz:xs.size=ys.size)(hu:A.units<cLine)
  (he: ∀j (h1:j<xs.size) (h2:j<ys.size),AG L A.in1 s xs[j] ys[j] (e j))(h:Q (.bool ((List.range xs.size).all e)) s):wpAny L.M A (richCompare .Eq (.ref l) (.ref b)) Q E s:=by
 refine bU (op:= .Eq) ⟨_,hl,rfl⟩ ⟨_,hb,rfl⟩ F.slot_list_eq (lq F.slot_list_eq ⟨_,hl,rfl⟩ F.entry_list_eq (F.args_list_eq_2 _ _) ?_) hu
 obtain⟨hp,g,d,tk,os⟩:=s
 have f3:=AutoSeq1.sub_list_list
 have iS: ¬ (xs.size !=ys.size)=true:=by simp[hsz]
 unfold jB
 wp_walk using wpAny_loadPart' hl,wpAny_loadPart' hb
 exact⟨bz plain_eq_loop _,ba entry_eq_loop (by
  rw[aM plain_eq_loop _]
  exact AR hsz _ 0 _ rfl hl hb he ⟨(fun x=>nomatch x),by simpa using h⟩)⟩
theorem GL(hl:s.heap.get? l=some {cls:= .type "list",data:= .seq xs n})(hb:s.heap.get? b=some {cls:= .type "list",data:= .seq ys n2})(hsz:xs.size=ys.size)(hu:A.units<cLine)
  (he: ∀j (h1:j<xs.size) (h2:j<ys.size),AG L A.in1 s xs[j] ys[j] (e j))(h:Q (.bool (!(List.range xs.size).all e)) s):wpAny L.M A (richCompare .NotEq (.ref l) (.ref b)) Q E s:=by
 refine bU (op:= .NotEq) ⟨_,hl,rfl⟩ ⟨_,hb,rfl⟩ F.slot_list_ne (lq F.slot_list_ne ⟨_,hl,rfl⟩ F.entry_list_ne (F.args_list_ne_2 _ _) ?_) hu
 obtain⟨hp,g,d,tk,os⟩:=s
 have f3:=AutoSeq1.sub_list_list
 have iS: ¬ (xs.size !=ys.size)=true:=by simp[hsz]
 unfold jB
 wp_walk using wpAny_loadPart' hl,wpAny_loadPart' hb
 exact⟨bz plain_eq_loop _,ba entry_eq_loop (by
  rw[aM plain_eq_loop _]
  exact AU hsz _ 0 _ rfl hl hb he ⟨(fun x=>nomatch x),by simpa using h⟩)⟩
theorem yE(hl:s.heap.get? l=some {cls:= .type "tuple",data:= .seq xs n})(hb:s.heap.get? b=some {cls:= .type "tuple",data:= .seq ys n2})(hu:A.units<cLine)
  (he: ∀j (h1:j<xs.size) (h2:j<ys.size),AG L A.in1 s xs[j] ys[j] (e j))(h:Q (.bool ((List.range (min xs.size ys.size)).all e&&xs.size==ys.size)) s):wpAny L.M A (richCompare .Eq (.ref l) (.ref b)) Q E s:=by
 refine bU (op:= .Eq) ⟨_,hl,rfl⟩ ⟨_,hb,rfl⟩ F.slot_tuple_eq (lq F.slot_tuple_eq ⟨_,hl,rfl⟩ F.entry_tuple_eq (F.args_tuple_eq_2 _ _) ?_) hu
 obtain⟨hp,g,d,tk,os⟩:=s
 have f2:=AutoSeq1.sub_tuple_tuple
 have hZ:(xs.toList.zip ys.toList).length=min xs.size ys.size:=by simp
 unfold jB
 wp_walk using wpAny_loadPart' hl,wpAny_loadPart' hb,wpAny_forIn_list _ (fun rest b s'=>b.1=none∧s'=⟨hp,g,d,tk,os⟩∧ ∃i,rest=(xs.toList.zip ys.toList).drop i∧
  Q (.bool (((List.range (min xs.size ys.size)).drop i).all e&&xs.size==ys.size)) ⟨hp,g,d,tk,os⟩) _
 case turn=>
  rintro⟨y,x⟩ rest b s' ⟨xC,rfl,i,hz,hR⟩
  have kl:i<(xs.toList.zip ys.toList).length:=by
   rcases ck i (xs.toList.zip ys.toList).length with h'|h'
   ·exact h'
   ·rw[dz h'] at hz;(first|exact VD hz|cases hz)
  have hm:i<min xs.size ys.size:=hZ▸kl
  have h1:i<xs.size:=bq hm (Nat.min_le_left ..)
  have h2:i<ys.size:=bq hm (ez ..)
  rw[aK kl] at hz
  injection hz with QJ vV
  have hy:y=xs[i]:=congrArg Prod.fst (QJ.trans ee)
  have hx:x=ys[i]:=congrArg Prod.snd (QJ.trans ee)
  subst hy hx
  have hd:(List.range (min xs.size ys.size)).drop i=i::(List.range (min xs.size ys.size)).drop (i+1):=(aK (bQ hm List.length_range.symm)).trans (congrArg (· ::_) (cu _))
  rw[hd,dF] at hR
  refine ao (he i h1 h2 _ _ ?_)
  cases hy:e i with
  |true=>
   rw[hy] at hR
   wp_walk
   exact⟨rfl,rfl,i+1,vV,by simpa using hR⟩
  |false=>
   rw[hy] at hR
   wp_walk
   exact⟨(fun x=>nomatch x),by simpa using hR⟩
 case fin=>
  rintro⟨b1,b2⟩ s' ⟨xC,rfl,i,hz,hR⟩
  simp only at xC
  subst xC
  have QK:min xs.size ys.size≤i:=by
   rcases ck i (xs.toList.zip ys.toList).length with h'|h'
   ·rw[aK h'] at hz;(first|exact VD hz|cases hz)
   ·exact hZ▸h'
  rw[dz (by simpa using QK)] at hR
  wp_walk
  exact⟨(fun x=>nomatch x),by simpa[aD.Tuple.tupleCompareSizes] using hR⟩
 case h=>
  exact⟨rfl,rfl,0,rfl,by simpa using h⟩
theorem EH(hl:s.heap.get? l=some {cls:= .type "tuple",data:= .seq xs n})(hb:s.heap.get? b=some {cls:= .type "tuple",data:= .seq ys n2})(hu:A.units<cLine)
  (he: ∀j (h1:j<xs.size) (h2:j<ys.size),AG L A.in1 s xs[j] ys[j] (e j))(h:Q (.bool (!((List.range (min xs.size ys.size)).all e&&xs.size==ys.size))) s):wpAny L.M A (richCompare .NotEq (.ref l) (.ref b)) Q E s:=by
 refine bU (op:= .NotEq) ⟨_,hl,rfl⟩ ⟨_,hb,rfl⟩ F.slot_tuple_ne (lq F.slot_tuple_ne ⟨_,hl,rfl⟩ F.entry_tuple_ne (F.args_tuple_ne_2 _ _) ?_) hu
 obtain⟨hp,g,d,tk,os⟩:=s
 have f2:=AutoSeq1.sub_tuple_tuple
 have hZ:(xs.toList.zip ys.toList).length=min xs.size ys.size:=by simp
 unfold jB
 wp_walk using wpAny_loadPart' hl,wpAny_loadPart' hb,wpAny_forIn_list _ (fun rest b s'=>b.1=none∧s'=⟨hp,g,d,tk,os⟩∧ ∃i,rest=(xs.toList.zip ys.toList).drop i∧
  Q (.bool (!(((List.range (min xs.size ys.size)).drop i).all e&&xs.size==ys.size))) ⟨hp,g,d,tk,os⟩) _
 case turn=>
  rintro⟨y,x⟩ rest b s' ⟨xC,rfl,i,hz,hR⟩
  have kl:i<(xs.toList.zip ys.toList).length:=by
   rcases ck i (xs.toList.zip ys.toList).length with h'|h'
   ·exact h'
   ·rw[dz h'] at hz;(first|exact VD hz|cases hz)
  have hm:i<min xs.size ys.size:=hZ▸kl
  have h1:i<xs.size:=bq hm (Nat.min_le_left ..)
  have h2:i<ys.size:=bq hm (ez ..)
  rw[aK kl] at hz
  injection hz with QJ vV
  have hy:y=xs[i]:=congrArg Prod.fst (QJ.trans ee)
  have hx:x=ys[i]:=congrArg Prod.snd (QJ.trans ee)
  subst hy hx
  have hd:(List.range (min xs.size ys.size)).drop i=i::(List.range (min xs.size ys.size)).drop (i+1):=(aK (bQ hm List.length_range.symm)).trans (congrArg (· ::_) (cu _))
  rw[hd,dF] at hR
  refine ao (he i h1 h2 _ _ ?_)
  cases hy:e i with
  |true=>
   rw[hy] at hR
   wp_walk
   exact⟨rfl,rfl,i+1,vV,by simpa using hR⟩
  |false=>
   rw[hy] at hR
   wp_walk
   exact⟨(fun x=>nomatch x),by simpa using hR⟩
 case fin=>
  rintro⟨b1,b2⟩ s' ⟨xC,rfl,i,hz,hR⟩
  simp only at xC
  subst xC
  have QK:min xs.size ys.size≤i:=by
   rcases ck i (xs.toList.zip ys.toList).length with h'|h'
   ·rw[aK h'] at hz;(first|exact VD hz|cases hz)
   ·exact hZ▸h'
  rw[dz (by simpa using QK)] at hR
  wp_walk
  exact⟨(fun x=>nomatch x),by simpa[aD.Tuple.tupleCompareSizes,bne] using hR⟩
 case h=>
  exact⟨rfl,rfl,0,rfl,by simpa using h⟩
end
end
section
open PySem PySem.SeqAt
noncomputable def pR(f:PV→PV→Option Bool):List PV→List PV→Option Bool
 |[],[]=>some true
 |p::ps,q::qs=>(f p q).bind fun a=>(pR f ps qs).map (a&& ·)
 |_,_=>none
noncomputable def qN:Nat→PV→PV→Option Bool
 |_,.bool a,.bool b=>some (a==b)
 |_,.int a,.int b=>some (a==b)
 |_,.str a,.str b=>some (a==b)
 |n+1,.tup l,.tup m=>pR (qN n) l m
 |n+1,.list l,.list m=>pR (qN n) l m
 |_,_,_=>none
inductive Qp:Nat→PV→PV→Bool→Prop
 |bool {n} (a b):Qp n (.bool a) (.bool b) (a==b)
 |int {n} (a b):Qp n (.int a) (.int b) (a==b)
 |str {n} (a b):Qp n (.str a) (.str b) (a==b)
 |tup {n l m b}:pR (qN n) l m=some b→Qp (n+1) (.tup l) (.tup m) b
 |list {n l m b}:pR (qN n) l m=some b→Qp (n+1) (.list l) (.list m) b
theorem zr{n:Nat}{p q:PV}{b:Bool}(h:qN n p q=some b):Qp n p q b:=by
 cases n<;>cases p<;>try exact g8 h
 all_goals (cases q<;>try exact g8 h)
 all_goals first
  |((first|exact VD h|cases h);constructor;done)
  |(constructor;exact h)
theorem zt{f:PV→PV→Option Bool}{m:List PV}{b:Bool}(h:pR f [] m=some b):m=[]∧b=true:=by
 cases m with
 |nil=>exact⟨rfl,(Option.some.inj h).symm⟩
 |cons _ _=>exact g8 h
theorem vW{f:PV→PV→Option Bool}{p:PV}{ps m:List PV}{b:Bool}(h:pR f (p::ps) m=some b): ∃q qs a c,m=q::qs∧f p q=some a∧pR f ps qs=some c∧b=(a&&c):=by
 cases m with
 |nil=>exact g8 h
 |cons q qs=>
  replace h:=Option.bind_eq_some_iff.mp h
  obtain⟨a,ha,h⟩:=h
  replace h:=Option.map_eq_some_iff.mp h
  obtain⟨c,hc,h⟩:=h
  exact⟨q,qs,a,c,rfl,ha,hc,h.symm⟩
theorem nr{f:PV→PV→Option Bool}: ∀{l m:List PV} {b:Bool},pR f l m=some b→
  l.length=m.length∧ ∃e:Nat→Bool,(∀j p q,l[j]? =some p→m[j]? =some q→f p q=some (e j))∧b=(List.range l.length).all e:=by
 intro l
 induction l with
 |nil=>
  intro _ _ h
  obtain⟨rfl,rfl⟩:=zt h
  exact⟨rfl,fun _=>true,fun _ _ _ h=>g8 h,rfl⟩
 |cons p ps hV=>
  intro _ _ h
  obtain⟨q,qs,a,c,rfl,ha,hc,rfl⟩:=vW h
  obtain⟨hl,e,he,rfl⟩:=hV hc
  refine⟨congrArg (· +1) hl,fun j=>j.casesOn a e,fun j p' q' h1 h2=> ?_,?_⟩
  ·cases j with
   |zero=>exact Option.some.inj h1▸Option.some.inj h2▸ha
   |succ j=>exact he j _ _ h1 h2
  ·rw[aY,List.range_succ_eq_map,dF,List.all_map]
   rfl
section
variable {L:ic} {X:List Addr}
theorem vX{h:Heap}{f:PV→PV→Option Bool}(hf: ∀p q v b,VR L.prog L.w h X p v→VR L.prog L.w h X q v→f p q=some b→b=true):
  ∀{l m:List PV} {vs:List Value} {b:Bool},gM L.prog L.w h X l vs→gM L.prog L.w h X m vs→pR f l m=some b→b=true:=by
 intro l
 induction l with
 |nil=>exact @fun _ _ _ _ _ h=>(zt h).2
 |cons p ps hV=>
  intro _ _ _ x y h
  obtain⟨q,qs,a,c,rfl,ha,hc,rfl⟩:=vW h
  obtain⟨v,r,rfl,hv,hr⟩:=x.inv
  obtain⟨v',r',e,oD,AH⟩:=y.inv
  skip;(first|exact VD e|cases e)
  rw[hf p q v a hv oD ha,hV hr AH hc];rfl
theorem gM.pS{h:Heap}{l:List PV}{xs:Array Value}(x:gM L.prog L.w h X l xs.toList){j:Nat}(hj:j<xs.size): ∃p,l[j]? =some p∧VR L.prog L.w h X p xs[j]:=by
 have ZG:j<l.length:=x.size▸hj
 obtain⟨v,hv,r⟩:=x.get (aG ZG)
 rw[bF,cA hj] at hv
 exact⟨l[j],aG ZG,Option.some.inj hv▸r⟩
theorem lS{h:Heap}{f:PV→PV→Option Bool}(hf: ∀p q v b,VR L.prog L.w h X p v→VR L.prog L.w h X q v→f p q=some b→b=true){c:Value}{a:Addr}{xs ys:Array Value}{n k:Nat}{l m:List PV}{b:Bool}
  (h1:h.get? a=some {cls:=c,data:= .seq xs n})(h2:h.get? a=some {cls:=c,data:= .seq ys k})(x:gM L.prog L.w h X l xs.toList)(y:gM L.prog L.w h X m ys.toList)(he:pR f l m=some b):b=true:=by
 rw[h1] at h2
 skip;(first|exact VD h2|cases h2)
 exact vX hf x y he
theorem nY{h:Heap}: ∀n p q v b,VR L.prog L.w h X p v→VR L.prog L.w h X q v→qN n p q=some b→b=true:=by
 intro n
 induction n with
 |zero=>
  intro p q v b hp hq h
  cases zr h with
  |bool=>rw[hp.pQ] at hq;cases hq.pQ;exact beq_self_eq_true _
  |int=>obtain⟨t,rfl⟩:=hp.jZ;obtain⟨t',e⟩:=hq.jZ;(first|exact VD e|cases e);exact beq_self_eq_true _
  |str=>obtain⟨t,rfl⟩:=hp.ll;obtain⟨t',e⟩:=hq.ll;(first|exact VD e|cases e);exact beq_self_eq_true _
 |succ n ih=>
  intro p q v b hp hq h
  cases zr h with
  |bool=>rw[hp.pQ] at hq;cases hq.pQ;exact beq_self_eq_true _
  |int=>obtain⟨t,rfl⟩:=hp.jZ;obtain⟨t',e⟩:=hq.jZ;(first|exact VD e|cases e);exact beq_self_eq_true _
  |str=>obtain⟨t,rfl⟩:=hp.ll;obtain⟨t',e⟩:=hq.ll;(first|exact VD e|cases e);exact beq_self_eq_true _
  |tup h=>
   obtain⟨a,xs,k,rfl,_,ho,hl⟩:=hp.lY
   obtain⟨a',ru,k',e,_,lp,jA⟩:=hq.lY
   skip;(first|exact VD e|cases e)
   exact lS ih ho lp hl jA h
  |list h=>
   obtain⟨a,xs,k,rfl,_,ho,hl⟩:=hp.listE
   obtain⟨a',ru,k',e,_,lp,jA⟩:=hq.listE
   skip;(first|exact VD e|cases e)
   exact lS ih ho lp hl jA h
theorem lT{h:Heap}{xs ys:Array Value}{l m:List PV}(x:gM L.prog L.w h X l xs.toList)(y:gM L.prog L.w h X m ys.toList)(e:l.length=m.length):xs.size=ys.size:=by rw[x.size,y.size,e]
theorem zu: ∀(n:Nat) (A:aH) (s:aq) (p q:PV) (v u:Value) (b:Bool),VR L.prog L.w s.heap X p v→VR L.prog L.w s.heap X q u→qN n p q=some b→A.units+n<cLine→EqAt A s v u b:=by
 intro n
 induction n with
 |zero=>
  intro A s p q v u b hp hq h hu
  cases zr h with
  |bool=>rw[hp.pQ,hq.pQ];exact EqAt.bool_bool _ _
  |int=>obtain⟨t,rfl⟩:=hp.jZ;obtain⟨t',rfl⟩:=hq.jZ;exact EqAt.int_int _ _ _ _
  |str=>obtain⟨t,rfl⟩:=hp.ll;obtain⟨t',rfl⟩:=hq.ll;exact EqAt.str_str _ _ _ _
 |succ n ih=>
  intro A s p q v u b hp hq h hu
  have vE:A.in1.units+n<cLine:=bR (bt (dr ..)) hu
  have Cv:A.units<cLine:=bR (c7 ..) hu
  cases zr h with
  |bool=>rw[hp.pQ,hq.pQ];exact EqAt.bool_bool _ _
  |int=>obtain⟨t,rfl⟩:=hp.jZ;obtain⟨t',rfl⟩:=hq.jZ;exact EqAt.int_int _ _ _ _
  |str=>obtain⟨t,rfl⟩:=hp.ll;obtain⟨t',rfl⟩:=hq.ll;exact EqAt.str_str _ _ _ _
  |tup h=>
   obtain⟨a,xs,k,rfl,ha,ho,hl⟩:=hp.lY
   obtain⟨a',ru,k',rfl,xE,lp,jA⟩:=hq.lY
   by_cases e:a=a'
   ·subst e
    exact lS (nY n) ho lp hl jA h▸EqAt.same _
   ·obtain⟨hJ,ev,Cw,rfl⟩:=nr h
    have hs:=lT hl jA hJ
    have:=RcAt.tuples (A:=A) (s:=s) (e:=ev) (⟨_,ho,rfl,_,rfl⟩:s.heap.IsTuple a xs) (⟨_,lp,rfl,_,rfl⟩:s.heap.IsTuple a' ru) Cv fun j h1 h2=>by
     obtain⟨p',xD,r⟩:=hl.pS h1
     obtain⟨q',Cx,r'⟩:=jA.pS h2
     exact ih _ _ _ _ _ _ _ r r' (Cw j _ _ xD Cx) vE
    rw[←hs,eH,beq_self_eq_true,dG,hl.size] at this
    exact EqAt.of_refs e this
  |list h=>
   obtain⟨a,xs,k,rfl,ha,ho,hl⟩:=hp.listE
   obtain⟨a',ru,k',rfl,xE,lp,jA⟩:=hq.listE
   by_cases e:a=a'
   ·subst e
    exact lS (nY n) ho lp hl jA h▸EqAt.same _
   ·obtain⟨hJ,ev,Cw,rfl⟩:=nr h
    have:=RcAt.lists (A:=A) (s:=s) (e:=ev) (⟨_,ho,rfl,_,rfl⟩:s.heap.IsList a xs) (⟨_,lp,rfl,_,rfl⟩:s.heap.IsList a' ru) (lT hl jA hJ) Cv fun j h1 h2=>by
     obtain⟨p',xD,r⟩:=hl.pS h1
     obtain⟨q',Cx,r'⟩:=jA.pS h2
     exact ih _ _ _ _ _ _ _ r r' (Cw j _ _ xD Cx) vE
    rw[hl.size] at this
    exact EqAt.of_refs e this
end
end
section
open PySem PySem.SeqAt
section
variable {L:ic} {X:List Addr}
noncomputable def AI:Nat→PV→PV→Option Bool
 |n+1,.tup l,.tup m=>pR (AI n) l m
 |n+1,.list l,.list m=>pR (AI n) l m
 |n+1,.iM ks vs,.iM MK JR=>if ks=MK then pR (qN n) vs JR else none
 |n,p,q=>qN n p q
theorem AW{K:Type}[DecidableEq K]: ∀(pre:List (K×Value)) (k:K) (y:Value) (r:List (K×Value)),((pre++(k,y)::r).map (·.1)).Nodup→valueAt (pre++(k,y)::r) k=some y:=by
 intro pre
 induction pre with
 |nil=>exact @fun k y r _=>by simp[valueAt]
 |cons q0 pre hV=>
  obtain⟨k',y'⟩:=q0
  intro k y r h
  rw[c6,aQ,List.nodup_cons] at h
  have iS: ¬ k'=k:=fun e=>h.1 (by simp[e])
  have:=hV k y r h.2
  unfold valueAt at this ⊢
  rw[c6,List.find?_cons]
  simpa[iS] using this
theorem Ka{A:aH}{s:aq}{n:Nat}{K:Type}[DecidableEq K](hu:A.units+n<cLine){kb:List (K×Value)}(ML:(kb.map (·.1)).Nodup):
  ∀(ka Kb pre:List (K×Value)) (l m:List PV) (b:Bool),kb=pre++Kb→ka.map (·.1)=Kb.map (·.1)→gM L.prog L.w s.heap X l (ka.map (·.2))→gM L.prog L.w s.heap X m (Kb.map (·.2))→pR (qN n) l m=some b→
   PySem.W.KeqHits A s kb ka b:=by
 intro ka
 induction ka with
 |nil=>
  intro Kb pre l m b e hk hx hy h
  have hl:l=[]:=List.length_eq_zero_iff.mp hx.length.symm
  subst hl
  rw[(zt h).2];exact .nil
 |cons p0 ka ih=>
  intro Kb pre l m b e hk hx hy h
  obtain⟨k,v⟩:=p0
  cases Kb with
  |nil=>exact absurd hk (bZ _ _)
  |cons p1 Kb=>
   obtain⟨k',y⟩:=p1
   have hk2:=List.cons.inj hk
   have hk1:k=k':=hk2.1
   have hk:=hk2.2
   subst hk1
   cases l with
   |nil=>exact absurd hx.length (aV _)
   |cons p l=>
    obtain⟨q,qs,a,c,rfl,ha,hc,rfl⟩:=vW h
    obtain⟨_,_,e1,hv,hr⟩:=hx.inv
    skip;(first|exact VD e1|cases e1)
    obtain⟨_,_,e2,oD,AH⟩:=hy.inv
    skip;(first|exact VD e2|cases e2)
    exact .hit (e▸AW pre k y Kb (e▸ML)) (zu n A s p q v y a hv oD ha hu) (ih Kb (pre++[(k,y)]) l qs c (e.trans (fX ..)) hk2.2 hr AH hc)
theorem VR.nH{h:Heap}{ks:List Str}{vs:List PV}{v:Value}(x:VR L.prog L.w h X (.iM ks vs) v): ∃a kvs,v= .ref a∧a∉X∧h.DictOf (strKind L.prog L.w) a kvs∧kvs.map (·.1)=ks∧gM L.prog L.w h X vs (kvs.map (·.2)):=x
theorem VR.GN{h:Heap}{ks:List Int}{vs:List PV}{v:Value}(x:VR L.prog L.w h X (.la ks vs) v): ∃a kvs,v= .ref a∧a∉X∧h.DictOf (intKind L.prog L.w) a kvs∧kvs.map (·.1)=ks∧gM L.prog L.w h X vs (kvs.map (·.2)):=x
theorem oG{h:Heap}{K:Type}[DecidableEq K]{knd:KeyKind L.prog L.w K}{a:Addr}{kvs:List (K×Value)}(x:h.DictOf knd a kvs):(kvs.map (·.1)).Nodup:=by
 obtain⟨_,_,_,_,_,_,_,_,r⟩:=x
 exact r
theorem sZ{a:Addr}(ki:sysModules∈X)(ha:a∉X):(a==sysModules)=false:=by
 cases e:a==sysModules with
 |false=>rfl
 |true=>rw[eq_of_beq e] at ha;exact absurd ki ha
theorem zv{K:Type}[DecidableEq K]{knd:KeyKind L.prog L.w K}{es:List DictEntry}{kvs kq:List (K×Value)}(x:Pairs knd es kvs)(y:Pairs knd es kq):kvs=kq:=by
 induction x generalizing kq with
 |nil=>(first|exact VD y|cases y);rfl
 |cons h1 h2 r ih=>
  cases y with
  |cons h1' h2' r'=>rw[ih r',show _=_ from Prod.ext (knd.inj _ _ _ h1 h1') (h2.symm.trans h2')]
theorem qO{h:Heap}{K:Type}[DecidableEq K]{knd:KeyKind L.prog L.w K}{a:Addr}{kvs kq:List (K×Value)}(x:h.DictOf knd a kvs)(y:h.DictOf knd a kq):kvs=kq:=by
 obtain⟨o,es,ep,ho,_,hd,_,hp,_⟩:=x
 obtain⟨o',U9,VI,lp,_,sX,_,xD,_⟩:=y
 rw[ho] at lp
 skip;(first|exact VD lp|cases lp)
 rw[hd] at sX
 skip;(first|exact VD sX|cases sX)
 exact zv hp xD
theorem GO{A:aH}{s:aq}{n:Nat}{ks:List Str}{l m:List PV}{u v:Value}{b:Bool}{E Q:Value→aq→Prop}(ki:sysModules∈X)(hu:A.units+n+1<cLine)
  (hp:VR L.prog L.w s.heap X (.iM ks l) u)(hq:VR L.prog L.w s.heap X (.iM ks m) v)(h:pR (qN n) l m=some b)(hQ:Q (.bool b) s):wpAny L.M A (richCompare .Eq u v) Q E s:=by
 obtain⟨a,kvs,rfl,ha,hd,hk,hl⟩:=hp.nH
 obtain⟨a',kq,rfl,xE,sX,qt,jA⟩:=hq.nH
 have hJ:kvs.length=kq.length:=by have:=congrArg List.length (hk.trans qt.symm);simpa using this
 refine PySem.W.keq_eq (r:=b) (sZ ki ha) (sZ ki xE) hd sX (by omega) (fun _=> ?_) ?_
 ·exact Ka (n:=n) (by show A.units+1+n<cLine;omega) (oG sX) kvs kq [] l m b rfl (hk.trans qt.symm) hl jA h
 ·rw[hJ];simpa using hQ
inductive QL:Nat→PV→PV→Bool→Prop
 |base {n p q b}:qN n p q=some b→QL n p q b
 |tup {n l m b}:pR (AI n) l m=some b→QL (n+1) (.tup l) (.tup m) b
 |list {n l m b}:pR (AI n) l m=some b→QL (n+1) (.list l) (.list m) b
 |dict {n ks vs JR b}:pR (qN n) vs JR=some b→QL (n+1) (.iM ks vs) (.iM ks JR) b
theorem GP{n:Nat}{p q:PV}{b:Bool}(h:AI n p q=some b):QL n p q b:=by
 cases n with
 |zero=>exact .base h
 |succ n=>
  cases p<;>try exact .base h
  ·cases q<;>first|exact .tup h|exact .base h
  ·cases q<;>first|exact .list h|exact .base h
  ·cases q<;>first|exact .base h|skip
   obtain⟨e,h'⟩:=xB h
   subst e
   exact .dict h'
theorem AX{h:Heap}: ∀n p q v b,VR L.prog L.w h X p v→VR L.prog L.w h X q v→AI n p q=some b→b=true:=by
 intro n
 induction n with
 |zero=>exact fun p q v b hp hq h=>nY 0 _ _ _ _ hp hq h
 |succ n ih=>
  intro p q v b hp hq h
  cases GP h with
  |base h=>exact nY _ _ _ _ _ hp hq h
  |tup h=>
   obtain⟨a,xs,k,rfl,_,ho,hl⟩:=hp.lY
   obtain⟨a',ru,k',e,_,lp,jA⟩:=hq.lY
   skip;(first|exact VD e|cases e)
   exact lS ih ho lp hl jA h
  |list h=>
   obtain⟨a,xs,k,rfl,_,ho,hl⟩:=hp.listE
   obtain⟨a',ru,k',e,_,lp,jA⟩:=hq.listE
   skip;(first|exact VD e|cases e)
   exact lS ih ho lp hl jA h
  |dict h=>
   obtain⟨a,kvs,rfl,_,hd,hk,hl⟩:=hp.nH
   obtain⟨a',kq,e,_,sX,qt,jA⟩:=hq.nH
   skip;(first|exact VD e|cases e)
   exact vX (nY n) hl (qO hd sX▸jA) h
end
end
section
open PySem PySem.SeqAt
section
variable {L:ic} {X:List Addr}
theorem zw(ki:sysModules∈X): ∀(n:Nat) (A:aH) (s:aq) (p q:PV) (v u:Value) (b:Bool),VR L.prog L.w s.heap X p v→VR L.prog L.w s.heap X q u→AI n p q=some b→A.units+2*n+2<cLine→AG L A s v u b:=by
 intro n
 induction n with
 |zero=>exact fun A s p q v u b hp hq h hu=> .of (zu 0 _ _ _ _ _ _ _ hp hq h (by omega))
 |succ n ih=>
  intro A s p q v u b hp hq h hu
  have vE:A.in1.units+2*n+2<cLine:=by show A.units+1+2*n+2<cLine;omega
  have Cv:A.units<cLine:=by omega
  cases GP h with
  |base h=>exact .of (zu _ _ _ _ _ _ _ _ hp hq h (by omega))
  |tup h=>
   obtain⟨a,xs,k,rfl,ha,ho,hl⟩:=hp.lY
   obtain⟨a',ru,k',rfl,xE,lp,jA⟩:=hq.lY
   by_cases e:a=a'
   ·subst e
    exact lS (AX n) ho lp hl jA h▸ .of (EqAt.same _)
   ·obtain⟨hJ,ev,Cw,rfl⟩:=nr h
    refine AG.refs e fun E Q hq=>yE (e:=ev) ho lp Cv (fun j h1 h2=> ?_) (by rw[←lT hl jA hJ,eH,beq_self_eq_true,dG,hl.size];exact hq)
    obtain⟨p',xD,r⟩:=hl.pS h1
    obtain⟨q',Cx,r'⟩:=jA.pS h2
    exact ih _ _ _ _ _ _ _ r r' (Cw j _ _ xD Cx) vE
  |list h=>
   obtain⟨a,xs,k,rfl,ha,ho,hl⟩:=hp.listE
   obtain⟨a',ru,k',rfl,xE,lp,jA⟩:=hq.listE
   by_cases e:a=a'
   ·subst e
    exact lS (AX n) ho lp hl jA h▸ .of (EqAt.same _)
   ·obtain⟨hJ,ev,Cw,rfl⟩:=nr h
    refine AG.refs e fun E Q hq=>AV (e:=ev) ho lp (lT hl jA hJ) Cv (fun j h1 h2=> ?_) (by rw[hl.size];exact hq)
    obtain⟨p',xD,r⟩:=hl.pS h1
    obtain⟨q',Cx,r'⟩:=jA.pS h2
    exact ih _ _ _ _ _ _ _ r r' (Cw j _ _ xD Cx) vE
  |dict h=>
   obtain⟨a,kvs,rfl,_,hd,hk,hl⟩:=id hp.nH
   obtain⟨a',kq,rfl,_,sX,qt,jA⟩:=id hq.nH
   by_cases e:a=a'
   ·subst e
    exact vX (nY n) hl (qO hd sX▸jA) h▸ .of (EqAt.same _)
   ·exact AG.refs e fun E Q hQ=>GO (n:=n) ki (by omega) hp hq h hQ
noncomputable def GQ:PV→PV→Option Bool
 | .int a,.int b=>some (a==b)
 | .str a,.str b=>some (a==b)
 | .bytes a,.bytes b=>some (a.toList==b.toList)
 | .tup l,.tup m=>pR (AI 8) l m
 | .list l,.list m=>pR (AI 8) l m
 |_,_=>none
noncomputable def AY(p q:PV):Option PV:=(GQ p q).map .bool
noncomputable def lU(p q:PV):Option PV:=(GQ p q).map fun b=> .bool !b
inductive Qq:PV→PV→Bool→Prop
 |int (a b):Qq (.int a) (.int b) (a==b)
 |str (a b):Qq (.str a) (.str b) (a==b)
 |bytes (a b):Qq (.bytes a) (.bytes b) (a.toList==b.toList)
 |tup {l m b}:pR (AI 8) l m=some b→Qq (.tup l) (.tup m) b
 |list {l m b}:pR (AI 8) l m=some b→Qq (.list l) (.list m) b
theorem GR{p q:PV}{b:Bool}(h:GQ p q=some b):Qq p q b:=by
 cases p<;>try exact g8 h
 all_goals (cases q<;>try exact g8 h)
 all_goals first
  |((first|exact VD h|cases h);constructor;done)
  |(constructor;exact h)
theorem VR.s6{h:Heap}{i:Array UInt8}{v:Value}(x:VR L.prog L.w h X (.bytes i) v): ∃t,v= .bytes i t:=x
theorem VR.N7{h:Heap}{b:Bool}:VR L.prog L.w h X (.bool b) (.bool b):=rfl
theorem AZ:ni L (compareOp .Eq) AY:=by
 intro A X s p q r u v Q E R x I hp hq hg hQ
 obtain⟨b,he,rfl⟩:=Option.map_eq_some_iff.mp hg
 have hu:=R.units
 have hc:A.units<cLine:=by show _<9900;omega
 have Cv:A.in1.units+2*8+2<cLine:=by show A.units+1+2*8+2<9900;omega
 have fin:Q (.bool b) s:=hQ _ _ VR.N7 (gI.refl I x)
 cases GR he with
 |int=>
  obtain⟨t,rfl⟩:=hp.jZ
  obtain⟨t',rfl⟩:=hq.jZ
  exact PyProof.Rows.eq_int fin
 |str=>
  obtain⟨t,rfl⟩:=hp.ll
  obtain⟨t',rfl⟩:=hq.ll
  exact PyProof.Rows.eq_str fin
 |bytes=>
  obtain⟨t,rfl⟩:=hp.s6
  obtain⟨t',rfl⟩:=hq.s6
  exact PySem.W.eq_bytes fin
 |tup h=>
  obtain⟨a,xs,k,rfl,ha,ho,hl⟩:=hp.lY
  obtain⟨a',ru,k',rfl,xE,lp,jA⟩:=hq.lY
  obtain⟨hJ,ev,Cw,rfl⟩:=nr h
  refine yE (e:=ev) ho lp hc (fun j h1 h2=> ?_) (by rw[←lT hl jA hJ,eH,beq_self_eq_true,dG,hl.size];exact fin)
  obtain⟨p',xD,r⟩:=hl.pS h1
  obtain⟨q',Cx,r'⟩:=jA.pS h2
  exact zw x.sm 8 _ _ _ _ _ _ _ r r' (Cw j _ _ xD Cx) Cv
 |list h=>
  obtain⟨a,xs,k,rfl,ha,ho,hl⟩:=hp.listE
  obtain⟨a',ru,k',rfl,xE,lp,jA⟩:=hq.listE
  obtain⟨hJ,ev,Cw,rfl⟩:=nr h
  refine AV (e:=ev) ho lp (lT hl jA hJ) hc (fun j h1 h2=> ?_) (by rw[hl.size];exact fin)
  obtain⟨p',xD,r⟩:=hl.pS h1
  obtain⟨q',Cx,r'⟩:=jA.pS h2
  exact zw x.sm 8 _ _ _ _ _ _ _ r r' (Cw j _ _ xD Cx) Cv
theorem pe:ni L (compareOp .NotEq) lU:=by
 intro A X s p q r u v Q E R x I hp hq hg hQ
 obtain⟨b,he,rfl⟩:=Option.map_eq_some_iff.mp hg
 have hu:=R.units
 have hc:A.units<cLine:=by show _<9900;omega
 have Cv:A.in1.units+2*8+2<cLine:=by show A.units+1+2*8+2<9900;omega
 have fin:Q (.bool (!b)) s:=hQ _ _ VR.N7 (gI.refl I x)
 cases GR he with
 |int=>
  obtain⟨t,rfl⟩:=hp.jZ
  obtain⟨t',rfl⟩:=hq.jZ
  exact PyProof.Rows.ne_int fin
 |str=>
  obtain⟨t,rfl⟩:=hp.ll
  obtain⟨t',rfl⟩:=hq.ll
  exact PyProof.Rows.ne_str fin
 |bytes=>
  obtain⟨t,rfl⟩:=hp.s6
  obtain⟨t',rfl⟩:=hq.s6
  exact PySem.W.ne_bytes fin
 |tup h=>
  obtain⟨a,xs,k,rfl,ha,ho,hl⟩:=hp.lY
  obtain⟨a',ru,k',rfl,xE,lp,jA⟩:=hq.lY
  obtain⟨hJ,ev,Cw,rfl⟩:=nr h
  refine EH (e:=ev) ho lp hc (fun j h1 h2=> ?_) (by rw[←lT hl jA hJ,eH,beq_self_eq_true,dG,hl.size];exact fin)
  obtain⟨p',xD,r⟩:=hl.pS h1
  obtain⟨q',Cx,r'⟩:=jA.pS h2
  exact zw x.sm 8 _ _ _ _ _ _ _ r r' (Cw j _ _ xD Cx) Cv
 |list h=>
  obtain⟨a,xs,k,rfl,ha,ho,hl⟩:=hp.listE
  obtain⟨a',ru,k',rfl,xE,lp,jA⟩:=hq.listE
  obtain⟨hJ,ev,Cw,rfl⟩:=nr h
  refine GL (e:=ev) ho lp (lT hl jA hJ) hc (fun j h1 h2=> ?_) (by rw[hl.size];exact fin)
  obtain⟨p',xD,r⟩:=hl.pS h1
  obtain⟨q',Cx,r'⟩:=jA.pS h2
  exact zw x.sm 8 _ _ _ _ _ _ _ r r' (Cw j _ _ xD Cx) Cv
noncomputable def jO:List PV→Option (List Int)
 |[]=>some []
 | .int i::ps=>(jO ps).map (i:: ·)
 |_::_=>none
noncomputable def N8(a:Int):PV→Option PV
 | .list l=>(jO l).map fun ns=> .bool (ns.any (· ==a))
 | .tup l=>(jO l).map fun ns=> .bool (ns.any (· ==a))
 |_=>none
noncomputable def N9(k:Str):PV→Option PV
 | .iM ks _=>some (.bool (ks.any (· ==k)))
 |_=>none
noncomputable def s7:PV→PV→Option PV
 | .int a,q=>N8 a q
 | .str k,q=>N9 k q
 |_,_=>none
noncomputable def isInt(a:Int):Value→Bool
 | .int i _=>i==a
 |_=>false
theorem oH: ∀{l:List PV} {ns:List Int},jO l=some ns→l=ns.map .int:=by
 intro l
 induction l with
 |nil=>exact @fun _ h=>Option.some.inj h▸rfl
 |cons p l hV=>
  intro ns h
  cases p<;>try exact g8 h
  obtain⟨ms,hm,rfl⟩:=Option.map_eq_some_iff.mp h
  rw[hV hm];rfl
theorem GS{h:Heap}: ∀{ns:List Int} {vs:List Value},gM L.prog L.w h X (ns.map .int) vs→d4 vs ns:=by
 intro ns
 induction ns with
 |nil=>exact @fun _ x=>by (first|exact VD x|cases x);exact .nil
 |cons _ _ hV=>
  intro _ x
  obtain⟨v,r,rfl,hv,hr⟩:=x.inv
  obtain⟨t,rfl⟩:=hv.jZ
  exact .cons _ t (hV hr)
theorem intsAre_of{h:Heap}{l:List PV}{vs:List Value}{ns:List Int}(x:gM L.prog L.w h X l vs)(hi:jO l=some ns):d4 vs ns:=GS (oH hi▸x)
theorem GU(a:Int){vs:List Value}{ns:List Int}(x:d4 vs ns):(∀v∈vs,∃i t,v= .int i t)∧vs.any (isInt a)=ns.any (· ==a):=by
 induction x with
 |nil=>exact⟨fun _ h=>absurd h bY,rfl⟩
 |cons n t _ ih=>
  refine⟨fun v hv=> ?_,by rw[de,de,ih.2];rfl⟩
  rcases List.mem_cons.mp hv with rfl|hv
  ·exact⟨n,t,rfl⟩
  ·exact ih.1 v hv
theorem vY{h:Heap}(a:Int){l:List PV}{vs:List Value}{ns:List Int}(x:gM L.prog L.w h X l vs)(hi:jO l=some ns):(∀v∈vs,∃i t,v= .int i t)∧vs.any (isInt a)=ns.any (· ==a):=GU a (intsAre_of x hi)
theorem isStrOf_self(k:Str)(t:gh):Value.isStrOf k (.str k t)=true:=by simp[Value.isStrOf]
theorem pT{K:Type}[DecidableEq K](k:K): ∀kvs:List (K×Value),(valueAt kvs k).isSome=(kvs.map (·.1)).any (· ==k):=by
 intro kvs
 induction kvs with
 |nil=>exact rfl
 |cons q0 r hV=>
  obtain⟨k',v⟩:=q0
  have ih:=hV
  unfold valueAt at ih ⊢
  by_cases e:k'=k
  ·simp[e]
  ·simp only[List.find?_cons,e,decide_false,aQ,de,beq_iff_eq] at ih ⊢
   rw[ih];simp[e]
theorem vZ:ni L (compareOp .In) s7:=by
 intro A X s p q r u v Q E R x I hp hq hg hQ
 cases p<;>try exact g8 hg
 ·rename_i a
  obtain⟨t,rfl⟩:=hp.jZ
  cases q<;>try exact g8 hg
  ·rename_i l
   obtain⟨ns,hi,rfl⟩:=Option.map_eq_some_iff.mp hg
   obtain⟨b,xs,k,rfl,ha,ho,hl⟩:=hq.lY
   obtain⟨h1,h2⟩:=vY a hl hi
   refine in_tupleAt (isInt a) (⟨_,ho,rfl,_,rfl⟩:s.heap.IsTuple b xs) (fun y hy=> ?_) ?_
   ·obtain⟨i,t',rfl⟩:=h1 y (Array.mem_toList_iff.mpr hy)
    exact EqAt.int_int _ _ _ _
   ·rw[←Array.any_toList,h2]
    exact hQ _ _ VR.N7 (gI.refl I x)
  ·rename_i l
   obtain⟨ns,hi,rfl⟩:=Option.map_eq_some_iff.mp hg
   obtain⟨b,xs,k,rfl,ha,ho,hl⟩:=hq.listE
   obtain⟨h1,h2⟩:=vY a hl hi
   refine in_listAt (isInt a) (⟨_,ho,rfl,_,rfl⟩:s.heap.IsList b xs) (fun y hy=> ?_) ?_
   ·obtain⟨i,t',rfl⟩:=h1 y (Array.mem_toList_iff.mpr hy)
    exact EqAt.int_int _ _ _ _
   ·rw[←Array.any_toList,h2]
    exact hQ _ _ VR.N7 (gI.refl I x)
 ·rename_i k
  obtain⟨t,rfl⟩:=hp.ll
  cases q<;>try exact g8 hg
  skip;(first|exact VD hg|cases hg)
  obtain⟨a,kvs,rfl,ha,hd,hk,hl⟩:=hq.nH
  refine wpAny_in_of (knd:=strKind L.prog L.w) (k:=k) (isStrOf_self k t) (sZ x.sm ha) hd.mapOf ?_
  rw[pT,hk]
  exact hQ _ _ VR.N7 (gI.toks I x _)
end
end
section
open PySem
theorem s8{A:aH}{E:Value→aq→Prop}{s:aq}{env:b9}{prog:Program}{w:cL}{value slice:aN}{pos:cM}{Q:Value→aq→Prop}
  (h:wpAny (model prog w) A (eval value env) (fun o s₁=>wpAny (model prog w) A (eval slice env) (fun i gQ=> ∃T id,typeLookup (.type T) "__getitem__"=pure (some (.builtin id))∧gQ.TypeIs o T∧wpAny (model prog w) A (getItem o i) Q E gQ) E s₁) E s)
  (hs: ∀o i,subscripted slice false o i=operate [o,i] (getItem o i)∨subscripted slice false o i=operate [i,o] (getItem o i)):
  wpAny (model prog w) A (eval (.Subscript value slice pos) env) Q E s:=by
 rw[eval_Subscript]
 refine ao (bI h (fun o s₁ h₁=>ao (aX (bI h₁ (fun i gQ h₂=>ao (bP ?_)) fun _ _ x=>x)))
  fun _ _ x=>x)
 obtain⟨T,id,hl,hT,hg⟩:=h₂
 refine ao ?_
 rw[getitemInPython_of_ne hT.not_modules]
 refine ao (bG hT hl ?_)
 have fin:wpAny (model prog w) A (subscripted slice false o i) (fun r i6=>wpAny (model prog w) A (letTemporaryGo value o r>>= fun _=>pure r) Q E i6) E gQ:=by
  rcases hs o i with e|e<;>rw[e]<;>
  exact wpAny_operating (bI hg (fun r i6 h₃=>ao (wpAny_letTemporaryGo (aA h₃))) fun _ _ x=>x)
 first
  |exact aA (ao fin)
  |exact ao (aA (ao fin))
  |exact ao fin
section
variable {L:ic} {sc:Scope} {σ:gJ} {k:Nat}
noncomputable def jo{K:Type}[DecidableEq K]:List K→List PV→K→Option PV
 |k::ks,v::vs,x=>if k=x then some v else jo ks vs x
 |_,_,_=>none
noncomputable def gC:PV→PV→Option PV
 | .list l,.int i=>if small i then(seqIndex? i l.length).bind (l[·]?) else none
 | .tup l,.int i=>if small i then(seqIndex? i l.length).bind (l[·]?) else none
 | .str x,.int i=>if small i then((seqIndex? i x.length).bind (x.cps[·]?)).map fun c=> .str ⟨#[c]⟩ else none
 | .la ks vs,.int i=>jo ks vs i
 | .iM ks vs,.str i=>jo ks vs i
 |_,_=>none
theorem v5{K:Type}[DecidableEq K]{h:Heap}{X:List Addr}{x:K}{p:PV}{kvs:List (K×Value)}: ∀{ks:List K} {vs:List PV},kvs.map (·.1)=ks→gM L.prog L.w h X vs (kvs.map (·.2))→jo ks vs x=some p→ ∃v,valueAt kvs x=some v∧VR L.prog L.w h X p v:=by
 induction kvs with
 |nil=>intro ks vs hk hv h;(first|exact VD hk|cases hk);exact g8 h
 |cons p0 kvs ih=>
  intro ks vs hk hv h
  skip;(first|exact VD hk|cases hk)
  cases vs with
  |nil=>exact absurd hv.length (aV _)
  |cons q vs=>
   obtain⟨_,_,e,hq,hr⟩:=hv.inv
   skip;(first|exact VD e|cases e)
   have h:(if p0.1=x then some q else jo (kvs.map (·.1)) vs x)=some p:=h
   unfold valueAt
   by_cases e:p0.1=x
   ·rw[if_pos e] at h
    rw[List.find?_cons_of_pos (p:=fun kv:K×Value=>decide (kv.1=x)) (decide_eq_true e)]
    exact⟨p0.2,rfl,kB h▸hq⟩
   ·rw[if_neg e] at h
    rw[List.find?_cons_of_neg (p:=fun kv:K×Value=>decide (kv.1=x)) (fun h=>e (of_decide_eq_true h))]
    exact ih rfl hr h
theorem isInt_self(k:Int)(t:gh):Value.isInt k (.int k t)=true:=by simp[Value.isInt]
theorem qP{A:aH}{s:aq}{a:Addr}{xs:Array Value}{n:Nat}{i:Int}{t:gh}{j:Nat}{y:Value}{Q:Value→aq→Prop}{E:Value→aq→Prop}(ho:s.heap.get? a=some {cls:= .type "list",data:= .seq xs n})(hs:small i=true)
  (hi:seqIndex? i xs.size=some j)(hy:xs[j]? =some y)(hQ:Q y s):wpAny L.M A (getItem (.ref a) (.int i t)) Q E s:=by
 have k9:=of_decide_eq_true hs
 have hL:s.heap.IsList a xs:=⟨_,ho,rfl,_,rfl⟩
 unfold seqIndex? at hi
 by_cases Oa:i<0
 ·rw[if_pos Oa] at hi
  replace hi:=jU hi
  obtain⟨hb,rfl⟩:=hi
  obtain⟨h1,h2⟩:=jz hb
  have h1:=of_decide_eq_true h1
  have h2:=of_decide_eq_true h2
  exact wpAny_getItem_list_neg hL Oa (by omega) (by omega) hy hQ
 ·rw[if_neg Oa] at hi
  replace hi:=jU hi
  obtain⟨hb,rfl⟩:=hi
  obtain⟨h1,h2⟩:=jz hb
  have h1:=of_decide_eq_true h1
  have h2:=of_decide_eq_true h2
  exact wpAny_getItem_list hL (by omega) (by omega) hy hQ
theorem yF{i:Int}(hs:small i=true): -(2^63:Int)≤i∧i<2^63:=by
 have:=of_decide_eq_true hs
 omega
inductive yG:PV→PV→PV→Prop
 |list {l i j r}:small i=true→seqIndex? i l.length=some j→l[j]? =some r→yG (.list l) (.int i) r
 |tup {l i j r}:small i=true→seqIndex? i l.length=some j→l[j]? =some r→yG (.tup l) (.int i) r
 |str {x i c}:small i=true→(seqIndex? i x.length).bind (x.cps[·]?)=some c→yG (.str x) (.int i) (.str ⟨#[c]⟩)
 |la {ks vs i r}:jo ks vs i=some r→yG (.la ks vs) (.int i) r
 |iM {ks vs i r}:jo ks vs i=some r→yG (.iM ks vs) (.str i) r
theorem GV{p q r:PV}(h:gC p q=some r):yG p q r:=by
 cases p<;>try exact g8 h
 all_goals (cases q<;>try exact g8 h)
 ·replace h:=xB h
  obtain⟨hs,h⟩:=h
  obtain⟨c,hc,rfl⟩:=Option.map_eq_some_iff.mp h
  exact .str hs hc
 ·replace h:=xB h
  obtain⟨hs,h⟩:=h
  replace h:=Option.bind_eq_some_iff.mp h
  obtain⟨j,hj,h⟩:=h
  exact .tup hs hj h
 ·replace h:=xB h
  obtain⟨hs,h⟩:=h
  replace h:=Option.bind_eq_some_iff.mp h
  obtain⟨j,hj,h⟩:=h
  exact .list hs hj h
 ·exact .la h
 ·exact .iM h
theorem lL{K:Type}[DecidableEq K]{knd:KeyKind L.prog L.w K}{n:K}{u:Value}{a:Addr}{kvs:List (K×Value)}{ks:List K}{vs:List PV}{r:PV}{A:aH}{X:List Addr}{s:aq}{Q:Value→aq→Prop}{E:Value→aq→Prop}(GW:knd.is n u=true)(hd:s.heap.DictOf knd a kvs)(hk:kvs.map (·.1)=ks)(hl:gM L.prog L.w s.heap X vs (kvs.map (·.2)))(h:jo ks vs n=some r)
  (x:XO L X s.heap)(I:Inv L s)(hQ: ∀x s',VR L.prog L.w s'.heap X r x→gI L X s s'→Q x s'): ∃T id,typeLookup (.type T) "__getitem__"=pure (some (.builtin id))∧s.TypeIs (.ref a) T∧wpAny L.M A (getItem (.ref a) u) Q E s:=
 (v5 hk hl h).elim fun y z=>have d:=gI.toks I x (s.toks+1);⟨"dict",_,slot_dict_getitem.lookup,hd.typeIs,wpAny_getItem_of (knd:=knd) GW hd.mapOf z.1 (hQ _ _ (z.2.up d.up) d)⟩
theorem Kc(A:aH)(X:List Addr)(s:aq)(p q r:PV)(u v:Value)(Q:Value→aq→Prop)(E:Value→aq→Prop)
  (R:iU L 0 A)(x:XO L X s.heap)(I:Inv L s)(hp:VR L.prog L.w s.heap X p u)(hq:VR L.prog L.w s.heap X q v)(hg:gC p q=some r)
  (hQ: ∀x s',VR L.prog L.w s'.heap X r x→gI L X s s'→Q x s'):
  ∃T id,typeLookup (.type T) "__getitem__"=pure (some (.builtin id))∧s.TypeIs u T∧wpAny L.M A (getItem u v) Q E s:=by
 cases GV hg with
 |str hs hc=>
  refine hq.rq fun t=> ?_
  refine hp.EG fun t'=> ?_
  have hr:=yF hs
  exact⟨"str",_,F.slot_str_getitem.lookup,fc s _ t',P.getItem_str (by rw[decide_eq_false (Int.not_lt.mpr hr.1),decide_eq_false (Int.not_le.mpr hr.2)];rfl) hc (hQ _ _ (VR.mkStr _ _) (gI.toks I x _))⟩
 |tup hs hj h=>
  refine hq.rq fun t=> ?_
  refine hp.J6 fun a xs n ha ho hl=> ?_
  refine hl.xF h fun y hy hr=> ?_
  rw[←hl.size] at hj
  have hb:=yF hs
  exact⟨"tuple",_,F.slot_tuple_getitem.lookup,⟨_,ho,rfl⟩,P.getItem_tuple ho (by omega) (by omega) hj hy (hQ _ _ hr (gI.refl I x))⟩
 |list hs hj h=>
  refine hq.rq fun t=> ?_
  refine hp.vR fun a xs n ha ho hl=> ?_
  refine hl.xF h fun y hy hr=> ?_
  exact⟨"list",_,fG,⟨_,ho,rfl⟩,qP ho hs (hl.size▸hj) hy (hQ _ _ hr (gI.refl I x))⟩
 |la h=>
  refine hq.rq fun t=> ?_
  obtain⟨a,kvs,rfl,ha,hd,hk,hl⟩:=hp.GN
  exact lL (isInt_self _ t) hd hk hl h x I hQ
 |iM h=>
  refine hq.EG fun t=> ?_
  obtain⟨a,kvs,rfl,ha,hd,hk,hl⟩:=hp.nH
  exact lL (isStrOf_self _ t) hd hk hl h x I hQ
theorem SE.item{v i:aN}{pos:cM}{f g:List MV→Option PV}(hv:SE L sc σ k v f)(hi:SE L sc σ k i g)
  (hs: ∀o i',subscripted i false o i'=operate [o,i'] (getItem o i')):SE L sc σ k (.Subscript v i pos) (iy f g gC):=by
 intro env A X s ρ p Q E R F I hf hQ
 obtain⟨a,b,uN,GF,Ct⟩:=oE hf
 refine s8 (hv env A X s ρ a _ E R F I uN fun u s₁ hu iu=>hi env A X s₁ ρ b _ E R (F.done iu) iu.inv GF fun v gQ hv gP=> ?_) (fun o i=> .inl (hs o i))
 exact Kc A X gQ a b p u v Q E (R.less (aC _)) ((F.done iu).done gP).xo gP.inv (hu.up gP.up) hv Ct fun x s' hx i5=>hQ x s' hx ((iu.trans gP).trans i5)
end
end
section
open PySem
noncomputable def v7(n:Nat)(d:Int):Option Int→Int
 |none=>d
 |some i=>max 0 (min (if i<0 then i+n else i) n)
noncomputable def cut{α:Type}(l:List α)(lo hi:Option Int):List α:=
 (l.drop (v7 l.length 0 lo).toNat).take ((v7 l.length l.length hi).toNat-(v7 l.length 0 lo).toNat)
theorem DJ(n:Nat)(d:Int)(hd:0≤d)(hn:d≤n)(o:Option Int):0≤v7 n d o∧v7 n d o≤n:=by
 cases o with
 |none=>exact⟨hd,hn⟩
 |some i=>exact⟨Int.le_max_left ..,Int.max_le.mpr ⟨bA n,Int.min_le_right ..⟩⟩
theorem xG(xs:Array Value)(lo hi:Option Int):(slicePick xs lo hi none).toList=cut xs.toList lo hi:=by
 have e:sliceBounds lo hi none xs.size=(v7 xs.size 0 lo,v7 xs.size xs.size hi,1):=by
  cases lo<;>cases hi<;>simp[sliceBounds,v7]
 obtain⟨a0,a1⟩:=DJ xs.size 0 (Int.le_refl _) (bA _) lo
 obtain⟨b0,b1⟩:=DJ xs.size xs.size (bA _) (Int.le_refl _) hi
 unfold slicePick cut
 rw[e]
 simp only[aW]
 generalize v7 xs.size 0 lo=a at a0 a1
 generalize v7 xs.size xs.size hi=b at b0 b1
 obtain⟨a,rfl⟩:=bS a0
 obtain⟨b,rfl⟩:=bS b0
 rw[show(a:Int)=((a:Nat):Int) from rfl,sliceRange_one,pick_run]
 rfl
theorem gM.cut{prog:Program}{w:cL}{h:Heap}{X:List Addr}{ps:List PV}{vs:List Value}(x:gM prog w h X ps vs)(lo hi:Option Int):gM prog w h X (cut ps lo hi) (Mine.Internal.cut vs lo hi):=by
 unfold Mine.Internal.cut
 rw[x.length]
 exact(x.drop _).take _
section
variable {L:ic} {sc:Scope} {σ:gJ} {k:Nat}
noncomputable def PE(L:ic)(sc:Scope)(σ:gJ)(k:Nat)(e:Option aN)(f:List MV→Option (Option Int)):Prop:=
 ∀(env:b9) (A:aH) (X:List Addr) (s:aq) (ρ:List MV) (p:Option Int) (Q:Value→aq→Prop) (E:Value→aq→Prop),
  iU L k A→FR L sc σ env X s.heap ρ→Inv L s→f ρ=some p→
  (∀v s',IsPart v p→gI L X s s'→Q v s')→wpAny L.M A (evalPart e env) Q E s
theorem PE.none:PE L sc σ k none (fun _=>some none):=by
 intro env A X s ρ p Q E R F I hf hQ
 skip;(first|exact VD hf|cases hf)
 rw[evalPart_none]
 exact aA (hQ _ _ .none (gI.refl I F.xo))
noncomputable def lb:PV→Option (Option Int)
 | .int i=>some (some i)
 |_=>none
theorem EI{p:PV}{o:Option Int}(h:lb p=some o): ∃i,p= .int i∧o=some i:=by
 cases p<;>first|exact⟨_,rfl,(kB h).symm⟩|exact g8 h
theorem PE.some{e:aN}{f:List MV→Option PV}(h:SE L sc σ k e f):PE L sc σ k (some e) (fun ρ=>(f ρ).bind lb):=by
 intro env A X s ρ p Q E R F I hf hQ
 rw[evalPart_some]
 replace hf:=Option.bind_eq_some_iff.mp hf
 obtain⟨q,hp,hf⟩:=hf
 ·obtain⟨i,rfl,rfl⟩:=EI hf
  refine h env A X s ρ _ Q E R F I hp fun v s' hv d=> ?_
  obtain⟨t,rfl⟩:=hv.jZ
  exact hQ _ _ (.int _ _) d
theorem PE.less{j:Nat}{e:Option aN}{f:List MV→Option (Option Int)}(h:PE L sc σ j e f)(hk:j≤k):PE L sc σ k e f:=
 fun env A X s ρ p Q E R F I hf hQ=>h env A X s ρ p Q E (R.less hk) F I hf hQ
theorem v8{prog:Program}{w:cL}{A:aH}{E:Value→aq→Prop}{s:aq}{t sl:Addr}{items:Array Value}{b:Nat}{u:gh}{Q:Value→aq→Prop}(ht:eD s.heap t items)(hs:s.heap.IsSliceOf sl .none (.int b u) .none)(hb:b<items.size)
  (h:Q (.ref s.heap.objs.size) {s with heap:=s.heap.push {cls:= .type "tuple",data:= .seq (items.toList.take b).toArray}})
  (hsz:items.size≤sizeLine:=by size_fits):wpAny (model prog w) A (getItem (.ref t) (.ref sl)) Q E s:=by
 have sb:sizeOk (.seq (items.toList.take b).toArray):=by
  show(items.toList.take b).toArray.size≤sizeLine
  rw[List.size_toArray,List.length_take,aW]
  exact Nat.le_trans (ez ..) hsz
 obtain⟨os,hos,hcs,VJ⟩:=id hs
 have hTs:s.TypeIs (.ref sl) "slice":=⟨os,hos,hcs⟩
 unfold getItem
 try with_reducible refine aX ?_
 first|refine ao (aA ?_)|skip
 refine ao (wpAny_sequenceKey ht.typeIs (by decide) ?_)
 refine ao (bg (name:=Str.ofString "__getitem__") ht.typeIs F.slot_tuple_getitem
  (bH F.slot_tuple_getitem ht.typeIs F.entry_tuple_getitem ?_ (F.args_tuple_getitem_2 _ _)))
 show wpAny _ _ (aD.Tuple.tupleItemsOf (.ref t)>>= _) _ _ s
 refine ao (PyProof.Rows.tupleItemsOf_ ht ?_)
 refine ao (e9 hTs ?_)
 rw[if_pos (by decide)]
 have VK:wpAny (model prog w) A.in1 (aD.Slice.sliceApplied (.ref sl) (pure (items.size:Int))) (fun r s'=>r=((0:Int),(1:Int),b)∧s'=s) E s:=by
  unfold aD.Slice.sliceApplied aD.Slice.sliceFields
  refine ao (ao (aU hos VJ (x:= .none) rfl (ao (aU hos VJ (x:= .int b u) rfl (ao (aU hos VJ (x:= .none) rfl (aA ?_)))))))
  refine ao (fi ?_)
  show wpAny _ _ (if ((1:Int)==0)=true then _ else _) _ _ s
  rw[if_neg (by decide)]
  refine ao (fi (ao (PyProof.Rows.slicePart_int (ao (aA ?_)))))
  show wpAny _ _ (match aD.Slice.sliceAdjust none (some (b:Int)) 1 (items.size:Int) with|(lo,hi)=>pure (lo,(1:Int),aD.Slice.slicePlaces lo hi 1)) _ _ s
  have e1:aD.Slice.sliceAdjust none (some (b:Int)) 1 (items.size:Int)=((0:Int),(b:Int)):=by
   unfold aD.Slice.sliceAdjust
   have h1: ¬ ((1:Int)<0):=by omega
   have h2: ¬ ((b:Int)<0):=by omega
   simp only[h1,h2,if_false]
   congr 1
   omega
  rw[e1]
  have e2:aD.Slice.slicePlaces (0:Int) (b:Int) 1=b:=by
   unfold aD.Slice.slicePlaces
   have h1:(1:Int)>0:=by omega
   simp only[h1,if_true,Int.ediv_one]
   split<;>omega
  show wpAny _ _ (pure ((0:Int),(1:Int),aD.Slice.slicePlaces (0:Int) (b:Int) 1)) _ _ s
  rw[e2]
  exact aA ⟨rfl,rfl⟩
 refine ao (bI VK (fun r s' hr=> ?_) fun _ _ e=>e)
 obtain⟨rfl,rfl⟩:=hr
 have qE: ¬ (((0:Int)==0&&(1:Int)==1&&b==items.size)=true):=by
  have:(b==items.size)=false:=by rw[beq_eq_false_iff_ne];omega
  rw[this];simp
 show wpAny _ _ (if ((0:Int)==0&&(1:Int)==1&&b==items.size)=true then _ else _) _ _ s'
 have QM:((List.range b).filterMap fun(k:Nat)=>items[((0:Int)+(k:Int)*1).toNat]?).toArray=(items.toList.take b).toArray:=by
  have e:(fun(k:Nat)=>items[((0:Int)+(k:Int)*1).toNat]?)=fun k=>items[0+k]? :=by
   funext k
   have:((0:Int)+(k:Int)*1).toNat=0+k:=by omega
   rw[this]
  rw[e]
  have:=pick_run items 0 b
  rw[List.filterMap_map] at this
  have e2:((fun x=>items[x]?)∘fun x=>0+x)=fun k=>items[0+k]? :=rfl
  rw[e2] at this
  rw[this,eY]
 rw[if_neg qE,QM]
 first
  |exact ao (m:=aD.Tuple.tupleExact _) (bL (aA ⟨_,rfl,aA h⟩) sb)
  |exact ao (m:=aD.Tuple.tupleExact _) (bL (ao (aA (aA ⟨_,rfl,aA h⟩))) sb)
  |exact ao (ao (m:=aD.Tuple.tupleExact _) (bL (aA (aA ⟨_,rfl,aA h⟩)) sb))
  |exact ao (ao (m:=aD.Tuple.tupleExact _) (bL (aA ⟨_,rfl,aA h⟩) sb))
noncomputable def jP:PV→Option Int→Option Int→Option PV
 | .list l,lo,hi=>if l.length≤100000 then some (.list (cut l lo hi)) else none
 | .tup l,none,some hi=>if decide (0≤hi)&&decide (hi<l.length)&&decide (l.length≤100000) then some (.tup (l.take hi.toNat)) else none
 |_,_,_=>none
inductive Cy:PV→Option Int→Option Int→PV→Prop
 |list {l lo hi}:l.length≤100000→Cy (.list l) lo hi (.list (cut l lo hi))
 |tup {l b}:b<l.length→l.length≤100000→Cy (.tup l) none (some (b:Nat)) (.tup (l.take b))
theorem EJ{p r:PV}{lo hi:Option Int}(h:jP p lo hi=some r):Cy p lo hi r:=by
 cases p<;>try exact g8 h
 ·cases lo<;>try exact g8 h
  cases hi<;>try exact g8 h
  replace h:=jU h
  obtain⟨hc,rfl⟩:=h
  obtain⟨hc,h2⟩:=jz hc
  obtain⟨h0,h1⟩:=jz hc
  obtain⟨b,rfl⟩:=bS (of_decide_eq_true h0)
  exact .tup (Int.ofNat_lt.mp (of_decide_eq_true h1)) (of_decide_eq_true h2)
 ·replace h:=jU h
  obtain⟨hc,rfl⟩:=h
  exact .list hc
theorem Cz{A:aH}{X:List Addr}{s:aq}{p r:PV}{lo hi:Option Int}{u vl vh:Value}{sl:Addr}{Q:Value→aq→Prop}{E:Value→aq→Prop}(x:XO L X s.heap)(I:Inv L s)(hp:VR L.prog L.w s.heap X p u)(hs:s.heap.IsSliceOf sl vl vh .none)(hl:IsPart vl lo)(hh:IsPart vh hi)
  (hg:jP p lo hi=some r)(hQ: ∀x s',VR L.prog L.w s'.heap X r x→gI L X s s'→Q x s'): ∃T id,typeLookup (.type T) "__getitem__"=pure (some (.builtin id))∧s.TypeIs u T∧wpAny L.M A (getItem u (.ref sl)) Q E s:=by
 cases EJ hg with
 |list hsz=>
  refine hp.vR fun a xs n ha ho hx=> ?_
  exact⟨"list",_,fG,⟨_,ho,rfl⟩,wpAny_getItem_list_slice ⟨_,ho,rfl,_,rfl⟩ hs hl hh .none (fun h=>nomatch h) (hQ _ _ (newList I x (xG _ _ _▸hx.cut _ _) _) (gI.push I x _ _)) (mw (hx.size▸hsz))⟩
 |tup h1 h2=>
  refine hp.J6 fun a xs n ha ho hx=> ?_
  skip;(first|exact VD hl|cases hl)
  cases hh with
  |int i t=>exact⟨"tuple",_,PySem.F.slot_tuple_getitem.lookup,⟨_,ho,rfl⟩,v8 (u:=t) ⟨_,ho,rfl,_,rfl⟩ hs (hx.size▸h1) (hQ _ _ (zo I x (hx.take _) _) (gI.push I x _ _)) (mw (hx.size▸h2))⟩
theorem SE.slice{v:aN}{lo hi:Option aN}{p pos:cM}{f:List MV→Option PV}{g g':List MV→Option (Option Int)}(hv:SE L sc σ k v f)(hl:PE L sc σ k lo g)(hh:PE L sc σ k hi g'):
  SE L sc σ k (.Subscript v (.Slice lo hi Option.none p) pos) (fun ρ=>(f ρ).bind fun a=>(g ρ).bind fun b=>(g' ρ).bind fun c=>jP a b c):=by
 intro env A X s ρ r Q E R F I hf hQ
 replace hf:=Option.bind_eq_some_iff.mp hf
 obtain⟨a,uN,hf⟩:=hf
 replace hf:=Option.bind_eq_some_iff.mp hf
 obtain⟨b,GF,hf⟩:=hf
 replace hf:=Option.bind_eq_some_iff.mp hf
 obtain⟨c,hgc,hf⟩:=hf
 refine s8 (hv env A X s ρ a _ E R F I uN fun u s₁ hu iu=>wpAny_Slice (hl env A X s₁ ρ b _ E R (F.done iu) iu.inv GF fun vl gQ VM gP=>
  hh env A X gQ ρ c _ E R ((F.done iu).done gP) gP.inv hgc fun vh i6 hvh i5=> ?_)) (fun o i=> .inr rfl)
 rw[evalPart_none]
 have d:=(iu.trans gP).trans i5
 have dp:=gI.push i5.inv d.xo ({cls:= .type "slice",data:= .fields #[vl,vh,.none]}:Obj) i6.toks
 exact aA (Cz dp.xo dp.inv (((hu.up gP.up).up i5.up).up dp.up) (Heap.IsSliceOf.new ..) VM hvh hf fun x s' hx nI=>hQ x s' hx ((d.trans dp).trans nI))
end
end
section
open PySem
section
variable {L:ic} {sc:Scope} {σ:gJ} {k:Nat}
theorem SE.un{op:UnaryOp}{e:aN}{pos:cM}{f:List MV→Option PV}{g:PV→Option PV}(h:SE L sc σ k e f)(ho:QI L (unaryOp op) g):SE L sc σ k (.UnaryOp op e pos) (fun ρ=>(f ρ).bind g):=by
 intro env A X s ρ p Q E R F I hf hQ
 replace hf:=Option.bind_eq_some_iff.mp hf
 obtain⟨a,uN,hf⟩:=hf
 refine wpAny_UnaryOp (h env A X s ρ a _ E R F I uN fun u s₁ hu iu=> ?_)
 exact ho A X s₁ a p u Q E (R.less (aC _)) (F.done iu).xo iu.inv hu hf fun x s' hx gP=>hQ x s' hx (iu.trans gP)
noncomputable def TE(L:ic)(sc:Scope)(σ:gJ)(k:Nat)(e:aN)(f:List MV→Option Bool):Prop:=
 ∀(env:b9) (A:aH) (X:List Addr) (s:aq) (ρ:List MV) (b:Bool) (Q:Bool→aq→Prop) (E:Value→aq→Prop),
  iU L k A→FR L sc σ env X s.heap ρ→Inv L s→f ρ=some b→
  (∀s',gI L X s s'→Q b s')→wpAny L.M A (isTrue e env (eval e env)) Q E s
noncomputable def lg:PV→Option Bool
 | .bool b=>some b
 | .int i=>some (i !=0)
 |_=>none
theorem s9{A:aH}{X:List Addr}{s:aq}{p:PV}{v:Value}{b:Bool}{Q:Bool→aq→Prop}{E:Value→aq→Prop}(hv:VR L.prog L.w s.heap X p v)(h:lg p=some b)(hQ:Q b s):wpAny L.M A (truthy v) Q E s:=by
 cases p<;>simp only[lg,reduceCtorEq,Option.some.injEq] at h
 ·subst h;rw[hv.pQ];exact eB hQ
 ·subst h;obtain⟨t,rfl⟩:=hv.jZ;exact PyProof.Rows.truthy_int hQ
theorem TE.val{e:aN}{f:List MV→Option PV}(h:SE L sc σ k e f)(he: ∀env whole,isTrue e env whole=(do let v←whole;standAt e.pos;holding [v] (truthy v))):TE L sc σ k e (fun ρ=>(f ρ).bind lg):=by
 intro env A X s ρ b Q E R F I hf hQ
 replace hf:=Option.bind_eq_some_iff.mp hf
 obtain⟨a,uN,hf⟩:=hf
 exact wpAny_isTrue_value (he:=he _ _) (h env A X s ρ a _ E R F I uN fun v s₁ hv d=>s9 hv hf (hQ _ d))
theorem TE.cmp{op:CmpOp}{l r:aN}{pos:cM}{f g:List MV→Option PV}{o:PV→PV→Option PV}(hl:SE L sc σ k l f)(hr:SE L sc σ k r g)(ho:ni L (compareOp op) o)
  (hm:behindInMarks op r=false:=by rfl):TE L sc σ k (.Compare l [op] [r] pos) (fun ρ=>(iy f g o ρ).bind lg):=by
 intro env A X s ρ b Q E R F I hf hQ
 replace hf:=Option.bind_eq_some_iff.mp hf
 obtain⟨c,hc,hf⟩:=hf
 obtain⟨a,b',uN,GF,Ct⟩:=oE hc
 refine wpAny_isTrue_Compare1 (hm:=hm) (hl env A X s ρ a _ E R F I uN fun u s₁ hu iu=>hr env A X s₁ ρ b' _ E R (F.done iu) iu.inv GF fun v gQ hv gP=> ?_)
 exact ho A X gQ a b' c u v _ E (R.less (aC _)) ((F.done iu).done gP).xo gP.inv (hu.up gP.up) hv Ct fun x s' hx i5=>s9 hx hf (hQ _ ((iu.trans gP).trans i5))
theorem TE.not{e:aN}{pos:cM}{f:List MV→Option Bool}(h:TE L sc σ k e f):TE L sc σ k (.UnaryOp .Not e pos) (fun ρ=>(f ρ).map not):=by
 intro env A X s ρ b Q E R F I hf hQ
 obtain⟨a,uN,rfl⟩:=Option.map_eq_some_iff.mp hf
 exact wpAny_isTrue_Not (h env A X s ρ a _ E R F I uN fun s₁ d=>hQ _ d)
noncomputable def zx(L:ic)(sc:Scope)(σ:gJ)(k:Nat)(op:BoolOp)(es:List aN)(f:List MV→Option Bool):Prop:=
 ∀(env:b9) (A:aH) (X:List Addr) (s:aq) (ρ:List MV) (b:Bool) (Q:Bool→aq→Prop) (E:Value→aq→Prop),
  iU L k A→FR L sc σ env X s.heap ρ→Inv L s→f ρ=some b→
  (∀s',gI L X s s'→Q b s')→wpAny L.M A (allTrue op es env) Q E s
theorem zx.MM:zx L sc σ k .Or [] (fun _=>some false):=by
 intro env A X s ρ b Q E R F I hf hQ
 skip;(first|exact VD hf|cases hf)
 exact wpAny_allTrue_Or_nil (hQ _ (gI.refl I F.xo))
theorem zx.or{e:aN}{es:List aN}{f g:List MV→Option Bool}(h:TE L sc σ k e f)(hs:zx L sc σ k .Or es g):zx L sc σ k .Or (e::es) (fun ρ=>(f ρ).bind fun b=>if b then some true else g ρ):=by
 intro env A X s ρ b Q E R F I hf hQ
 replace hf:=Option.bind_eq_some_iff.mp hf
 obtain⟨a,uN,hf⟩:=hf
 refine wpAny_allTrue_Or_cons (h env A X s ρ a _ E R F I uN fun s₁ d=> ?_)
 cases a with
 |false=>exact hs env A X s₁ ρ b Q E R (F.done d) d.inv hf fun s' d'=>hQ _ (d.trans d')
 |true=>(first|exact VD hf|cases hf);exact hQ _ d
theorem TE.bool{op:BoolOp}{es:List aN}{pos:cM}{f:List MV→Option Bool}(h:zx L sc σ k op es f):TE L sc σ k (.BoolOp op es pos) f:=by
 intro env A X s ρ b Q E R F I hf hQ
 exact wpAny_isTrue_BoolOp (h env A X s ρ b Q E R F I hf hQ)
theorem SE.Va{t x y:aN}{pos:cM}{c:List MV→Option Bool}{f g:List MV→Option PV}(ht:TE L sc σ k t c)(hx:SE L sc σ k x f)(hy:SE L sc σ k y g):
  SE L sc σ k (.IfExp t x y pos) (fun ρ=>(c ρ).bind fun b=>if b then f ρ else g ρ):=by
 intro env A X s ρ p Q E R F I hf hQ
 replace hf:=Option.bind_eq_some_iff.mp hf
 obtain⟨b,hb,hf⟩:=hf
 refine wpAny_IfExp (ht env A X s ρ b _ E R F I hb fun s₁ d=> ?_)
 cases b with
 |true=>exact hx env A X s₁ ρ p Q E R (F.done d) d.inv hf fun v s' hv d'=>hQ v s' hv (d.trans d')
 |false=>exact hy env A X s₁ ρ p Q E R (F.done d) d.inv hf fun v s' hv d'=>hQ v s' hv (d.trans d')
theorem SE.jz{x y:aN}{pos:cM}{f g:List MV→Option PV}(hx:SE L sc σ k x f)(hy:SE L sc σ k y g):
  SE L sc σ k (.BoolOp .And [x,y] pos) (fun ρ=>(f ρ).bind fun a=>(lg a).bind fun b=>if b then g ρ else some a):=by
 intro env A X s ρ p Q E R F I hf hQ
 replace hf:=Option.bind_eq_some_iff.mp hf
 obtain⟨a,uN,hf⟩:=hf
 replace hf:=Option.bind_eq_some_iff.mp hf
 obtain⟨b,hb,hf⟩:=hf
 refine wpAny_And2 (hx env A X s ρ a _ E R F I uN fun v s₁ hv d=>s9 hv hb ?_)
 cases b with
 |true=>exact hy env A X s₁ ρ p Q E R (F.done d) d.inv hf fun v s' hv d'=>hQ v s' hv (d.trans d')
 |false=>(first|exact VD hf|cases hf);exact hQ _ _ hv d
noncomputable def LE(L:ic)(sc:Scope)(σ:gJ)(k:Nat)(es:List aN)(f:List MV→Option (List PV)):Prop:=
 ∀(env:b9) (A:aH) (X:List Addr) (s:aq) (ρ:List MV) (ps:List PV) (pos:cM) (Q:List Value→aq→Prop) (E:Value→aq→Prop),
  iU L k A→FR L sc σ env X s.heap ρ→Inv L s→f ρ=some ps→
  (∀vs s',gM L.prog L.w s'.heap X ps vs→gI L X s s'→Q vs s')→wpAny L.M A (spliced (backTo pos (starEach es env))) Q E s
theorem LE.nil:LE L sc σ k [] (fun _=>some []):=by
 intro env A X s ρ ps pos Q E R F I hf hQ
 skip;(first|exact VD hf|cases hf)
 exact cW (hQ _ _ gM.nil (gI.refl I F.xo))
theorem LE.cons{e:aN}{es:List aN}{f:List MV→Option PV}{g:List MV→Option (List PV)}(h:SE L sc σ k e f)(hs:LE L sc σ k es g)
  (he: ∀env,starEach (e::es) env=(false,eval e env)::starEach es env):LE L sc σ k (e::es) (fun ρ=>(f ρ).bind fun a=>(g ρ).map (a:: ·)):=by
 intro env A X s ρ ps pos Q E R F I hf hQ
 replace hf:=Option.bind_eq_some_iff.mp hf
 obtain⟨a,uN,hf⟩:=hf
 obtain⟨as,VN,rfl⟩:=Option.map_eq_some_iff.mp hf
 refine df (he:=he env) (h env A X s ρ a _ E R F I uN fun v s₁ hv d=>hs env A X s₁ ρ as pos _ E R (F.done d) d.inv VN fun vs gQ jL d'=> ?_)
 exact hQ _ _ (gM.cons (hv.up d'.up) jL) (d.trans d')
noncomputable def mL(l:List PV):Bool:=decide (l.length≤100000)
theorem SE.list{es:List aN}{pos:cM}{f:List MV→Option (List PV)}(h:LE L sc σ k es f):SE L sc σ k (.List es pos) (fun ρ=>(f ρ).bind fun l=>if mL l then some (.list l) else Option.none):=by
 intro env A X s ρ p Q E R F I hf hQ
 replace hf:=Option.bind_eq_some_iff.mp hf
 obtain⟨l,yH,hf⟩:=hf
 split at hf
 ·rename_i hs
  have k9:=of_decide_eq_true hs
  skip;(first|exact VD hf|cases hf)
  refine wpAny_List (h env A X s ρ l pos _ E R F I yH fun vs s₁ jL d=>⟨by rw[jL.length];show _≤16777216;omega,?_⟩)
  exact hQ _ _ (newList d.inv (F.done d).xo (xs:=vs.toArray) (by simpa using jL) _) (d.trans (gI.push d.inv d.xo _ _))
 ·(first|exact VD hf|cases hf)
theorem SE.tup{es:List aN}{kk:Nat}{pos:cM}{f:List MV→Option (List PV)}(h:LE L sc σ k es f):SE L sc σ k (.Tuple es kk pos) (fun ρ=>(f ρ).bind fun l=>if mL l then some (.tup l) else Option.none):=by
 intro env A X s ρ p Q E R F I hf hQ
 replace hf:=Option.bind_eq_some_iff.mp hf
 obtain⟨l,yH,hf⟩:=hf
 split at hf
 ·rename_i hs
  have k9:=of_decide_eq_true hs
  skip;(first|exact VD hf|cases hf)
  refine wpAny_Tuple (h env A X s ρ l pos _ E R F I yH fun vs s₁ jL d=>⟨by rw[jL.length];show _≤16777216;omega,?_⟩)
  exact hQ _ _ (zo d.inv (F.done d).xo (xs:=vs.toArray) (by simpa using jL) _) (d.trans (gI.push d.inv d.xo _ _))
 ·(first|exact VD hf|cases hf)
theorem SE.QN{pos:cM}:SE L sc σ k (.Dict [] [] pos) (fun _=>some (.iM [] [])):=by
 intro env A X s ρ p Q E R F I hf hQ
 skip;(first|exact VD hf|cases hf)
 refine wpAny_Dict_empty (hQ _ _ ?_ (gI.push I F.xo _ _))
 exact .intro _ ⟨[],rfl,F.xo.size,Heap.DictOf.new _,rfl,gM.nil⟩
theorem SE.QO{k1 k2:Str}{c1 c2:Nat}{p1 p2 pos:cM}{x y:aN}{f g:List MV→Option PV}(hx:SE L sc σ k x f)(hy:SE L sc σ k y g)(iS:k1≠k2):
  SE L sc σ k (.Dict [some (.Constant (.str k1) c1 p1),some (.Constant (.str k2) c2 p2)] [x,y] pos) (fun ρ=>(f ρ).bind fun a=>(g ρ).map fun b=> .iM [k1,k2] [a,b]):=by
 intro env A X s ρ p Q E R F I hf hQ
 replace hf:=Option.bind_eq_some_iff.mp hf
 obtain⟨a,uN,hf⟩:=hf
 obtain⟨b,GF,rfl⟩:=Option.map_eq_some_iff.mp hf
 have d0:=gI.push I F.xo ({cls:= .type "dict",data:= .dict #[]}:Obj) s.toks
 refine wpAny_Dict_walk (knd:=strKind L.prog L.w) (by rfl) (by rfl) (by simp) (by simp) ?_
 have h0:(({s with heap:=s.heap.push {cls:= .type "dict",data:= .dict #[]}}:aq).heap).DictOf (strKind L.prog L.w) s.heap.objs.size []:=Heap.DictOf.new _
 have hD:s.heap.objs.size≠L.tb:=fun e=>F.xo.size (e▸F.xo.tb)
 have W:FR L sc σ env (s.heap.objs.size::X) (s.heap.push {cls:= .type "dict",data:= .dict #[]}) ρ:=F.widen (fun b o e=>iq _ _ b o e) I.ir (fun a ha=>by
   rcases List.mem_cons.mp ha with rfl|h
   ·exact .inr (gY _)
   ·exact .inl h) (fun a ha=>av _ ha) (fun a ha=>by
   rcases List.mem_cons.mp ha with rfl|h
   ·exact⟨_,aE _ rfl⟩
   ·obtain⟨o,ho⟩:=F.xo.there a h;exact⟨o,iq _ _ _ _ ho⟩)
 refine pairTrees_cons_walk (f9 ?_)
 have d1:=gI.toks d0.inv W.xo (s.toks+1)
 refine hx env A _ _ ρ a _ E R (W.done d1) d1.inv uN fun u s₁ hu gP=> ?_
 refine pairTrees_cons_walk (f9 ?_)
 have d3:=gI.toks gP.inv gP.xo (s₁.toks+1)
 refine hy env A _ _ ρ b _ E R (((W.done d1).done gP).done d3) d3.inv GF fun v gQ hv nI=> ?_
 have dd:=((d1.trans gP).trans d3).trans nI
 refine pairTrees_nil_walk ⟨[(k1,u),(k2,v)],⟨isStrOf_self k1 s.toks,rfl,isStrOf_self k2 s₁.toks,rfl,trivial⟩,?_,fun h' hd hs=> ?_⟩
 ·exact jc h0 fun o e=>dd.keep _ o hD e
 ·have hex: ∃o,h'.get? s.heap.objs.size=some o:=kj hd
  have hkk: ∀b o,b≠s.heap.objs.size→gQ.heap.get? b=some o→h'.get? b=some o:=fun b o hb e=>hs.extBut b o hb e
  have EK:XO L (s.heap.objs.size::X) h':=dd.xo.mut (az ..) hD hkk hex
  have VO:gI L X s {gQ with heap:=h',toks:=gQ.toks+2}:=by
   refine⟨fun b o hb e=>hkk b o (fun e'=> ?_) (dd.keep b o hb (iq _ _ b o e)),⟨fun a o e=> ?_,dd.inv.bare⟩,EK.sub (fun a ha=>av _ ha) F.xo.tb F.xo.sm,dd.os.trans d0.os,dd.drawn.trans d0.drawn⟩
   ·rw[e',gY] at e;(first|exact VD e|cases e)
   ·refine hkk a o (fun e'=> ?_) (dd.inv.ir a o e)
    have:=I.ir a o e
    rw[e',gY] at this;(first|exact VD this|cases this)
  refine hQ _ _ ?_ VO
  have hm:merged [] [(k1,u),(k2,v)]=[(k1,u),(k2,v)]:=by simp[merged,stored,iS]
  rw[hm] at hd
  have u1:Up gQ.heap (s.heap.objs.size::X) h' X:=fun a o ha e=>⟨fun hm=>ha (av _ hm),hkk a o (fun e'=>ha (e'▸az ..)) e⟩
  exact .intro _ ⟨_,rfl,F.xo.size,hd,rfl,gM.cons ((hu.up (d3.trans nI).up).up u1) (gM.cons (hv.up u1) gM.nil)⟩
end
end
section
open PySem
theorem yI{h:Heap}{a:Addr}{m m':Str→Option Value}(x:h.Ns a m)(y:h.Ns a m'):m=m':=by
 obtain⟨o,es,ep,ho,Ob,_,hf⟩:=x
 obtain⟨o',U9,VI,lp,VP,_,Kd⟩:=y
 obtain rfl:=Option.some.inj (ho.symm.trans lp)
 obtain⟨rfl,_⟩:=Data.dict.inj (Ob.symm.trans VP)
 exact funext fun x=>(hf x).symm.trans (Kd x)
theorem A0{h:Heap}{a:Addr}{u v:Option Value}(x:h.IsCell a u)(y:h.IsCell a v):u=v:=
 x.elim fun o x=>y.elim fun o' y=>Data.cell.inj (x.2.symm.trans ((congrArg Obj.data (Option.some.inj (x.1.symm.trans y.1))).trans y.2))
theorem DK{h:Heap}{a:Addr}{m:Str→Option Value}{u:Option Value}(x:h.Ns a m)(y:h.IsCell a u):False:=
 x.elim fun o x=>x.elim fun es x=>x.elim fun ep x=>y.elim fun o' y=>uh (x.2.1.symm.trans ((congrArg Obj.data (Option.some.inj (x.1.symm.trans y.1))).trans y.2))
theorem Reads.unique{env:b9}{h:Heap}{x:Str}{u v:Value}(a:Reads env h x u)(b:Reads env h x v):u=v:=by
 rcases a with⟨hk,m,hn,hm⟩|⟨hk,hd,c,pP,hv⟩<;>rcases b with⟨qt,m',JS,AJ⟩|⟨qt,sX,c',Oc,oD⟩
 ·exact Option.some.inj (hm.symm.trans ((congrFun (yI hn JS) x).trans AJ))
 ·rw[hk] at qt;rcases qt with h|h<;>(first|exact VD h|cases h)
 ·rw[qt] at hk;rcases hk with h|h<;>(first|exact VD h|cases h)
 ·obtain rfl:=Option.some.inj (pP.symm.trans Oc)
  exact Option.some.inj (A0 hv oD)
structure Holds(σ:gJ)(env:b9)(h:Heap)(ρ:List MV)(x:Str)(i:Nat)(mv:MV)(a:Addr):Prop where
 lk:σ.lookup x=some i
 val:ρ[i]? =some mv
 ow:mv.owned=true
 rd:Reads env h x (.ref a)
theorem nt{mv:MV}(h:mv.owned=true):mv≠ .un:=by rintro rfl;exact Bool.noConfusion h
structure FS(L:ic)(sc:Scope)(σ:gJ)(own:List Str)(env:b9)(Y Z:List Addr)(h:Heap)(ρ:List MV):Prop where
 fr:FR L sc σ env (Y++Z) h ρ
 ta:env.locals∈Y
 ns: ∃m,h.Ns env.locals m
 cell: ∀x∈own,sc.names.lookup x=some .local∨(sc.names.lookup x=some .cell∧(x==("__classdict__":Str))=false∧ ∃c,env.cells.lookup x=some c∧c∈Y∧(∃v,h.IsCell c v)∧ ∀y,y≠x→env.cells.lookup y≠some c)
 apart: ∀y∈Y,y∉Z
 EL: ∀x i mv a,Holds σ env h ρ x i mv a→a∈Y∧a≠env.locals
 sep: ∀x y i j mv nj a,Holds σ env h ρ x i mv a→Holds σ env h ρ y j nj a→i=j
structure rx(env:b9)(x:Str)(v:Value)(D:Addr)(h h':Heap):Prop where
 keep: ∀b o,b≠D→h.get? b=some o→h'.get? b=some o
 ex: ∃o,h'.get? D=some o
 here:Reads env h' x v
 ns: ∃m,h'.Ns env.locals m
 others: ∀y u,y≠x→Reads env h y u→Reads env h' y u
 cells: ∀y c u,env.cells.lookup y=some c→h.IsCell c u→ ∃u,h'.IsCell c u
theorem rx.exi{env:b9}{x:Str}{v:Value}{D:Addr}{h h':Heap}(S:rx env x v D h h'){c:Addr}(hc: ∃o,h.get? c=some o): ∃o,h'.get? c=some o:=by
 by_cases e:c=D
 ·rw[e];exact S.ex
 ·obtain⟨o,ho⟩:=hc;exact⟨o,S.keep c o e ho⟩
section
variable {L:ic} {sc:Scope} {σ:gJ} {own:List Str} {env:b9} {Y Z:List Addr} {ρ:List MV}
theorem FS.storeName{A:aH}{s:aq}{E:Value→aq→Prop}{Q:Unit→aq→Prop}{x:Str}{v:Value}{M:Model}(F:FS L sc σ own env Y Z s.heap ρ)(hx:x∈own)
  (hQ: ∀D h' tk,D∈Y→D≠L.tb→(D=env.locals∨ ∃u,s.heap.IsCell D u)→rx env x v D s.heap h'→Q () {s with heap:=h',toks:=tk}):wpAny M A (storeName env x v) Q E s:=by
 obtain⟨m,hn⟩:=F.ns
 have uj:env.scope.kind= .function:=by rw[F.fr.scope];exact F.fr.kind
 have Vb:env.kindOf x=sc.names.lookup x:=by unfold b9.kindOf;rw[F.fr.scope]
 rcases F.cell x hx with hl|⟨hl,hcd,c,hc,GX,⟨Od,hv⟩,hap⟩
 ·refine wpAny_storeName_local (Vb.trans hl) hn (fun h' JS k9=> ?_) (by rw[uj];rfl)
  have MN: ∀c u,s.heap.IsCell c u→h'.IsCell c u:=fun c u hu=>hu.sameBut k9 fun e=>DK hn (e▸hu)
  refine hQ env.locals h' _ F.ta F.fr.locals.1 (.inl rfl) ⟨fun b o hb e=>k9.extBut b o hb e,JS.elim fun o x=>x.elim fun _ x=>x.elim fun _ x=>⟨o,x.1⟩,.inl ⟨Vb.trans hl,_,JS,if_pos rfl⟩,⟨_,JS⟩,fun y u hy r=> ?_,fun y c u _ hu=>⟨u,MN c u hu⟩⟩
  rcases r with⟨hk,Oe,GY,yJ⟩|⟨hk,hd,c,pP,hv⟩
  ·exact .inl ⟨hk,_,JS,(if_neg hy).trans (yI hn GY▸yJ)⟩
  ·exact .inr ⟨hk,hd,c,pP,MN _ _ hv⟩
 ·refine wpAny_storeName_cell uj (Vb.trans hl) hc hv fun h' GZ k9=> ?_
  have ZI:env.locals≠c:=fun e=>DK hn (e▸hv)
  refine hQ c h' s.toks GX (F.fr.cells x c hc).1 (.inr ⟨_,hv⟩) ⟨fun b o hb e=>k9.extBut b o hb e,GZ.elim fun o x=>⟨o,x.1⟩,.inr ⟨.inl (Vb.trans hl),hcd,c,hc,GZ⟩,⟨m,hn.sameBut k9 ZI⟩,fun y u hy r=> ?_,fun y Of u pP hu=> ?_⟩
  ·rcases r with⟨hk,Oe,GY,yJ⟩|⟨hk,hd,Of,pP,QP⟩
   ·exact .inl ⟨hk,_,GY.sameBut k9 ZI,yJ⟩
   ·exact .inr ⟨hk,hd,Of,pP,QP.sameBut k9 fun e=>hap y hy (e▸pP)⟩
  ·by_cases e:Of=c
   ·exact⟨_,e▸GZ⟩
   ·exact⟨u,hu.sameBut k9 e⟩
structure gO(L:ic)(Y:List Addr)(s s':aq):Prop where
 keep: ∀b o,b≠L.tb→b∉Y→s.heap.get? b=some o→s'.heap.get? b=some o
 inv:Inv L s'
 os:s'.os=s.os
 drawn:s'.drawn=s.drawn
theorem gO.refl{s:aq}(i:Inv L s):gO L Y s s:=⟨fun _ _ _ _ e=>e,i,rfl,rfl⟩
theorem gO.jQ{X:List Addr}{s s':aq}(d:gI L X s s'):gO L Y s s':=⟨fun b o hb _ e=>d.keep b o hb e,d.inv,d.os,d.drawn⟩
theorem gO.trans{Y':List Addr}{s s' pd:aq}(x:gO L Y s s')(hY: ∀b∈Y',b∈Y∨s.heap.get? b=none)(y:gO L Y' s' pd):gO L Y s pd:=
 ⟨fun b o hb hn e=>y.keep b o hb (fun h=>by
  rcases hY b h with h1|h1
  ·exact hn h1
  ·rw[h1] at e;(first|exact VD e|cases e)) (x.keep b o hb hn e),y.inv,y.os.trans x.os,y.drawn.trans x.drawn⟩
theorem v9{ρ:List MV}{i:Nat}{nv mv:MV}(e:(ρ.set i nv)[i]? =some mv):mv=nv:=by
 rw[List.getElem?_set_self'] at e
 cases h:ρ[i]? with
 |none=>rw[h] at e;exact g8 e
 |some _=>rw[h] at e;exact(Option.some.inj e).symm
theorem yK{ρ:List MV}{i j:Nat}{nv:MV}(hj:j≠i):(ρ.set i nv)[j]? =ρ[j]? :=eW (Ne.symm hj)
theorem FS.gen{Y' Z':List Addr}{h h':Heap}{ρ':List MV}(i:Nat)(F:FS L sc σ own env Y Z h ρ)(x':XO L (Y'++Z') h')(hl:env.locals∈Y')(Og: ∃m,h'.Ns env.locals m)
  (G0: ∀y c,env.cells.lookup y=some c→(∃o,h'.get? c=some o)∧ ∀u,c∈Y→h.IsCell c u→c∈Y'∧ ∃u,h'.IsCell c u)(CA: ∀y∈Y',y∉Z')(u:Up h (Y++Z) h' (Y'++Z'))
  (slots: ∀(j:Nat) mv,j≠i→ρ'[j]? =some mv→mv≠ .un→ρ[j]? =some mv)(ZJ: ∀y j v,σ.lookup y=some j→j≠i→Reads env h y v→Reads env h' y v)
  (keep: ∀y j mv a o,j≠i→Holds σ env h ρ y j mv a→a≠L.tb→h.get? a=some o→(∀u,o.data≠ .cell u)→a∈Y'∧h'.get? a=some o)
  (new: ∀y mv,σ.lookup y=some i→ρ'[i]? =some mv→mv≠ .un→ ∃v,Reads env h' y v∧ro L h' (Y'++Z') mv v)
  (Oh: ∀y mv a,Holds σ env h' ρ' y i mv a→(a∈Y'∧a≠env.locals)∧ ∀z j nj,j≠i→ ¬ Holds σ env h ρ z j nj a):FS L sc σ own env Y' Z' h' ρ':=by
 have G1: ∀{y j mv a},j≠i→Holds σ env h' ρ' y j mv a→Holds σ env h ρ y j mv a:=fun{y j mv a} hj H=>
  have hm:=slots j mv hj H.val (nt H.ow)
  (F.fr.rd y j H.lk mv hm (nt H.ow)).elim fun v r=>⟨H.lk,hm,H.ow,(ZJ y j v H.lk hj r.1).unique H.rd▸r.1⟩
 refine⟨⟨F.fr.scope,F.fr.kind,F.fr.globals,F.fr.builtins,x',⟨F.fr.locals.1,Og.elim fun m x=>x.elim fun o x=>x.elim fun _ x=>x.elim fun _ x=>⟨o,x.1⟩⟩,fun y c hc=>⟨(F.fr.cells y c hc).1,(G0 y c hc).1⟩,F.fr.has,fun y j hy mv jy hu=> ?_⟩,hl,Og,fun x hx=> ?_,CA,fun y j mv a H=> ?_,fun y z j k mv nj a H1 H2=> ?_⟩
 ·by_cases e:j=i
  ·subst e;exact new y mv hy jy hu
  ·have hm:=slots j mv e jy hu
   exact(F.fr.rd y j hy mv hm hu).elim fun v r=>⟨v,ZJ y j v hy e r.1,r.2.vD u fun a o ea _ ht hg hc ho=>have k:=keep y j mv a o e ⟨hy,hm,ho,ea▸r.1⟩ ht hg hc;⟨aw _ k.1,k.2⟩⟩
 ·rcases F.cell x hx with hl|⟨hl,hcd,c,hc,GX,⟨Od,QQ⟩,VQ⟩
  ·exact .inl hl
  ·have k:=(G0 x c hc).2 Od GX QQ
   exact .inr ⟨hl,hcd,c,hc,k.1,k.2,VQ⟩
 ·by_cases e:j=i
  ·subst e;exact(Oh y mv a H).1
  ·have H0:=G1 e H
   obtain⟨v,r,m⟩:=F.fr.rd y j H0.lk mv H0.val (nt H0.ow)
   obtain⟨a',o,ea,_,ht,hg,hc⟩:=m.addr H0.ow
   have ea:a'=a:=Value.ref.inj (ea.symm.trans (r.unique H0.rd))
   subst ea
   exact⟨(keep y j mv a' o e H0 ht hg hc).1,(F.EL y j mv a' H0).2⟩
 ·by_cases e1:j=i
  ·by_cases e2:k=i
   ·exact e1.trans e2.symm
   ·subst e1;exact absurd (G1 e2 H2) ((Oh y mv a H1).2 z k nj e2)
  ·by_cases e2:k=i
   ·subst e2;exact absurd (G1 e1 H1) ((Oh z nj a H2).2 y j mv e1)
   ·exact F.sep y z j k mv nj a (G1 e1 H1) (G1 e2 H2)
theorem FS.G2{Y' Z' W:List Addr}{h h':Heap}{ρ':List MV}(F:FS L sc σ own env Y Z h ρ)(hW: ∀a∈W,a∉Y)(hk: ∀b o,b≠L.tb→b∉W→h.get? b=some o→h'.get? b=some o)(hWX: ∀a∈W,a∈Y++Z)(x':XO L (Y'++Z') h')
  (hY: ∀a∈Y,a∈Y')(hN: ∀a∈Y'++Z',a∈Y++Z∨h.get? a=none)(CA: ∀y∈Y',y∉Z')(hc: ∀x c,env.cells.lookup x=some c→c∉W)(slots: ∀(j:Nat) mv,ρ'[j]? =some mv→mv≠ .un→ρ[j]? =some mv):FS L sc σ own env Y' Z' h' ρ':=by
 have hl:env.locals∉W:=fun h=>hW _ h F.ta
 have hn: ∀m,h.Ns env.locals m→h'.Ns env.locals m:=fun m hn=>hn.at' fun o e=>hk _ o F.fr.locals.1 hl e
 have MN: ∀y c u,env.cells.lookup y=some c→h.IsCell c u→h'.IsCell c u:=fun y c u pP x=>x.elim fun o x=>⟨o,hk c o (F.fr.cells y c pP).1 (hc y c pP) x.1,x.2⟩
 refine F.gen ρ'.length x' (hY _ F.ta) (F.ns.elim fun m x=>⟨m,hn m x⟩) (fun y c pP=>⟨(F.fr.cells y c pP).2.elim fun o ho=>⟨o,hk c o (F.fr.cells y c pP).1 (hc y c pP) ho⟩,fun u GX hu=>⟨hY c GX,u,MN y c u pP hu⟩⟩) CA (fun a o ha e=>⟨fun h=> ?_,hk a o (fun e=>ha (e▸F.fr.xo.tb)) (fun h=>ha (hWX a h)) e⟩)
  (fun j mv _ e hu=>slots j mv e hu) (fun y j v _ _ r=>r.map hn fun c u pP=>MN y c u pP) (fun y j mv a o _ H ht hg _=>have k:=(F.EL y j mv a H).1;⟨hY a k,hk a o ht (fun h=>hW a h k) hg⟩) (fun y mv _ e=>g8 ((cR (br _)).symm.trans e)) fun y mv a H=>g8 ((cR (br _)).symm.trans H.val)
 rcases hN a h with h1|h1
 ·exact ha h1
 ·exact g8 (h1.symm.trans e)
theorem FS.setG{h h':Heap}{x:Str}{i:Nat}{nv:MV}{v:Value}{D:Addr}(F:FS L sc σ own env Y Z h ρ)(hi:σ.lookup x=some i)(inj: ∀y,σ.lookup y=some i→y=x)
  (hD:D∈Y)(yL:D≠L.tb)(DL:D=env.locals∨ ∃u,h.IsCell D u)(S:rx env x v D h h')(hv:ro L h (Y++Z) nv v)(hw: ∀a,nv.owned=true→v= .ref a→(a∈Y∧a≠env.locals)∧ ∀z j nj,j≠i→ ¬ Holds σ env h ρ z j nj a):FS L sc σ own env Y Z h' (ρ.set i nv):=by
 have Gk:D∈Y++Z:=aw _ hD
 have u:Up h (Y++Z) h' (Y++Z):=fun a o ha e=>⟨ha,S.keep a o (fun h=>ha (h▸Gk)) e⟩
 have ZK: ∀a o,a≠env.locals→h.get? a=some o→(∀u,o.data≠ .cell u)→a≠D:=fun a o G3 hg hc e=>DL.elim (fun h=>G3 (e.trans h)) fun⟨u,o',lp,e'⟩=>hc u (Option.some.inj (hg.symm.trans (e▸lp))▸e')
 refine F.gen i (F.fr.xo.mut Gk yL S.keep S.ex) F.ta S.ns (fun y c hc=>⟨S.exi (F.fr.cells y c hc).2,fun u GX hu=>⟨GX,S.cells y c u hc hu⟩⟩) F.apart u (fun j mv hj e _=>yK hj▸e) (fun y j v hy hj r=>S.others y v (fun e=>hj (Option.some.inj (hy.symm.trans (e▸hi)))) r)
  (fun y j mv a o _ H _ hg hc=>have k:=F.EL y j mv a H;⟨k.1,S.keep a o (ZK a o k.2 hg hc) hg⟩) (fun y mv hy e _=> ?_) fun y mv a H=> ?_
 ·obtain rfl:=v9 e
  obtain rfl:=inj y hy
  exact⟨v,S.here,hv.vD u fun a o ea ha _ hg hc ho=>⟨ha,S.keep a o (ZK a o (hw a ho ea).1.2 hg hc) hg⟩⟩
 ·obtain rfl:=v9 H.val
  obtain rfl:=inj y H.lk
  exact hw a H.ow (S.here.unique H.rd)
theorem FS.set{h h':Heap}{x:Str}{i:Nat}{p:PV}{v:Value}{D:Addr}(F:FS L sc σ own env Y Z h ρ)(hi:σ.lookup x=some i)(inj: ∀y,σ.lookup y=some i→y=x)
  (hD:D∈Y)(yL:D≠L.tb)(DL:D=env.locals∨ ∃u,h.IsCell D u)(S:rx env x v D h h')(hv:VR L.prog L.w h (Y++Z) p v):FS L sc σ own env Y Z h' (ρ.set i (.p p)):=
 F.setG (nv:= .p p) hi inj hD yL DL S hv fun _ ho=>Bool.noConfusion ho
end
end
section
open PySem
section
variable {L:ic} {sc:Scope} {σ:gJ} {own:List Str} {env:b9} {Y Z:List Addr} {ρ:List MV}
theorem FS.done{s s':aq}(F:FS L sc σ own env Y Z s.heap ρ)(d:gI L (Y++Z) s s'):FS L sc σ own env Y Z s'.heap ρ:=
 F.G2 (W:=[]) (fun _ h=>nomatch h) (fun b o hb _ e=>d.keep b o hb e) (fun _ h=>nomatch h) d.xo (fun _ h=>h) (fun _ h=> .inl h) F.apart (fun _ _ _ h=>nomatch h) fun _ _ e _=>e
theorem FS.G4{s s':aq}{a:Addr}(F:FS L sc σ own env Y Z s.heap ρ)(ha:s.heap.get? a=none)(d:gI L (a::(Y++Z)) s s'):FS L sc σ own env (a::Y) Z s'.heap ρ:=
 F.G2 (W:=[]) (fun _ h=>nomatch h) (fun b o hb _ e=>d.keep b o hb e) (fun _ h=>nomatch h) d.xo (fun _ h=>av _ h) (fun b h=>(List.mem_cons.mp h).elim (fun e=> .inr (e▸ha)) .inl)
  (List.forall_mem_cons.mpr ⟨fun hz=>F.fr.xo.fresh ha (au _ hz),F.apart⟩) (fun _ _ _ h=>nomatch h) fun _ _ e _=>e
noncomputable def FS.Clear(σ:gJ)(env:b9)(h:Heap)(ρ:List MV)(i:Nat)(a:Addr):Prop:= ∀z j nj,j≠i→ ¬ Holds σ env h ρ z j nj a
theorem FS.Oi{h h':Heap}{x:Str}{i:Nat}{nv:MV}{a:Addr}{D:Addr}(F:FS L sc σ own env Y Z h ρ)(hi:σ.lookup x=some i)(inj: ∀y,σ.lookup y=some i→y=x)
  (hD:D∈Y)(yL:D≠L.tb)(DL:D=env.locals∨ ∃u,h.IsCell D u)(S:rx env x (.ref a) D h h')(ha:a∈Y)(G3:a≠env.locals)(pP:FS.Clear σ env h ρ i a)(hv:ro L h (Y++Z) nv (.ref a)):FS L sc σ own env Y Z h' (ρ.set i nv):=
 F.setG hi inj hD yL DL S hv fun a' _ e=>Value.ref.inj e▸⟨⟨ha,G3⟩,pP⟩
theorem FS.QR{h h':Heap}{x:Str}{i:Nat}{mv nv:MV}{a:Addr}(F:FS L sc σ own env Y Z h ρ)(hi:σ.lookup x=some i)(inj: ∀y,σ.lookup y=some i→y=x)(jy:ρ[i]? =some mv)(ho:mv.owned=true)(hr:Reads env h x (.ref a))
  (hk: ∀b o,b≠L.tb→b≠a→h.get? b=some o→h'.get? b=some o)(x':XO L (Y++Z) h')(hv:ro L h' (Y++Z) nv (.ref a)):FS L sc σ own env Y Z h' (ρ.set i nv):=by
 have H:Holds σ env h ρ x i mv a:=⟨hi,jy,ho,hr⟩
 obtain⟨DM,G3⟩:=F.EL _ _ _ _ H
 have qu:a∈Y++Z:=aw _ DM
 have Qr: ∀u,¬ h.IsCell a u:=fun u hu=>by
  obtain⟨Od,G5,VS⟩:=F.fr.rd x i hi mv jy (nt ho)
  obtain⟨a',aaO,e',_,_,hg,hc⟩:=VS.addr ho
  cases e'.symm.trans (G5.unique hr)
  exact hu.elim fun o hu=>hc u (Option.some.inj (hu.1.symm.trans hg)▸hu.2)
 have DN: ∀c u,c≠L.tb→h.IsCell c u→h'.IsCell c u:=fun c u ht hu=>hu.elim fun o x=>⟨o,hk c o ht (fun e=>Qr u (e▸hu)) x.1,x.2⟩
 have wa: ∀m,h.Ns env.locals m→h'.Ns env.locals m:=fun m hn=>hn.at' fun o e=>hk _ o F.fr.locals.1 (Ne.symm G3) e
 have hrd: ∀y u,Reads env h y u→Reads env h' y u:=fun y u r=>r.map wa fun c u pP=>DN c u (F.fr.cells y c pP).1
 refine F.gen i x' F.ta (F.ns.elim fun m hn=>⟨m,wa m hn⟩) (fun y c hc=>⟨?_,fun u GX hu=>⟨GX,u,DN c u (F.fr.cells y c hc).1 hu⟩⟩) F.apart (fun b o hb e=>⟨hb,hk b o (fun h=>hb (h▸F.fr.xo.tb)) (fun h=>hb (h▸qu)) e⟩) (fun j mv hj e _=>yK hj▸e) (fun y j v _ _=>hrd y v)
  (fun y j nj b o hj H' ht hg _=>⟨(F.EL y j nj b H').1,hk b o ht (fun e=>hj (F.sep _ _ _ _ _ _ _ H' (e▸H))) hg⟩) (fun y nj hy e _=> ?_) fun y nj b H'=> ?_
 ·by_cases e:c=a
  ·exact e▸x'.there a qu
  ·exact(F.fr.cells y c hc).2.elim fun o ho=>⟨o,hk c o (F.fr.cells y c hc).1 e ho⟩
 ·obtain rfl:=v9 e
  obtain rfl:=inj y hy
  exact⟨.ref a,hrd _ _ hr,hv⟩
 ·obtain rfl:=inj y H'.lk
  obtain rfl:a=b:=Value.ref.inj ((hrd _ _ hr).unique H'.rd)
  exact⟨⟨DM,G3⟩,fun z j nj hj Hz=>hj (F.sep _ _ _ _ _ _ _ Hz H)⟩
theorem FS.mut{h h':Heap}{x:Str}{i:Nat}{mv nv:MV}{a:Addr}(F:FS L sc σ own env Y Z h ρ)(hi:σ.lookup x=some i)(inj: ∀y,σ.lookup y=some i→y=x)(jy:ρ[i]? =some mv)(ho:mv.owned=true)(hr:Reads env h x (.ref a))
  (hk: ∀b o,b≠a→h.get? b=some o→h'.get? b=some o)(qE:nv.owned=true)(hv:ro L h' (Y++Z) nv (.ref a)):FS L sc σ own env Y Z h' (ρ.set i nv):=by
 obtain⟨a',o,e,_,ht,hg,_⟩:=hv.addr qE
 skip;(first|exact VD e|cases e)
 exact F.QR hi inj jy ho hr (fun b o _=>hk b o) (F.fr.xo.mut (aw _ (F.EL _ _ _ _ ⟨hi,jy,ho,hr⟩).1) ht hk ⟨o,hg⟩) hv
theorem FS.chg{h h':Heap}{W Z':List Addr}(F:FS L sc σ own env Y Z h ρ)(hW: ∀a∈W,a∈Z)(hk: ∀b o,b≠L.tb→b∉W→h.get? b=some o→h'.get? b=some o)(x':XO L (Y++Z') h')(hZ: ∀a∈Z',a∈Z)
  (hc: ∀x c,env.cells.lookup x=some c→c∉W):FS L sc σ own env Y Z' h' ρ:=
 F.G2 (fun a hw ha=>F.apart a ha (hW a hw)) hk (fun a h=>au _ (hW a h)) x' (fun _ h=>h) (fun a ha=> .inl ((List.mem_append.mp ha).elim (aw _) fun h=>au _ (hZ a h))) (fun y hy hz=>F.apart y hy (hZ y hz)) hc fun _ _ e _=>e
theorem FS.Oj{Z' X:List Addr}{s s':aq}(F:FS L sc σ own env Y Z s.heap ρ)(d:gI L X s s')(x':XO L (Y++Z') s'.heap)(hZ: ∀a∈Z',a∈Z∨s.heap.get? a=none):FS L sc σ own env Y Z' s'.heap ρ:=
 F.G2 (W:=[]) (fun _ h=>nomatch h) (fun b o hb _ e=>d.keep b o hb e) (fun _ h=>nomatch h) x' (fun _ h=>h) (fun a ha=>(List.mem_append.mp ha).elim (fun h=> .inl (aw _ h)) fun h=>(hZ a h).imp (au _) id)
  (fun y hy hz=>(hZ y hz).elim (F.apart y hy) fun h=>F.fr.xo.fresh h (aw _ hy)) (fun _ _ _ h=>nomatch h) fun _ _ e _=>e
theorem FS.weaken{h:Heap}{ρ':List MV}(F:FS L sc σ own env Y Z h ρ)(hw: ∀(j:Nat) mv,ρ'[j]? =some mv→ρ[j]? =some mv∨mv= .un):FS L sc σ own env Y Z h ρ':=
 F.G2 (W:=[]) (fun _ h=>nomatch h) (fun _ _ _ _ e=>e) (fun _ h=>nomatch h) F.fr.xo (fun _ h=>h) (fun _ h=> .inl h) F.apart (fun _ _ _ h=>nomatch h) fun j mv e hu=>(hw j mv e).resolve_right hu
end
end
section
open PySem
section
variable {L:ic} {A:aH} {E:Value→aq→Prop} {s:aq}
noncomputable abbrev Hd(L:ic)(A:aH):Prop:=A.handled=L.exc.map Value.ref
noncomputable abbrev HI(L:ic)(s:aq):Prop:=L.exc≠none→Inv L s
theorem xH:plainId "proto.unchain"=true:=by decide+kernel
theorem xI:entryFor table "proto.unchain"=some aD.«proto.unchain»:=dP (by kernel_rfl)
theorem CB{α:Type}{a:Addr}{o:Obj}{vs:Array Value}{Q:α→aq→Prop}(hH:Hd L A)(I:HI L s)(ha:L.exc≠none→L.look a=none)(ho:s.heap.get? a=some o)(hd:o.data= .fields vs)(hsz:2<vs.size)
  (h: ∀h',(∀b o,b≠a→s.heap.get? b=some o→h'.get? b=some o)→(∃o',h'.get? a=some o'∧o'.cls=o.cls)→E (.ref a) {s with heap:=h'}):wpAny L.M A (raiseNew (.ref a):Sem α) Q E s:=by
 unfold raiseNew
 refine ao (wpAny_handled ?_)
 rw[hH]
 cases he:L.exc with
 |none=>exact ao (aA (wpAny_throw (h s.heap (fun _ _ _ e=>e) ⟨o,ho,rfl⟩)))
 |some x=>
  obtain⟨ox,vx,hx,QS,h2⟩:=L.GC x he
  have hex:L.exc≠none:=by rw[he];simp
  have hxh:=(I hex).ir x ox hx
  have iS:(Value.ref x !=Value.ref a)=true:=by
   have:x≠a:=fun e=>by rw[e,ha hex] at hx;(first|exact VD hx|cases hx)
   simpa using this
  show wpAny _ _ (if (Value.ref x !=Value.ref a)=true then _ else _) _ _ s
  rw[if_pos iS]
  refine ao (aX (wpAny_runValue (ba xI ?_)))
  rw[aM xH _]
  show wpAny _ _ (field (.ref x) 2>>= _) _ _ s
  refine ao (aU hxh QS h2 ?_)
  show wpAny _ _ (if (Value.none==Value.none)=true then _ else _) _ _ s
  rw[if_pos (by decide)]
  refine ao (aA (aA ?_))
  unfold updateField
  refine ao (ao (wpAny_load ho ?_))
  rw[hd]
  show wpAny _ _ (if 2<vs.size then _ else _) _ _ s
  rw[if_pos hsz]
  refine wpAny_update ho (wpAny_throw (h _ (fun b o hb e=>(Heap.SameBut.update ..).extBut b o hb e) ⟨_,bc _ ho (Obj.isFreed_of_fields (Obj.data_mapFields hd _)),Obj.cls_mapFields ..⟩))
theorem zy{α:Type}{Q:α→aq→Prop}(hH:Hd L A)(I:HI L s)(h: ∀h' e,(∀b o,s.heap.get? b=some o→h'.get? b=some o)→(∃o,h'.get? e=some o∧o.cls= .type "StopIteration")→E (.ref e) {s with heap:=h'}):
  wpAny L.M A (newExc (.type "StopIteration") []>>= fun e=>(raiseNew e:Sem α)) Q E s:=by
 refine ao ?_
 simp only[newExc,newTuple]
 refine ao (bL ?_ (by size_fits))
 refine ao (m:=firstArgMember _ _) (c8 (a:=Value.none) (by first|rfl|(simp only[firstArgMember];rfl)) ?_)
 refine bL ?_ (by size_fits)
 have k1: ∀b o,s.heap.get? b=some o→(s.heap.push {cls:= .type "tuple",data:= .seq #[]}).get? b=some o:=fun b o e=>aB _ e
 refine CB hH (fun x=>(I x).keeps (tk:=s.toks) fun b o e=>aB _ (aB _ e)) (fun x=> ?_) (aE _ rfl) rfl (by simp;omega) fun h' hk hx=> ?_
 ·cases e:L.look (s.heap.push {cls:= .type "tuple",data:= .seq #[]}).objs.size with
  |none=>rfl
  |some o=>
   have:=k1 _ _ ((I x).ir _ _ e)
   exact absurd (aI this) (bD _)
 ·refine h h' _ (fun b o e=>hk b o ?_ (aB _ (aB _ e))) hx
  rintro rfl
  exact absurd (aI (k1 _ _ e)) (bD _)
noncomputable def EM(L:ic)(A:aH)(B:aD)(it:Addr)(s:aq):Prop:= ∀(Q:Fin→aq→Prop) (E:Value→aq→Prop),(∀h' e,cX it s.heap h'→(∃o,h'.get? e=some o∧o.cls= .type "StopIteration")→E (.ref e) {s with heap:=h'})→wpAny L.M A (B ⟨[.ref it],[]⟩) Q E s
theorem tc{it l:Addr}{i:Nat}{items:Array Value}(hH:Hd L A)(I:HI L s)(hit:s.heap.IsListIter it l i)(hn:L.exc≠none→L.look it=none)(hl:s.heap.IsList l items)(hx:items[i]? =none):EM L A aD.«list_iterator.__next__» it s:=by
 intro Q E h
 obtain⟨o,ho,hc,hd⟩:=id hit
 obtain⟨ol,Ke,_,nl,Kf⟩:=hl
 show wpAny _ _ (field (.ref it) 0>>= _) _ _ s
 refine ao (aU ho hd (x:= .ref l) rfl ?_)
 show wpAny _ _ (if (Value.ref l==Value.none)=true then _ else _) _ _ s
 rw[if_neg (show ¬ ((Value.ref l==Value.none)=true) from bl)]
 show wpAny _ _ (field (.ref it) 1>>= _) _ _ s
 refine ao (aU ho hd (x:= .int i 0) rfl ?_)
 show wpAny _ _ (seqItems? (.ref l)>>= _) _ _ s
 refine ao (bf Ke Kf ?_)
 simp only[bN,hx]
 refine ao (cS (ao (cB ho hd (by simp) ?_)))
 have hs:=Heap.SameBut.update s.heap it (Obj.mapFields (·.setIfInBounds 0 Value.none))
 refine zy hH (fun x=>⟨fun a o e=>hs.extBut a o (fun e'=>by rw[e',hn x] at e;(first|exact VD e|cases e)) ((I x).ir a o e),(I x).bare⟩) fun h' e hk he=>h h' e (fun b o hb e=>hk b o (hs.extBut b o hb e)) he
theorem ry{it l:Addr}{i:Nat}{items:Array Value}(hH:Hd L A)(I:HI L s)(hit:s.heap.IsTupleIter it l i)(hn:L.exc≠none→L.look it=none)(hl:s.heap.IsTuple l items)(hx:items[i]? =none):EM L A aD.«tuple_iterator.__next__» it s:=by
 intro Q E h
 obtain⟨o,ho,hc,hd⟩:=id hit
 obtain⟨ol,Ke,_,nl,Kf⟩:=hl
 show wpAny _ _ (field (.ref it) 0>>= _) _ _ s
 refine ao (aU ho hd (x:= .ref l) rfl ?_)
 show wpAny _ _ (if (Value.ref l==Value.none)=true then _ else _) _ _ s
 rw[if_neg (show ¬ ((Value.ref l==Value.none)=true) from bl)]
 show wpAny _ _ (field (.ref it) 1>>= _) _ _ s
 refine ao (aU ho hd (x:= .int i 0) rfl ?_)
 show wpAny _ _ (seqItems? (.ref l)>>= _) _ _ s
 refine ao (bf Ke Kf ?_)
 simp only[bN,hx]
 refine ao (cS (ao (cB ho hd (by simp) ?_)))
 have hs:=Heap.SameBut.update s.heap it (Obj.mapFields (·.setIfInBounds 0 Value.none))
 refine zy hH (fun x=>⟨fun a o e=>hs.extBut a o (fun e'=>by rw[e',hn x] at e;(first|exact VD e|cases e)) ((I x).ir a o e),(I x).bare⟩) fun h' e hk he=>h h' e (fun b o hb e=>hk b o (hs.extBut b o hb e)) he
theorem CC{it:Addr}{x left step:Int}(hH:Hd L A)(I:HI L s)(hit:IsRangeIter s.heap it x left step)(QT:left≤0):EM L A aD.«range_iterator.__next__» it s:=by
 intro Q E h
 show wpAny _ _ (field (.ref it) 0>>= _) _ _ s
 refine ao (aU hit rfl (x:=rawInt x) rfl ?_)
 show wpAny _ _ (field (.ref it) 1>>= _) _ _ s
 refine ao (aU hit rfl (x:=rawInt left) rfl ?_)
 show wpAny _ _ (field (.ref it) 2>>= _) _ _ s
 refine ao (aU hit rfl (x:=rawInt step) rfl ?_)
 show wpAny _ _ (if left≤0 then _ else _) _ _ s
 rw[if_pos QT]
 refine ao (cS ?_)
 refine ao ?_
 exact zy hH I fun h' e hk he=>h h' e (fun b o _ e=>hk b o e) he
theorem CD{it:Addr}{x:Str}{t:gh}{i:Nat}(hH:Hd L A)(I:HI L s)(hit:s.heap.IsStrIter it "str_ascii_iterator" x t i)(hn:L.exc≠none→L.look it=none)(hx:x.cps[i]? =none):EM L A aD.«str_ascii_iterator.__next__» it s:=by
 intro Q E h
 obtain⟨o,ho,hc,hd⟩:=id hit
 show wpAny _ _ (field (.ref it) 0>>= _) _ _ s
 refine ao (aU ho hd (x:= .str x t) rfl ?_)
 show wpAny _ _ (field (.ref it) 1>>= _) _ _ s
 refine ao (aU ho hd (x:= .int i 0) rfl ?_)
 simp only[bN,hx]
 refine ao (cS (ao (cB ho hd (by simp) (ao (dT ?_)))))
 have hs:=Heap.SameBut.update s.heap it (Obj.mapFields (·.setIfInBounds 0 (rawInt 0)))
 refine zy hH (fun x=>⟨fun a o e=>(Heap.SameBut.update ..).extBut a o (fun e'=>by rw[e',hn x] at e;(first|exact VD e|cases e)) ((I x).ir a o e),(I x).bare⟩) fun h' e hk he=>h h' e (fun b o hb e=>hk b o ((Heap.SameBut.update ..).extBut b o hb e)) he
theorem mI{T id:String}{B:aD}{it:Addr}{Q:Option Value→aq→Prop}(slot:Slot T (Str.ofString "__next__") id)(entry:entryFor table id=some B)(args:argsOk id ⟨[.ref it],[]⟩)(hT:s.TypeIs (.ref it) T)(h:EM L A.in1 B it s)
  (hQ: ∀h',cX it s.heap h'→Q none {s with heap:=h'}):wpAny L.M A (pyNext (.ref it)) Q E s:=by
 unfold pyNext
 refine ao (dw (bg (name:=Str.ofString "__next__") hT slot
  (bH slot hT entry (h _ _ fun h' e hk he=> ?_) args)))
 obtain⟨o,ho,hc⟩:=he
 refine ao (dh (T:="StopIteration") (b:=true) ⟨o,ho,hc⟩ fu ?_)
 exact aA (hQ _ hk)
theorem uk{T id:String}{B:aD}{it:Addr}{Q:Value→aq→Prop}(slot:Slot T (Str.ofString "__next__") id)(entry:entryFor table id=some B)(args:argsOk id ⟨[.ref it],[]⟩)(hT:s.TypeIs (.ref it) T)(h:EM L A.in1 B it s)
  (hE: ∀h' e,cX it s.heap h'→(∃o,h'.get? e=some o∧o.cls= .type "StopIteration")→E (.ref e) {s with heap:=h'}):wpAny L.M A (aD.SmallTypes.nextOf (.ref it)) Q E s:=by
 unfold aD.SmallTypes.nextOf
 exact ao (bg (name:=Str.ofString "__next__") hT slot
  (bH slot hT entry (h _ _ fun h' e hk he=>hE h' e hk he) args))
theorem A1(I:Inv L s):L.look s.heap.objs.size=none:=by
 cases e:L.look s.heap.objs.size with
 |none=>rfl
 |some o=>have:=I.ir _ _ e;rw[gY] at this;(first|exact VD this|cases this)
theorem pU{t:Addr}{items:Array Value}{Q:List Value→aq→Prop}(hH:Hd L A)(I:Inv L s)(ht:eD s.heap t items)
  (hQ: ∀h',cX s.heap.objs.size s.heap h'→Q items.toList {s with heap:=h'}):wpAny L.M A (unpackItems (.ref t) items.size none) Q E s:=by
 have kl:t≠s.heap.objs.size:=by obtain⟨o,ho,_⟩:=ht;exact eG (aI ho)
 have zz:=A1 I
 unfold unpackItems
 refine ao ?_
 unfold notIterableAtAll
 refine ao (bG ht.typeIs F.slot_tuple_iter.lookup (aA ?_))
 simp only[bp,if_false]
 refine ao (aX (PyProof.Rows.iter_tuple ht ?_))
 refine ao (aX (PyProof.Rows.draw_tuple kl items.size 0 _ _ ⟨_,aE _ rfl,rfl,rfl⟩ (ht.push _) (by omega) fun h₁ wb jk=> ?_))
 have G6:List.take items.size (List.drop 0 items.toList)=items.toList:=by rw[eY];exact cK (by simp)
 rw[G6,if_neg (by simp)]
 have QU:eD h₁ t items:=(ht.push _).extBut jk.extBut kl
 have uO:Inv L {s with heap:=h₁}:=⟨fun a o e=>jk.extBut a o (fun e'=>by rw[e',zz] at e;(first|exact VD e|cases e)) (aB _ (I.ir a o e)),I.bare⟩
 refine ao (aX (mI cz cY (cU _) (s:={s with heap:=h₁}) (Heap.IsTupleIter.typeIs wb) (ry (s:={s with heap:=h₁}) hH (fun _=>uO) wb (fun _=>zz) QU (by simp)) fun h₂ yM=> ?_))
 simp only[Option.isSome_none,bp,if_false]
 exact aA (hQ h₂ fun b o hb e=>yM b o hb (jk.extBut b o hb (aB _ e)))
theorem xJ{l:Addr}{items:Array Value}{Q:List Value→aq→Prop}(hH:Hd L A)(I:Inv L s)(hl:s.heap.IsList l items)
  (hQ: ∀h',cX s.heap.objs.size s.heap h'→Q items.toList {s with heap:=h'}):wpAny L.M A (unpackItems (.ref l) items.size none) Q E s:=by
 have kl:l≠s.heap.objs.size:=by obtain⟨o,ho,_⟩:=hl;exact eG (aI ho)
 have zz:=A1 I
 unfold unpackItems
 refine ao ?_
 unfold notIterableAtAll
 refine ao (bG hl.typeIs slot_list_iter.lookup (aA ?_))
 simp only[bp,if_false]
 refine ao (aX (cZ hl ?_))
 refine ao (aX (PySem.W.kun_draw kl items.size 0 _ _ ⟨_,aE _ rfl,rfl,rfl⟩ (hl.push _) (by omega) fun h₁ wb jk=> ?_))
 have G6:List.take items.size (List.drop 0 items.toList)=items.toList:=by rw[eY];exact cK (by simp)
 rw[G6,if_neg (by simp)]
 have DO:h₁.IsList l items:=(hl.push _).extBut jk.extBut kl
 have uO:Inv L {s with heap:=h₁}:=⟨fun a o e=>jk.extBut a o (fun e'=>by rw[e',zz] at e;(first|exact VD e|cases e)) (aB _ (I.ir a o e)),I.bare⟩
 refine ao (aX (mI cC dq (dA _) (s:={s with heap:=h₁}) (Heap.IsListIter.typeIs wb) (tc (s:={s with heap:=h₁}) hH (fun _=>uO) wb (fun _=>zz) DO (by simp)) fun h₂ yM=> ?_))
 simp only[Option.isSome_none,bp,if_false]
 exact aA (hQ h₂ fun b o hb e=>yM b o hb (jk.extBut b o hb (aB _ e)))
end
end
section
open PySem
section
variable {L:ic} {sc:Scope} {σ:gJ} {own:List Str}
noncomputable def kr(σ:gJ)(x:Str)(i:Nat):Prop:=σ.lookup x=some i∧ ∀y,σ.lookup y=some i→y=x
theorem DP: ∀{r:gJ} {w:Str} {i:Nat},r.lookup w=some i→i∈r.map (·.2):=by
 intro r
 induction r with
 |nil=>exact @fun _ _ h=>g8 h
 |cons q0 r hV=>
  obtain⟨a,b⟩:=q0
  intro w i h
  rw[bC] at h
  cases hx:w==a with
  |true=>rw[hx] at h;exact Option.some.inj h▸az ..
  |false=>rw[hx] at h;exact av _ (hV h)
theorem gH: ∀{σ:gJ} {x:Str} {i:Nat},σ.lookup x=some i→(σ.map (·.2)).Nodup→kr σ x i:=by
 intro σ
 induction σ with
 |nil=>exact @fun _ _ h _=>g8 h
 |cons q0 r hV=>
  obtain⟨y,j⟩:=q0
  intro x i h hn
  have hn:=List.nodup_cons.mp hn
  refine⟨h,fun z hz=> ?_⟩
  rw[bC] at h hz
  cases hx:x==y<;>cases ZL:z==y<;>rw[hx] at h<;>rw[ZL] at hz
  ·exact(hV h hn.2).2 z hz
  ·exact absurd (DP h) (Option.some.inj hz▸hn.1)
  ·exact absurd (DP hz) (Option.some.inj h▸hn.1)
  ·exact(eq_of_beq ZL).trans (eq_of_beq hx).symm
theorem FS.bind{env:b9}{Y Z:List Addr}{ρ:List MV}{A:aH}{s:aq}{E:Value→aq→Prop}{Q:Unit→aq→Prop}{x:Str}{i:Nat}{p:PV}{v:Value}(F:FS L sc σ own env Y Z s.heap ρ)(I:Inv L s)(hx:x∈own)(hi:kr σ x i)
  (hv:VR L.prog L.w s.heap (Y++Z) p v)(hQ: ∀s',FS L sc σ own env Y Z s'.heap (ρ.set i (.p p))→gO L Y s s'→Q () s'):wpAny L.M A (PySem.storeName env x v) Q E s:=by
 refine F.storeName hx fun D h' tk hD yL DL S=>hQ _ (F.set hi.1 hi.2 hD yL DL S hv) ⟨fun b o _ hb e=>S.keep b o (fun e=>hb (e▸hD)) e,⟨fun a o e=>S.keep a o ?_ (I.ir a o e),I.bare⟩,rfl,rfl⟩
 rintro rfl
 exact g8 ((F.fr.xo.look _ (aw _ hD)).symm.trans e)
noncomputable def AS(L:ic)(sc:Scope)(σ:gJ)(own:List Str)(t:aN)(u:PV→List MV→Option (List MV)):Prop:=
 ∀(env:b9) (A:aH) (Y Z:List Addr) (s:aq) (ρ ρ':List MV) (p:PV) (v:Value) (Q:Unit→aq→Prop) (E:Value→aq→Prop),
  iU L 0 A→FS L sc σ own env Y Z s.heap ρ→Inv L s→VR L.prog L.w s.heap (Y++Z) p v→u p ρ=some ρ'→
  (∀s',FS L sc σ own env Y Z s'.heap ρ'→gO L Y s s'→Q () s')→wpAny L.M A (assign t env v) Q E s
theorem AS.name{x:Str}{i:Nat}{pos:cM}(hx:x∈own)(hi:kr σ x i):AS L sc σ own (.Name x pos) (fun p ρ=>some (ρ.set i (.p p))):=by
 intro env A Y Z s ρ ρ' p v Q E R F I hv hu hQ
 skip;(first|exact VD hu|cases hu)
 exact cm (F.bind I hx hi hv hQ)
noncomputable def wc:List Nat→List PV→List MV→Option (List MV)
 |[],[],ρ=>some ρ
 |i::is,p::ps,ρ=>wc is ps (ρ.set i (.p p))
 |_,_,_=>none
theorem gO.up{Y Z:List Addr}{s s':aq}(d:gO L Y s s')(x:XO L (Y++Z) s.heap):Up s.heap (Y++Z) s'.heap (Y++Z):=fun a o ha e=>⟨ha,d.keep a o (fun h=>ha (h▸x.tb)) (fun h=>ha (aw _ h)) e⟩
inductive i8 (own:List Str) (σ:gJ):List Str→List Nat→Prop
 |nil:i8 own σ [] []
 |cons {x:Str} {i:Nat} {xs:List Str} {is:List Nat}:x∈own→kr σ x i→i8 own σ xs is→i8 own σ (x::xs) (i::is)
noncomputable def pf:PV→Option (List PV)
 | .tup l=>some l
 | .list l=>some l
 |_=>none
theorem wd{X:List Addr}{A:aH}{E:Value→aq→Prop}{s:aq}{p:PV}{l:List PV}{v:Value}{n:Nat}{Q:List Value→aq→Prop}(hh:Hd L A)(I:Inv L s)(x:XO L X s.heap)(hp:pf p=some l)(hv:VR L.prog L.w s.heap X p v)(hn:n=l.length)
  (hQ: ∀vs s',gM L.prog L.w s'.heap X l vs→gI L X s s'→Q vs s'):wpAny L.M A (unpackItems v n none) Q E s:=by
 have key: ∀(xs:Array Value),gM L.prog L.w s.heap X l xs.toList→ ∀h',cX s.heap.objs.size s.heap h'→Q xs.toList {s with heap:=h'}:=by
  intro xs hl h' he
  have d:gI L X s {s with heap:=h'}:=gI.of_keep I x (fun b o e=>he b o (fun e'=>by rw[e',gY] at e;(first|exact VD e|cases e)) e) s.toks
  exact hQ _ _ (gM.up d.up hl) d
 cases p<;>try exact g8 hp
 ·(first|exact VD hp|cases hp)
  exact hv.J6 fun a xs k ha ho hl=>by
   rw[hn,←hl.size]
   exact pU hh I ⟨_,ho,rfl,_,rfl⟩ (key xs hl)
 ·(first|exact VD hp|cases hp)
  exact hv.vR fun a xs k ha ho hl=>by
   rw[hn,←hl.size]
   exact xJ hh I ⟨_,ho,rfl,_,rfl⟩ (key xs hl)
inductive gZ:List aN→List Str→Prop
 |nil:gZ [] []
 |cons {x:Str} {p:cM} {es:List aN} {xs:List Str}:gZ es xs→gZ (.Name x p::es) (x::xs)
theorem gZ.len{env:b9}{es:List aN}{xs:List Str}(h:gZ es xs):(assignEach es env).length=xs.length:=by
 induction h with
 |nil=>rfl
 |cons _ ih=>exact congrArg (· +1) ih
theorem gZ.find{env:b9}{es:List aN}{xs:List Str}(h:gZ es xs):(assignEach es env).findIdx? (·.1)=none:=by
 induction h with
 |nil=>rfl
 |cons _ ih=>exact List.findIdx?_cons.trans (congrArg (Option.map (· +1)) ih)
theorem G7{es:List aN}{xs:List Str}(hn:gZ es xs): ∀{is:List Nat} {ps:List PV} {ρ ρ':List MV},i8 own σ xs is→wc is ps ρ=some ρ'→xs.length=ps.length:=by
 induction hn with
 |nil=>intro is ps ρ ρ' h e;(first|exact VD h|cases h);cases ps<;>first|rfl|exact g8 e
 |cons _ ih=>intro is ps ρ ρ' h e;cases h with|cons _ _ h=>cases ps<;>first|exact g8 e|exact congrArg (· +1) (ih h e)
theorem FS.bindL{env:b9}{Y Z:List Addr}{A:aH}{E:Value→aq→Prop}{Q:Unit→aq→Prop}{es:List aN}{xs:List Str}(hn:gZ es xs): ∀{is:List Nat} {ps:List PV} {vs:List Value} {ρ ρ':List MV} {s:aq},i8 own σ xs is→FS L sc σ own env Y Z s.heap ρ→Inv L s→gM L.prog L.w s.heap (Y++Z) ps vs→wc is ps ρ=some ρ'→
  (∀s',FS L sc σ own env Y Z s'.heap ρ'→gO L Y s s'→Q () s')→wpAny L.M A (assignInOrder ((assignEach es env).map (·.2)) vs) Q E s:=by
 induction hn with
 |nil=>
  intro is ps vs ρ ρ' s h F I hv hu hQ
  skip;(first|exact VD h|cases h)
  cases ps<;>try exact g8 hu
  obtain rfl:=hv
  skip;(first|exact VD hu|cases hu)
  exact dm (hQ _ F (gO.refl I))
 |cons _ ih=>
  intro is ps vs ρ ρ' s h F I hv hu hQ
  cases h with
  |cons hx hi hr=>
   cases ps<;>try exact g8 hu
   obtain⟨v,r,rfl,h1,h2⟩:=hv
   exact c9 (cm (F.bind I hx hi h1 fun s₁ jm iu=>ih hr jm iu.inv (gM.up (iu.up F.fr.xo) h2) hu fun s' F' d'=>hQ s' F' (iu.trans (fun b h=> .inl h) d')))
theorem AS.tup{es:List aN}{xs:List Str}{is:List Nat}{k:Nat}{pos:cM}(hn:gZ es xs)(hi:i8 own σ xs is):
  AS L sc σ own (.Tuple es k pos) (fun p ρ=>(pf p).bind fun l=>wc is l ρ):=by
 intro env A Y Z s ρ ρ' p v Q E R F I hv hu hQ
 replace hu:=Option.bind_eq_some_iff.mp hu
 obtain⟨l,hl,hu⟩:=hu
 rw[arm_assign_Tuple]
 refine ao (bP ?_)
 unfold unpack
 rw[hn.find]
 exact ao (aX (wd (s:=s) R.handled I F.fr.xo hl hv (hn.len.trans (G7 hn hi hu)) fun vs s₁ jL d=>FS.bindL hn hi (F.done d) d.inv jL hu fun s' F' d'=>hQ s' F' ((gO.jQ d).trans (fun b h=> .inl h) d')))
end
end
section
open PySem
noncomputable def pV(t:aN):Bool:=t.ctorIdx==(aN.Tuple [] 0 default).ctorIdx
theorem rz{t:aN}(h:pV t=true): ∃es k p,t= .Tuple es k p:=aN.Tuple.elim t (eq_of_beq h) fun _ _ _=>⟨_,_,_,rfl⟩
theorem all1{P:Addr→Prop}{x:Addr}(hx:P x): ∀a∈[x],P a:=fun _ h=>List.mem_singleton.mp h▸hx
theorem kF{P:Addr→Prop}{x:Addr}{l:List Addr}(hx:P x)(hl: ∀a∈l,P a): ∀a∈x::l,P a:=List.forall_mem_cons.mpr ⟨hx,hl⟩
theorem uP{x:Addr}{l:List Addr}:x∈x::l:=az ..
theorem in1{x y:Addr}{l:List Addr}:y∈x::y::l:=av _ (az ..)
structure It(L:ic)(X wr:List Addr)(I:Addr)(ps:List PV)(St:Nat→Heap→Prop)(tt:Bool):Prop where
 Ol: ∀a∈wr,a∈X
 there: ∀i h,St i h→ ∀a∈wr,∃o,h.get? a=some o
 frame: ∀i h h',St i h→(∀b o,(b∈X→b∈wr)→h.get? b=some o→h'.get? b=some o)→St i h'
 self: ∀(A:aH) i (s:aq) (Q:Value→aq→Prop) (E:Value→aq→Prop),St i s.heap→Q (.ref I) s→wpAny L.M A (pyIter (.ref I)) Q E s
 turn: ∀(A:aH) i (s:aq) p (Q:Value→aq→Prop) (E:Value→aq→Prop) G8,iU L 0 A→XO L X s.heap→Inv L s→St i s.heap→ps[i]? =some p→(tt=true→pV G8=true)→
  (∀v s',VR L.prog L.w s'.heap X p v→St (i+1) s'.heap→gO L wr s s'→XO L X s'.heap→Q v s')→
  wpAny L.M A (pyNext (.ref I)) (fun r s₁=> ∃v,r=some v∧wpAny L.M A (letOwnedTupleGo G8 (.ref I) v) (fun _ gQ=>Q v gQ) E s₁) E s
 done: ∀(A:aH) (s:aq) (Q:Option Value→aq→Prop) (E:Value→aq→Prop),iU L 0 A→XO L X s.heap→Inv L s→St ps.length s.heap→
  (∀s',gO L wr s s'→(∀b o,b∉wr→s.heap.get? b=some o→s'.heap.get? b=some o)→Q none s')→wpAny L.M A (pyNext (.ref I)) Q E s
theorem XO.rA{L:ic}{X wr:List Addr}{h h':Heap}(x:XO L X h)(hw: ∀a∈wr,a∈X)(hk: ∀b o,b∉wr→h.get? b=some o→h'.get? b=some o)(ht:L.tb∉wr)(hex: ∀a∈wr,∃o,h'.get? a=some o):XO L X h' where
 tb:=x.tb
 sm:=x.sm
 there:=fun a ha=>by
  by_cases e:a∈wr
  ·exact hex a e
  ·obtain⟨o,ho⟩:=x.there a ha;exact⟨o,hk a o e ho⟩
 look:=x.look
 tab:=by
  obtain⟨fp,hf,hn⟩:=x.tab
  refine⟨fp,L.vO _ _ fp hf fun b o hb e=>hk b o ?_ e,hn⟩
  intro hm
  rcases hb with rfl|hb
  ·exact ht hm
  ·exact hn _ hb (hw _ hm)
theorem XO.after{L:ic}{X X' wr:List Addr}{h h':Heap}(x:XO L X h)(hw: ∀a∈wr,a∈X)(hk: ∀b o,b∉wr→h.get? b=some o→h'.get? b=some o)(hs: ∀a∈X',a∈X∧a∉wr)(h1:L.tb∈X')(h2:sysModules∈X'):XO L X' h' where
 tb:=h1
 sm:=h2
 there:=fun a ha=>by obtain⟨o,ho⟩:=x.there a (hs a ha).1;exact⟨o,hk a o (hs a ha).2 ho⟩
 look:=fun a ha=>x.look a (hs a ha).1
 tab:=by
  obtain⟨fp,hf,hn⟩:=x.tab
  refine⟨fp,L.vO _ _ fp hf fun b o hb e=>hk b o ?_ e,fun a ha h=>hn a ha (hs a h).1⟩
  intro hm
  rcases hb with rfl|hb
  ·exact(hs _ h1).2 hm
  ·exact hn _ hb (hw _ hm)
theorem Inv.rA{L:ic}{X wr:List Addr}{s:aq}(I:Inv L s)(x:XO L X s.heap)(hw: ∀a∈wr,a∈X){h':Heap}(hk: ∀b o,b∉wr→s.heap.get? b=some o→h'.get? b=some o)(tk:Nat):Inv L {s with heap:=h',toks:=tk}:=
 ⟨fun a o e=>hk a o (fun hm=>by rw[x.look a (hw a hm)] at e;(first|exact VD e|cases e)) (I.ir a o e),I.bare⟩
theorem gO.rA{L:ic}{X wr:List Addr}{s:aq}(I:Inv L s)(x:XO L X s.heap)(hw: ∀a∈wr,a∈X){h':Heap}(hk: ∀b o,b∉wr→s.heap.get? b=some o→h'.get? b=some o)(tk:Nat):gO L wr s {s with heap:=h',toks:=tk}:=
 ⟨fun b o _ hb e=>hk b o hb e,I.rA x hw hk tk,rfl,rfl⟩
theorem DQ{X wr:List Addr}{h h':Heap}(hw: ∀a∈wr,a∈X)(hk: ∀b o,b∉wr→h.get? b=some o→h'.get? b=some o):Up h X h' X:=fun a o ha e=>⟨ha,hk a o (fun h=>ha (hw a h)) e⟩
theorem A2{L:ic}{A:aH}{s:aq}{I:Addr}{o:Obj}{n:String}{G8:aN}{v:Value}{Q:Unit→aq→Prop}{E:Value→aq→Prop}(ho:s.heap.get? I=some o)(hc:o.cls= .type n)
  (hn:["enumerate","zip","dict_itemiterator","dict_reverseitemiterator","odict_iterator","itertools.zip_longest","itertools.pairwise"].contains n=false)(h:Q () s):wpAny L.M A (letOwnedTupleGo G8 (.ref I) v) Q E s:=by
 obtain⟨cls,dd,data,sl⟩:=o
 obtain rfl:cls= .type n:=hc
 have key: ∀(a:Addr) (p:cM),wpAny L.M A (letOwnedTupleGo (.Tuple [] 0 p) (.ref I) (.ref a)) Q E s:=fun a p=>by
  show wpAny _ A (load I>>= _) Q E s
  refine ao (wpAny_load ho ?_)
  cases data<;>try exact aA h
  show wpAny _ A (if (["enumerate","zip","dict_itemiterator","dict_reverseitemiterator","odict_iterator","itertools.zip_longest","itertools.pairwise"].contains n&&_)=true then _ else _) Q E s
  rw[hn]
  exact aA h
 cases G8<;>try exact aA h
 all_goals (cases v<;>try exact aA h)
 ·exact key _ ‹cM›
 ·exact key _ ‹cM›
section
variable {L:ic} {X:List Addr} {I:Addr}
theorem up1{h h':Heap}(hI:I∈X)(hk: ∀b o,b≠I→h.get? b=some o→h'.get? b=some o):Up h X h' X:=fun a o ha e=>⟨ha,hk a o (fun h=>ha (h▸hI)) e⟩
noncomputable def PlainAt(h:Heap)(I:Addr):Prop:= ∃o n,h.get? I=some o∧o.cls= .type n∧["enumerate","zip","dict_itemiterator","dict_reverseitemiterator","odict_iterator","itertools.zip_longest","itertools.pairwise"].contains n=false
theorem It.one{ps:List PV}{St:Nat→Heap→Prop}(hI:I∈X)(ht:I≠L.tb)(there: ∀i h,St i h→PlainAt h I)
  (frame: ∀i h h',St i h→(∀b o,(b∈X→b=I)→h.get? b=some o→h'.get? b=some o)→St i h')
  (self: ∀(A:aH) i (s:aq) (Q:Value→aq→Prop) (E:Value→aq→Prop),St i s.heap→Q (.ref I) s→wpAny L.M A (pyIter (.ref I)) Q E s)
  (turn: ∀(A:aH) i (s:aq) p (Q:Option Value→aq→Prop) (E:Value→aq→Prop),St i s.heap→ps[i]? =some p→(∀v h' tk,VR L.prog L.w h' X p v→St (i+1) h'→(∀b o,b≠I→s.heap.get? b=some o→h'.get? b=some o)→Q (some v) {s with heap:=h',toks:=tk})→wpAny L.M A (pyNext (.ref I)) Q E s)
  (done: ∀(A:aH) (s:aq) (Q:Option Value→aq→Prop) (E:Value→aq→Prop),iU L 0 A→Inv L s→L.look I=none→St ps.length s.heap→(∀h' tk,(∀b o,b≠I→s.heap.get? b=some o→h'.get? b=some o)→Q none {s with heap:=h',toks:=tk})→wpAny L.M A (pyNext (.ref I)) Q E s):It L X [I] I ps St false where
 Ol:=all1 hI
 there:=fun i h st=>let ⟨o,_,e,_⟩:=there i h st;all1 ⟨o,e⟩
 frame:=fun i h h' st hk=>frame i h h' st fun b o hb=>hk b o fun hx=>List.mem_singleton.mpr (hb hx)
 self:=self
 turn:=fun A i s p Q E G8 R x Iv st hp _ hQ=>turn A i s p _ E st hp fun v h' tk hv Kg hk=>by
  have qt: ∀b o,b∉[I]→s.heap.get? b=some o→h'.get? b=some o:=fun b o hb=>hk b o fun e=>hb (List.mem_singleton.mpr e)
  obtain⟨o,n,ho,hc,hn⟩:=there _ _ Kg
  exact⟨v,rfl,A2 ho hc hn (hQ v _ hv Kg (gO.rA Iv x (all1 hI) qt _) (x.rA (all1 hI) qt (fun h=>ht (List.mem_singleton.mp h).symm) (all1 ⟨o,ho⟩)))⟩
 done:=fun A s Q E R x Iv st hQ=>done A s Q E R Iv (x.look I hI) st fun h' tk hk=>by
  have qt: ∀b o,b∉[I]→s.heap.get? b=some o→h'.get? b=some o:=fun b o hb=>hk b o fun e=>hb (List.mem_singleton.mpr e)
  exact hQ _ (gO.rA Iv x (all1 hI) qt _) qt
theorem It.list{ax:Addr}{ps:List PV}(hI:I∈X)(ht:I≠L.tb):It L X [I] I ps (fun i h=>h.IsListIter I ax i∧VR L.prog L.w h X (.list ps) (.ref ax)) false:=by
 refine It.one hI ht (fun i h st=> ?_) (fun i h h' st hk=>⟨st.1.at fun o e=>hk I o (fun _=>rfl) e,st.2.up fun a o ha e=>⟨ha,hk a o (fun h=>absurd h ha) e⟩⟩) (fun A i s Q E st hQ=>wpAny_pyIter_listiter st.1 hQ) (fun A i s p Q E st hp hQ=> ?_) fun A s Q E R Iv Om st hQ=> ?_
 ·obtain⟨⟨o,ho,hc,_⟩,_⟩:=st
  exact⟨o,_,ho,hc,by decide⟩
 ·obtain⟨a,xs,n,e,ha,ho,hl⟩:=st.2.listE
  skip;(first|exact VD e|cases e)
  refine hl.xF hp fun v hv hr=> ?_
  exact dD st.1 ⟨_,ho,rfl,_,rfl⟩ hv fun h' nJ k9=>have hk:=fun b o hb e=>k9.extBut b o hb e;hQ v h' _ (hr.up (up1 hI hk)) ⟨nJ,st.2.up (up1 hI hk)⟩ hk
 ·obtain⟨a,xs,n,e,ha,ho,hl⟩:=st.2.listE
  skip;(first|exact VD e|cases e)
  have e1:=hl.size
  exact mI cC dq (dA _) st.1.typeIs (tc R.handled (fun _=>Iv) st.1 (fun _=>Om) ⟨_,ho,rfl,_,rfl⟩ (aR (bt e1))) fun h' AK=>hQ h' _ fun b o hb e=>AK b o hb e
theorem It.tup{ax:Addr}{ps:List PV}(hI:I∈X)(ht:I≠L.tb):It L X [I] I ps (fun i h=>h.IsTupleIter I ax i∧VR L.prog L.w h X (.tup ps) (.ref ax)) false:=by
 refine It.one hI ht (fun i h st=> ?_) (fun i h h' st hk=>⟨st.1.at fun o e=>hk I o (fun _=>rfl) e,st.2.up fun a o ha e=>⟨ha,hk a o (fun h=>absurd h ha) e⟩⟩) (fun A i s Q E st hQ=>wpAny_pyIter_tupleiter st.1 hQ) (fun A i s p Q E st hp hQ=> ?_) fun A s Q E R Iv Om st hQ=> ?_
 ·obtain⟨⟨o,ho,hc,_⟩,_⟩:=st
  exact⟨o,_,ho,hc,by decide⟩
 ·obtain⟨a,xs,n,e,ha,ho,hl⟩:=st.2.lY
  skip;(first|exact VD e|cases e)
  refine hl.xF hp fun v hv hr=> ?_
  exact wpAny_pyNext_tuple_item st.1 ⟨_,ho,rfl,_,rfl⟩ hv fun h' nJ k9=>have hk:=fun b o hb e=>k9.extBut b o hb e;hQ v h' _ (hr.up (up1 hI hk)) ⟨nJ,st.2.up (up1 hI hk)⟩ hk
 ·obtain⟨a,xs,n,e,ha,ho,hl⟩:=st.2.lY
  skip;(first|exact VD e|cases e)
  have e1:=hl.size
  exact mI cz cY (cU _) st.1.typeIs (ry R.handled (fun _=>Iv) st.1 (fun _=>Om) ⟨_,ho,rfl,_,rfl⟩ (aR (bt e1))) fun h' AK=>hQ h' _ fun b o hb e=>AK b o hb e
noncomputable def we(a c:Int)(n:Nat):List PV:=(List.range n).map fun i=> .int (a+(i:Nat)*c)
theorem CE(a c:Int)(n:Nat):(we a c n).length=n:=(aF _).trans cT
theorem CF{a c:Int}{n i:Nat}{p:PV}(h:(we a c n)[i]? =some p):i<n∧p= .int (a+(i:Nat)*c):=by
 obtain⟨k,hk,rfl⟩:=Option.map_eq_some_iff.mp ((aJ ..).symm.trans h)
 obtain⟨h1,h2⟩:=List.getElem?_eq_some_iff.mp hk
 rw[cu] at h2
 exact⟨bQ h1 cT,h2▸rfl⟩
theorem It.range{a c:Int}{n:Nat}(hI:I∈X)(ht:I≠L.tb):It L X [I] I (we a c n) (fun i h=>IsRangeIter h I (a+(i:Nat)*c) ((n:Int)-(i:Nat)) c) false:=by
 refine It.one hI ht (fun i h st=>⟨_,_,st,rfl,by decide⟩) (fun i h h' st hk=>hk I _ (fun _=>rfl) st) (fun A i s Q E st hQ=>wpAny_pyIter_rangeiter st hQ) (fun A i s p Q E st hp hQ=> ?_) fun A s Q E R Iv Om st hQ=> ?_
 ·obtain⟨hi,rfl⟩:=CF hp
  refine wpAny_pyNext_range_item st (by omega) fun h' EE k9=>hQ _ h' _ (VR.mkInt _ _) ?_ fun b o hb e=>k9.extBut b o hb e
  rw[show a+((i+1:Nat):Int)*c=a+(i:Int)*c+c by push_cast;rw[Int.add_mul,gk,Int.add_assoc],show(n:Int)-((i+1:Nat):Int)=(n:Int)-(i:Int)-1 by omega]
  exact EE
 ·rw[CE] at st
  exact mI F.slot_range_iterator_next F.entry_range_iterator_next (F.args_range_iterator_next_1 _) ⟨_,st,rfl⟩ (CC R.handled (fun _=>Iv) st (by omega)) fun h' AK=>hQ h' _ fun b o hb e=>AK b o hb e
noncomputable def signs(x:Str):List PV:=x.cps.toList.map fun c=> .str ⟨#[c]⟩
theorem It.str{x:Str}{t:gh}(hI:I∈X)(ht:I≠L.tb):It L X [I] I (signs x) (fun i h=>h.IsStrIter I "str_ascii_iterator" x t i) false:=by
 refine It.one hI ht (fun i h st=> ?_) (fun i h h' st hk=> ?_) (fun A i s Q E st hQ=>wpAny_pyIter_striter_ascii st hQ) (fun A i s p Q E st hp hQ=> ?_) fun A s Q E R Iv Om st hQ=> ?_
 ·obtain⟨o,ho,hc,_⟩:=st
  exact⟨o,_,ho,hc,by decide⟩
 ·obtain⟨o,ho,r⟩:=st
  exact⟨o,hk I _ (fun _=>rfl) ho,r⟩
 ·obtain⟨c,hc,rfl⟩:=Option.map_eq_some_iff.mp ((aJ ..).symm.trans hp)
  exact wpAny_pyNext_ascii_item st (Array.getElem?_toList.symm.trans hc) fun h' EE k9=>hQ _ h' _ (VR.mkStr _ _) EE fun b o hb e=>k9.extBut b o hb e
 ·have e:(signs x).length=x.cps.size:=aF _
  rw[e] at st
  exact mI F.slot_str_ascii_iterator_next F.entry_str_ascii_iterator_next (F.args_str_ascii_iterator_next_1 _) st.typeIs (CD R.handled (fun _=>Iv) st (fun _=>Om) (aR (br _))) fun h' AK=>hQ h' _ fun b o hb e=>AK b o hb e
end
end
section
open PySem
theorem xK{elt gU iter:aN}{jU:List aN}{gens:List cb}{scope:Scope}{pos:cM}{d:Nat}{it acc:Value}{env:b9}(hg:gens[d]? =some ⟨gU,iter,jU,0⟩)(hn:gens[d+1]? =none):
  compTurn (.ListComp elt gens scope pos) d it acc env=(do
   standAt iter.pos
   match←pyNext it with
   |none=>pure (.done .next)
   |some v=>
    letOwnedTupleGo gU it v
    assign gU env v
    let ok←forIn jU true fun c r=>(if r=true then do let ok←isTrue c env (eval c env);pure (ForInStep.yield ok) else pure (ForInStep.yield r))
    if ok=true then(do
     (do let _←call (.builtin "list.append") [acc,←eval elt env])
     again (.compLoop (.ListComp elt gens scope pos) d it acc env))
    else again (.compLoop (.ListComp elt gens scope pos) d it acc env)):=by
 unfold compTurn
 simp only[hg,hn]
 rfl
theorem xM{elt gU iter zA um:aN}{jU Oo:List aN}{gens:List cb}{scope:Scope}{pos:cM}{d:Nat}{it acc:Value}{env:b9}(hg:gens[d]? =some ⟨gU,iter,jU,0⟩)(hn:gens[d+1]? =some ⟨zA,um,Oo,0⟩):
  compTurn (.ListComp elt gens scope pos) d it acc env=(do
   standAt iter.pos
   match←pyNext it with
   |none=>pure (.done .next)
   |some v=>
    letOwnedTupleGo gU it v
    assign gU env v
    let ok←forIn jU true fun c r=>(if r=true then do let ok←isTrue c env (eval c env);pure (ForInStep.yield ok) else pure (ForInStep.yield r))
    if ok=true then do
     let x←eval um env
     standAt um.pos
     let x←foldedSetIterable um env x
     let MO←holding [x] (pyIter x)
     let _←runOwn (.compStart (.ListComp elt gens scope pos) (d+1) MO acc env) env
     again (.compLoop (.ListComp elt gens scope pos) d it acc env)
    else again (.compLoop (.ListComp elt gens scope pos) d it acc env)):=by
 unfold compTurn
 simp only[hg,hn]
 rfl
end
section
open PySem
section
variable {L:ic} {sc:Scope} {σ:gJ} {own:List Str} {k:Nat}
theorem gI.fresh{X:List Addr}{s s':aq}(d:gI L X s s')(x:XO L X s.heap){a:Addr}(h:s'.heap.get? a=none):s.heap.get? a=none:=by
 cases e:s.heap.get? a with
 |none=>rfl
 |some o=>
  by_cases ht:a=L.tb
  ·exact(d.xo.there a (ht▸d.xo.tb)).elim fun o' lp=>g8 (h.symm.trans lp)
  ·exact g8 (h.symm.trans (d.keep a o ht e))
noncomputable def IE(L:ic)(sc:Scope)(σ:gJ)(k:Nat)(e:aN)(tt:Bool)(f:List MV→Option (List PV)):Prop:=
 ∀(env:b9) (A:aH) (X:List Addr) (s:aq) (ρ:List MV) (ps:List PV) (Q:Value→aq→Prop) (E:Value→aq→Prop),
  iU L k A→FR L sc σ env X s.heap ρ→Inv L s→f ρ=some ps→
  (∀I wr gQ,gI L X s gQ→XO L (wr++X) gQ.heap→(∀a∈wr,s.heap.get? a=none)→I∈wr→
   (∀X',(∀a∈X',a∈X∨a∈wr∨gQ.heap.get? a=none)→(∀a∈wr,a∈X')→ ∃St,It L X' wr I ps St tt∧St 0 gQ.heap)→Q (.ref I) gQ)→
  wpAny L.M A (eval e env) (fun xv s₁=>wpAny L.M A (pyIter xv) Q E s₁) E s
theorem IE.less{j:Nat}{e:aN}{tt:Bool}{f:List MV→Option (List PV)}(h:IE L sc σ j e tt f)(hk:j≤k):IE L sc σ k e tt f:=
 fun env A X s ρ p Q E R F I hf hQ=>h env A X s ρ p Q E (R.less hk) F I hf hQ
noncomputable def DR(x:Str):Bool:=decide (strIterType x="str_ascii_iterator")
noncomputable def itemsOf:PV→Option (List PV)
 | .list l=>some l
 | .tup l=>some l
 | .str x=>if DR x then some (signs x) else none
 | .vN a b c=>if aD.Range.small a b c&&decide (0≤aD.Range.rangeSize a b c) then some (we a c (aD.Range.rangeSize a b c).toNat) else none
 |_=>none
theorem VR.QV{h:Heap}{X:List Addr}{a b c:Int}{v:Value}(x:VR L.prog L.w h X (.vN a b c) v): ∃ad t u w,v= .ref ad∧ad∉X∧IsRange h ad a b c t u w:=x
theorem qv{X wr:List Addr}{s s₁:aq}{I:Addr}{ps:List PV}{Q:Value→aq→Prop}{tt:Bool}{h':Heap}(tk:Nat)(x:XO L X s.heap)(d:gI L X s s₁)(kk: ∀b o,s₁.heap.get? b=some o→h'.get? b=some o)(fw: ∀a∈wr,s₁.heap.get? a=none)(ew: ∀a∈wr,∃o,h'.get? a=some o)(hI:I∈wr)
  (hQ: ∀I wr gQ,gI L X s gQ→XO L (wr++X) gQ.heap→(∀a∈wr,s.heap.get? a=none)→I∈wr→(∀X',(∀a∈X',a∈X∨a∈wr∨gQ.heap.get? a=none)→(∀a∈wr,a∈X')→ ∃St,It L X' wr I ps St tt∧St 0 gQ.heap)→Q (.ref I) gQ)
  (mk: ∀X',(∀a∈wr,a∈X')→(∀a∈wr,a≠L.tb)→Up s₁.heap X h' X'→(∀a∈X',a∈X∨a∈wr∨h'.get? a=none)→ ∃St,It L X' wr I ps St tt∧St 0 h'):Q (.ref I) {s₁ with heap:=h',toks:=tk}:=
 hQ I wr _ (d.trans (gI.of_keep d.inv d.xo kk tk)) (d.xo.widen kk d.inv.ir (fun a ha=>(List.mem_append.mp ha).elim (fun h=> .inr (fw a h)) .inl) (fun a ha=>au _ ha) fun a ha=>(List.mem_append.mp ha).elim (ew a) fun h=>(d.xo.there a h).elim fun o ho=>⟨o,kk a o ho⟩)
  (fun a ha=>d.fresh x (fw a ha)) hI fun X' h1 h2=>mk X' h2 (fun a ha e=>d.xo.fresh (fw a ha) (e▸d.xo.tb)) (fun a o ha e=>⟨fun hm=>(h1 a hm).elim ha fun h=>h.elim (fun h=>g8 ((fw a h).symm.trans e)) fun h=>g8 (h.symm.trans (kk a o e)),kk a o e⟩) h1
theorem sd{X:List Addr}{s s₁:aq}{ps:List PV}{Q:Value→aq→Prop}{tt:Bool}(x:XO L X s.heap)(d:gI L X s s₁)(o:Obj)(ho:o.isFreed=false)
  (hQ: ∀I wr gQ,gI L X s gQ→XO L (wr++X) gQ.heap→(∀a∈wr,s.heap.get? a=none)→I∈wr→(∀X',(∀a∈X',a∈X∨a∈wr∨gQ.heap.get? a=none)→(∀a∈wr,a∈X')→ ∃St,It L X' wr I ps St tt∧St 0 gQ.heap)→Q (.ref I) gQ)
  (mk: ∀X',s₁.heap.objs.size∈X'→s₁.heap.objs.size≠L.tb→Up s₁.heap X (s₁.heap.push o) X'→(s₁.heap.push o).get? s₁.heap.objs.size=some o→ ∃St,It L X' [s₁.heap.objs.size] s₁.heap.objs.size ps St tt∧St 0 (s₁.heap.push o)):Q (.ref s₁.heap.objs.size) {s₁ with heap:=s₁.heap.push o}:=
 have g:=aE _ ho
 qv s₁.toks x d (iq _ _) (all1 (gY _)) (all1 ⟨o,g⟩) (bK _) hQ fun X' h1 h2 u _=>mk X' (h1 _ (bK _)) (h2 _ (bK _)) u g
theorem IE.of{e:aN}{f:List MV→Option PV}(h:SE L sc σ k e f):IE L sc σ k e false (fun ρ=>(f ρ).bind itemsOf):=by
 intro env A X s ρ ps Q E R F I hf hQ
 obtain⟨p,hp,hi⟩:=Option.bind_eq_some_iff.mp hf
 refine h env A X s ρ p _ E R F I hp fun v s₁ hv d=> ?_
 cases p<;>try exact g8 hi
 ·replace hi:=jU hi
  obtain⟨VT,rfl⟩:=hi
  refine hv.EG fun t=>wpAny_pyIter_strU ?_
  rw[show strIterType _="str_ascii_iterator" from of_decide_eq_true VT]
  exact sd F.xo d _ rfl hQ fun X' hm ht _ g=>⟨_,It.str (t:=t) hm ht,⟨_,g,rfl,rfl⟩⟩
 ·(first|exact VD hi|cases hi)
  have oD:=hv
  refine oD.J6 fun a xs n ha ho hl=> ?_
  exact wpAny_pyIter_tuple ⟨_,ho,rfl,_,rfl⟩ (sd F.xo d _ rfl hQ fun X' hm ht u g=>⟨_,It.tup (ax:=a) hm ht,⟨_,g,rfl,rfl⟩,VR.up u (.intro a ⟨xs,n,rfl,ha,ho,hl⟩)⟩)
 ·(first|exact VD hi|cases hi)
  have oD:=hv
  refine oD.vR fun a xs n ha ho hl=> ?_
  exact cZ ⟨_,ho,rfl,_,rfl⟩ (sd F.xo d _ rfl hQ fun X' hm ht u g=>⟨_,It.list (ax:=a) hm ht,⟨_,g,rfl,rfl⟩,VR.up u (.intro a ⟨xs,n,rfl,ha,ho,hl⟩)⟩)
 ·rename_i a b c
  replace hi:=jU hi
  obtain⟨hc,rfl⟩:=hi
  obtain⟨h1,h2⟩:=jz hc
  obtain⟨ad,t,u,w,rfl,ha,ho⟩:=hv.QV
  refine wpAny_pyIter_range ho h1 (sd F.xo d _ rfl hQ fun X' hm ht _ g=>⟨_,It.range hm ht,?_⟩)
  rw[show a+((0:Nat):Int)*c=a by omega,show(((aD.Range.rangeSize a b c).toNat:Nat):Int)-((0:Nat):Int)=aD.Range.rangeSize a b c by rw[fm (of_decide_eq_true h2)];omega]
  exact g
end
end
section
open PySem
section
variable {L:ic} {sc:Scope} {σ:gJ} {own:List Str} {k:Nat}
noncomputable def oI(L:ic)(sc:Scope)(σ:gJ)(k:Nat)(jU:List aN)(f:List MV→Option Bool):Prop:=
 ∀(env:b9) (A:aH) (X:List Addr) (s:aq) (ρ:List MV) (b:Bool) (Q:Bool→aq→Prop) (E:Value→aq→Prop),
  iU L k A→FR L sc σ env X s.heap ρ→Inv L s→f ρ=some b→(∀s',gI L X s s'→Q b s')→
  wpAny L.M A (forIn jU true fun c r=>(if r=true then do let ok←isTrue c env (eval c env);pure (ForInStep.yield ok) else pure (ForInStep.yield r))) Q E s
theorem oI.nil:oI L sc σ k [] (fun _=>some true):=by
 intro env A X s ρ b Q E R F I hf hQ
 skip;(first|exact VD hf|cases hf)
 exact wpAny_tests_nil (hQ _ (gI.refl I F.xo))
theorem oI.one{e:aN}{f:List MV→Option Bool}(h:TE L sc σ k e f):oI L sc σ k [e] f:=by
 intro env A X s ρ b Q E R F I hf hQ
 exact wpAny_tests_one (h env A X s ρ b Q E R F I hf hQ)
noncomputable def G9(is:List Nat)(ρ:List MV):Bool:=is.all fun i=>match ρ[i]? with|some .un=>true|_=>false
noncomputable def gL(is:List Nat)(u:PV→List MV→Option (List MV)):PV→List MV→Option (List MV):=fun p ρ=>if G9 is ρ then u p ρ else none
noncomputable def Keeps(u:PV→List MV→Option (List MV)):Prop:= ∀p ρ gK,u p ρ=some gK→ ∀(j:Nat) mv,ρ[j]? =some mv→gK[j]? =some mv∨mv= .un
theorem EN: ∀{is:List Nat} {ps:List PV} {ρ gK:List MV},wc is ps ρ=some gK→ ∀j,j∉is→gK[j]? =ρ[j]? :=by
 intro is
 induction is with
 |nil=>
  intro ps ρ gK h _ _
  cases ps with
  |nil=>(first|exact VD h|cases h);rfl
  |cons _ _=>exact g8 h
 |cons i is ih=>
  intro ps ρ gK h j hj
  cases ps with
  |nil=>exact g8 h
  |cons p ps=>exact(ih (ps:=ps) (ρ:=ρ.set i (.p p)) h j (fun h=>hj (av _ h))).trans (yK fun e=>hj (e▸az ..))
theorem A3{is:List Nat}{ρ:List MV}(h:G9 is ρ=true){j:Nat}(hj:j∈is){mv:MV}(hm:ρ[j]? =some mv):mv= .un:=by
 have:=List.all_eq_true.mp h j hj
 rw[hm] at this
 cases mv<;>first|rfl|exact Bool.noConfusion this
theorem rB{is:List Nat}{u:PV→List MV→Option (List MV)}{p:PV}{ρ gK:List MV}(h:gL is u p ρ=some gK):G9 is ρ=true∧u p ρ=some gK:=xB h
theorem Keeps.name{i:Nat}:Keeps (gL [i] fun p ρ=>some (ρ.set i (.p p))):=fun p ρ gK h j mv hm=>by
 obtain⟨hg,h⟩:=rB h
 skip;(first|exact VD h|cases h)
 by_cases e:j=i
 ·exact .inr (A3 hg (e▸bK _) hm)
 ·exact .inl ((yK e).trans hm)
theorem Keeps.tup{is:List Nat}:Keeps (gL is fun p ρ=>(pf p).bind fun l=>wc is l ρ):=fun p ρ gK h j mv hm=>by
 obtain⟨hg,h⟩:=rB h
 obtain⟨l,_,hl⟩:=Option.bind_eq_some_iff.mp h
 by_cases e:j∈is
 ·exact .inr (A3 hg e hm)
 ·exact .inl ((EN hl j e).trans hm)
theorem AS.guard{t:aN}{u:PV→List MV→Option (List MV)}(is:List Nat)(h:AS L sc σ own t u):AS L sc σ own t (gL is u):=
 fun env A Y Z s ρ ρ' p v Q E R F I hv hu hQ=>h env A Y Z s ρ ρ' p v Q E R F I hv (rB hu).2 hQ
theorem It.step{env:b9}{A:aH}{Y Z wr:List Addr}{s:aq}{ρ gK:List MV}{p:PV}{I:Addr}{St:Nat→Heap→Prop}{all:List PV}{i:Nat}{tt:Bool}{gU:aN}{u:PV→List MV→Option (List MV)}{E:Value→aq→Prop}
  (it:It L (Y++(wr++Z)) wr I all St tt)(Rm:iU L k A)(F:FS L sc σ own env Y (wr++Z) s.heap ρ)(Iv:Inv L s)(st:St i s.heap)(hp:all[i]? =some p)(ht:tt=true→pV gU=true)(hu:AS L sc σ own gU u)(VU:u p ρ=some gK)
  (Oq:L.tb∉wr)(hc: ∀x c,env.cells.lookup x=some c→c∉wr):
  wpAny L.M A (pyNext (.ref I)) (fun r s₁=> ∃v,r=some v∧wpAny L.M A (letOwnedTupleGo gU (.ref I) v) (fun _ A4=>wpAny L.M A (assign gU env v) (fun _ gQ=>
   FS L sc σ own env Y (wr++Z) gQ.heap gK∧St (i+1) gQ.heap∧gO L (Y++wr) s gQ) E A4) E s₁) E s:=by
 refine it.turn A i s p (fun v A4=>wpAny L.M A (assign gU env v) (fun _ gQ=>FS L sc σ own env Y (wr++Z) gQ.heap gK∧St (i+1) gQ.heap∧gO L (Y++wr) s gQ) E A4) E gU (Rm.less (aC _)) F.fr.xo Iv st hp ht fun v s₁ hv QW iu nk=> ?_
 have jm:FS L sc σ own env Y (wr++Z) s₁.heap ρ:=F.chg (W:=wr) (fun a ha=>aw _ ha) iu.keep nk (fun a ha=>ha) hc
 refine hu env A Y (wr++Z) s₁ ρ gK p v _ E (Rm.less (aC _)) jm iu.inv hv VU fun gQ jJ gP=>⟨jJ,?_,?_⟩
 ·refine it.frame _ _ _ QW fun b o hb e=> ?_
  by_cases VV:b=L.tb
  ·exact absurd (hb (VV▸F.fr.xo.tb)) (fun h=>Oq (VV▸h))
  ·exact gP.keep b o VV (fun hY=>F.apart b hY (aw _ (hb (aw _ hY)))) e
 ·exact⟨fun b o hb hn e=>gP.keep b o hb (fun h=>hn (aw _ h)) (iu.keep b o hb (fun h=>hn (au _ h)) e),gP.inv,gP.os.trans iu.os,gP.drawn.trans iu.drawn⟩
noncomputable def CJ(L:ic)(sc:Scope)(σ:gJ)(own:List Str)(k:Nat)(elt:aN)(gens:List cb)(scope:Scope)(pos:cM)(d:Nat)(tt:Bool)(f:List MV→List PV→Option (List PV)):Prop:=
 ∀(env:b9) (A:aH) (Y Z wr:List Addr) (s:aq) (ρ:List MV) (ps out acc:List PV) (xs:Array Value) (n:Nat) (I:Addr) (St:Nat→Heap→Prop) (all:List PV) (i:Nat) (D:Addr) (R:fx→aq→Prop),
  iU L k A→FS L sc σ own env Y (wr++(D::Z)) s.heap ρ→Inv L s→It L (Y++(wr++(D::Z))) wr I all St tt→St i s.heap→i≤all.length→all.drop i=ps→
  (∀a∈D::Z,a∉wr)→D∉Z→L.tb∈Z→sysModules∈Z→(∀x c,env.cells.lookup x=some c→c∉D::wr)→
  s.heap.get? D=some {cls:= .type "list",data:= .seq xs n}→gM L.prog L.w s.heap (Y++(wr++(D::Z))) acc xs.toList→acc.length+out.length≤100000→f ρ ps=some out→
  (∀s' ru n',FS L sc σ own env Y (D::Z) s'.heap ρ→s'.heap.get? D=some {cls:= .type "list",data:= .seq ru n'}→gM L.prog L.w s'.heap (Y++(D::Z)) (acc++out) ru.toList→gO L (Y++(D::wr)) s s'→R (.ok .next) s')→
  codeAny L.M A (.compLoop (.ListComp elt gens scope pos) d (.ref I) (.ref D) env) R s
noncomputable def i9(step:List MV→PV→Option (List PV)):List MV→List PV→Option (List PV)
 |_,[]=>some []
 |ρ,p::ps=>(step ρ p).bind fun a=>(i9 step ρ ps).map (a++ ·)
noncomputable def il(u:PV→List MV→Option (List MV))(t:List MV→Option Bool)(e:List MV→Option PV)(ρ:List MV)(p:PV):Option (List PV):=
 (u p ρ).bind fun gK=>(t gK).bind fun b=>if b then(e gK).map fun v=>[v] else some []
noncomputable def nZ(u:PV→List MV→Option (List MV))(t:List MV→Option Bool)(e:List MV→Option (List PV))(f:List MV→List PV→Option (List PV))(ρ:List MV)(p:PV):Option (List PV):=
 (u p ρ).bind fun gK=>(t gK).bind fun b=>if b then(e gK).bind fun ps=>f gK ps else some []
theorem wg{α:Type}{l:List α}{i:Nat}{p:α}{ps:List α}(h:l.drop i=p::ps):l[i]? =some p∧i<l.length∧l.drop (i+1)=ps:=by
 have h0:l[i]? =some p:=List.getElem?_drop.symm.trans (congrArg (·[0]?) h)
 exact⟨h0,(List.getElem?_eq_some_iff.mp h0).1,List.tail_drop.symm.trans (congrArg List.tail h)⟩
theorem A5{α:Type}{l:List α}{i:Nat}(h:l.drop i=[])(hi:i≤l.length):i=l.length:=Nat.le_antisymm hi (List.drop_eq_nil_iff.mp h)
theorem Kh{Y wr Z:List Addr}{a:Addr}(h:a∈Y++Z):a∈Y++(wr++Z):=(List.mem_append.mp h).elim (aw _) fun h=>au _ (au _ h)
theorem CJ.loop{elt gU iter:aN}{jU:List aN}{gens:List cb}{scope:Scope}{pos:cM}{d:Nat}{tt:Bool}{u:PV→List MV→Option (List MV)}{t:List MV→Option Bool}{g:List MV→Option (List PV)}{T:b9→Addr→Addr→Sem Fin}
  (turn: ∀env I D,compTurn (.ListComp elt gens scope pos) d (.ref I) (.ref D) env=(do
   standAt iter.pos
   match←pyNext (.ref I) with
   |none=>pure (.done .next)
   |some v=>
    letOwnedTupleGo gU (.ref I) v
    assign gU env v
    let ok←forIn jU true fun c r=>(if r=true then do let ok←isTrue c env (eval c env);pure (ForInStep.yield ok) else pure (ForInStep.yield r))
    if ok=true then T env I D else again (.compLoop (.ListComp elt gens scope pos) d (.ref I) (.ref D) env)))
  (ht:tt=true→pV gU=true)(hu:AS L sc σ own gU u)(hk:Keeps u)(hi:oI L sc σ k jU t)
  (hT: ∀(env:b9) (A:aH) (Y Z wr:List Addr) (s:aq) (ρ:List MV) (a acc:List PV) (xs:Array Value) (n:Nat) (I D:Addr) (Q:Fin→aq→Prop) (E:Value→aq→Prop),iU L k A→FS L sc σ own env Y (wr++(D::Z)) s.heap ρ→Inv L s→
   D∉wr→D∉Z→L.tb∈Z→sysModules∈Z→(∀x c,env.cells.lookup x=some c→c≠D)→s.heap.get? D=some {cls:= .type "list",data:= .seq xs n}→gM L.prog L.w s.heap (Y++(wr++(D::Z))) acc xs.toList→acc.length+a.length≤100000→g ρ=some a→
   (∀s' ru n',FS L sc σ own env Y (wr++(D::Z)) s'.heap ρ→gO L (Y++[D]) s s'→s'.heap.get? D=some {cls:= .type "list",data:= .seq ru n'}→gM L.prog L.w s'.heap (Y++(wr++(D::Z))) (acc++a) ru.toList→wpAny L.M A (again (.compLoop (.ListComp elt gens scope pos) d (.ref I) (.ref D) env)) Q E s')→wpAny L.M A (T env I D) Q E s):
  CJ L sc σ own k elt gens scope pos d tt (i9 fun ρ p=>(u p ρ).bind fun gK=>(t gK).bind fun b=>if b then g gK else some []):=by
 intro env A Y Z wr s ρ ps
 induction ps generalizing s with
 |nil=>
  intro out acc xs n I St all i D R Rm F Iv it st MP hd hZ Ki kC ki hc hD xN hsz hf hR
  skip;(first|exact VD hf|cases hf)
  obtain rfl:=A5 hd MP
  refine dZ ?_
  show wpAny _ A ((compTurn (.ListComp elt gens scope pos) d (.ref I) (.ref D) env).onRaise (fun x=>do noteFrame x env;theTreesLotGoes x)) _ _ s
  refine wpAny_noted ?_
  rw[turn]
  refine ao (bP (ao (it.done A s _ _ (Rm.less (aC _)) F.fr.xo Iv st fun s' dn hkk=> ?_)))
  have EK:XO L (Y++(D::Z)) s'.heap:=F.fr.xo.after it.Ol hkk (fun a ha=>⟨Kh ha,(List.mem_append.mp ha).elim (fun h hw=>F.apart a h (aw _ hw)) (hZ a)⟩) (au _ (av _ kC)) (au _ (av _ ki))
  refine aA (hR s' xs n (F.chg (W:=wr) (fun a ha=>aw _ ha) (fun b o _ hb e=>hkk b o hb e) EK (fun a ha=>au _ ha) (fun x c h hm=>hc x c h (av _ hm))) (hkk D _ (hZ D (az ..)) hD) ?_ ⟨fun b o hb hnm e=>dn.keep b o hb (fun h=>hnm (au _ (av _ h))) e,dn.inv,dn.os,dn.drawn⟩)
  rw[bB]
  exact gM.up (fun a o ha e=>⟨fun h=>ha (Kh h),hkk a o (fun h=>ha (it.Ol a h)) e⟩) xN
 |cons p ps ih=>
  intro out acc xs n I St all i D R Rm F Iv it st MP hd hZ Ki kC ki hc hD xN hsz hf hR
  replace hf:=Option.bind_eq_some_iff.mp hf
  obtain⟨a,ha,hf⟩:=hf
  obtain⟨rest,vV,rfl⟩:=Option.map_eq_some_iff.mp hf
  replace ha:=Option.bind_eq_some_iff.mp ha
  obtain⟨gK,zB,ha⟩:=ha
  replace ha:=Option.bind_eq_some_iff.mp ha
  obtain⟨b,hb,ha⟩:=ha
  obtain⟨hp,Ot,sX⟩:=wg hd
  have Oq:L.tb∉wr:=hZ _ (av _ kC)
  have MQ:D∉wr:=hZ D (az ..)
  have yL:D≠L.tb:=fun e=>Ki (e▸kC)
  have Gk:D∈Y++(wr++(D::Z)):=au _ (au _ (az ..))
  have hDY:D∉Y++wr:=fun h=>(List.mem_append.mp h).elim (fun h=>F.apart D h (au _ (az ..))) MQ
  refine dZ ?_
  show wpAny _ A ((compTurn (.ListComp elt gens scope pos) d (.ref I) (.ref D) env).onRaise (fun x=>do noteFrame x env;theTreesLotGoes x)) _ _ s
  refine wpAny_noted ?_
  rw[turn]
  refine ao (bP (ao (bI (it.step Rm F Iv st hp ht hu zB Oq (fun x c h hm=>hc x c h (av _ hm))) (fun r s₁ hr=> ?_) fun _ _ x=>x)))
  obtain⟨v,rfl,hv⟩:=hr
  refine ao (bI hv (fun _ A4 h=>ao (bI h (fun _ gQ h₂=> ?_) fun _ _ x=>x)) fun _ _ x=>x)
  obtain⟨jJ,Ha,gP⟩:=h₂
  have QX:=gP.keep _ _ yL hDY hD
  have Kj:gM L.prog L.w gQ.heap (Y++(wr++(D::Z))) acc xs.toList:=xN.up fun a o ha e=>⟨ha,gP.keep a o (fun e=>ha (e▸F.fr.xo.tb)) (fun h=>ha ((List.mem_append.mp h).elim (aw _) fun h=>au _ (aw _ h))) e⟩
  have cont: ∀rC yN Hb,FS L sc σ own env Y (wr++(D::Z)) rC.heap gK→gO L (Y++[D]) gQ rC→rC.heap.get? D=some {cls:= .type "list",data:= .seq yN Hb}→gM L.prog L.w rC.heap (Y++(wr++(D::Z))) (acc++a) yN.toList→codeAny L.M A (.compLoop (.ListComp elt gens scope pos) d (.ref I) (.ref D) env) R rC:=fun rC yN Hb A6 td Hc zC=>by
   have MR: ∀b o,b≠L.tb→b∉Y→b≠D→gQ.heap.get? b=some o→rC.heap.get? b=some o:=fun b o h1 h2 h3 e=>td.keep b o h1 (fun h=>(List.mem_append.mp h).elim h2 fun h=>h3 (List.mem_singleton.mp h)) e
   refine ih rC rest (acc++a) yN Hb I St all (i+1) D R Rm (A6.weaken (hk p ρ gK zB)) td.inv it (it.frame _ _ _ Ha fun b o hb e=>MR b o (fun h=>Oq (h▸hb (h▸F.fr.xo.tb))) (fun h=>F.apart b h (aw _ (hb (aw _ h)))) (fun h=>MQ (h▸hb (h▸Gk))) e) Ot sX hZ Ki kC ki hc Hc zC (by rw[aP] at hsz ⊢;omega) vV fun s' ru n' F' QY A7 d'=>hR s' ru n' F' QY (bW .. ▸A7) ?_
   exact gO.trans ⟨fun b o h1 h2 e=>MR b o h1 (fun h=>h2 (aw _ h)) (fun h=>h2 (au _ (h▸az ..))) (gP.keep b o h1 (fun h=>h2 ((List.mem_append.mp h).elim (aw _) fun h=>au _ (av _ h))) e),td.inv,td.os.trans gP.os,td.drawn.trans gP.drawn⟩ (fun b h=> .inl h) d'
  refine ao (hi env A _ gQ gK b _ _ Rm jJ.fr gP.inv hb fun i6 i5=> ?_)
  have kG:=jJ.done i5
  have MS:=i5.keep _ _ yL QX
  have DS:=gM.up i5.up Kj
  cases b with
  |false=>
   skip;(first|exact VD ha|cases ha)
   exact aA ⟨rfl,cont i6 xs n kG (gO.jQ i5) MS ((bB acc).symm▸DS)⟩
  |true=>exact hT env A Y Z wr i6 gK a acc xs n I D _ _ Rm kG i5.inv MQ Ki kC ki (fun x c h e=>hc x c h (e▸az ..)) MS DS (by rw[aP] at hsz;omega) ha fun rC yN Hb A6 td Hc zC=>aA ⟨rfl,cont rC yN Hb A6 ((gO.jQ i5).trans (fun b h=> .inl h) td) Hc zC⟩
theorem CJ.last{elt gU iter:aN}{jU:List aN}{gens:List cb}{scope:Scope}{pos:cM}{d:Nat}{tt:Bool}{u:PV→List MV→Option (List MV)}{t:List MV→Option Bool}{e:List MV→Option PV}
  (hg:gens[d]? =some ⟨gU,iter,jU,0⟩)(hn:gens[d+1]? =none)(ht:tt=true→pV gU=true)(hu:AS L sc σ own gU u)(hk:Keeps u)(hi:oI L sc σ k jU t)(he:SE L sc σ k elt e):
  CJ L sc σ own k elt gens scope pos d tt (i9 (il u t e)):=by
 refine CJ.loop (g:=fun ρ=>(e ρ).map fun v=>[v]) (fun env I D=>xK hg hn) ht hu hk hi fun env A Y Z wr s ρ a acc xs n I D Q E Rm F Iv MQ Ki kC ki hc hD xN hsz hf hQ=> ?_
 obtain⟨v',oD,rfl⟩:=Option.map_eq_some_iff.mp hf
 refine ao (ao (he env A _ s ρ v' _ _ Rm F.fr Iv oD fun y s₄ hy nI=>ao ?_))
 have yL:D≠L.tb:=fun e=>Ki (e▸kC)
 have Gk:D∈Y++(wr++(D::Z)):=au _ (au _ (az ..))
 have QZ:=nI.keep _ _ yL hD
 have vF:=gM.up nI.up xN
 have wh:=F.done nI
 have G3:=vF.size
 refine wpAny_list_append_plain ⟨n,QZ⟩ (fun h' jA k9=>aA ?_) (by show _≤16777216;rw[eQ] at hsz;omega)
 obtain⟨n',jA⟩:=jA
 have Q0: ∀b o,b≠D→s₄.heap.get? b=some o→h'.get? b=some o:=fun b o hb e=>k9.extBut b o hb e
 have MT:Up s₄.heap (Y++(wr++(D::Z))) h' (Y++(wr++(D::Z))):=fun a o ha e=>⟨ha,Q0 a o (fun e=>ha (e▸Gk)) e⟩
 refine hQ {s₄ with heap:=h'} (xs.push y) n' (wh.chg (W:=[D]) (fun a ha=>au _ (List.mem_singleton.mp ha▸az ..)) (fun b o _ hb e=>Q0 b o (fun e=>hb (List.mem_singleton.mpr e)) e) (wh.fr.xo.mut Gk yL Q0 ⟨_,jA⟩) (fun a ha=>ha) (fun x c h hm=>hc x c h (List.mem_singleton.mp hm)))
  ⟨fun b o ht hb e=>Q0 b o (fun e=>hb (au _ (List.mem_singleton.mpr e))) (nI.keep b o ht e),⟨fun a o e=>Q0 a o (fun e'=>g8 ((wh.fr.xo.look a (e'▸Gk)).symm.trans e)) (nI.inv.ir a o e),nI.inv.bare⟩,nI.os,nI.drawn⟩ jA ?_
 rw[dy]
 exact(gM.up MT vF).append (gM.cons (hy.up MT) gM.nil)
end
end
section
open PySem
theorem lV{prog:Program}{w:cL}{A:aH}{R:fx→aq→Prop}{s:aq}{elt gU iter:aN}{jU:List aN}{gens:List cb}{scope:Scope}{pos:cM}{d:Nat}{it acc:Value}{env:b9}(hg:gens[d]? =some ⟨gU,iter,jU,0⟩)
  (h0:codeAny (model prog w) A (.compLoop (.ListComp elt gens scope pos) d it acc env) R s)
  (h:wpAny (model prog w) A (pyIter it) (fun MO s'=>codeAny (model prog w) A (.compLoop (.ListComp elt gens scope pos) d MO acc env) R s')
   (notedBy (model prog w) A env fun x s'=>R (.error x) s') s):
  codeAny (model prog w) A (.compStart (.ListComp elt gens scope pos) d it acc env) R s:=by
 refine dZ ?_
 show wpAny _ _ ((compStart (.ListComp elt gens scope pos) d it acc env).onRaise (fun x=>do noteFrame x env;standAt theWindowsPlace)) _ _ s
 refine wpAny_notedAt ?_
 have pP:clausesOf (.ListComp elt gens scope pos)=gens:=rfl
 unfold compStart
 rw[pP,hg]
 show wpAny _ _ (ask>>= _) _ _ s
 refine ao (wpAny_askSetting (wpAny_ite ?_))
 split
 ·first
   |exact ao (aA (aA (And.intro rfl h0)))
   |exact aA (And.intro rfl h0)
 ·refine ao (cS ?_)
  refine ao (bP (ao (bI h (fun MO s' h'=>aA (And.intro rfl h')) fun _ _ x=>x)))
section
variable {L:ic} {sc:Scope} {σ:gJ} {own:List Str} {k:Nat}
theorem FS.perm{env:b9}{Y Z Z':List Addr}{ρ:List MV}{h:Heap}(F:FS L sc σ own env Y Z h ρ)(hs: ∀a,a∈Z'↔a∈Z):FS L sc σ own env Y Z' h ρ:=by
 have hm: ∀a,a∈Y++Z'↔a∈Y++Z:=fun a=>by simp[hs]
 exact F.chg (W:=[]) (fun a ha=>by (first|exact VD ha|cases ha)) (fun b o _ _ e=>e) (F.fr.xo.sub (fun a ha=>(hm a).mp ha) ((hm _).mpr F.fr.xo.tb) ((hm _).mpr F.fr.xo.sm)) (fun a ha=>(hs a).mp ha) (fun _ _ _ h=>by (first|exact VD h|cases h))
theorem gM.same{h:Heap}{X X':List Addr}{ps:List PV}{vs:List Value}(x:gM L.prog L.w h X ps vs)(hs: ∀a∈X',a∈X):gM L.prog L.w h X' ps vs:=gM.up (Up.sub h hs) x
theorem CJ.more{elt gU iter zA um:aN}{jU Oo:List aN}{gens:List cb}{scope:Scope}{pos:cM}{d:Nat}{tt ZM:Bool}{u:PV→List MV→Option (List MV)}{t:List MV→Option Bool}{e:List MV→Option (List PV)}{f:List MV→List PV→Option (List PV)}
  (hg:gens[d]? =some ⟨gU,iter,jU,0⟩)(hn:gens[d+1]? =some ⟨zA,um,Oo,0⟩)(ht:tt=true→pV gU=true)(hu:AS L sc σ own gU u)(hk:Keeps u)(hi:oI L sc σ k jU t)(he:IE L sc σ k um ZM e)
  (Kd:CJ L sc σ own k elt gens scope pos (d+1) ZM f)(CG: ∀env x,foldedSetIterable um env x=pure x):
  CJ L sc σ own k elt gens scope pos d tt (i9 (nZ u t e f)):=by
 refine CJ.loop (g:=fun ρ=>(e ρ).bind fun ps=>f ρ ps) (fun env I D=>xM hg hn) ht hu hk hi fun env A Y Z wr s ρ a acc xs n I D Q E Rm F Iv MQ Ki kC ki hc hD xN hsz hf hQ=> ?_
 obtain⟨qs,VW,hfq⟩:=Option.bind_eq_some_iff.mp hf
 have yL:D≠L.tb:=fun e=>Ki (e▸kC)
 refine ao (bI (he env A _ s ρ qs _ _ Rm F.fr Iv VW fun I' Kk s₄ nI xw He Om hIt=> ?_) (fun xv ZO h=>ao (bP (ao (c8 (CG env xv) (ao (aX h)))))) fun _ _ x=>x)
 have VX: ∀a∈Kk,a∉Y++(wr++(D::Z)):=fun a ha=>F.fr.xo.fresh (He a ha)
 have m1: ∀a,a∈D::(wr++Z)→a∈wr++(D::Z):=fun a h=>(List.mem_cons.mp h).elim (fun e=>au _ (e▸az ..)) fun h=>(List.mem_append.mp h).elim (aw _) fun h=>au _ (av _ h)
 have VY: ∀a,a∈wr++(D::Z)→a∈D::(wr++Z):=fun a h=>(List.mem_append.mp h).elim (fun h=>av _ (aw _ h)) fun h=>(List.mem_cons.mp h).elim (fun e=>e▸az ..) fun h=>av _ (au _ h)
 have m2: ∀a,a∈Y++(Kk++(D::(wr++Z)))→a∈Y++(wr++(D::Z))∨a∈Kk:=fun a h=>(List.mem_append.mp h).elim (fun h=> .inl (aw _ h)) fun h=>(List.mem_append.mp h).elim .inr fun h=> .inl (au _ (m1 a h))
 have m3: ∀a∈Y++(wr++(D::Z)),a∈Y++(Kk++(D::(wr++Z))):=fun a h=>(List.mem_append.mp h).elim (aw _) fun h=>au _ (au _ (VY a h))
 have Ou:XO L (Y++(Kk++(D::(wr++Z)))) s₄.heap:=xw.sub (fun a ha=>(m2 a ha).elim (au _) (aw _)) (m3 _ F.fr.xo.tb) (m3 _ F.fr.xo.sm)
 have wh:FS L sc σ own env Y (Kk++(D::(wr++Z))) s₄.heap ρ:=F.Oj nI Ou fun a ha=>(List.mem_append.mp ha).elim (fun h=> .inr (He a h)) fun h=> .inl (m1 a h)
 obtain⟨St',MO,Kg⟩:=hIt (Y++(Kk++(D::(wr++Z)))) (fun a ha=>(m2 a ha).elim .inl fun h=> .inr (.inl h)) (fun a ha=>au _ (aw _ ha))
 have vF:gM L.prog L.w s₄.heap (Y++(Kk++(D::(wr++Z)))) acc xs.toList:=xN.up fun b o hb e=>⟨fun hm=>(m2 b hm).elim hb fun h=>g8 ((He b h).symm.trans e),nI.keep b o (fun h=>hb (h▸F.fr.xo.tb)) e⟩
 refine ao (wpAny_runOwn (h:=none) ?_ (fun e=>by (first|exact VD e|cases e)))
 rw[aH.mark_none]
 have inner:codeAny L.M A (.compLoop (.ListComp elt gens scope pos) (d+1) (.ref I') (.ref D) env) (fun r s'=>match r with| .ok f=>wpAny L.M A (again (.compLoop (.ListComp elt gens scope pos) d (.ref I) (.ref D) env)) Q E s'| .error e=>cameBackBy L.M A env E e s') s₄:=by
  refine Kd env A Y (wr++Z) Kk s₄ ρ qs a acc xs n I' St' qs 0 D _ Rm wh nI.inv MO Kg (aC _) rfl (fun b hb hm=>VX b hm (au _ (m1 b hb))) (fun hm=>(List.mem_append.mp hm).elim MQ Ki) (au _ kC) (au _ ki)
   (fun x c pP hm=>(List.mem_cons.mp hm).elim (hc x c pP) fun h=>(F.fr.cells x c pP).2.elim fun o ho=>g8 ((He c h).symm.trans ho)) (nI.keep _ _ yL hD) vF hsz hfq fun s' ru n' F' QY A7 d'=> ?_
  exact hQ s' ru n' (F'.perm fun a=>⟨VY a,m1 a⟩) ⟨fun b o h1 h2 e=>d'.keep b o h1 (fun hm=>(List.mem_append.mp hm).elim (fun h=>h2 (aw _ h)) fun h=>(List.mem_cons.mp h).elim (fun h=>h2 (au _ (List.mem_singleton.mpr h))) fun h=>g8 ((He b h).symm.trans e)) (nI.keep b o h1 e),d'.inv,d'.os.trans nI.os,d'.drawn.trans nI.drawn⟩ QY (A7.same fun b hb=>(List.mem_append.mp hb).elim (aw _) fun h=>au _ (VY b h))
 exact lV hn inner (MO.self A 0 s₄ _ _ Kg inner)
end
end
section
open PySem
theorem qQ: ∀(names:List (Str×NameKind)) (n:Nat) (acc:List (Str×Addr)),cellsFrom n names acc=cellsFrom n names []++acc:=by
 intro names
 induction names with
 |nil=>exact @fun _ _=>rfl
 |cons q0 r hV=>
  obtain⟨x,kd⟩:=q0
  intro n acc
  unfold cellsFrom
  split
  ·rw[hV (n+1) ((x,n)::acc),hV (n+1) [(x,n)]];simp
  ·exact hV n acc
theorem xO: ∀{names:List (Str×NameKind)} {n:Nat} {acc:List (Str×Addr)} {x:Str} {c:Addr},(x,c)∈cellsFrom n names acc→(x,c)∈acc∨(x,NameKind.cell)∈names:=by
 intro names
 induction names with
 |nil=>exact @fun _ _ _ _ h=> .inl h
 |cons q0 r hV=>
  obtain⟨y,kd⟩:=q0
  intro n acc x c h
  unfold cellsFrom at h
  split at h
  ·rename_i hk
   rcases hV h with h|h
   ·rcases List.mem_cons.mp h with h|h
    ·(first|exact VD h|cases h);exact .inr (by rw[eq_of_beq hk];exact az ..)
    ·exact .inl h
   ·exact .inr (av _ h)
  ·rcases hV h with h|h
   ·exact .inl h
   ·exact .inr (av _ h)
theorem nK: ∀{names:List (Str×NameKind)} {n:Nat} {x:Str} {acc:List (Str×Addr)},(x,NameKind.cell)∈names→ ∃c,(x,c)∈cellsFrom n names acc:=by
 intro names
 induction names with
 |nil=>exact @fun _ _ _ h=>by (first|exact VD h|cases h)
 |cons q0 r hV=>
  obtain⟨y,kd⟩:=q0
  intro n x acc h
  unfold cellsFrom
  rcases List.mem_cons.mp h with h|h
  ·(first|exact VD h|cases h)
   refine⟨n,?_⟩
   rw[if_pos (by rfl),qQ]
   exact au _ (az ..)
  ·split
   ·exact hV h
   ·exact hV h
theorem jq{α:Type}: ∀{l:List (Str×α)} {x:Str} {c:α},(x,c)∈l→ ∃c',l.lookup x=some c':=by
 intro l
 induction l with
 |nil=>intro x c h;exact absurd h bY
 |cons q0 r hV=>
  obtain⟨y,d⟩:=q0
  intro x c h
  rw[bC]
  cases hb:x==y with
  |true=>exact⟨d,rfl⟩
  |false=>
   rcases List.mem_cons.mp h with e|h
   ·(first|exact VD e|cases e);simp at hb
   ·exact hV h
theorem gW{α:Type}: ∀{l:List (Str×α)} {x:Str} {c:α},l.lookup x=some c→(x,c)∈l:=by
 intro l
 induction l with
 |nil=>intro x c h;exact g8 h
 |cons q0 r hV=>
  obtain⟨y,d⟩:=q0
  intro x c h
  rw[bC] at h
  cases hb:x==y with
  |true=>rw[hb] at h;(first|exact VD h|cases h);rw[eq_of_beq hb];exact az ..
  |false=>rw[hb] at h;exact av _ (hV h)
theorem ku{α:Type}: ∀{l m:List (Str×α)} {x:Str},(l++m).lookup x=match l.lookup x with|some c=>some c|none=>m.lookup x:=by
 intro l
 induction l with
 |nil=>exact @fun _ _=>rfl
 |cons q0 r hV=>
  obtain⟨y,d⟩:=q0
  intro m x
  rw[c6,bC,bC]
  cases hb:x==y with
  |true=>rfl
  |false=>exact hV
theorem xP{M:Model}{A:aH}{E:Value→aq→Prop}{s:aq}{scope:Scope}{globals:Addr}{cl:List (Str×Addr)}{qual:Str}{env:b9}{Q:b9→aq→Prop}
  (hQ:Q (newEnv scope s.heap.objs.size globals (cellsFrom (s.heap.objs.size+1) scope.names []++cl) qual none .none (some env) builtinsNs) {s with heap:=pushCells (s.heap.push {cls:= .type "dict",data:= .dict #[]}) scope.names}):
  wpAny M A (newFunctionEnv scope globals cl [] qual none .none (some env)) Q E s:=by
 simp only[newFunctionEnv,Option.isSome_some,if_true]
 refine ao (wpAny_alloc ?_)
 refine ao (wpAny_layCells _ (fun name kind cells=>by cases VZ:kind==NameKind.cell<;>simp[VZ]) _ _ _ _ ?_)
 rw[show({s with heap:=s.heap.push {cls:= .type "dict",data:= .dict #[]}}:aq).heap.objs.size=s.heap.objs.size+1 from aZ ..,qQ]
 exact ao (aA (aA hQ))
theorem xQ{env:b9}: ∀(names:List (Str×NameKind)) (acc:List (Str×Addr)),(∀x,(x,NameKind.free)∈names→ ∃c,env.cells.lookup x=some c)→(∀x c,(x,c)∈acc→env.cells.lookup x=some c)→
  ∃cl,(forIn names acc fun(x:Str×NameKind) (cs:List (Str×Addr))=>(if x.2==NameKind.free then do let a←cellOf env x.1;pure (ForInStep.yield ((x.1,a)::cs)) else pure (ForInStep.yield cs):Sem (ForInStep (List (Str×Addr)))))=pure cl∧
   (∀x c,(x,c)∈cl→env.cells.lookup x=some c)∧(∀x,(x,NameKind.free)∈names∨(∃c,(x,c)∈acc)→ ∃c,(x,c)∈cl):=by
 intro names
 induction names with
 |nil=>exact @fun acc _ ha=>⟨acc,rfl,ha,fun x h=>by rcases h with h|h;(first|exact VD h|cases h);exact h⟩
 |cons q0 r hV=>
  obtain⟨y,kd⟩:=q0
  intro acc hn ha
  rw[dN]
  by_cases hk:kd==NameKind.free
  ·obtain⟨c,hc⟩:=hn y (by rw[eq_of_beq hk];exact az ..)
   obtain⟨cl,h1,h2,h3⟩:=hV ((y,c)::acc) (fun x h=>hn x (av _ h)) (fun x c' h=>by
    rcases List.mem_cons.mp h with h|h
    ·(first|exact VD h|cases h);exact hc
    ·exact ha x c' h)
   refine⟨cl,?_,h2,fun x h=>h3 x ?_⟩
   ·have DN:cellOf env y=pure c:=by unfold cellOf;rw[hc]
    simp only[hk,if_true,DN]
    exact h1
   ·rcases h with h|⟨c',h⟩
    ·rcases List.mem_cons.mp h with h|h
     ·(first|exact VD h|cases h);exact .inr ⟨c,az ..⟩
     ·exact .inl h
    ·exact .inr ⟨c',av _ h⟩
  ·obtain⟨cl,h1,h2,h3⟩:=hV acc (fun x h=>hn x (av _ h)) ha
   refine⟨cl,?_,h2,fun x h=>h3 x ?_⟩
   ·simp only[hk]
    exact h1
   ·rcases h with h|h
    ·rcases List.mem_cons.mp h with h|h
     ·(first|exact VD h|cases h);simp at hk
     ·exact .inl h
    ·exact .inr h
theorem xR{env:b9}{scope:Scope}(hn: ∀x,(x,NameKind.free)∈scope.names→ ∃c,env.cells.lookup x=some c):
  ∃cl,closureFor scope env=pure cl∧(∀x c,cl.lookup x=some c→env.cells.lookup x=some c)∧(∀x,(x,NameKind.free)∈scope.names→ ∃c,cl.lookup x=some c):=by
 obtain⟨cl,h1,h2,h3⟩:=xQ (env:=env) scope.names [] hn (fun x c h=>by (first|exact VD h|cases h))
 refine⟨cl,?_,fun x c h=>h2 x c (gW h),fun x h=> ?_⟩
 ·unfold closureFor
  simp only[bind_pure_comp] at h1 ⊢
  first
   |exact(congrArg (· >>= pure) h1).trans rfl
   |(rw[←h1];rfl)
 ·obtain⟨c,hc⟩:=h3 x (.inl h);exact jq hc
end
section
open PySem
noncomputable def j8(scope sc:Scope):Scope:=
 {scope with names:=scope.names.map fun(n,k)=>if (k== .free&&sc.kind== .function&&sc.names.lookup n==some .cell) then(n,.cell) else(n,k)}
noncomputable def lr(tg:List Str)(scope:Scope)(σ:gJ):gJ:=tg.zipIdx++((σ.filter fun xi=>scope.names.lookup xi.1==some .free).map fun xi=>(xi.1,xi.2+tg.length))
noncomputable def MV.mJ:MV→MV
 | .p q=> .p q
 |_=> .un
theorem yO(mv:MV):mv.mJ.owned=false:=by cases mv<;>rfl
theorem DT{mv:MV}(h:mv.mJ≠ .un): ∃q,mv= .p q:=by cases mv<;>first|exact⟨_,rfl⟩|exact absurd rfl h
theorem xS: ∀{tg:List Str} {n:Nat} {x:Str} {i:Nat},(tg.zipIdx n).lookup x=some i→i<n+tg.length:=by
 intro tg
 induction tg with
 |nil=>exact @fun _ _ _ h=>g8 h
 |cons y r hV=>
  intro n x i h
  rw[List.zipIdx_cons,bC] at h
  rw[aY]
  cases hb:x==y with
  |true=>rw[hb] at h;have:=Option.some.inj h;omega
  |false=>rw[hb] at h;have:=hV h;omega
theorem se(scope:Scope)(m:Nat): ∀{σ:gJ} {x:Str} {i:Nat},((σ.filter fun xi=>scope.names.lookup xi.1==some .free).map fun xi=>(xi.1,xi.2+m)).lookup x=some i→ ∃j,i=j+m∧σ.lookup x=some j∧scope.names.lookup x=some .free:=by
 intro σ
 induction σ with
 |nil=>exact @fun _ _ h=>g8 h
 |cons q0 r hV=>
  obtain⟨y,j⟩:=q0
  intro x i h
  rw[List.filter_cons] at h
  rw[bC]
  cases hf:scope.names.lookup y==some .free with
  |true=>
   rw[if_pos hf,aQ,bC] at h
   cases hb:x==y with
   |true=>rw[hb] at h;exact⟨j,(Option.some.inj h).symm,rfl,eq_of_beq hb▸eq_of_beq hf⟩
   |false=>rw[hb] at h;exact hV h
  |false=>
   rw[hf,if_neg bl] at h
   obtain⟨j',h1,h2,h3⟩:=hV h
   cases hb:x==y with
   |true=>rw[eq_of_beq hb] at h3;exact absurd (beq_iff_eq.mpr h3) (by rw[hf];exact bl)
   |false=>exact⟨j',h1,h2,h3⟩
theorem te{tg:List Str}{scope:Scope}{σ:gJ}{x:Str}{i:Nat}(h:(lr tg scope σ).lookup x=some i):(i<tg.length)∨ ∃j,i=j+tg.length∧σ.lookup x=some j∧scope.names.lookup x=some .free:=by
 unfold lr at h
 rw[ku] at h
 cases hz:tg.zipIdx.lookup x with
 |some j=>
  rw[hz] at h
  have:=xS hz
  exact .inl (by have:=Option.some.inj h;omega)
 |none=>
  rw[hz] at h
  exact .inr (se scope _ h)
theorem nL{α:Type}: ∀{l:List (Str×α)} {x:Str} {c:α},(l.map (·.1)).Nodup→(x,c)∈l→l.lookup x=some c:=by
 intro l
 induction l with
 |nil=>intro x c hn h;exact absurd h bY
 |cons q0 r hV=>
  obtain⟨y,d⟩:=q0
  intro x c hn h
  have hn:=List.nodup_cons.mp hn
  rw[bC]
  cases hb:x==y with
  |true=>exact(List.mem_cons.mp h).elim (fun e=>congrArg some (Prod.mk.inj e).2.symm) fun h=>absurd (List.mem_map.mpr ⟨_,h,eq_of_beq hb⟩) hn.1
  |false=>exact(List.mem_cons.mp h).elim (fun e=>absurd (beq_iff_eq.mpr (Prod.mk.inj e).1) (by rw[hb];exact bl)) (hV hn.2)
noncomputable def EO(sc:Scope)(n:Str)(k:NameKind):NameKind:=if (k== .free&&sc.kind== .function&&sc.names.lookup n==some .cell) then .cell else k
theorem uQ(sc:Scope): ∀(names:List (Str×NameKind)) (x:Str),(names.map fun(n,k)=>if (k== .free&&sc.kind== .function&&sc.names.lookup n==some .cell) then(n,NameKind.cell) else(n,k)).lookup x=(names.lookup x).map (EO sc x):=by
 intro names
 induction names with
 |nil=>exact @fun _=>rfl
 |cons q0 r hV=>
  obtain⟨n,kd⟩:=q0
  intro x
  have ih:=hV x
  have e:(if (kd==NameKind.free&&sc.kind==ScopeKind.function&&sc.names.lookup n==some NameKind.cell)=true then(n,NameKind.cell) else(n,kd))=(n,EO sc n kd):=by
   unfold EO;split<;>rfl
  rw[aQ]
  show List.lookup x ((if (kd==NameKind.free&&sc.kind==ScopeKind.function&&sc.names.lookup n==some NameKind.cell)=true then(n,NameKind.cell) else(n,kd))::_)=_
  rw[e,bC,bC]
  cases hb:x==n with
  |true=>rw[eq_of_beq hb];rfl
  |false=>exact ih
structure oJ(sc scope:Scope)(tg:List Str):Prop where
 kind:scope.kind= .function
 nodup:(scope.names.map (·.1)).Nodup
 free: ∀x∈scope.names,x.2= .free→sc.names.lookup x.1=some .cell∨sc.names.lookup x.1=some .free
 G8: ∀x∈tg,(scope.names.lookup x=some .local∨scope.names.lookup x=some .cell)∧(x==("__classdict__":Str))=false
 host:vM (j8 scope sc)=false
 dot:EF (j8 scope sc)=true
noncomputable def Ov(sc scope:Scope)(tg:List Str):Bool:=
 !vM (j8 scope sc)&&EF (j8 scope sc)&&((scope.kind== .function)&&decide (scope.names.map (·.1)).Nodup&&(scope.names.all fun x=>x.2 != .free||sc.names.lookup x.1==some .cell||sc.names.lookup x.1==some .free)&&
  tg.all fun x=>(scope.names.lookup x==some .local||scope.names.lookup x==some .cell)&& !(x==("__classdict__":Str)))
theorem or3{a b c:Bool}(h:(a||b||c)=true):a=true∨b=true∨c=true:=by cases a<;>cases b<;>first|exact .inl rfl|exact .inr (.inl rfl)|exact .inr (.inr h)
theorem EP{a:Bool}(h:(!a)=true):a=false:=by cases a<;>first|rfl|exact Bool.noConfusion h
theorem oJ.of{sc scope:Scope}{tg:List Str}(h:Ov sc scope tg=true):oJ sc scope tg:=
 have h:=jz h;have g:=jz h.1;have h:=jz h.2;have h':=jz h.1;have qD:=jz h'.1
 ⟨eq_of_beq qD.1,of_decide_eq_true qD.2,fun x hx hk=>(or3 (List.all_eq_true.mp h'.2 x hx)).elim (fun e=>absurd (beq_iff_eq.mpr hk) (by rw[EP e];exact bl)) (Or.imp eq_of_beq eq_of_beq),
  fun x hx=>have t:=jz (List.all_eq_true.mp h.2 x hx);⟨(Bool.or_eq_true_iff.mp t.1).imp eq_of_beq eq_of_beq,EP t.2⟩,EP g.1,g.2⟩
section
variable {L:ic} {sc:Scope} {σ:gJ} {k:Nat}
theorem th{elt gU iter:aN}{jU:List aN}{rest:List cb}{scope:Scope}{pos p:cM}{tg:List Str}{tt:Bool}{f₀:List MV→Option (List PV)}{f₁:List MV→List PV→Option (List PV)}{env:b9}{A:aH}{X:List Addr}{s:aq}{ρ:List MV}{ps out:List PV}{Q:Value→aq→Prop}{E:Value→aq→Prop}{use:Option (Value→Sem Unit)}
  (ok:oJ sc scope tg)(hI:IE L sc σ k iter tt f₀)(hCJ:CJ L (j8 scope sc) (lr tg scope σ) tg k elt (⟨gU,iter,jU,0⟩::rest) scope pos 0 tt f₁)(hs: ∀env x,foldedSetIterable iter env x=pure x)
  (R:iU L k A)(F:FR L sc σ env X s.heap ρ)(I:Inv L s)(sg:f₀ ρ=some ps)(h₁:f₁ (List.replicate tg.length .un++ρ.map MV.mJ) ps=some out)(ER:out.length≤100000)
  (hQ: ∀C D s',gI L X s s'→XO L (C::X) s'.heap→s.heap.get? C=none→s.heap.get? D=none→VR L.prog L.w s'.heap (C::X) (.list out) (.ref D)→(∃m,s'.heap.Ns C m)→C∉X→C≠D→compPost L.M A E use Q (.ref D) C (.ok .next) s'):
  wpAny L.M A (comprehension (.ListComp elt (⟨gU,iter,jU,0⟩::rest) scope pos) scope env p (PySem.newList []) false (eval iter env) use) Q E s:=by
 obtain⟨cl,pP,Q1,Q2⟩:=xR (env:=env) (scope:=scope) fun x hx=>F.has x (ok.free _ hx rfl)
 refine wpAny_comprehension_free rfl (hs env) pP ok.kind (fun x hx hl=> ?_) (hI env A X s ρ ps _ E R F I sg fun V0 wr gQ gP xw Gl hIm hit=> ?_)
 ·have:=nL ok.nodup (show(x.1,x.2)∈scope.names from hx)
  rw[this,hl]
 refine bL (xP ?_) (by show 0≤16777216;omega)
 generalize Kl:({gQ with heap:=gQ.heap.push {cls:= .type "list",data:= .seq ([]:List Value).toArray}}:aq)=i6
 have Vc:i6.heap=gQ.heap.push {cls:= .type "list",data:= .seq ([]:List Value).toArray}:=by rw[←Kl]
 have ZP:i6.heap.objs.size=gQ.heap.objs.size+1:=by rw[Vc,aZ]
 generalize hD:gQ.heap.objs.size=D at ZP
 have Ow:=cellsFrom_ok scope.names (i6.heap.push {cls:= .type "dict",data:= .dict #[]}) (i6.heap.objs.size+1) [] ⟨fun _ _ hm=>(nomatch hm),List.Pairwise.nil⟩ (by rw[aZ];exact br _)
 rw[aZ] at Ow
 generalize Vd:cellsFrom (i6.heap.objs.size+1) scope.names []=nw at Ow
 generalize hC:i6.heap.objs.size=C at Ow Vd ZP
 generalize Ve:({i6 with heap:=pushCells (i6.heap.push {cls:= .type "dict",data:= .dict #[]}) scope.names}:aq)=s₄
 have Q3:s₄.heap=pushCells (i6.heap.push {cls:= .type "dict",data:= .dict #[]}) scope.names:=by rw[←Ve]
 have V1: ∀b o,i6.heap.get? b=some o→s₄.heap.get? b=some o:=fun b o e=>by rw[Q3];exact pushCells_keeps _ _ b o (aB _ e)
 have Vf: ∀b o,gQ.heap.get? b=some o→i6.heap.get? b=some o:=fun b o e=>by rw[Vc];exact aB _ e
 have Ox: ∀b o,gQ.heap.get? b=some o→s₄.heap.get? b=some o:=fun b o e=>V1 b o (Vf b o e)
 have ZQ:i6.heap.get? D=some {cls:= .type "list",data:= .seq ([]:List Value).toArray}:=by rw[Vc,←hD];exact aE _ rfl
 have gD:s₄.heap.get? D=some {cls:= .type "list",data:= .seq ([]:List Value).toArray}:=V1 _ _ ZQ
 have em: ∀{a b:List Addr} {x:Addr} {P:Prop},x∈a++b→(x∈a→P)→(x∈b→P)→P:=fun h f g=>(List.mem_append.mp h).elim f g
 have ec: ∀{b:List Addr} {x y:Addr} {P:Prop},x∈y::b→(x=y→P)→(x∈b→P)→P:=fun h f g=>(List.mem_cons.mp h).elim f g
 have nC:s₄.heap.Ns C (fun _=>none):=by
  rw[Q3,←hC];exact(Heap.Ns.new i6.heap (.type "dict")).keeps (pushCells_keeps _ _)
 have Qs:gQ.heap.get? D=none:=by rw[←hD];exact gY _
 have V2: ∀c,C≤c→i6.heap.get? c=none:=fun c hc=>by
  cases e:i6.heap.get? c with
  |none=>rfl
  |some o=>exact absurd (hC▸aI e) (Nat.not_lt.mpr hc)
 have Q4: ∀c,C≤c→gQ.heap.get? c=none:=fun c hc=>by
  cases e:gQ.heap.get? c with
  |none=>rfl
  |some o=>have:=Vf c o e;rw[V2 c hc] at this;(first|exact VD this|cases this)
 have fr: ∀c,gQ.heap.get? c=none→s.heap.get? c=none:=fun c=>gP.fresh F.xo
 have Q5: ∀n c,nw.lookup n=some c→s₄.heap.IsCell c none∧C+1≤c∧(n,NameKind.cell)∈scope.names:=fun n c h=>by
  have hm:=gW h
  obtain⟨h1,h2⟩:=Ow.empty n c hm
  exact⟨Q3▸h1,h2,(xO (acc:=[]) (show(n,c)∈cellsFrom (C+1) scope.names [] from Vd.symm▸hm)).elim (fun h=>absurd h bY) id⟩
 have Q6: ∀x kd,(x,kd)∈scope.names→scope.names.lookup x=some kd:=fun x kd h=>nL ok.nodup h
 generalize Oy:C::nw.map (·.2)=Y
 have Q7:C∈Y:=Oy▸az ..
 have hYn: ∀x c,nw.lookup x=some c→c∈Y:=fun x c h=>Oy▸av _ (List.mem_map.mpr ⟨_,gW h,rfl⟩)
 have Q8: ∀y∈Y,y=C∨ ∃n,(n,y)∈nw:=fun y hy=>by
  rw[←Oy] at hy
  exact ec hy .inl fun h=> .inr ((List.mem_map.mp h).elim fun nc h=>⟨nc.1,h.2▸h.1⟩)
 have Oz: ∀y∈Y,C≤y:=fun y hy=>(Q8 y hy).elim (fun e=>bt e.symm) fun⟨n,hm⟩=>fN (Ow.empty n y hm).2
 have ES: ∀y∈Y,∃o,s₄.heap.get? y=some o:=fun y hy=>(Q8 y hy).elim (fun e=>nC.elim fun o x=>x.elim fun _ x=>x.elim fun _ x=>⟨o,e▸x.1⟩) fun⟨n,hm⟩=>(Ow.empty n y hm).1.elim fun o x=>⟨o,Q3▸x.1⟩
 have V3: ∀a∈wr++(D::X),∃o,i6.heap.get? a=some o:=fun a ha=>em ha (fun h=>(xw.there a (aw _ h)).elim fun o ho=>⟨o,Vf a o ho⟩) fun h=>ec h (fun e=>⟨_,e▸ZQ⟩) fun h=>(xw.there a (au _ h)).elim fun o ho=>⟨o,Vf a o ho⟩
 have apart: ∀y∈Y,y∉wr++(D::X):=fun y hy hz=>(V3 y hz).elim fun o ho=>g8 ((V2 y (Oz y hy)).symm.trans ho)
 have mX: ∀a∈Y++(wr++(D::X)),a∈wr++X∨gQ.heap.get? a=none:=fun a ha=>em ha (fun h=> .inr (Q4 a (Oz a h))) fun h=>em h (fun h=> .inl (aw _ h)) fun h=>ec h (fun e=> .inr (e▸Qs)) fun h=> .inl (au _ h)
 have ZR: ∀a∈wr++X,a∈Y++(wr++(D::X)):=fun a ha=>au _ (em ha (aw _) fun h=>au _ (av _ h))
 have Ou:XO L (Y++(wr++(D::X))) s₄.heap:=xw.widen Ox gP.inv.ir mX ZR fun a ha=>em ha (ES a) fun h=>(V3 a h).elim fun o ho=>⟨o,V1 a o ho⟩
 have OA:Inv L s₄:=by
  rw[←Ve,←Kl]
  exact⟨fun a o e=>Ox a o (gP.inv.ir a o e)|> fun h=>by rw[Q3,Vc] at h;exact h,gP.inv.bare⟩
 have DU:C∉X:=fun h=>apart C Q7 (au _ (av _ h))
 have Gk:D∉X:=fun h=>xw.fresh Qs (au _ h)
 have hCt:C≠L.tb:=fun e=>DU (e▸F.xo.tb)
 have yL:D≠L.tb:=fun e=>Gk (e▸F.xo.tb)
 have MQ:D∉wr:=fun h=>xw.fresh Qs (aw _ h)
 have uj:sc=env.scope:=F.scope.symm
 generalize A8:({newEnv scope C env.globals (nw++cl) env.qual none .none (some env) builtinsNs with scope:=relabel scope env}:b9)=wi
 have c1:wi.scope=j8 scope sc:=by rw[←A8,uj];rfl
 have c2:wi.locals=C:=by rw[←A8];rfl
 have c3:wi.globals=mainGlobals:=by rw[←A8];exact F.globals
 have c4:wi.builtins=builtinsNs:=by rw[←A8];exact F.builtins.1
 have c5:wi.cells=nw++cl:=by rw[←A8];rfl
 have V4: ∀x c,wi.cells.lookup x=some c→(nw.lookup x=some c∧C+1≤c)∨(nw.lookup x=none∧cl.lookup x=some c):=fun x c h=>by
  rw[c5,ku] at h
  cases hn:nw.lookup x with
  |some c'=>rw[hn] at h;(first|exact VD h|cases h);exact .inl ⟨rfl,(Q5 x _ hn).2.1⟩
  |none=>rw[hn] at h;exact .inr ⟨rfl,h⟩
 have Q9: ∀x c,cl.lookup x=some c→c≠L.tb∧ ∃o,s.heap.get? c=some o:=fun x c h=>F.cells x c (Q1 x c h)
 have ZS: ∀c,(∃o,s.heap.get? c=some o)→c≠L.tb→ ∃o,gQ.heap.get? c=some o:=fun c ⟨o,ho⟩ ht=>⟨o,gP.keep c o ht ho⟩
 have Km: ∀x,(j8 scope sc).names.lookup x=(scope.names.lookup x).map (EO sc x):=fun x=>uQ sc scope.names x
 have noOwn: ∀(i:Nat) mv,(List.replicate tg.length MV.un++ρ.map MV.mJ)[i]? =some mv→mv.owned=true→False:=fun i mv h ho=>
  (List.mem_append.mp (bu h)).elim (fun h=>Bool.noConfusion ((List.mem_replicate.mp h).2▸ho)) fun h=>(List.mem_map.mp h).elim fun q x=>Bool.noConfusion ((yO q).symm.trans (x.2▸ho))
 have wh:FS L (j8 scope sc) (lr tg scope σ) tg wi Y (wr++(D::X)) s₄.heap (List.replicate tg.length .un++ρ.map MV.mJ):=by
  refine⟨⟨c1,ok.kind,c3,⟨c4,(fun h=>by rw[ok.host] at h;(first|exact VD h|cases h)),(fun h=>by rw[ok.dot] at h;(first|exact VD h|cases h))⟩,Ou,⟨c2▸hCt,c2▸ES C Q7⟩,fun x c h=> ?_,fun x h=> ?_,fun x i hi mv jy hu=> ?_⟩,c2▸Q7,⟨_,c2▸nC⟩,fun x hx=> ?_,apart,fun x i mv a H=>(noOwn i mv H.val H.ow).elim,fun x y i j mv nj a H _=>(noOwn i mv H.val H.ow).elim⟩
  ·rcases V4 x c h with⟨h1,h2⟩|⟨_,h2⟩
   ·obtain⟨⟨o,ho,_⟩,h3,_⟩:=Q5 x c h1
    refine⟨fun e=> ?_,o,ho⟩
    exact gP.xo.fresh (Q4 c (by omega)) (e▸F.xo.tb)
   ·obtain⟨h3,h4⟩:=Q9 x c h2
    obtain⟨o,ho⟩:=ZS c h4 h3
    exact⟨h3,o,Ox c o ho⟩
  ·rw[Km x] at h
   have hk:scope.names.lookup x=some .cell∨scope.names.lookup x=some .free:=by
    cases hx:scope.names.lookup x with
    |none=>rw[hx] at h;exact h.elim g8 g8
    |some kd=>
     rw[hx] at h
     cases kd<;>first|exact .inl rfl|exact .inr rfl|exact h.elim (fun h=>nomatch h) fun h=>nomatch h
   rw[c5,ku]
   rcases hk with hk|hk
   ·obtain⟨c,hm⟩:=nK (n:=C+1) (acc:=[]) (gW hk)
    rw[Vd] at hm
    exact(jq hm).elim fun c' GZ=>⟨c',by rw[GZ]⟩
   ·obtain⟨c,hc⟩:=Q2 x (gW hk)
    cases hn:nw.lookup x with
    |some c'=>exact⟨c',rfl⟩
    |none=>exact⟨c,hc⟩
  ·rcases te hi with h|⟨j,rfl,hj,DV⟩
   ·rw[d2 (by simpa using h),List.getElem?_replicate_of_lt h] at jy
    skip;(first|exact VD jy|cases jy);exact absurd rfl hu
   ·rw[gu (by simp)] at jy
    simp only[eR,Nat.add_sub_cancel,aJ] at jy
    obtain⟨MU,OB,rfl⟩:=Option.map_eq_some_iff.mp jy
    obtain⟨q,rfl⟩:=DT hu
    obtain⟨v,r,m⟩:=F.rd x j hj _ OB (by intro e;(first|exact VD e|cases e))
    have hsk:sc.names.lookup x=some .cell∨sc.names.lookup x=some .free:=ok.free _ (gW DV) rfl
    have hek:env.kindOf x=sc.names.lookup x:=by unfold b9.kindOf;rw[F.scope]
    have Ra:nw.lookup x=none:=by
     cases hn:nw.lookup x with
     |none=>rfl
     |some c'=>have:=Q6 x _ (Q5 x c' hn).2.2;rw[DV] at this;(first|exact VD this|cases this)
    obtain⟨c,hc⟩:=Q2 x (gW DV)
    refine⟨v,?_,?_⟩
    ·rcases r with⟨hk,_⟩|⟨hk,hd,c',Oc,hv⟩
     ·rw[hek] at hk;exact hsk.elim (fun h=>nomatch hk.symm.trans h) fun h=>nomatch hk.symm.trans h
     ·obtain rfl:c=c':=Option.some.inj ((Q1 x c hc).symm.trans Oc)
      refine .inr ⟨?_,hd,c,by rw[c5,ku,Ra];exact hc,hv.elim fun o x=>⟨o,Ox c o (gP.keep c o (Q9 _ c hc).1 x.1),x.2⟩⟩
      have VZ:wi.kindOf x=some (EO sc x .free):=by unfold b9.kindOf;rw[c1,Km x,DV];rfl
      rw[VZ]
      unfold EO;split
      ·exact .inl rfl
      ·exact .inr rfl
    ·exact VR.up (fun a o ha e=>have e2:=gP.keep a o (fun h=>ha (h▸F.xo.tb)) e;⟨fun hm=>(mX a hm).elim (fun h=>em h (fun h=>g8 ((Gl a h).symm.trans e)) ha) fun h=>g8 (h.symm.trans e2),Ox a o e2⟩) (show VR L.prog L.w s.heap X q v from m)
  ·obtain⟨hk,hcd⟩:=ok.G8 x hx
   rcases hk with hk|hk
   ·left;rw[Km x,hk];rfl
   ·right
    obtain⟨c,hm⟩:=nK (n:=C+1) (acc:=[]) (gW hk)
    rw[Vd] at hm
    obtain⟨c',GZ⟩:=jq hm
    refine⟨by rw[Km x,hk];rfl,hcd,c',by rw[c5,ku,GZ],hYn x c' GZ,⟨_,(Q5 x c' GZ).1⟩,fun y hy he=> ?_⟩
    rcases V4 y c' he with⟨h1,_⟩|⟨_,h2⟩
    ·exact hy (name_of_addr Ow.apart (gW h1) (gW GZ))
    ·exact(ZS c' (Q9 y c' h2).2 (Q9 y c' h2).1).elim fun o ho=>g8 ((Q4 c' (fN (Q5 x c' GZ).2.1)).symm.trans ho)
 obtain⟨St,it,st⟩:=hit (Y++(wr++(D::X))) (fun a ha=>(mX a ha).elim (fun h=>em h (fun h=> .inr (.inl h)) .inl) fun h=> .inr (.inr h)) (fun a ha=>ZR a (aw _ ha))
 have MW:St 0 s₄.heap:=it.frame _ _ _ st fun b o _ e=>Ox b o e
 have Hf: ∀x c,wi.cells.lookup x=some c→c∉D::wr:=fun x c h hm=>
  (V4 x c h).elim (fun h2=>(V3 c (ec hm (fun h=>au _ (h▸az ..)) (aw _))).elim fun o ho=>g8 ((V2 c (fN h2.2)).symm.trans ho))
   fun h2=>(Q9 x c h2.2).2.elim fun o ho=>ec hm (fun e=>g8 ((fr D Qs).symm.trans (e▸ho))) fun h=>g8 ((Gl c h).symm.trans ho)
 have loop:codeAny L.M A (.compLoop (.ListComp elt (⟨gU,iter,jU,0⟩::rest) scope pos) 0 (.ref V0) (.ref D) wi) (compPost L.M A E use Q (.ref D) C) s₄:=by
  refine hCJ wi A Y X wr s₄ _ ps out [] #[] 0 V0 St ps 0 D _ R wh OA it MW (aC _) rfl (fun a ha hm=>ec ha (fun h=>MQ (h▸hm)) fun h=>F.xo.fresh (Gl a hm) h) Gk F.xo.tb F.xo.sm Hf gD gM.nil (by rw[gj];omega) h₁ fun s' ru n' F' QY A7 d'=> ?_
  have EK:XO L X s'.heap:=F'.fr.xo.sub (fun a ha=>au _ (av _ ha)) F.xo.tb F.xo.sm
  have mC: ∀a∈C::X,a∈Y++(D::X):=fun a ha=>ec ha (fun e=>aw _ (e▸Q7)) fun h=>au _ (av _ h)
  have Rb:C≠D:=fun e=>apart C Q7 (au _ (e▸az ..))
  refine hQ C D s' ⟨fun b o hb e=> ?_,d'.inv,EK,?_,?_⟩ (F'.fr.xo.sub mC (av _ F.xo.tb) (av _ F.xo.sm)) (fr C (Q4 C (br _))) (fr D Qs) (.intro D ⟨ru,n',rfl,fun h=>ec h (fun h=>Rb h.symm) Gk,QY,A7.same mC⟩) (by rw[←c2];exact F'.ns) DU Rb
  ·have e2:=gP.keep b o hb e
   exact d'.keep b o hb (fun hm=>em hm (fun h=>g8 ((Q4 b (Oz b h)).symm.trans e2)) fun h=>ec h (fun h=>g8 (Qs.symm.trans (h▸e2))) fun h=>g8 ((Gl b h).symm.trans e)) (Ox b o e2)
  ·rw[d'.os,←Ve,←Kl];exact gP.os
  ·rw[d'.drawn,←Ve,←Kl];exact gP.drawn
 have start:=lV (gens:=⟨gU,iter,jU,0⟩::rest) (d:=0) rfl loop (it.self A 0 s₄ _ _ MW loop)
 exact start
end
end
section
open PySem
section
variable {L:ic} {sc:Scope} {σ:gJ} {own:List Str} {k:Nat}
noncomputable def iB(n:Nat)(f₀:List MV→Option (List PV))(f₁:List MV→List PV→Option (List PV))(ρ:List MV):Option PV:=
 (f₀ ρ).bind fun ps=>(f₁ (List.replicate n .un++ρ.map MV.mJ) ps).bind fun out=>if mL out then some (.list out) else none
theorem rD{n:Nat}{f₀:List MV→Option (List PV)}{f₁:List MV→List PV→Option (List PV)}{ρ:List MV}{p:PV}(h:iB n f₀ f₁ ρ=some p): ∃ps out,f₀ ρ=some ps∧f₁ (List.replicate n .un++ρ.map MV.mJ) ps=some out∧out.length≤100000∧p= .list out:=by
 replace h:=Option.bind_eq_some_iff.mp h
 obtain⟨ps,h0,h⟩:=h
 replace h:=Option.bind_eq_some_iff.mp h
 obtain⟨out,h1,h⟩:=h
 split at h
 ·rename_i hf;(first|exact VD h|cases h);exact⟨ps,out,h0,h1,of_decide_eq_true hf,rfl⟩
 ·(first|exact VD h|cases h)
theorem SE.comp{elt gU iter:aN}{jU:List aN}{rest:List cb}{scope:Scope}{pos:cM}{tg:List Str}{tt:Bool}{f₀:List MV→Option (List PV)}{f₁:List MV→List PV→Option (List PV)}
  (ok:oJ sc scope tg)(hI:IE L sc σ k iter tt f₀)(hC:CJ L (j8 scope sc) (lr tg scope σ) tg k elt (⟨gU,iter,jU,0⟩::rest) scope pos 0 tt f₁)(hs: ∀env x,foldedSetIterable iter env x=pure x):
  SE L sc σ k (.ListComp elt (⟨gU,iter,jU,0⟩::rest) scope pos) (iB tg.length f₀ f₁):=by
 intro env A X s ρ p Q E R F I hf hQ
 obtain⟨ps,out,h0,h1,ER,rfl⟩:=rD hf
 rw[eval_ListComp]
 refine th ok hI hC hs R F I h0 h1 ER fun C D s' d xc hC hD hv hn DU Rb=> ?_
 obtain⟨m,hm⟩:=hn
 refine⟨m,hm,fun h' k9=> ?_⟩
 have hk: ∀b o,b≠C→s'.heap.get? b=some o→h'.get? b=some o:=fun b o hb e=>k9.extBut b o hb e
 have EK:XO L X h':=xc.after (wr:=[C]) (fun a ha=>by rw[List.mem_singleton.mp ha];exact az ..) (fun b o hb e=>hk b o (fun e=>hb (by rw[e];exact bK _)) e)
  (fun a ha=>⟨av _ ha,fun h=>DU (by rw[←List.mem_singleton.mp h];exact ha)⟩) F.xo.tb F.xo.sm
 refine hQ _ _ (hv.up fun a o ha e=>⟨fun h=>ha (av _ h),hk a o (fun h=>ha (h▸az ..)) e⟩) ⟨fun b o hb e=>hk b o (fun h=>by rw[h,hC] at e;(first|exact VD e|cases e)) (d.keep b o hb e),⟨fun a o e=>hk a o (fun h=> ?_) (d.inv.ir a o e),d.inv.bare⟩,EK,d.os,d.drawn⟩
 have:=xc.look C (az ..)
 rw[←h,e] at this;(first|exact VD this|cases this)
end
end
section
open PySem
inductive Fl where
 |next|brk|cont
 |ret (p:PV)
 deriving Inhabited
noncomputable def V5(L:ic)(h:Heap)(Z:List Addr):Fl→Flow→Prop
 | .next,f=>f= .next
 | .brk,f=>f= .brk
 | .cont,f=>f= .cont
 | .ret p,f=> ∃v,f= .ret v∧VR L.prog L.w h Z p v
section
variable {L:ic} {sc:Scope} {σ:gJ} {own:List Str} {k:Nat}
noncomputable def wj(L:ic)(sc:Scope)(σ:gJ)(own:List Str)(g:Bool)(env:b9)(Y Z:List Addr)(s:aq)(fl:Fl)(ρ':List MV)(Q:Flow→aq→Prop):Prop:=
 ∀fv Y' s',V5 L s'.heap Z fl fv→FS L sc σ own env Y' Z s'.heap ρ'→(∀b∈Y',b∈Y∨s.heap.get? b=none)→(g=false→Y'=Y)→gO L Y s s'→Q fv s'
noncomputable def S1(L:ic)(sc:Scope)(σ:gJ)(own:List Str)(k:Nat)(g:Bool)(st:Stmt)(f:List MV→Option (Fl×List MV)):Prop:=
 ∀(env:b9) (A:aH) (Y Z:List Addr) (s:aq) (ρ ρ':List MV) (fl:Fl) (Q:Flow→aq→Prop) (E:Value→aq→Prop),
  iU L k A→FS L sc σ own env Y Z s.heap ρ→Inv L s→L.tb∈Z→sysModules∈Z→f ρ=some (fl,ρ')→wj L sc σ own g env Y Z s fl ρ' Q→wpAny L.M A (exec st env) Q E s
noncomputable def SS(L:ic)(sc:Scope)(σ:gJ)(own:List Str)(k:Nat)(g:Bool)(body:List Stmt)(f:List MV→Option (Fl×List MV)):Prop:=
 ∀(env:b9) (A:aH) (Y Z:List Addr) (s:aq) (ρ ρ':List MV) (fl:Fl) (Q:Flow→aq→Prop) (E:Value→aq→Prop),
  iU L k A→FS L sc σ own env Y Z s.heap ρ→Inv L s→L.tb∈Z→sysModules∈Z→f ρ=some (fl,ρ')→wj L sc σ own g env Y Z s fl ρ' Q→wpAny L.M A (execs body env) Q E s
theorem wj.imp{g g':Bool}{env:b9}{Y Z wk:List Addr}{s s₁:aq}{fl:Fl}{ρ':List MV}{Q:Flow→aq→Prop}(h:wj L sc σ own g env Y Z s fl ρ' Q)(hY: ∀b∈wk,b∈Y∨s.heap.get? b=none)(hg:g=false→g'=false∧wk=Y)(d:gO L Y s s₁)
  (kC: ∃o,s₁.heap.get? L.tb=some o):wj L sc σ own g' env wk Z s₁ fl ρ' Q:=by
 intro fv Y' s' hf F Qt ZU d'
 refine h fv Y' s' hf F (fun b hb=>(Qt b hb).elim (hY b) fun h1=> ?_) (fun e=>(ZU (hg e).1).trans (hg e).2) (d.trans hY d')
 cases e:s.heap.get? b with
 |none=>exact .inr rfl
 |some o=>
  by_cases MX:b∈Y
  ·exact .inl MX
  ·by_cases ht:b=L.tb
   ·exact kC.elim fun o' lp=>g8 (h1.symm.trans (ht▸lp))
   ·exact g8 (h1.symm.trans (d.keep b o ht MX e))
theorem wj.one{g:Bool}{env:b9}{Y Z:List Addr}{s s':aq}{fl:Fl}{ρ':List MV}{Q:Flow→aq→Prop}{fv:Flow}(h:wj L sc σ own g env Y Z s fl ρ' Q)(hf:V5 L s'.heap Z fl fv)(F:FS L sc σ own env Y Z s'.heap ρ')(d:gO L Y s s'):Q fv s':=
 h fv Y s' hf F (fun b hb=> .inl hb) (fun _=>rfl) d
theorem SS.nil{g:Bool}:SS L sc σ own k g [] (fun ρ=>some (.next,ρ)):=by
 intro env A Y Z s ρ ρ' fl Q E R F I kC ki hf hQ
 skip;(first|exact VD hf|cases hf)
 exact fg (hQ.one rfl F (gO.refl I))
noncomputable def gN(f g:List MV→Option (Fl×List MV))(ρ:List MV):Option (Fl×List MV):=(f ρ).bind fun r=>match r with|(.next,ρ')=>g ρ'|r=>some r
theorem SS.cons{g g':Bool}{st:Stmt}{rest:List Stmt}{f f':List MV→Option (Fl×List MV)}(h:S1 L sc σ own k g st f)(hr:SS L sc σ own k g' rest f'):SS L sc σ own k (g||g') (st::rest) (gN f f'):=by
 intro env A Y Z s ρ ρ' fl Q E R F I kC ki hf hQ
 obtain⟨⟨pW,gK⟩,h1,h2⟩:=Option.bind_eq_some_iff.mp hf
 refine di (h env A Y Z s ρ gK pW _ E R F I kC ki h1 fun fv Y' s' qF F' hY hg d=> ?_)
 have fin:some (pW,gK)=some (fl,ρ')→Q fv s':=fun e=>by
  skip;(first|exact VD e|cases e)
  exact hQ fv Y' s' qF F' hY (fun e=>hg (Bool.or_eq_false_iff.mp e).1) d
 cases pW with
 |next=>
  skip;(first|exact VD qF|cases qF)
  exact hr env A Y' Z s' gK ρ' fl Q E R F' d.inv kC ki h2 (hQ.imp hY (fun e=>have e:=Bool.or_eq_false_iff.mp e;⟨e.2,hg e.1⟩) d (F'.fr.xo.there _ F'.fr.xo.tb))
 |brk=>have q:=fin h2;(first|exact VD qF|cases qF);exact q
 |cont=>have q:=fin h2;(first|exact VD qF|cases qF);exact q
 |ret p=>have q:=fin h2;obtain⟨v,rfl,hv⟩:=qF;exact q
theorem S1.ret{e:aN}{pos:cM}{f:List MV→Option PV}(h:SE L sc σ k e f):S1 L sc σ own k false (.Return (some e) pos) (fun ρ=>(f ρ).map fun v=>(.ret v,ρ)):=by
 intro env A Y Z s ρ ρ' fl Q E R F I kC ki hf hQ
 obtain⟨v,hv,e'⟩:=Option.map_eq_some_iff.mp hf
 skip;(first|exact VD e'|cases e')
 refine wpAny_Return_some (h env A _ s ρ v _ E R F.fr I hv fun y s₁ hy d=> ?_)
 exact hQ.one ⟨y,rfl,hy.up (Up.sub _ fun a ha=>au _ ha)⟩ (F.done d) (gO.jQ d)
theorem S1.brk{pos:cM}:S1 L sc σ own k false (.Break pos) (fun ρ=>some (.brk,ρ)):=by
 intro env A Y Z s ρ ρ' fl Q E R F I kC ki hf hQ
 skip;(first|exact VD hf|cases hf)
 exact wpAny_Break (hQ.one rfl F (gO.refl I))
theorem S1.Va{g g':Bool}{t:aN}{b o:List Stmt}{pos:cM}{c:List MV→Option Bool}{f f':List MV→Option (Fl×List MV)}(ht:TE L sc σ k t c)(hb:SS L sc σ own k g b f)(ho:SS L sc σ own k g' o f'):
  S1 L sc σ own k (g||g') (.If t b o pos) (fun ρ=>(c ρ).bind fun x=>if x then f ρ else f' ρ):=by
 intro env A Y Z s ρ ρ' fl Q E R F I kC ki hf hQ
 replace hf:=Option.bind_eq_some_iff.mp hf
 obtain⟨x,hx,hf⟩:=hf
 refine wpAny_If (ht env A _ s ρ x _ E R F.fr I hx fun s₁ d=> ?_)
 have fin: ∀V7,((g||g')=false→V7=false)→wj L sc σ own V7 env Y Z s₁ fl ρ' Q:=fun V7 e=>hQ.imp (fun b h=> .inl h) (fun h=>⟨e h,rfl⟩) (gO.jQ d) (d.xo.there _ d.xo.tb)
 cases x with
 |true=>exact hb env A Y Z s₁ ρ ρ' fl Q E R (F.done d) d.inv kC ki hf (fin g fun e=>(Bool.or_eq_false_iff.mp e).1)
 |false=>exact ho env A Y Z s₁ ρ ρ' fl Q E R (F.done d) d.inv kC ki hf (fin g' fun e=>(Bool.or_eq_false_iff.mp e).2)
theorem S1.set{e:aN}{x:Str}{p pos:cM}{i:Nat}{f:List MV→Option PV}(he:SE L sc σ k e f)(hx:x∈own)(hi:kr σ x i)(hs: ∀env,env.scope=sc→swapsWith e (some (.Name x p)) pos.line env=pure false):
  S1 L sc σ own k false (.Assign [.Name x p] e pos) (fun ρ=>(f ρ).map fun v=>(.next,ρ.set i (.p v))):=by
 intro env A Y Z s ρ ρ' fl Q E R F I kC ki hf hQ
 obtain⟨v,hv,e'⟩:=Option.map_eq_some_iff.mp hf
 skip;(first|exact VD e'|cases e')
 refine eC (hs:=hs env F.fr.scope) (he env A _ s ρ v _ E R F.fr I hv fun y s₁ hy d=>(F.done d).bind d.inv hx hi hy fun gQ jJ gP=> ?_)
 exact hQ.one rfl jJ ((gO.jQ d).trans (fun b h=> .inl h) gP)
theorem wm{Y W Z:List Addr}{a:Addr}(h:a∈Y++(W++Z)):a∈W++(Y++Z):=(List.mem_append.mp h).elim (fun h=>au _ (aw _ h)) fun h=>(List.mem_append.mp h).elim (aw _) fun h=>au _ (au _ h)
theorem Hg{Y Z:List Addr}{C a:Addr}(h:a∈Y++(C::Z)):a∈C::(Y++Z):=wm (W:=[C]) h
theorem DW{Y Z:List Addr}{C a:Addr}(h:a∈C::(Y++Z)):a∈Y++(C::Z):=wm (Y:=[C]) h
theorem FS.MY{env:b9}{Y Z:List Addr}{ρ:List MV}{s s':aq}{C:Addr}(F:FS L sc σ own env Y Z s.heap ρ)(d:gI L (Y++Z) s s')(xc:XO L (C::(Y++Z)) s'.heap)(hC:s.heap.get? C=none)(DU:C∉Y++Z):
  FS L sc σ own env Y (C::Z) s'.heap ρ∧ ∀gQ jV h',FS L sc σ own env Y (C::Z) gQ.heap jV→gO L Y s' gQ→(∀b o,b≠C→gQ.heap.get? b=some o→h'.get? b=some o)→FS L sc σ own env Y Z h' jV∧gO L Y s {gQ with heap:=h'}:=by
 refine⟨F.Oj d (xc.sub (fun a ha=>Hg ha) (DW xc.tb) (DW xc.sm)) fun a ha=>(List.mem_cons.mp ha).elim (fun e=> .inr (e▸hC)) .inl,fun gQ jV h' jJ gP hk=> ?_⟩
 have qt: ∀b o,b∉[C]→gQ.heap.get? b=some o→h'.get? b=some o:=fun b o hb=>hk b o fun e=>hb (List.mem_singleton.mpr e)
 have V8:XO L (Y++Z) h':=jJ.fr.xo.after (wr:=[C]) (fun a ha=>List.mem_singleton.mp ha▸DW (az ..)) qt (fun a ha=>⟨DW (av _ ha),fun h=>DU (List.mem_singleton.mp h▸ha)⟩) F.fr.xo.tb F.fr.xo.sm
 exact⟨jJ.chg (W:=[C]) (fun a ha=>List.mem_singleton.mp ha▸az ..) (fun b o _=>qt b o) V8 (fun a ha=>av _ ha) fun y c hc h=>(F.fr.cells y c hc).2.elim fun o ho=>g8 (hC.symm.trans (List.mem_singleton.mp h▸ho)),
  ((gO.jQ d).trans (fun b h=> .inl h) gP).trans (Y':=[C]) (fun b hb=> .inr (List.mem_singleton.mp hb▸hC)) ⟨fun b o _=>qt b o,⟨fun a o e=>hk a o (fun h=>g8 ((xc.look C (az ..)).symm.trans (h▸e))) (gP.inv.ir a o e),gP.inv.bare⟩,rfl,rfl⟩⟩
theorem S1.setC{elt gU iter:aN}{jU:List aN}{rest:List cb}{scope:Scope}{pos p sh:cM}{tg:List Str}{tt:Bool}{f₀:List MV→Option (List PV)}{f₁:List MV→List PV→Option (List PV)}{x:Str}{i:Nat}
  (ok:oJ sc scope tg)(hI:IE L sc σ k iter tt f₀)(hC:CJ L (j8 scope sc) (lr tg scope σ) tg k elt (⟨gU,iter,jU,0⟩::rest) scope pos 0 tt f₁)(CG: ∀env x,foldedSetIterable iter env x=pure x)
  (hx:x∈own)(hi:kr σ x i)(hs: ∀env,env.scope=sc→swapsWith (.ListComp elt (⟨gU,iter,jU,0⟩::rest) scope pos) (some (.Name x p)) sh.line env=pure true):
  S1 L sc σ own k false (.Assign [.Name x p] (.ListComp elt (⟨gU,iter,jU,0⟩::rest) scope pos) sh) (fun ρ=>(iB tg.length f₀ f₁ ρ).map fun v=>(.next,ρ.set i (.p v))):=by
 intro env A Y Z s ρ ρ' fl Q E R F I kC ki hf hQ
 obtain⟨v,hv,e'⟩:=Option.map_eq_some_iff.mp hf
 skip;(first|exact VD e'|cases e')
 obtain⟨ps,out,h0,h1,ER,rfl⟩:=rD hv
 rw[exec_Assign_Name_used _ _ _ _ (hs env F.fr.scope)]
 refine ao (bP (ao ?_))
 show wpAny _ A (do let _←comprehension (.ListComp elt (⟨gU,iter,jU,0⟩::rest) scope pos) scope env _ (PySem.newList []) false (eval iter env) (some (assign (.Name x p) env))) _ _ s
 refine ao (bI (th (Q:=fun _ s'=>Q .next s') (use:=some (assign (.Name x p) env)) ok hI hC CG R F.fr I h0 h1 ER fun C D s' d xc hC hD hv hn DU Rb=> ?_) (fun _ s' hq=>aA (aA hq)) fun _ _ e=>e)
 obtain⟨m,hm⟩:=hn
 obtain⟨jm,kG⟩:=FS.MY (σ:=σ) (own:=own) F d xc hC DU
 refine cm (jm.bind d.inv hx hi (hv.up (Up.sub _ fun a ha=>Hg ha)) fun gQ jJ gP=> ?_)
 refine⟨m,hm.at' fun o e=>gP.keep C o (fun e=>DU (e▸F.fr.xo.tb)) (fun h=>DU (aw _ h)) e,fun h' k9=> ?_⟩
 have k:=kG _ _ _ jJ gP fun b o hb e=>k9.extBut b o hb e
 exact hQ.one (s':={gQ with heap:=h'}) rfl k.1 k.2
theorem S1.V9{es:List aN}{kk:Nat}{qG pos:cM}{e:aN}{f:List MV→Option PV}{u:PV→List MV→Option (List MV)}(he:SE L sc σ k e f)(ht:AS L sc σ own (.Tuple es kk qG) u)
  (hs: ∀env,env.scope=sc→swapsWithSole [.Tuple es kk qG] e pos.line env=pure false)(hw: ∀env,env.scope=sc→swappedStores [.Tuple es kk qG] e env=pure none):
  S1 L sc σ own k false (.Assign [.Tuple es kk qG] e pos) (fun ρ=>(f ρ).bind fun v=>(u v ρ).map fun ρ'=>(.next,ρ')):=by
 intro env A Y Z s ρ ρ' fl Q E R F I kC ki hf hQ
 replace hf:=Option.bind_eq_some_iff.mp hf
 obtain⟨v,hv,hf⟩:=hf
 obtain⟨gK,hu,e'⟩:=Option.map_eq_some_iff.mp hf
 skip;(first|exact VD e'|cases e')
 refine fy (hs:=hs env F.fr.scope) (hw:=hw env F.fr.scope) (he env A _ s ρ v _ E R F.fr I hv fun y s₁ hy d=> ?_)
 exact ht env A Y Z s₁ ρ _ v y _ E (R.less (aC _)) (F.done d) d.inv hy hu fun gQ jJ gP=>hQ.one rfl jJ ((gO.jQ d).trans (fun b h=> .inl h) gP)
theorem ET{xs:List Str}{is:List Nat}(h:i8 own σ xs is): ∀{ps:List PV} {ρ ρ':List MV},wc is ps ρ=some ρ'→xs.length=ps.length:=by
 induction h with
 |nil=>intro ps ρ ρ' e;cases ps<;>first|rfl|exact g8 e
 |cons _ _ _ ih=>intro ps ρ ρ' e;cases ps<;>first|exact g8 e|exact congrArg (· +1) (ih e)
theorem gM.reverse{h:Heap}{X:List Addr}: ∀{ps:List PV} {vs:List Value},gM L.prog L.w h X ps vs→gM L.prog L.w h X ps.reverse vs.reverse:=by
 intro ps
 induction ps with
 |nil=>exact @fun _ x=>by (first|exact VD x|cases x);exact gM.nil
 |cons p ps hV=>
  intro _ x
  obtain⟨v,r,rfl,hv,hr⟩:=x
  rw[List.reverse_cons,List.reverse_cons]
  exact(hV hr).append (gM.cons hv gM.nil)
theorem FS.Rc{env:b9}{Y Z:List Addr}{A:aH}{E:Value→aq→Prop}{Q:Unit→aq→Prop}{xs:List Str}{is:List Nat}(h:i8 own σ xs is): ∀{ps:List PV} {vs:List Value} {ρ ρ':List MV} {s:aq},FS L sc σ own env Y Z s.heap ρ→Inv L s→gM L.prog L.w s.heap (Y++Z) ps vs→wc is ps ρ=some ρ'→
  (∀s',FS L sc σ own env Y Z s'.heap ρ'→gO L Y s s'→Q () s')→wpAny L.M A (assignInOrder (xs.map fun n=>bindName env n) vs) Q E s:=by
 induction h with
 |nil=>
  intro ps vs ρ ρ' s F I hv hu hQ
  cases ps<;>try exact g8 hu
  obtain rfl:=hv
  skip;(first|exact VD hu|cases hu)
  exact dm (hQ _ F (gO.refl I))
 |cons hx hi _ ih=>
  intro ps vs ρ ρ' s F I hv hu hQ
  cases ps<;>try exact g8 hu
  obtain⟨v,r,rfl,h1,h2⟩:=hv
  exact c9 (fW (F.bind I hx hi h1 fun s₁ jm iu=>ih jm iu.inv (gM.up (iu.up F.fr.xo) h2) hu fun s' F' d'=>hQ s' F' (iu.trans (fun b h=> .inl h) d')))
theorem S1.Wa{es:List aN}{kk:Nat}{qG pos:cM}{e:aN}{f:List MV→Option PV}{xs:List Str}{is:List Nat}(he:SE L sc σ k e f)(hi:i8 own σ xs.reverse is)
  (hs: ∀env,env.scope=sc→swapsWithSole [.Tuple es kk qG] e pos.line env=pure false)(hw: ∀env,env.scope=sc→swappedStores [.Tuple es kk qG] e env=pure (some xs)):
  S1 L sc σ own k false (.Assign [.Tuple es kk qG] e pos) (fun ρ=>(f ρ).bind fun v=>(pf v).bind fun l=>(wc is l.reverse ρ).map fun ρ'=>(.next,ρ')):=by
 intro env A Y Z s ρ ρ' fl Q E R F I kC ki hf hQ
 replace hf:=Option.bind_eq_some_iff.mp hf
 obtain⟨v,hv,hf⟩:=hf
 replace hf:=Option.bind_eq_some_iff.mp hf
 obtain⟨l,hl,hf⟩:=hf
 obtain⟨gK,hu,e'⟩:=Option.map_eq_some_iff.mp hf
 skip;(first|exact VD e'|cases e')
 refine eF (names:=xs) (hs:=hs env F.fr.scope) (hw:=hw env F.fr.scope) (he env A _ s ρ v _ E R F.fr I hv fun y s₁ hy d=> ?_)
 refine wd R.handled d.inv d.xo hl hy (by rw[←dS,ET hi hu,dS]) fun vs gQ jL gP=> ?_
 exact FS.Rc hi ((F.done d).done gP) gP.inv jL.reverse hu fun i6 kG i5=>hQ.one rfl kG (((gO.jQ d).trans (fun b h=> .inl h) (gO.jQ gP)).trans (fun b h=> .inl h) i5)
end
end
section
open PySem
section
variable {L:ic} {sc:Scope} {σ:gJ} {own:List Str} {k:Nat}
noncomputable def mM(u:PV→List MV→Option (List MV))(fb fo:List MV→Option (Fl×List MV)):List MV→List PV→Option (Fl×List MV)
 |ρ,[]=>fo ρ
 |ρ,p::ps=>(u p ρ).bind fun gK=>(fb gK).bind fun r=>match r with
  |(.next,jV)=>mM u fb fo jV ps
  |(.cont,jV)=>mM u fb fo jV ps
  |(.brk,jV)=>some (.next,jV)
  |(.ret v,jV)=>some (.ret v,jV)
theorem Kn{gU:aN}{body orelse:List Stmt}{tt:Bool}{u:PV→List MV→Option (List MV)}{fb fo:List MV→Option (Fl×List MV)}(hu:AS L sc σ own gU u)(ht:tt=true→pV gU=true)(hb:SS L sc σ own k false body fb)(ho:SS L sc σ own k false orelse fo)
  {env:b9}{A:aH}{Y Z wr:List Addr}{I:Addr}{St:Nat→Heap→Prop}{all:List PV}{fl:Fl}{ρ':List MV}{R:fx→aq→Prop}(Rm:iU L k A)(it:It L (Y++(wr++Z)) wr I all St tt)(hZ: ∀a∈Z,a∉wr)(kC:L.tb∈Z)(ki:sysModules∈Z)(hc: ∀x c,env.cells.lookup x=some c→c∉wr):
  ∀(ps:List PV) (i:Nat) (s:aq) (ρ:List MV),FS L sc σ own env Y (wr++Z) s.heap ρ→Inv L s→St i s.heap→i≤all.length→all.drop i=ps→mM u fb fo ρ ps=some (fl,ρ')→
   (∀fv s',V5 L s'.heap Z fl fv→FS L sc σ own env Y Z s'.heap ρ'→gO L (Y++wr) s s'→R (.ok fv) s')→codeAny L.M A (.forLoop gU (.ref I) body orelse env) R s:=by
 have Oq:L.tb∉wr:=hZ _ kC
 intro ps
 induction ps with
 |nil=>
  intro i s ρ F Iv st MP hd hf hR
  obtain rfl:=A5 hd MP
  refine dZ ?_
  show wpAny _ A ((forTurn gU (.ref I) body orelse env).onRaise (fun x=>do noteFrame x env;theTreesLotGoes x)) _ _ s
  refine wpAny_noted ?_
  simp only[forTurn]
  refine ao (bP (ao (fV (bI (it.done A s _ _ (Rm.less (aC _)) F.fr.xo Iv st fun s' dn hkk=> ?_) (fun _ _ h=>h) fun _ _ h'=>bP h'))))
  refine aA ⟨rfl,codeAny_block ?_⟩
  have EK:XO L (Y++Z) s'.heap:=F.fr.xo.after it.Ol hkk (fun a ha=>⟨Kh ha,(List.mem_append.mp ha).elim (fun h hw=>F.apart a h (aw _ hw)) (hZ a)⟩) (au _ kC) (au _ ki)
  have F':FS L sc σ own env Y Z s'.heap ρ:=F.chg (W:=wr) (fun a ha=>aw _ ha) (fun b o _ hb e=>hkk b o hb e) EK (fun a ha=>au _ ha) hc
  have d':gO L (Y++wr) s s':=⟨fun b o hb hn e=>dn.keep b o hb (fun h=>hn (au _ h)) e,dn.inv,dn.os,dn.drawn⟩
  refine ho env A Y Z s' ρ ρ' fl _ _ Rm F' dn.inv kC ki hf fun fv Y' pd qF Vg Qt hg d''=> ?_
  rw[hg rfl] at Vg
  exact hR fv pd qF Vg (d'.trans (fun b h=> .inl (aw _ h)) d'')
 |cons p ps ih=>
  intro i s ρ F Iv st MP hd hf hR
  replace hf:=Option.bind_eq_some_iff.mp hf
  obtain⟨gK,zB,hf⟩:=hf
  replace hf:=Option.bind_eq_some_iff.mp hf
  obtain⟨⟨pW,jV⟩,OC,hf⟩:=hf
  obtain⟨hp,Ot,sX⟩:=wg hd
  refine dZ ?_
  show wpAny _ A ((forTurn gU (.ref I) body orelse env).onRaise (fun x=>do noteFrame x env;theTreesLotGoes x)) _ _ s
  refine wpAny_noted ?_
  simp only[forTurn]
  refine ao (bP (ao (fV (bI (it.step Rm F Iv st hp ht hu zB Oq hc) (fun r s₁ hr=> ?_) fun _ _ h'=>bP h'))))
  obtain⟨v,rfl,hv⟩:=hr
  refine ao (bI hv (fun _ A4 h=>ao (bI h (fun _ gQ h₂=> ?_) fun _ _ x=>x)) fun _ _ x=>x)
  obtain⟨jJ,Ha,gP⟩:=h₂
  refine ao (hb env A Y (wr++Z) gQ gK jV pW _ _ Rm jJ gP.inv (au _ kC) (au _ ki) OC fun fv Y' i6 qF kG Qt hg i5=> ?_)
  rw[hg rfl] at kG
  have dd:gO L (Y++wr) s i6:=gP.trans (fun b h=> .inl (aw _ h)) i5
  have Rd:St (i+1) i6.heap:=it.frame _ _ _ Ha fun b o xC e=>i5.keep b o (fun h=>Oq (h▸xC (h▸F.fr.xo.tb))) (fun h=>F.apart b h (aw _ (xC (aw _ h)))) e
  have leave:FS L sc σ own env Y Z i6.heap jV:=kG.chg (W:=[]) (fun _ h=>nomatch h) (fun b o _ _ e=>e) (kG.fr.xo.sub (fun a ha=>Kh ha) (au _ kC) (au _ ki)) (fun a ha=>au _ ha) (fun _ _ _ h=>nomatch h)
  have more:mM u fb fo jV ps=some (fl,ρ')→codeAny L.M A (.forLoop gU (.ref I) body orelse env) R i6:=fun hf=>ih (i+1) i6 jV kG i5.inv Rd Ot sX hf fun fv s' h1 h2 h3=>hR fv s' h1 h2 (dd.trans (fun b h=> .inl h) h3)
  cases pW with
  |next=>(first|exact VD qF|cases qF);exact aA ⟨rfl,more hf⟩
  |cont=>(first|exact VD qF|cases qF);exact aA ⟨rfl,more hf⟩
  |brk=>(first|exact VD qF|cases qF);(first|exact VD hf|cases hf);exact aA (hR .next i6 rfl leave dd)
  |ret q=>
   obtain⟨v,rfl,hv⟩:=qF
   skip;(first|exact VD hf|cases hf)
   exact aA (hR (.ret v) i6 ⟨v,rfl,hv.up (Up.sub _ fun a ha=>au _ ha)⟩ leave dd)
theorem S1.for{gU iter:aN}{body orelse:List Stmt}{pos:cM}{tt:Bool}{f₀:List MV→Option (List PV)}{u:PV→List MV→Option (List MV)}{fb fo:List MV→Option (Fl×List MV)}(hI:IE L sc σ k iter tt f₀)(hu:AS L sc σ own gU u)(ht:tt=true→pV gU=true)(hb:SS L sc σ own k false body fb)(ho:SS L sc σ own k false orelse fo)
  (CG: ∀env x,foldedSetIterable iter env x=pure x):
  S1 L sc σ own k false (.For gU iter body orelse pos) (fun ρ=>(f₀ ρ).bind fun ps=>mM u fb fo ρ ps):=by
 intro env A Y Z s ρ ρ' fl Q E R F I kC ki hf hQ
 replace hf:=Option.bind_eq_some_iff.mp hf
 obtain⟨ps,hps,hf⟩:=hf
 refine wpAny_For (hs:=CG env) (hI env A _ s ρ ps _ E R F.fr I hps fun V0 wr gQ gP xw Gl hIm hit=> ?_)
 have jJ:FS L sc σ own env Y (wr++Z) gQ.heap ρ:=F.Oj gP (xw.sub (fun a ha=>wm ha) (wm xw.tb) (wm xw.sm)) fun a ha=>(List.mem_append.mp ha).elim (fun h=> .inr (Gl a h)) .inl
 obtain⟨St,it,st⟩:=hit (Y++(wr++Z)) (fun a ha=>(List.mem_append.mp (wm ha)).elim (fun h=> .inr (.inl h)) .inl) (fun a ha=>wm (aw _ ha))
 exact Kn hu ht hb ho R it (fun a ha hm=>F.fr.xo.fresh (Gl a hm) (au _ ha)) kC ki (fun x c pP hm=>(F.fr.cells x c pP).2.elim fun o ho=>g8 ((Gl c hm).symm.trans ho)) ps 0 gQ ρ jJ gP.inv st (aC _) rfl hf fun fv s' h1 h2 h3=>
  hQ.one h1 h2 ((gO.jQ gP).trans (fun b hb=>(List.mem_append.mp hb).imp id (Gl b)) h3)
end
end
section
open PySem
inductive Callee (L:ic):Value→Prop
 |builtin (id:String):Callee L (.builtin id)
 |type (T:String):Callee L (.type T)
 |fn {a:Addr} {o:Obj} {fd:FuncData}:L.look a=some o→o.data= .func fd→Callee L (.ref a)
 |cls {v:Value} {K:d9}:(∀h:Heap,(∀a o,L.look a=some o→h.get? a=some o)→PySem.W.Frag.In K h)→PySem.W.keepIn K v=true→Callee L v
section
variable {L:ic} {sc:Scope} {σ:gJ} {own:List Str} {k:Nat}
noncomputable def iF(L:ic)(k:Nat)(v:Value)(g:List PV→Option PV):Prop:=
 ∀(A:aH) (X:List Addr) (s:aq) (ps:List PV) (vs:List Value) (r:PV) (Q:Value→aq→Prop) (E:Value→aq→Prop),
  iU L k A→XO L X s.heap→Inv L s→gM L.prog L.w s.heap X ps vs→g ps=some r→(∀x s',VR L.prog L.w s'.heap X r x→gI L X s s'→Q x s')→wpAny L.M A (call v vs) Q E s
theorem iF.less{j:Nat}{v:Value}{g:List PV→Option PV}(h:iF L j v g)(hk:j≤k):iF L k v g:=fun A X s ps vs r Q E R=>h A X s ps vs r Q E (R.less hk)
theorem si{env:b9}{A:aH}{X:List Addr}{s:aq}{v:Value}{first:List Value}{e:aN}{es:List aN}{pos:cM}{ρ:List MV}{f:List MV→Option (List PV)}{ps:List PV}{Q:Value→aq→Prop}{E:Value→aq→Prop}(hc:Callee L v)(ha:LE L sc σ k (e::es) f)(he: ∀env,starEach (e::es) env=(false,eval e env)::starEach es env)(qE: ∀env,(starEach (e::es) env).any (·.1)=false)
  (R:iU L k A)(F:FR L sc σ env X s.heap ρ)(I:Inv L s)(hf:f ρ=some ps)
  (hQ: ∀vs s₁,gM L.prog L.w s₁.heap X ps vs→gI L X s s₁→wpAny L.M A (call v (first++vs)) Q E s₁):wpAny L.M A (callWith pos v first (backTo pos (starEach (e::es) env)) []) Q E s:=by
 have Hh:(backTo pos (starEach (e::es) env)).any (·.1)=false:=List.any_map.trans (qE env)
 have hb:backTo pos (starEach (e::es) env)=(false,eval e env)::backTo pos (starEach es env):=by
  rw[he env];rfl
 have Hi:wpAny L.M A (spliced (backTo pos (starEach (e::es) env))) (fun vs s₁=>gM L.prog L.w s₁.heap X ps vs∧gI L X s s₁) E s:=ha env A X s ρ ps pos _ E R F I hf fun vs s₁ h1 h2=>⟨h1,h2⟩
 rw[hb] at Hi Hh ⊢
 cases hc with
 |builtin id=>exact Calls.callWith_builtin Hh (b8 (bI Hi (fun vs s₁ h=>hQ vs s₁ h.1 h.2) fun _ _ e=>e))
 |type T=>exact callWith_type Hh (b8 (bI Hi (fun vs s₁ h=>hQ vs s₁ h.1 h.2) fun _ _ e=>e))
 |cls hk kN=>
  have xC:(backTo pos (starEach es env)).any (·.1)=false:=by
   rw[de] at Hh;exact(Bool.or_eq_false_iff.mp Hh).2
  rw[←hb] at Hi ⊢
  exact PySem.W.callWith_K (E:=E) (hk _ I.ir) kN (bI Hi (fun vs s₁ h=>⟨hk _ h.2.inv.ir,hQ vs s₁ h.1 h.2⟩) fun _ _ e=>e) (he env) xC
 |fn hl hd=>exact ed (b8 (bI Hi (fun vs s₁ h=>⟨⟨h.2.inv.ir _ _ hl,hd⟩,hQ vs s₁ h.1 h.2⟩) fun _ _ e=>e))
theorem SE.call{x:Str}{np pos:cM}{e:aN}{es:List aN}{v:Value}{f:List MV→Option (List PV)}{g:List PV→Option PV}(hx:sc.names.lookup x=some .globalImplicit)(hv:L.gl x=some v)(hc:Callee L v)(hf:iF L k v g)(ha:LE L sc σ k (e::es) f)
  (he: ∀env,starEach (e::es) env=(false,eval e env)::starEach es env)(qE: ∀env,(starEach (e::es) env).any (·.1)=false)(hd:(x==("__debug__":Str))=false:=by decide):SE L sc σ k (.Call (.Name x np) (e::es) [] pos) (fun ρ=>(f ρ).bind g):=by
 intro env A X s ρ p Q E R F I MZ hQ
 obtain⟨ps,hps,hg⟩:=Option.bind_eq_some_iff.mp MZ
 refine bT (aO (by rw[F.scope];exact F.kind) (by unfold b9.kindOf;rw[F.scope];exact hx) (L.rm s env A x v _ E I.ir F.globals F.builtins.1 hv ?_) hd)
 exact si hc ha he qE R F I hps fun vs s₁ jL d=>hf A X s₁ ps vs p Q E R d.xo d.inv jL hg fun y s' hy d'=>hQ y s' hy (d.trans d')
theorem SE.glob{x:Str}{pos:cM}{v:Value}{p:PV}(hx:sc.names.lookup x=some .globalImplicit)(hv:L.gl x=some v)(hp: ∀(h:Heap) (X:List Addr),(∀a o,L.look a=some o→h.get? a=some o)→(∀a∈X,L.look a=Option.none)→VR L.prog L.w h X p v)(hd:(x==("__debug__":Str))=false:=by decide):
  SE L sc σ k (.Name x pos) (fun _=>some p):=by
 intro env A X s ρ q Q E R F I hf hQ
 skip;(first|exact VD hf|cases hf)
 refine aO (by rw[F.scope];exact F.kind) (by unfold b9.kindOf;rw[F.scope];exact hx) (L.rm s env A x v _ E I.ir F.globals F.builtins.1 hv ?_) hd
 exact hQ v s (hp _ _ I.ir F.xo.look) (gI.refl I F.xo)
noncomputable def nM(L:ic)(name:Str)(g:PV→List PV→Option PV):Prop:=
 ∀(X:List Addr) (s:aq) (p:PV) (u:Value),XO L X s.heap→Inv L s→VR L.prog L.w s.heap X p u→(∃ps r,g p ps=some r)→ ∃T id,PlainAttrs T∧Slot T name id∧typeOf (.builtin id)=pure (.type "method_descriptor")∧s.TypeIs u T∧(∀a,u= .ref a→ ∃ob,s.heap.get? a=some ob∧ob.dict=none)∧
  ∀(A:aH) (s':aq) (ps:List PV) (vs:List Value) (r:PV) (Q:Value→aq→Prop) (E:Value→aq→Prop),iU L 0 A→gI L X s s'→gM L.prog L.w s'.heap X ps vs→g p ps=some r→(∀x pd,VR L.prog L.w pd.heap X r x→gI L X s' pd→Q x pd)→wpAny L.M A (call (.builtin id) (u::vs)) Q E s'
noncomputable def A9(e:aN):Bool:=if h:e.ctorIdx=(aN.Call (.Name default default) [] [] default).ctorIdx then aN.Call.elim (motive_1:=fun _=>Bool) e h fun _ as _ _=> !as.isEmpty else true
theorem n0{o:aN}{name:Str}{env:b9}{whole:Sem Value}(h:A9 o=true):attributeBase o name env whole=whole:=by
 cases o<;>try rfl
 rename_i f as kws pos
 cases as with
 |nil=>exact Bool.noConfusion h
 |cons=>cases f<;>rfl
theorem SE.Wb{o e:aN}{es:List aN}{name:Str}{apos pos:cM}{f:List MV→Option PV}{h:List MV→Option (List PV)}{g:PV→List PV→Option PV}(ho:SE L sc σ k o f)(ha:LE L sc σ k (e::es) h)(hm:nM L name g)
  (he: ∀env,starEach (e::es) env=(false,eval e env)::starEach es env)(qE: ∀env,(starEach (e::es) env).any (·.1)=false)(Wc:decide ((e::es).length<30)=true)(sj:(apos.endLine==pos.line)=true)(Wd:A9 o=true):
  SE L sc σ k (.Call (.Attribute o name apos) (e::es) [] pos) (fun ρ=>(f ρ).bind fun p=>(h ρ).bind fun ps=>g p ps):=by
 intro env A X s ρ r Q E R F I hf hQ
 replace hf:=Option.bind_eq_some_iff.mp hf
 obtain⟨p,hp,hf⟩:=hf
 obtain⟨ps,hps,hg⟩:=Option.bind_eq_some_iff.mp hf
 refine wpAny_Call_method_late (n0 Wd) ?_ sj rfl (ho env A X s ρ p _ E R F I hp fun u s₁ hu d=> ?_)
 ·have h1:(backTo pos (starEach (e::es) env)).all (fun x=> !x.1)=true:=List.all_map.trans (List.all_eq_true.mpr fun x hx=>congrArg (fun b=> !b) (Bool.eq_false_iff.mpr (List.any_eq_false.mp (qE env) x hx)))
  rw[h1]
  exact Wc
 ·obtain⟨T,id,h1,h2,h3,h4,h5,h6⟩:=hm X s₁ p u d.xo d.inv hu ⟨ps,r,hg⟩
  refine⟨T,id,h1,h2,h3,h4,h5,?_⟩
  exact si (.builtin id) ha he qE R (F.done d) d.inv hps fun vs gQ jL gP=>h6 A gQ ps vs r Q E (R.less (aC _)) gP jL hg fun x i6 hx i5=>hQ x i6 hx ((d.trans gP).trans i5)
end
end
section
open PySem
section
variable {L:ic}
theorem gI.yP{X:List Addr}{s:aq}(I:Inv L s)(x:XO L X s.heap){h':Heap}{tk:Nat}(hk: ∀b o,s.heap.get? b=some o→h'.get? b=some o):gI L X s {s with heap:=h',toks:=tk}:=gI.of_keep I x hk tk
theorem gM.one{h:Heap}{X:List Addr}{p:PV}{vs:List Value}(x:gM L.prog L.w h X [p] vs): ∃v,vs=[v]∧VR L.prog L.w h X p v:=by
 obtain⟨v,r,rfl,h1,h2⟩:=x.inv
 skip;(first|exact VD h2|cases h2)
 exact⟨v,rfl,h1⟩
theorem gM.two{h:Heap}{X:List Addr}{p q:PV}{vs:List Value}(x:gM L.prog L.w h X [p,q] vs): ∃v u,vs=[v,u]∧VR L.prog L.w h X p v∧VR L.prog L.w h X q u:=by
 obtain⟨v,r,rfl,h1,h2⟩:=x.inv
 obtain⟨u,rfl,h3⟩:=gM.one h2
 exact⟨v,u,rfl,h1,h3⟩
noncomputable def Gives(L:ic)(A:aH)(X:List Addr)(s:aq)(r:PV)(m:Sem Value):Prop:= ∀(Q:Value→aq→Prop) (E:Value→aq→Prop),(∀x s',VR L.prog L.w s'.heap X r x→gI L X s s'→Q x s')→wpAny L.M A m Q E s
structure At(L:ic)(A:aH)(X:List Addr)(s:aq):Prop where
 R:iU L 0 A
 x:XO L X s.heap
 I:Inv L s
noncomputable def Co{α:Type}(g:PV→Option α):List PV→Option α
 |[p]=>g p
 |_=>none
noncomputable def EU{α:Type}(g:PV→PV→Option α):List PV→Option α
 |[p,q]=>g p q
 |_=>none
theorem my{α:Type}{g:PV→Option α}{ps:List PV}{r:α}(h:Co g ps=some r): ∃p,ps=[p]∧g p=some r:=by
 rcases ps with _|⟨p,_|⟨_,_⟩⟩
 ·exact g8 h
 ·exact⟨p,rfl,h⟩
 ·exact g8 h
theorem sk{α:Type}{g:PV→PV→Option α}{ps:List PV}{r:α}(h:EU g ps=some r): ∃p q,ps=[p,q]∧g p q=some r:=by
 rcases ps with _|⟨p,_|⟨q,_|⟨_,_⟩⟩⟩
 ·exact g8 h
 ·exact g8 h
 ·exact⟨p,q,rfl,h⟩
 ·exact g8 h
theorem zD{f:Value}{g:PV→Option PV}(H: ∀{A X s p u r},At L A X s→VR L.prog L.w s.heap X p u→g p=some r→Gives L A X s r (call f [u])):iF L 0 f (Co g):=by
 intro A X s ps vs r Q E R x I jL hg hQ
 replace hg:=my hg
 obtain⟨p,rfl,hg⟩:=hg
 obtain⟨v,rfl,hv⟩:=gM.one jL
 exact H ⟨R,x,I⟩ hv hg Q E hQ
theorem Hj{f:Value}{g:PV→PV→Option PV}(H: ∀{A X s p q u v r},At L A X s→VR L.prog L.w s.heap X p u→VR L.prog L.w s.heap X q v→g p q=some r→Gives L A X s r (call f [u,v])):iF L 0 f (EU g):=by
 intro A X s ps vs r Q E R x I jL hg hQ
 replace hg:=sk hg
 obtain⟨p,q,rfl,hg⟩:=hg
 obtain⟨v,u,rfl,hv,hu⟩:=gM.two jL
 exact H ⟨R,x,I⟩ hv hu hg Q E hQ
noncomputable def pg{α:Type}(g:Int→Option α):PV→Option α
 | .int a=>g a
 |_=>none
noncomputable def onStr{α:Type}(g:Str→Option α):PV→Option α
 | .str a=>g a
 |_=>none
noncomputable def mN{α:Type}(g:List PV→Option α):PV→Option α
 | .list a=>g a
 |_=>none
noncomputable def DX{α:Type}(g:List PV→Option α):PV→Option α
 | .tup a=>g a
 |_=>none
noncomputable def onBytes{α:Type}(g:Array UInt8→Option α):PV→Option α
 | .bytes a=>g a
 |_=>none
noncomputable def wo{α:Type}(C:Addr)(nm:Str)(g:PV→Option α):PV→Option α
 | .inst C' ZV q=>if C'=C∧ZV=nm then g q else none
 |_=>none
theorem ti{α:Type}{g:List PV→Option α}{p:PV}{r:α}(h:DX g p=some r): ∃a,p= .tup a∧g a=some r:=by cases p<;>first|exact⟨_,rfl,h⟩|exact g8 h
theorem uo{α:Type}{g:Array UInt8→Option α}{p:PV}{r:α}(h:onBytes g p=some r): ∃a,p= .bytes a∧g a=some r:=by cases p<;>first|exact⟨_,rfl,h⟩|exact g8 h
theorem wq{α:Type}{C:Addr}{nm:Str}{g:PV→Option α}{p:PV}{r:α}(h:wo C nm g p=some r): ∃q,p= .inst C nm q∧g q=some r:=by
 cases p with
 |inst C' ZV q=>exact(xB h).elim fun e h=>⟨q,by rw[e.1,e.2],h⟩
 |_=>exact g8 h
theorem km{α:Type}{g:Int→Option α}{p:PV}{r:α}(h:pg g p=some r): ∃a,p= .int a∧g a=some r:=by cases p<;>first|exact⟨_,rfl,h⟩|exact g8 h
theorem kn{α:Type}{g:Str→Option α}{p:PV}{r:α}(h:onStr g p=some r): ∃a,p= .str a∧g a=some r:=by cases p<;>first|exact⟨_,rfl,h⟩|exact g8 h
theorem js{α:Type}{g:List PV→Option α}{p:PV}{r:α}(h:mN g p=some r): ∃a,p= .list a∧g a=some r:=by cases p<;>first|exact⟨_,rfl,h⟩|exact g8 h
theorem Ko{f:Value}{g:Int→Option PV}(H: ∀{A X s a t r},At L A X s→g a=some r→Gives L A X s r (call f [.int a t])):iF L 0 f (Co (pg g)):=zD fun c hp hg=>by
 obtain⟨a,rfl,h⟩:=km hg
 obtain⟨t,rfl⟩:=hp.jZ
 exact H c h
theorem Kp{f:Value}{g:Str→Option PV}(H: ∀{A X s a t r},At L A X s→g a=some r→Gives L A X s r (call f [.str a t])):iF L 0 f (Co (onStr g)):=zD fun c hp hg=>by
 obtain⟨a,rfl,h⟩:=kn hg
 obtain⟨t,rfl⟩:=hp.ll
 exact H c h
theorem wu{f:Value}{g:Int→Int→Option PV}(H: ∀{A X s a b t t' r},At L A X s→g a b=some r→Gives L A X s r (call f [.int a t,.int b t'])):iF L 0 f (EU (kM g)):=Hj fun c hp hq hg=>by
 obtain⟨a,b,rfl,rfl,h⟩:=qr hg
 obtain⟨t,rfl⟩:=hp.jZ
 obtain⟨t',rfl⟩:=hq.jZ
 exact H c h
noncomputable def We:PV→Option PV
 | .list l=>if mL l then some (.int l.length) else none
 | .tup l=>if mL l then some (.int l.length) else none
 |_=>none
noncomputable def Ba(ps:List PV):Option PV:=Co We ps
theorem yQ{l:List PV}{xs:Array Value}{h:Heap}{X:List Addr}(hl:gM L.prog L.w h X l xs.toList)(hf:mL l=true):(xs.size:Int)<2^63:=Int.ofNat_lt.mpr (bR (bt hl.size) (bR (of_decide_eq_true hf) (by decide)))
theorem CH:iF L 0 (.builtin "len") Ba:=zD fun{_ _ _ p _ _} c hv hg Q E hQ=>by
 cases p<;>try exact g8 hg
 ·replace hg:=jU hg
  obtain⟨hf,rfl⟩:=hg
  obtain⟨a,xs,n,rfl,ha,ho,hl⟩:=hv.lY
  exact PyProof.Rows.len_tuple ⟨_,ho,rfl,_,rfl⟩ (yQ hl hf) (hQ _ _ (hl.size▸VR.mkInt _ _) (gI.toks c.I c.x _))
 ·replace hg:=jU hg
  obtain⟨hf,rfl⟩:=hg
  obtain⟨a,xs,n,rfl,ha,ho,hl⟩:=hv.listE
  exact PyProof.Rows.len_list ⟨_,ho,rfl,_,rfl⟩ (yQ hl hf) (hQ _ _ (hl.size▸VR.mkInt _ _) (gI.toks c.I c.x _))
noncomputable def j9(ps:List PV):Option PV:=EU (kM fun a b=>if small b&&b !=0 then some (.tup [.int (a.fdiv b),.int (a.fmod b)]) else none) ps
theorem n4:iF L 0 (.builtin "divmod") j9:=wu fun{_ _ s a b _ _ _} c h Q E hQ=>by
 replace h:=jU h
 obtain⟨hc,rfl⟩:=h
 obtain⟨h1,h2⟩:=jz hc
 exact PyProof.Rows.divmod_int (bne_iff_ne.mp h2) (hQ _ _ (zo (xs:= #[.int (a.fdiv b) s.toks,.int (a.fmod b) (s.toks+1)]) c.I c.x (gM.cons (VR.mkInt _ _) (gM.cons (VR.mkInt _ _) gM.nil)) (s.toks+1+1)) (gI.push c.I c.x _ _)) (.inl (PyProof.noPylong_of_log2 (bq (yC h1) (by decide))))
noncomputable def Wf:PV→Option PV
 | .bool b=>some (.int (if b then 1 else 0))
 |_=>none
noncomputable def ph(ps:List PV):Option PV:=Co Wf ps
theorem rE:iF L 0 (.type "int") ph:=zD fun{_ _ _ p _ _} c hv hg Q E hQ=>by
 cases p<;>try exact g8 hg
 rw[hv.pQ]
 exact call_int_bool (hQ _ _ (kB hg▸VR.mkInt _ _) (gI.toks c.I c.x _))
noncomputable def Bb(ps:List PV):Option PV:=Co (onStr fun c=>if c.length=1 then some (.int (c.cps.getD 0 0:Nat)) else none) ps
theorem Hk:iF L 0 (.builtin "ord") Bb:=Kp fun c h Q E hQ=>by
 replace h:=jU h
 obtain⟨h1,rfl⟩:=h
 exact PyProof.Rows.ord_of_one h1 (hQ _ _ (VR.mkInt _ _) (gI.toks c.I c.x _))
noncomputable def Bc(ps:List PV):Option PV:=Co (pg fun i=>if (baseText "0x" 16 i).length≤100000 then some (.str (baseText "0x" 16 i)) else none) ps
theorem Hl:iF L 0 (.builtin "hex") Bc:=Ko fun c h Q E hQ=>by
 replace h:=jU h
 obtain⟨h1,rfl⟩:=h
 exact P.hex_of_int (hQ _ _ (VR.mkStr _ _) (gI.toks c.I c.x _)) (mw h1)
noncomputable def M0(ps:List PV):Option PV:=EU (kM fun a b=>some (.int (min a b))) ps
noncomputable def M1(ps:List PV):Option PV:=EU (kM fun a b=>some (.int (max a b))) ps
theorem Kq(hn:L.exc=none):iF L 0 (.builtin "min") M0:=wu fun c h Q E hQ=>by
 skip;(first|exact VD h|cases h)
 refine min_two_ints (c.R.none hn) fun h' tk hk=>hQ _ _ ?_ (gI.yP c.I c.x hk)
 split
 ·rw[Int.min_eq_right (Int.le_of_lt ‹_›)];exact VR.mkInt _ _
 ·rw[Int.min_eq_left (Int.not_lt.mp ‹_›)];exact VR.mkInt _ _
theorem Kr(hn:L.exc=none):iF L 0 (.builtin "max") M1:=wu fun c h Q E hQ=>by
 skip;(first|exact VD h|cases h)
 refine max_two_ints (c.R.none hn) fun h' tk hk=>hQ _ _ ?_ (gI.yP c.I c.x hk)
 split
 ·rw[gc (Int.le_of_lt ‹_›)];exact VR.mkInt _ _
 ·rw[Int.max_eq_left (Int.not_lt.mp ‹_›)];exact VR.mkInt _ _
noncomputable def Hm:PV→Option PV
 | .tup _=>some (.bool true)
 | .int _=>some (.bool false)
 |_=>none
noncomputable def Rf:PV→Option String
 | .val (.type t)=>some t
 |_=>none
theorem Hn{p:PV}{t:String}(h:Rf p=some t):p= .val (.type t):=by
 cases p with
 |val v=>cases v with
  |type x=>exact congrArg (fun x=>PV.val (.type x)) (Option.some.inj h)
  |_=>exact g8 h
 |_=>exact g8 h
noncomputable def Hp(p q:PV):Option PV:=(Rf q).bind fun t=>if t="tuple" then Hm p else none
noncomputable def DY(ps:List PV):Option PV:=EU Hp ps
theorem VR.Rg{h:Heap}{X:List Addr}{v u:Value}(x:VR L.prog L.w h X (.val v) u):u=v:=x
theorem EV{p q r:PV}(h:Hp p q=some r):q= .val (.type "tuple")∧Hm p=some r:=
 (Option.bind_eq_some_iff.mp h).elim fun t h=>⟨(Hn h.1).trans (congrArg (fun x=>PV.val (.type x)) (xB h.2).1),(xB h.2).2⟩
theorem Hq:iF L 0 (.builtin "isinstance") DY:=Hj fun{_ _ _ p q _ _ _} c hv hu hg Q E hQ=>by
 replace hg:=EV hg
 obtain⟨rfl,hg⟩:=hg
 rw[hu.Rg]
 cases p<;>try exact g8 hg
 ·obtain⟨t,rfl⟩:=hv.jZ
  skip;(first|exact VD hg|cases hg)
  exact IsiPair.int_tuple (hQ _ _ VR.N7 (gI.toks c.I c.x _))
 ·obtain⟨a,xs,n,rfl,ha,ho,hl⟩:=hv.lY
  skip;(first|exact VD hg|cases hg)
  exact IsiPair.tuple_tuple ho rfl (hQ _ _ VR.N7 (gI.refl c.I c.x))
end
end
section
open PySem
section
variable {L:ic}
noncomputable def CI(ps:List PV):Option PV:=Co (mN fun l=>(jO l).map fun ns=> .int ns.sum) ps
theorem OD(hn:L.exc=none):iF L 0 (.builtin "sum") CI:=by
 intro A X s ps vs r Q E R x I jL hg hQ
 replace hg:=my hg
 obtain⟨_,rfl,hg⟩:=hg
 replace hg:=js hg
 obtain⟨_,rfl,hg⟩:=hg
 ·obtain⟨ns,wa,e⟩:=Option.map_eq_some_iff.mp hg
  skip;(first|exact VD e|cases e)
  obtain⟨v,rfl,hv⟩:=gM.one jL
  obtain⟨a,xs,n,rfl,ha,ho,hl⟩:=hv.listE
  have hi:=intsAre_of hl wa
  obtain⟨ys,hx⟩:=hi.allInts.items
  have jA:s.heap.IsList a (intItems ys):=hx▸(⟨_,ho,rfl,_,rfl⟩:s.heap.IsList a xs.toList.toArray)
  refine PySem.sum_intListG (R.none hn) jA fun h' tk t' hk=> ?_
  have e1:ns=ys.toList.map (·.1):=by
   rw[←nums_intItems,←hx]
   exact(show numsOf xs.toList.toArray.toList=ns from hi.numsOf).symm
  have e2:preSum (numAt ys) ys.size=ns.sum:=by
   rw[preSum_eq,cK (by simp),e1]
  rw[e2]
  exact hQ _ _ (VR.mkInt _ _) (gI.yP I x hk)
noncomputable def qw(ps:List PV):Option PV:=Co (mN fun l=>(jO l).bind fun ns=>if ns.all (fun n=>decide (0≤n)&&decide (n<256))&&mL l then some (.bytes (byteArr ns)) else none) ps
theorem Bd(hn:L.exc=none):iF L 0 (.type "bytes") qw:=by
 intro A X s ps vs r Q E R x I jL hg hQ
 replace hg:=my hg
 obtain⟨_,rfl,hg⟩:=hg
 replace hg:=js hg
 obtain⟨l,rfl,hg⟩:=hg
 ·replace hg:=Option.bind_eq_some_iff.mp hg
  obtain⟨ns,wa,hg⟩:=hg
  replace hg:=jU hg
  obtain⟨hc,rfl⟩:=hg
  ·skip
   simp only[cH] at hc
   obtain⟨v,rfl,hv⟩:=gM.one jL
   obtain⟨a,xs,n,rfl,ha,ho,hl⟩:=hv.listE
   have hi:=intsAre_of hl wa
   have e1:=hl.length
   have hf:=of_decide_eq_true hc.2
   refine call_bytes_ints (vs:=xs.toList) ⟨_,ho,rfl,_,rfl⟩ hi (fun n hn=> ?_) (by rw[e1];show _≤16777216;omega) (R.none hn) fun h' t tk hk=>hQ _ _ ?_ (gI.yP I x hk)
   ·have:=List.all_eq_true.mp hc.1 n hn
    simpa using this
   ·exact .intro _ rfl
end
end
section
open PySem PyProof.Rows
noncomputable def insI(a:Int):List Int→List Int
 |[]=>[a]
 |b::l=>if a≤b then a::b::l else b::insI a l
noncomputable def Be:List Int→List Int
 |[]=>[]
 |a::l=>insI a (Be l)
theorem insI_perm(a:Int): ∀l,(insI a l).Perm (a::l):=by
 intro l
 induction l with
 |nil=>exact List.Perm.refl _
 |cons b l hV=>
  unfold insI
  split
  ·exact List.Perm.refl _
  ·exact((hV).cons b).trans (List.Perm.swap a b l)
theorem CK: ∀l,(Be l).Perm l:=by
 intro l
 induction l with
 |nil=>exact List.Perm.refl _
 |cons a l hV=>exact(insI_perm a _).trans ((hV).cons a)
theorem Bf(a:Int): ∀l,l.Pairwise (· ≤ ·)→(insI a l).Pairwise (· ≤ ·):=by
 intro l
 induction l with
 |nil=>exact @fun _=>by simp[insI]
 |cons b l hV=>
  intro h
  unfold insI
  obtain⟨h1,h2⟩:=List.pairwise_cons.mp h
  split
  ·rename_i Ct
   refine List.pairwise_cons.mpr ⟨fun c hc=> ?_,h⟩
   rcases List.mem_cons.mp hc with rfl|hc
   ·exact Ct
   ·exact Int.le_trans Ct (h1 c hc)
  ·rename_i Ct
   refine List.pairwise_cons.mpr ⟨fun c hc=> ?_,hV h2⟩
   rcases List.mem_cons.mp ((insI_perm a l).mem_iff.mp hc) with rfl|hc
   ·omega
   ·exact h1 c hc
theorem zE: ∀l,(Be l).Pairwise (· ≤ ·):=by
 intro l
 induction l with
 |nil=>exact List.Pairwise.nil
 |cons a l hV=>exact Bf a _ (hV)
section
variable {L:ic}
theorem gM.ofInts{h:Heap}{X:List Addr}: ∀{vs:List Value} {ns:List Int},IntsAre vs ns→gM L.prog L.w h X (ns.map .int) vs:=by
 intro vs ns hi
 induction hi with
 |nil=>exact gM.nil
 |cons n t _ ih=>exact gM.cons (VR.mkInt n t) ih
noncomputable def kT(ps:List PV):Option PV:=Co (mN fun l=>(jO l).bind fun ns=>if l.length<60 then some (.list ((Be ns).map .int)) else none) ps
theorem qx:iF L 0 (.builtin "sorted") kT:=by
 intro A X s ps vs r Q E R x I jL hg hQ
 replace hg:=my hg
 obtain⟨_,rfl,hg⟩:=hg
 replace hg:=js hg
 obtain⟨l,rfl,hg⟩:=hg
 ·replace hg:=Option.bind_eq_some_iff.mp hg
  obtain⟨ns,wa,hg⟩:=hg
  replace hg:=jU hg
  obtain⟨hc,rfl⟩:=hg
  ·skip
   obtain⟨v,rfl,hv⟩:=gM.one jL
   obtain⟨a,xs,n,rfl,ha,ho,hl⟩:=hv.listE
   have hi:=intsAre_of hl wa
   have e1:=hl.length
   refine sorted_ints (vs:=xs.toList) ⟨_,ho,rfl,_,rfl⟩ hi (by omega) fun out Og a1 a2 a3=> ?_
   obtain⟨e,he⟩:=sortedAll_at s.heap xs.toList out
   have hk: ∀b o,s.heap.get? b=some o→_:=fun b o=>sortedAll_old (h:=s.heap) (vs:=xs.toList) (out:=out) (b:=b) (o:=o)
   have en:Og=Be ns:=PySem.W.ksm_same (a2.trans (CK ns).symm) a3 (zE ns)
   have d:=gI.yP (tk:=s.toks) I x hk
   have hD:s.heap.objs.size+1∉X:=fun hm=>by
    obtain⟨o,ho⟩:=x.there _ hm
    exact absurd (aI ho) (Nat.not_lt.mpr (dM _))
   refine hQ _ _ ?_ d
   refine⟨_,_,_,rfl,hD,he,?_⟩
   rw[←en]
   simpa using gM.ofInts a1
end
end
section
open PySem PyProof.Rows
section
variable {L:ic} {sc:Scope} {σ:gJ} {own:List Str} {k:Nat}
theorem VR.Rh{s:aq}{X:List Addr}(x:XO L X s.heap)(a b c:Int)(t u v:gh)(tk:Nat):VR L.prog L.w ({s with heap:=s.heap.push {cls:= .type "range",data:= .fields #[.int a t,.int b u,.int c v]},toks:=tk}:aq).heap X (.vN a b c) (.ref s.heap.objs.size):=by
 exact .intro _ ⟨t,u,v,rfl,x.size,aE _ rfl⟩
noncomputable def OF(a b c:Int):Option PV:=if small c&&c !=0 then some (.vN a b c) else none
noncomputable def i7:List PV→Option PV
 |[p]=>pg (fun n=>some (.vN 0 n 1)) p
 |[p,q]=>kM (fun a b=>some (.vN a b 1)) p q
 |[p,q,r]=>pg (fun c=>kM (fun a b=>OF a b c) p q) r
 |_=>none
theorem gM.three{h:Heap}{X:List Addr}{p q r:PV}{vs:List Value}(x:gM L.prog L.w h X [p,q,r] vs): ∃v u w,vs=[v,u,w]∧VR L.prog L.w h X p v∧VR L.prog L.w h X q u∧VR L.prog L.w h X r w:=by
 obtain⟨v,r,rfl,h1,h2⟩:=x.inv
 obtain⟨u,w,rfl,h3,h4⟩:=gM.two h2
 exact⟨v,u,w,rfl,h1,h3,h4⟩
theorem je:iF L 0 (.type "range") i7:=by
 intro A X s ps vs r Q E R x I jL hg hQ
 have fin: ∀a b c t u v tk,r= .vN a b c→Q (.ref s.heap.objs.size) {s with heap:=s.heap.push {cls:= .type "range",data:= .fields #[.int a t,.int b u,.int c v]},toks:=tk}:=fun a b c t u v tk e=>hQ _ _ (e▸VR.Rh x a b c t u v tk) (gI.push I x _ _)
 rcases ps with _|⟨p,_|⟨q,_|⟨w,_|⟨_,_⟩⟩⟩⟩
 ·exact g8 hg
 ·replace hg:=km hg
  obtain⟨n,rfl,hg⟩:=hg
  obtain⟨v,rfl,hv⟩:=gM.one jL
  exact hv.rq fun t=>call_range_1 (fin _ _ _ _ _ _ _ (kB hg).symm)
 ·replace hg:=qr hg
  obtain⟨a,b,rfl,rfl,hg⟩:=hg
  obtain⟨v,u,rfl,hv,hu⟩:=gM.two jL
  exact hv.rq fun t=>hu.rq fun t'=>call_range_2 (fin _ _ _ _ _ _ _ (kB hg).symm)
 ·replace hg:=km hg
  obtain⟨c,rfl,hg⟩:=hg
  replace hg:=qr hg
  obtain⟨a,b,rfl,rfl,hg⟩:=hg
  replace hg:=jU hg
  obtain⟨hc,e⟩:=hg
  obtain⟨h1,h2⟩:=jz hc
  have hb:=mK h1
  obtain⟨v,u,w,rfl,hv,hu,hw⟩:=gM.three jL
  refine hv.rq fun t=>hu.rq fun t'=>hw.rq fun t''=>call_range_3 (bne_iff_ne.mp h2) (fin _ _ _ _ _ _ _ e) (.inl (PyProof.noPylong_of_log2 ?_))
  unfold aD.Int.intBits at hb
  split at hb
  ·rename_i h0;have:=eq_of_beq h0;rw[this];decide
  ·omega
 ·exact g8 hg
noncomputable def nN(L:ic)(k:Nat)(v:Value)(g:List PV→Option MV):Prop:=
 ∀(A:aH) (X:List Addr) (s:aq) (ps:List PV) (vs:List Value) (r:MV) (Q:Value→aq→Prop) (E:Value→aq→Prop),
  iU L k A→XO L X s.heap→Inv L s→gM L.prog L.w s.heap X ps vs→g ps=some r→(∀a s',s.heap.get? a=none→gI L (a::X) s s'→r.owned=true→ro L s'.heap (a::X) r (.ref a)→Q (.ref a) s')→wpAny L.M A (call v vs) Q E s
noncomputable def MV.yR:MV→Option PV
 | .ol l=>some (.list l)
 | .ug ks vs=>some (.la ks vs)
 | .zk ks vs=>some (.iM ks vs)
 |_=>none
theorem ro.yR{h:Heap}{X:List Addr}{mv:MV}{p:PV}{a:Addr}(r:ro L h (a::X) mv (.ref a))(hf:mv.yR=some p)(ha:a∉X):VR L.prog L.w h X p (.ref a):=by
 have hs: ∀b∈X,b∈a::X:=fun b hb=>av _ hb
 cases mv<;>try exact g8 hf
 ·(first|exact VD hf|cases hf);exact r.elim fun a' r=>r.elim fun xs r=>r.elim fun n r=> .intro a ⟨xs,n,rfl,ha,Value.ref.inj r.1▸r.2.2.2.2.1,r.2.2.2.2.2.same hs⟩
 ·(first|exact VD hf|cases hf);exact r.elim fun a' r=>r.elim fun kvs r=> .intro a ⟨kvs,rfl,ha,Value.ref.inj r.1▸r.2.2.2.2.1,r.2.2.2.2.2.1,r.2.2.2.2.2.2.same hs⟩
 ·(first|exact VD hf|cases hf);exact r.elim fun a' r=>r.elim fun kvs r=> .intro a ⟨kvs,rfl,ha,Value.ref.inj r.1▸r.2.2.2.2.1,r.2.2.2.2.2.1,r.2.2.2.2.2.2.same hs⟩
theorem nN.yR{v:Value}{g:List PV→Option MV}(h:nN L k v g):iF L k v (fun ps=>(g ps).bind MV.yR):=by
 intro A X s ps vs r Q E R x I jL hg hQ
 obtain⟨mv,h1,h2⟩:=Option.bind_eq_some_iff.mp hg
 refine h A X s ps vs mv Q E R x I jL h1 fun a s' ha d ho hm=>hQ _ _ (hm.yR h2 (x.fresh ha)) (d.sub (fun b hb=>av _ hb) x.tb x.sm)
theorem gI.yS{X:List Addr}{s:aq}(I:Inv L s)(x:XO L X s.heap){h':Heap}{tk:Nat}{a:Addr}(ha:s.heap.get? a=none)(hk: ∀b o,s.heap.get? b=some o→h'.get? b=some o)(hex: ∃o,h'.get? a=some o):gI L (a::X) s {s with heap:=h',toks:=tk}:=
 ⟨fun b o _ e=>hk b o e,I.keeps hk tk,x.widen hk I.ir (fun b hb=>by
  rcases List.mem_cons.mp hb with rfl|h
  ·exact .inr ha
  ·exact .inl h) (fun b hb=>av _ hb) (fun b hb=>by
  rcases List.mem_cons.mp hb with rfl|h
  ·exact hex
  ·obtain⟨o,ho⟩:=x.there b h;exact⟨o,hk b o ho⟩),rfl,rfl⟩
theorem CL{X:List Addr}{h h':Heap}{a:Addr}(ha:h.get? a=none)(hk: ∀b o,h.get? b=some o→h'.get? b=some o):Up h X h' (a::X):=fun b o hb e=>⟨fun hm=>by
 rcases List.mem_cons.mp hm with rfl|h
 ·rw[ha] at e;(first|exact VD e|cases e)
 ·exact hb h,hk b o e⟩
theorem gM.Hr{h:Heap}{X:List Addr}: ∀{ps:List PV} {vs:List Value},vs.length=ps.length→(∀(j:Nat) p v,ps[j]? =some p→vs[j]? =some v→VR L.prog L.w h X p v)→gM L.prog L.w h X ps vs:=by
 intro ps
 induction ps with
 |nil=>
  intro vs hl _
  cases vs with
  |nil=>exact gM.nil
  |cons _ _=>exact absurd hl (aV _)
 |cons p ps ih=>
  intro vs hl h
  cases vs with
  |nil=>exact absurd hl.symm (aV _)
  |cons v vs=>exact gM.cons (h 0 p v rfl rfl) (ih (Nat.succ.inj hl) fun j p v h1 h2=>h (j+1) p v h1 h2)
noncomputable def OG(a b c:Int):Option MV:=if aD.Range.small a b c&&(decide (0≤aD.Range.rangeSize a b c)&&decide (aD.Range.rangeSize a b c≤1000)) then some (.ol (we a c (aD.Range.rangeSize a b c).toNat)) else none
noncomputable def Ri:PV→Option MV
 | .list l=>if mL l then some (.ol l) else none
 | .vN a b c=>OG a b c
 |_=>none
noncomputable def Ks{α:Type}(g:PV→Option α):List PV→Option α
 |[p]=>g p
 |_=>none
theorem wx{α:Type}{g:PV→Option α}{ps:List PV}{r:α}(h:Ks g ps=some r): ∃p,ps=[p]∧g p=some r:=by
 rcases ps with _|⟨p,_|⟨_,_⟩⟩
 ·exact g8 h
 ·exact⟨p,rfl,h⟩
 ·exact g8 h
noncomputable def CM(ps:List PV):Option MV:=Ks Ri ps
theorem Bg(hn:L.exc=none):nN L 0 (.type "list") CM:=by
 intro A X s ps vs r Q E R x I jL hg hQ
 have fin: ∀h' tk l xs c',r= .ol l→(∀b o,s.heap.get? b=some o→h'.get? b=some o)→h'.get? s.heap.objs.size=some {cls:= .type "list",data:= .seq xs c'}→gM L.prog L.w h' (s.heap.objs.size::X) l xs.toList→Q (.ref s.heap.objs.size) {s with heap:=h',toks:=tk}:=fun h' tk l xs c' e hk hD hl=>by
  subst e
  exact hQ _ _ (gY _) (gI.yS (tk:=tk) I x (gY _) hk ⟨_,hD⟩) rfl ⟨_,xs,c',rfl,az ..,fun e=>x.size (e▸x.tb),fun e=>x.size (e▸x.sm),hD,hl⟩
 replace hg:=wx hg
 obtain⟨p,rfl,hg⟩:=hg
 obtain⟨v,rfl,hv⟩:=gM.one jL
 cases p<;>try exact g8 hg
 ·replace hg:=jU hg
  obtain⟨hf,e⟩:=hg
  have hf:=of_decide_eq_true hf
  refine hv.vR fun a xs n ha ho hl=> ?_
  have e1:=hl.size
  exact call_list_seq a (.inl rfl) ho rfl rfl (fun h' c' hk hD=>fin h' s.toks _ xs c' e hk hD (hl.up (CL (gY _) hk))) (by show _≤16777216;omega)
 ·rename_i a b c
  replace hg:=jU hg
  obtain⟨hc,e⟩:=hg
  obtain⟨h1,hc⟩:=jz hc
  obtain⟨h2,h3⟩:=jz hc
  have h2:=of_decide_eq_true h2
  have h3:=of_decide_eq_true h3
  obtain⟨ad,t,u,w,rfl,ha,ho⟩:=hv.QV
  refine call_list_range (n:=(aD.Range.rangeSize a b c).toNat) (R.none hn) ho h1 (by omega) (by omega) fun h' tk acc c' hk hD hit=>fin h' tk _ acc c' e hk hD ?_
  refine gM.Hr (by rw[aW,hit.1];exact(aF _).trans cT |>.symm) fun j p v hj hv=> ?_
  rw[bF] at hv
  obtain⟨t,rfl⟩:=hit.2 j v hv
  obtain⟨k,hk,rfl⟩:=Option.map_eq_some_iff.mp ((aJ ..).symm.trans hj)
  rw[(List.getElem?_eq_some_iff.mp hk).2.symm,cu]
  exact VR.mkInt _ _
noncomputable def Rj:PV→Option MV
 | .iM ks vs=>if ks.length≤100000 then some (.zk ks vs) else none
 |_=>none
noncomputable def CN(ps:List PV):Option MV:=Ks Rj ps
theorem Hs:nN L 0 (.type "dict") CN:=by
 intro A X s ps vs r Q E R x I jL hg hQ
 replace hg:=wx hg
 obtain⟨p,rfl,hg⟩:=hg
 cases p<;>try exact g8 hg
 replace hg:=jU hg
 obtain⟨hsz,rfl⟩:=hg
 obtain⟨v,rfl,hv⟩:=gM.one jL
 obtain⟨a,kvs,rfl,ha,hd,hk,hl⟩:=hv.nH
 have hJ:kvs.length≤100000:=by rw[←hk,aF] at hsz;exact hsz
 refine kt_call_dict (sZ x.sm ha) hd (Nat.le_trans hJ (by decide)) fun h' sX k9=> ?_
 have kN: ∀b o,s.heap.get? b=some o→h'.get? b=some o:=fun b o e=>k9.extBut b o (fun e'=>by rw[e',gY] at e;(first|exact VD e|cases e)) (iq _ _ b o e)
 exact hQ _ _ (gY _) (gI.yS (tk:=s.toks) I x (gY _) kN (kj sX)) rfl ⟨_,kvs,rfl,az ..,fun e=>x.size (e▸x.tb),fun e=>x.size (e▸x.sm),sX,hk,hl.up (CL (gY _) kN)⟩
noncomputable def Bh(i:Nat):List PV→List PV
 |[]=>[]
 |p::ps=> .tup [.int i,p]::Bh (i+1) ps
theorem EW: ∀(ps:List PV) (i:Nat),(Bh i ps).length=ps.length:=by
 intro ps
 induction ps with
 |nil=>exact @fun _=>rfl
 |cons _ ps hV=>exact @fun i=>congrArg (· +1) (hV (i+1))
theorem EX: ∀(ps:List PV) (i j:Nat),(Bh i ps)[j]? =(ps[j]?).map fun p=> .tup [.int ((i+j:Nat):Int),p]:=by
 intro ps
 induction ps with
 |nil=>exact @fun _ _=>rfl
 |cons p ps hV=>exact fun
  |i,0=>rfl
  |i,j+1=>by
   have:=hV (i+1) j
   rw[show i+1+j=i+(j+1) by omega] at this
   exact this
theorem It.enum(hn:L.exc=none){X:List Addr}{e it ax:Addr}{ps:List PV}(he:e∈X)(hi:it∈X)(h1:e≠L.tb)(h2:it≠L.tb)(ZW:e≠it):
  It L X [e,it] e (Bh 0 ps) (fun i h=>(∃old,IsEnum h e it i old)∧h.IsListIter it ax i∧VR L.prog L.w h X (.list ps) (.ref ax)) true where
 Ol:=kF he (all1 hi)
 there:=fun i h st=>st.1.elim fun old g1=>st.2.1.elim fun o g2=>kF ⟨_,g1⟩ (all1 ⟨o,g2.1⟩)
 frame:=fun i h h' st hk=>st.1.elim fun old g1=>⟨⟨old,hk e _ (fun _=>uP) g1⟩,st.2.1.at fun o e'=>hk it o (fun _=>in1) e',st.2.2.up fun a o ha e=>⟨ha,hk a o (fun h=>absurd h ha) e⟩⟩
 self:=fun A i s Q E st hQ=>st.1.elim fun old g1=>wpAny_pyIter_enum g1 hQ
 turn:=fun A i s p Q E G8 R x Iv st hp Rk hQ=>by
  obtain⟨⟨old,g1⟩,g2,g3⟩:=st
  obtain⟨a,xs,n,e',ha,ho,hl⟩:=g3.listE
  skip;(first|exact VD e'|cases e')
  rw[EX,cN] at hp
  obtain⟨q,hq,rfl⟩:=Option.map_eq_some_iff.mp hp
  refine hl.xF hq fun v hv hr=> ?_
  obtain⟨es,kk,pp,rfl⟩:=rz (Rk rfl)
  refine wpAny_pyNext_enum_item g1 g2 ⟨_,ho,rfl,_,rfl⟩ hv ZW fun h' k1 k2 k3 ZX kk=>⟨_,rfl,wpAny_letOwnedTupleGo_enum k1 fun qD l1 ls=> ?_⟩
  have hw: ∀a∈[e,it],a∈X:=kF he (all1 hi)
  have hk: ∀b o,b∉[e,it]→s.heap.get? b=some o→qD.get? b=some o:=fun b o hb e'=>ls.extBut b o (fun h=>hb (h▸uP)) (kk b o (fun h=>hb (h▸uP)) (fun h=>hb (h▸in1)) e')
  have hu:=DQ hw hk
  have ZY:qD.IsListIter it ax (i+1):=k2.extBut ls.extBut ZW.symm
  exact hQ _ _ (.intro _ ⟨_,_,rfl,x.size,ls.extBut _ _ (dU (aI g1)) k3,gM.cons (VR.mkInt _ _) (gM.cons (hr.up hu) gM.nil)⟩) ⟨⟨_,l1⟩,ZY,g3.up hu⟩ (gO.rA Iv x hw hk _)
   (x.rA hw hk (fun h=>(List.mem_cons.mp h).elim (fun h=>h1 h.symm) fun h=>h2 (List.mem_singleton.mp h).symm) (ZY.elim fun o g=>kF ⟨_,l1⟩ (all1 ⟨o,g.1⟩)))
 done:=fun A s Q E R x Iv st hQ=>by
  obtain⟨⟨old,g1⟩,g2,g3⟩:=st
  obtain⟨a,xs,n,e',ha,ho,hl⟩:=g3.listE
  skip;(first|exact VD e'|cases e')
  refine wpAny_pyNext_enum_end (R.none hn) g1 g2 ⟨_,ho,rfl,_,rfl⟩ (aR (bt (hl.size.trans (EW ps 0).symm))) fun h' hx=> ?_
  have hk: ∀b o,b∉[e,it]→s.heap.get? b=some o→h'.get? b=some o:=fun b o hb e'=>hx b o (fun h=>hb (h▸in1)) e'
  exact hQ _ (gO.rA Iv x (kF he (all1 hi)) hk _) hk
noncomputable def tj(p:PV):Option (List PV):=mN (fun l=>some (Bh 0 l)) p
theorem IE.enum(hn:L.exc=none){x:Str}{np pos:cM}{e:aN}{f:List MV→Option PV}(hx:sc.names.lookup x=some .globalImplicit)(hv:L.gl x=some (.type "enumerate"))(he:SE L sc σ k e f)
  (hs: ∀env,starEach [e] env=[(false,eval e env)])(hd:(x==("__debug__":Str))=false:=by decide):IE L sc σ k (.Call (.Name x np) [e] [] pos) true (fun ρ=>(f ρ).bind tj):=by
 intro env A X s ρ ps Q E R F I hf hQ
 replace hf:=Option.bind_eq_some_iff.mp hf
 obtain⟨p,hp,hf⟩:=hf
 replace hf:=js hf
 obtain⟨l,rfl,hf⟩:=hf
 skip;(first|exact VD hf|cases hf)
 refine bT (aO (by rw[F.scope];exact F.kind) (by unfold b9.kindOf;rw[F.scope];exact hx) (L.rm s env A x _ _ E I.ir F.globals F.builtins.1 hv ?_) hd)
 have Wg:LE L sc σ k [e] (fun ρ=>(f ρ).bind fun a=>(some []).map (a:: ·)):=LE.cons (g:=fun _=>some []) he LE.nil (fun env=>by rw[hs env];rfl)
 refine si (.type _) Wg (fun env=>by rw[hs env];rfl) (fun env=>by rw[hs env];rfl) R F I (ps:=[.list l]) (by rw[hp];rfl) fun vs s₁ jL d=> ?_
 obtain⟨v,rfl,oD⟩:=gM.one jL
 refine oD.vR fun ax xs n ha ho hl=> ?_
 refine call_enumerate_list ⟨_,ho,rfl,_,rfl⟩ fun h' k1 k2 ZX kk=>wpAny_pyIter_enum k1 ?_
 have f1:s₁.heap.get? (s₁.heap.objs.size+1)=none:=by
  cases e':s₁.heap.get? (s₁.heap.objs.size+1) with
  |none=>rfl
  |some o=>exact absurd (aI e') (Nat.not_lt.mpr (dM _))
 exact qv (wr:=[s₁.heap.objs.size+1,s₁.heap.objs.size]) s₁.toks F.xo d kk (kF f1 (all1 (gY _))) (k2.elim fun o g=>kF ⟨_,k1⟩ (all1 ⟨o,g.1⟩)) uP hQ fun X' h1 h2 u _=>⟨_,It.enum hn (ax:=ax) (h1 _ uP) (h1 _ in1) (h2 _ uP) (h2 _ in1) (Nat.succ_ne_self _),⟨⟨_,k1⟩,k2,VR.up u (.intro ax ⟨xs,n,rfl,ha,ho,hl⟩)⟩⟩
end
end
section
open PySem PyProof.Rows
structure iC(L:ic)(a:Addr)(fd:FuncData)(sc:Scope)(ns:List Str)(body:List Stmt):Prop where
 obj: ∃o,L.look a=some o∧o.data= .func fd
 code: ∀h:Heap,(∀a o,L.look a=some o→h.get? a=some o)→h.CodeRec fd.code fd.qualname
 body:fd.body= .stmts body
 scope:fd.scope=sc
 globals:fd.globals=mainGlobals
 builtins:fd.builtins=builtinsNs
 closure:fd.closure=[]
 bind: ∀vs:List Value,vs.length=ns.length→bindArgs fd ⟨vs,[]⟩=pure (ns.zip vs)
 host:vM sc=true→fd.code= .ref L.iI
structure so(sc:Scope)(σ:gJ)(own ns:List Str):Prop where
 kind:sc.kind= .function
 gen:sc.isGenerator=false
 co:sc.isCoroutine=false
 nodup:(sc.names.map (·.1)).Nodup
 Ht: ∀x∈sc.names,x.2≠ .free
 Kt: ∀x∈own,(sc.names.lookup x=some .local∨sc.names.lookup x=some .cell)∧(x==("__classdict__":Str))=false
 par: ∀(i:Nat) (x:Str),ns[i]? =some x→x∈own
 Bi:ns.Nodup
 slot: ∀(x:Str) (i:Nat),σ.lookup x=some i→i<ns.length→ns[i]? =some x
noncomputable def Wh(sc:Scope)(σ:gJ)(own ns:List Str):Bool:=
 (sc.kind== .function)&& !sc.isGenerator&& !sc.isCoroutine&&decide (sc.names.map (·.1)).Nodup&&(sc.names.all fun x=>x.2 != .free)&&
 (own.all fun x=>(sc.names.lookup x==some .local||sc.names.lookup x==some .cell)&& !(x==("__classdict__":Str)))&&(ns.all fun x=>own.contains x)&&decide ns.Nodup&&
 (σ.all fun xi=>decide (ns.length≤xi.2)||ns[xi.2]? ==some xi.1)
theorem so.of{sc:Scope}{σ:gJ}{own ns:List Str}(h:Wh sc σ own ns=true):so sc σ own ns:=
 have h:=jz h;have h9:=List.all_eq_true.mp h.2;have h:=jz h.1;have h8:=of_decide_eq_true h.2;have h:=jz h.1;have h7:=List.all_eq_true.mp h.2;have h:=jz h.1;have h6:=List.all_eq_true.mp h.2;have h:=jz h.1;have h5:=List.all_eq_true.mp h.2;have h:=jz h.1;have h4:=of_decide_eq_true h.2;have h:=jz h.1;have h':=jz h.1
 ⟨eq_of_beq h'.1,EP h'.2,EP h.2,h4,fun x hx=>bne_iff_ne.mp (h5 x hx),fun x hx=>have t:=jz (h6 x hx);⟨(Bool.or_eq_true_iff.mp t.1).imp eq_of_beq eq_of_beq,EP t.2⟩,
  fun i x hi=>List.contains_iff_mem.mp (h7 x (bu hi)),h8,fun x i hi kl=>(Bool.or_eq_true_iff.mp (h9 _ (gW hi))).elim (fun h=>absurd (of_decide_eq_true h) (Nat.not_le.mpr kl)) eq_of_beq⟩
theorem CO{kindOf:Str→Option NameKind}{x:Str}: ∀{ns:List Str} {vs:List Value} {m:Str→Option Value},x∉ns→bindL kindOf (ns.zip vs) m x=m x:=by
 intro ns
 induction ns with
 |nil=>intros;rfl
 |cons y r ih=>
  intro vs m hx
  cases vs with
  |nil=>rfl
  |cons u us=>
   refine(ih (vs:=us) fun h=>hx (av _ h)).trans ?_
   split
   ·exact if_neg (fun(e:x=y)=>hx (e▸az ..))
   ·rfl
theorem qy(kindOf:Str→Option NameKind): ∀(ns:List Str) (vs:List Value) (m:Str→Option Value) (i:Nat) (x:Str) (v:Value),ns.Nodup→ns[i]? =some x→vs[i]? =some v→kindOf x=some .local→bindL kindOf (ns.zip vs) m x=some v:=by
 intro ns
 induction ns with
 |nil=>exact @fun _ _ _ _ _ _ h _ _=>g8 h
 |cons y r hV=>exact fun
  |[],_,_,_,_,_,_,h,_=>g8 h
  |u::us,m,0,x,v,hn,hx,hv,hk=>by
   obtain rfl:=Option.some.inj hx
   obtain rfl:=Option.some.inj hv
   refine(CO (ns:=r) (vs:=us) (List.nodup_cons.mp hn).1).trans ?_
   rw[if_pos hk]
   exact if_pos rfl
  |u::us,m,i+1,x,v,hn,hx,hv,hk=>hV us _ i x v (List.nodup_cons.mp hn).2 hx hv hk
theorem CQ{kindOf:Str→Option NameKind}{x:Str}: ∀{ns:List Str} {vs:List Value} {m:Str→Option Value},x∉ns→bindC kindOf (ns.zip vs) m x=m x:=by
 intro ns
 induction ns with
 |nil=>intros;rfl
 |cons y r ih=>
  intro vs m hx
  cases vs with
  |nil=>rfl
  |cons u us=>
   refine(ih (vs:=us) fun h=>hx (av _ h)).trans ?_
   split
   ·rfl
   ·exact if_neg (fun(e:x=y)=>hx (e▸az ..))
theorem EY(kindOf:Str→Option NameKind): ∀(ns:List Str) (vs:List Value) (m:Str→Option Value) (i:Nat) (x:Str) (v:Value),ns.Nodup→ns[i]? =some x→vs[i]? =some v→kindOf x≠some .local→bindC kindOf (ns.zip vs) m x=some v:=by
 intro ns
 induction ns with
 |nil=>exact @fun _ _ _ _ _ _ h _ _=>g8 h
 |cons y r hV=>exact fun
  |[],_,_,_,_,_,_,h,_=>g8 h
  |u::us,m,0,x,v,hn,hx,hv,hk=>by
   obtain rfl:=Option.some.inj hx
   obtain rfl:=Option.some.inj hv
   refine(CQ (ns:=r) (vs:=us) (List.nodup_cons.mp hn).1).trans ?_
   rw[if_neg hk]
   exact if_pos rfl
  |u::us,m,i+1,x,v,hn,hx,hv,hk=>hV us _ i x v (List.nodup_cons.mp hn).2 hx hv hk
theorem pX: ∀(names:List (Str×NameKind)) (n:Nat) (acc:List (Str×Addr)),(cellsFrom n names acc).map (·.1)=((names.filter fun x=>x.2== .cell).map (·.1)).reverse++acc.map (·.1):=by
 intro names
 induction names with
 |nil=>exact @fun _ _=>rfl
 |cons q0 r hV=>
  obtain⟨x,kd⟩:=q0
  intro n acc
  unfold cellsFrom
  by_cases h:kd== .cell
  ·rw[if_pos h,hV,eg (by exact h)];simp
  ·rw[if_neg h,hV,List.filter_cons_of_neg (by exact h)]
theorem uR{names:List (Str×NameKind)}{n:Nat}(h:(names.map (·.1)).Nodup):((cellsFrom n names []).map (·.1)).Nodup:=by
 rw[pX]
 simp only[List.map_nil,bB]
 exact List.pairwise_reverse.mpr ((h.sublist ((List.filter_sublist (p:=fun x=>x.2==NameKind.cell)).map (fun x:Str×NameKind=>x.1))).imp fun h=>h.symm)
section
variable {L:ic} {sc:Scope} {σ:gJ} {own:List Str} {k:Nat}
noncomputable def AL(n m:Nat)(f:List MV→Option (Fl×List MV))(ps:List PV):Option PV:=
 if ps.length=n then(f (ps.map .p++List.replicate m .un)).bind fun r=>match r.1 with| .ret p=>some p| .next=>some .none|_=>none else none
theorem zF{a:Addr}{fd:FuncData}{sc:Scope}{ns own:List Str}{σ:gJ}{body:List Stmt}{m:Nat}(D:iC L a fd sc ns body)(S:so sc σ own ns)
  {A:aH}{X:List Addr}{s:aq}{ps:List PV}{vs:List Value}{Q:Value→aq→Prop}{E:Value→aq→Prop}(R:iU L (k+1) A)(x:XO L X s.heap)(I:Inv L s)(jL:gM L.prog L.w s.heap X ps vs)(hJ:ps.length=ns.length)
  (hb: ∀(env:b9) (Y:List Addr) (s₁:aq),FS L sc σ own env Y X s₁.heap (ps.map .p++List.replicate m .un)→Inv L s₁→(∀y∈Y,s.heap.get? y=none)→(∀b o,s.heap.get? b=some o→s₁.heap.get? b=some o)→s₁.os=s.os→s₁.drawn=s.drawn→env.frame=some env.locals→
   wpAny L.M (A.deeper env) (execs body env) (fun f s'=>Q (match f with| .ret v=>v|_=> .none) s') (fun e s'=>wpAny L.M (A.deeper env) (leaving env e) (fun _ pd=>E e pd) (fun e' pd=>E e' pd) s') s₁):wpAny L.M A (call (.ref a) vs) Q E s:=by
 obtain⟨o,ho,hd⟩:=D.obj
 have VM:vs.length=ns.length:=by rw[jL.length,hJ]
 have uj:fd.scope=sc:=D.scope
 generalize nq:callEnvC fd s.heap.objs.size a=env
 have e1:env.scope=sc:=by rw[←nq];exact uj
 have e2:env.locals=s.heap.objs.size:=by rw[←nq];rfl
 have e3:env.globals=mainGlobals:=by rw[←nq];exact D.globals
 have e4:env.builtins=builtinsNs:=by rw[←nq];exact D.builtins
 have e5:env.cells=cellsFrom (s.heap.objs.size+1) sc.names []:=by rw[←nq,←uj];rfl
 have kindOf: ∀y,env.kindOf y=sc.names.lookup y:=fun y=>by unfold b9.kindOf;rw[e1]
 have vG: ∀y,sc.names.lookup y=some .cell→ ∃c,env.cells.lookup y=some c:=fun y hy=>
  e5▸(nK (n:=s.heap.objs.size+1) (acc:=[]) (gW hy)).elim fun c hm=>jq hm
 refine fZ (codeAny_call_cells (body:=body) (binds:=ns.zip vs) R.limit (I.ir a o ho) hd (L.noLimit _ I.ir) (D.code _ I.ir) D.body (D.bind vs VM) D.closure (fun y hy=> ?_) ?_ (by rw[uj];exact S.co) (by rw[uj];exact S.gen) (by rw[uj];exact S.kind))
 ·rw[uj]
  exact(dH (List.of_mem_zip hy).1).elim fun i e=>(S.Kt y.1 (S.par i y.1 e)).1.imp id fun h=>⟨h,by obtain⟨c,hc⟩:=vG y.1 h;rw[←e5,hc];rfl⟩
 rw[nq]
 intro s₁ nk
 obtain⟨h₁,tk,jk⟩:=nk.toInCall.same
 have keep:=nk.toInCall.keep
 have nd:(env.cells.map (·.1)).Nodup:=e5▸uR S.nodup
 generalize Oy:env.locals::env.cells.map (·.2)=Y
 have Wi:env.locals∈Y:=Oy▸az ..
 have OH: ∀y c,env.cells.lookup y=some c→c∈Y:=fun y c h=>Oy▸av _ (List.mem_map.mpr ⟨_,gW h,rfl⟩)
 have Q8: ∀y∈Y,y=env.locals∨ ∃n,(n,y)∈env.cells:=fun y hy=>by
  rw[←Oy] at hy
  exact(List.mem_cons.mp hy).imp id fun h=>(List.mem_map.mp h).elim fun nc h=>⟨nc.1,h.2▸h.1⟩
 have fY: ∀y∈Y,s.heap.get? y=none:=fun y hy=>by
  have QK:s.heap.objs.size≤y:=(Q8 y hy).elim (fun e=>bt (e2.symm.trans e.symm)) fun⟨n,hm⟩=>cD (e2▸nk.above n y hm)
  cases e:s.heap.get? y with
  |none=>rfl
  |some o=>exact absurd (aI e) (Nat.not_lt.mpr QK)
 have ES: ∀y∈Y,∃o,s₁.heap.get? y=some o:=fun y hy=>(Q8 y hy).elim (fun e=>nk.toInCall.ns.elim fun o x=>x.elim fun _ x=>x.elim fun _ x=>⟨o,e▸x.1⟩) fun⟨n,hm⟩=>(nk.cell n y (nL nd hm)).elim fun o x=>⟨o,x.1⟩
 have uO:Inv L s₁:=by rw[jk];exact I.keeps (fun b o e=>by have:=keep b o e;rw[jk] at this;exact this) tk
 have qR:XO L (Y++X) s₁.heap:=x.widen keep I.ir (fun b hb=>(List.mem_append.mp hb).elim (fun h=> .inr (fY b h)) .inl) (fun b hb=>au _ hb) fun b hb=>(List.mem_append.mp hb).elim (ES b) fun h=>(x.there b h).elim fun o ho=>⟨o,keep b o ho⟩
 have Rl: ∀y∈Y,y≠L.tb:=fun y hy e=>x.fresh (fY y hy) (e▸x.tb)
 have up:Up s.heap X s₁.heap (Y++X):=fun b o hb e=>⟨fun hm=>(List.mem_append.mp hm).elim (fun h=>g8 ((fY b h).symm.trans e)) hb,keep b o e⟩
 have noOwn: ∀(i:Nat) mv,(ps.map MV.p++List.replicate m MV.un)[i]? =some mv→mv.owned=true→False:=fun i mv h ho=>
  (List.mem_append.mp (bu h)).elim (fun h=>(List.mem_map.mp h).elim fun q x=>Bool.noConfusion (x.2▸ho:(MV.p q).owned=true)) fun h=>Bool.noConfusion ((List.mem_replicate.mp h).2▸ho:MV.un.owned=true)
 have F:FS L sc σ own env Y X s₁.heap (ps.map .p++List.replicate m .un):=by
  refine⟨⟨e1,S.kind,e3,⟨e4,fun h=>by rw[←nq];exact D.host h,fun _=>by rw[e2,←nq];rfl⟩,qR,⟨Rl _ Wi,ES _ Wi⟩,fun y c h=>⟨Rl _ (OH y c h),ES _ (OH y c h)⟩,fun y hy=>hy.elim (vG y) fun h=>absurd rfl (S.Ht _ (gW h)),fun y i hi mv jy hu=> ?_⟩,Wi,⟨_,nk.toInCall.ns⟩,fun y hy=> ?_,fun y hy hz=>x.fresh (fY y hy) hz,
   fun x i mv a H=>(noOwn i mv H.val H.ow).elim,fun x y i j mv nj a H _=>(noOwn i mv H.val H.ow).elim⟩
  ·have MP:i<ps.length:=by
    rcases ck i ps.length with h|h
    ·exact h
    ·rw[gu (by rw[aF];exact h)] at jy
     exact absurd (List.mem_replicate.mp (bu jy)).2 hu
   rw[d2 (by rw[aF];exact MP),aJ] at jy
   obtain⟨q,hq,rfl⟩:=Option.map_eq_some_iff.mp jy
   obtain⟨v,hv,AH⟩:=jL.get hq
   have Wj:=S.slot y i hi (hJ▸MP)
   have hk:=S.Kt y (S.par i y Wj)
   refine⟨v,hk.1.elim (fun h=> .inl ⟨(kindOf y).trans h,_,nk.toInCall.ns,qy _ ns vs _ i y v S.Bi Wj hv ((kindOf y).trans h)⟩) fun h=> ?_,AH.up up⟩
   obtain⟨c,hc⟩:=vG y h
   exact .inr ⟨.inl ((kindOf y).trans h),hk.2,c,hc,EY _ ns vs _ i y v S.Bi Wj hv (fun e=>nomatch ((kindOf y).trans h).symm.trans e)▸nk.cell y c hc⟩
  ·have hk:=S.Kt y hy
   refine hk.1.imp id fun h=> ?_
   obtain⟨c,hc⟩:=vG y h
   exact⟨h,hk.2,c,hc,OH y c hc,⟨_,nk.cell y c hc⟩,fun z hz he=>hz (name_of_addr nk.apart (gW he) (gW hc))⟩
 exact hb env Y s₁ F uO fY keep (by rw[jk]) (by rw[jk]) (by rw[e2,←nq];rfl)
theorem Rn{a:Addr}{fd:FuncData}{sc:Scope}{ns own:List Str}{σ:gJ}{body:List Stmt}{g:Bool}{m:Nat}{f:List MV→Option (Fl×List MV)}(D:iC L a fd sc ns body)(S:so sc σ own ns)(hb:SS L sc σ own k g body f):
  iF L (k+1) (.ref a) (AL ns.length m f):=by
 intro A X s ps vs r Q E R x I jL hg hQ
 replace hg:=xB hg
 obtain⟨hJ,hg⟩:=hg
 obtain⟨⟨fl,ρ'⟩,hf,hr⟩:=Option.bind_eq_some_iff.mp hg
 refine zF (m:=m) D S R x I jL hJ fun env Y s₁ F uO fY keep hos Wk _=>hb env (A.deeper env) Y X s₁ _ ρ' fl _ _ (R.deeper env) F uO x.tb x.sm hf fun fv Y' s' qF F' Qt _ d'=> ?_
 have dd:gI L X s s':=⟨fun b o hb e=>d'.keep b o hb (fun h=>g8 ((fY b h).symm.trans e)) (keep b o e),d'.inv,F'.fr.xo.sub (fun b hb=>au _ hb) x.tb x.sm,d'.os.trans hos,d'.drawn.trans Wk⟩
 cases fl with
 |next=>(first|exact VD qF|cases qF);(first|exact VD hr|cases hr);exact hQ _ _ rfl dd
 |brk=>exact g8 hr
 |cont=>exact g8 hr
 |ret p=>obtain⟨v,rfl,hv⟩:=qF;(first|exact VD hr|cases hr);exact hQ _ _ hv dd
end
end
section
open PySem PyProof.Rows
section
variable {L:ic} {sc:Scope} {σ:gJ} {own:List Str} {k:Nat}
noncomputable def OE(L:ic)(sc:Scope)(σ:gJ)(k:Nat)(e:aN)(f:List MV→Option MV):Prop:=
 ∀(env:b9) (A:aH) (X:List Addr) (s:aq) (ρ:List MV) (r:MV) (Q:Value→aq→Prop) (E:Value→aq→Prop),
  iU L k A→FR L sc σ env X s.heap ρ→Inv L s→f ρ=some r→(∀a s',s.heap.get? a=none→gI L (a::X) s s'→r.owned=true→ro L s'.heap (a::X) r (.ref a)→Q (.ref a) s')→wpAny L.M A (eval e env) Q E s
theorem OE.nil{pos:cM}:OE L sc σ k (.List [] pos) (fun _=>some (.ol [])):=by
 intro env A X s ρ r Q E R F I hf hQ
 skip;(first|exact VD hf|cases hf)
 exact wpAny_List (cW ⟨aC _,hQ _ _ (gY _) (gI.yS (tk:=s.toks) I F.xo (gY _) (iq _ _) ⟨_,aE _ rfl⟩) rfl ⟨_,#[],0,rfl,az ..,fun e=>F.xo.size (e▸F.xo.tb),fun e=>F.xo.size (e▸F.xo.sm),aE _ rfl,gM.nil⟩⟩)
theorem OE.iM{pos:cM}:OE L sc σ k (.Dict [] [] pos) (fun _=>some (.zk [] [])):=by
 intro env A X s ρ r Q E R F I hf hQ
 skip;(first|exact VD hf|cases hf)
 exact wpAny_Dict_empty (hQ _ _ (gY _) (gI.yS (tk:=s.toks) I F.xo (gY _) (iq _ _) ⟨_,aE _ rfl⟩) rfl ⟨_,[],rfl,az ..,fun e=>F.xo.size (e▸F.xo.tb),fun e=>F.xo.size (e▸F.xo.sm),Heap.DictOf.new _,rfl,gM.nil⟩)
theorem OE.call{x:Str}{np pos:cM}{e:aN}{es:List aN}{v:Value}{f:List MV→Option (List PV)}{g:List PV→Option MV}(hx:sc.names.lookup x=some .globalImplicit)(hv:L.gl x=some v)(hc:Callee L v)(hf:nN L k v g)(ha:LE L sc σ k (e::es) f)
  (he: ∀env,starEach (e::es) env=(false,eval e env)::starEach es env)(qE: ∀env,(starEach (e::es) env).any (·.1)=false)(hd:(x==("__debug__":Str))=false):OE L sc σ k (.Call (.Name x np) (e::es) [] pos) (fun ρ=>(f ρ).bind g):=by
 intro env A X s ρ p Q E R F I MZ hQ
 obtain⟨ps,hps,hg⟩:=Option.bind_eq_some_iff.mp MZ
 refine bT (aO (by rw[F.scope];exact F.kind) (by unfold b9.kindOf;rw[F.scope];exact hx) (L.rm s env A x v _ E I.ir F.globals F.builtins.1 hv ?_) hd)
 exact si hc ha he qE R F I hps fun vs s₁ jL d=>hf A X s₁ ps vs p Q E R d.xo d.inv jL hg fun a s' ha d' ho hm=>hQ a s' (d.fresh F.xo ha) ⟨fun b o hb e=>d'.keep b o hb (d.keep b o hb e),d'.inv,d'.xo,d'.os.trans d.os,d'.drawn.trans d.drawn⟩ ho hm
theorem nN.less{j:Nat}{v:Value}{g:List PV→Option MV}(h:nN L j v g)(hk:j≤k):nN L k v g:=fun A X s ps vs r Q E R=>h A X s ps vs r Q E (R.less hk)
noncomputable def Hu(σ:gJ):Bool:=decide (σ.map (·.1)).Nodup&&(List.range σ.length).all fun j=>σ.any fun x=>x.2==j
noncomputable def EZ(n i:Nat)(f:List MV→Option MV)(ρ:List MV):Option (Fl×List MV):=if ρ.length≤n then(f ρ).map fun mv=>(.next,ρ.set i mv) else none
theorem S1.Wl{e:aN}{x:Str}{p pos:cM}{i:Nat}{f:List MV→Option MV}(he:OE L sc σ k e f)(hx:x∈own)(hi:kr σ x i)(M3:Hu σ=true)(hs: ∀env,env.scope=sc→swapsWith e (some (.Name x p)) pos.line env=pure false):
  S1 L sc σ own k true (.Assign [.Name x p] e pos) (EZ σ.length i f):=by
 intro env A Y Z s ρ ρ' fl Q E R F I kC ki hf hQ
 replace hf:=xB hf
 obtain⟨hJ,hf⟩:=hf
 obtain⟨mv,jy,e'⟩:=Option.map_eq_some_iff.mp hf
 skip;(first|exact VD e'|cases e')
 refine eC (hs:=hs env F.fr.scope) (he env A _ s ρ mv _ E R F.fr I jy fun a s₁ ha d ho hm=> ?_)
 have jm:=F.G4 ha d
 have DM:a∉Y++Z:=F.fr.xo.fresh ha
 have new: ∀b∈a::Y,b∈Y∨s.heap.get? b=none:=fun b hb=>(List.mem_cons.mp hb).elim (fun e=> .inr (e▸ha)) .inl
 refine jm.storeName hx fun D h' tk hD yL DL S=> ?_
 have jJ:FS L sc σ own env (a::Y) Z h' (ρ.set i mv):=jm.Oi hi.1 hi.2 hD yL DL S (az ..) (fun e=>DM (aw _ (e▸F.ta))) (fun z j nj _ H=>(F.fr.rd z j H.lk nj H.val (nt H.ow)).elim fun v r=>
  (r.2.addr H.ow).elim fun b x=>x.elim fun o x=>DM (Value.ref.inj (x.1.symm.trans ((r.1.up (fun o e=>d.keep _ o F.fr.locals.1 e) fun c o hc e=>d.keep c o (F.fr.cells z c hc).1 e).unique H.rd))▸x.2.1)) hm
 exact hQ .next (a::Y) _ rfl jJ new (fun h=>nomatch h) ((gO.jQ d).trans new ⟨fun b o _ hb e=>S.keep b o (fun e=>hb (e▸hD)) e,⟨fun b o e=>S.keep b o (fun h=>g8 ((jm.fr.xo.look D (aw _ hD)).symm.trans (h▸e))) (d.inv.ir b o e),d.inv.bare⟩,rfl,rfl⟩)
theorem FS.wy{env:b9}{Y Z:List Addr}{ρ:List MV}{s s₁:aq}{x:Str}{i:Nat}{mv nv:MV}{a:Addr}{h':Heap}{tk:Nat}(F:FS L sc σ own env Y Z s₁.heap ρ)(d:gO L Y s s₁)(hi:kr σ x i)(jy:ρ[i]? =some mv)(ho:mv.owned=true)(hr:Reads env s₁.heap x (.ref a))
  (hk: ∀b o,b≠a→s₁.heap.get? b=some o→h'.get? b=some o)(qE:nv.owned=true)(hv:ro L h' (Y++Z) nv (.ref a)):FS L sc σ own env Y Z h' (ρ.set i nv)∧gO L Y s {s₁ with heap:=h',toks:=tk}:=by
 have DM:=(F.EL _ _ _ _ ⟨hi.1,jy,ho,hr⟩).1
 exact⟨F.mut hi.1 hi.2 jy ho hr hk qE hv,d.trans (fun b h=> .inl h) ⟨fun b o _ hb e=>hk b o (fun e=>hb (e▸DM)) e,⟨fun b o e=>hk b o (fun h=>g8 ((F.fr.xo.look a (aw _ DM)).symm.trans (h▸e))) (d.inv.ir b o e),d.inv.bare⟩,rfl,rfl⟩⟩
theorem FS.oK{env:b9}{Y Z:List Addr}{ρ:List MV}{h:Heap}{x:Str}{i:Nat}{mv:MV}(F:FS L sc σ own env Y Z h ρ)(hi:σ.lookup x=some i)(jy:ρ[i]? =some mv)(ho:mv.owned=true): ∃a,Reads env h x (.ref a)∧ro L h (Y++Z) mv (.ref a):=
 (F.fr.rd x i hi mv jy (nt ho)).elim fun v r=>(r.2.addr ho).elim fun a x=>x.elim fun o x=>⟨a,x.1▸r.1,x.1▸r.2⟩
noncomputable def MV.ol?:MV→Option (List PV)
 | .ol l=>some l
 |_=>none
noncomputable def Ku(ρ:List MV)(i:Nat):Option (List PV):=(ρ[i]?).bind MV.ol?
theorem Bj{ρ:List MV}{i:Nat}{l:List PV}(h:Ku ρ i=some l):ρ[i]? =some (.ol l):=by
 obtain⟨mv,h1,h2⟩:=Option.bind_eq_some_iff.mp h
 cases mv<;>first|exact g8 h2|exact h1.trans (congrArg (fun l=>some (MV.ol l)) (Option.some.inj h2))
noncomputable def oL(i:Nat)(f:List MV→Option PV)(ρ:List MV):Option (Fl×List MV):=
 (Ku ρ i).bind fun l=>if l.length≤100000 then(f ρ).map fun v=>(.next,ρ.set i (.ol (l++[v]))) else none
theorem pY{env:b9}(h:env.scope.kind= .function):interactive env=false:=by unfold interactive;rw[h];rfl
theorem Kv{e:aN}{pos:cM}{env:b9}(qE:(starEach [e] env).any (·.1)=false):((backTo pos (starEach [e] env)).all (fun x=> !x.1)&&(backToKw pos (keywordEach [] env)).all (fun x=>x.1.isSome)&&decide (([e]:List aN).length+([]:List Keyword).length+(if ([]:List Keyword).isEmpty then 0 else 1)<30))=true:=by
 have h1:(backTo pos (starEach [e] env)).all (fun x=> !x.1)=true:=List.all_map.trans (List.all_eq_true.mpr fun x hx=>congrArg (fun b=> !b) (Bool.eq_false_iff.mpr (List.any_eq_false.mp qE x hx)))
 rw[h1];rfl
theorem DZ{e:aN}{x name:Str}{id:String}{xp apos pos sh:cM}{i:Nat}{f:List MV→Option PV}(he:SE L sc σ k e f)(hi:kr σ x i)(hs: ∀env,starEach [e] env=[(false,eval e env)])(sj:(apos.endLine==pos.line)=true)(hd:(x==("__debug__":Str))=false)(hsw: ∀env,swapsWith (.Call (.Attribute (.Name x xp) name apos) [e] [] pos) none sh.line env=pure false)
  (Ro:Slot "list" name id)(Wm:typeOf (.builtin id)=pure (.type "method_descriptor")){env:b9}{A:aH}{Y Z:List Addr}{s:aq}{ρ:List MV}{l:List PV}{v:PV}{Q:Flow→aq→Prop}{E:Value→aq→Prop}(R:iU L k A)(F:FS L sc σ own env Y Z s.heap ρ)(I:Inv L s)(hl:ρ[i]? =some (.ol l))(hv:f ρ=some v)
  (hQ: ∀a xs n y s₁,gI L (Y++Z) s s₁→Reads env s₁.heap x (.ref a)→a∈Y++Z→a≠L.tb→a≠sysModules→s₁.heap.get? a=some {cls:= .type "list",data:= .seq xs n}→gM L.prog L.w s₁.heap (Y++Z) l xs.toList→VR L.prog L.w s₁.heap (Y++Z) v y→wpAny L.M A (call (.builtin id) [.ref a,y]) (fun v s'=>match v with| .ref _=>False|_=>Q .next s') E s₁):
  wpAny L.M A (exec (.Expr (.Call (.Attribute (.Name x xp) name apos) [e] [] pos) sh) env) Q E s:=by
 obtain⟨a,hr,hm⟩:=F.oK hi.1 hl rfl
 have qE: ∀env,(starEach [e] env).any (·.1)=false:=fun env=>by rw[hs env];rfl
 have r9:env.scope.kind= .function:=by rw[F.fr.scope];exact F.fr.kind
 refine wpAny_Expr (hi:=pY r9) (hs:=hsw env) (wpAny_Call_method_late (n0 rfl) (Kv (qE env)) sj rfl (hr.eval r9 ?_ hd))
 obtain⟨a',xs,n,ea,qu,hat,qH,hg,M4⟩:=hm
 skip;(first|exact VD ea|cases ea)
 refine⟨"list",id,PySem.F.plainAttrs_list,Ro,Wm,⟨_,hg,rfl⟩,fun b hb=>by (first|exact VD hb|cases hb);exact⟨_,hg,rfl⟩,?_⟩
 have Wg:LE L sc σ k [e] (fun ρ=>(f ρ).bind fun a=>(some []).map (a:: ·)):=LE.cons (g:=fun _=>some []) he LE.nil (fun env=>by rw[hs env];rfl)
 refine si (.builtin _) Wg (fun env=>by rw[hs env];rfl) qE R F.fr I (ps:=[v]) (by rw[hv];rfl) fun vs s₁ jL d=> ?_
 obtain⟨y,rfl,hy⟩:=gM.one jL
 exact hQ a xs n y s₁ d (hr.up (fun o e=>d.keep _ o F.fr.locals.1 e) fun c o hc e=>d.keep c o (F.fr.cells x c hc).1 e) qu hat qH (d.keep _ _ hat hg) (M4.up d.up) hy
theorem S1.append{e:aN}{x:Str}{xp apos pos sh:cM}{i:Nat}{f:List MV→Option PV}(he:SE L sc σ k e f)(hi:kr σ x i)(hs: ∀env,starEach [e] env=[(false,eval e env)])(sj:(apos.endLine==pos.line)=true)(hd:(x==("__debug__":Str))=false)(hsw: ∀env,swapsWith (.Call (.Attribute (.Name x xp) "append" apos) [e] [] pos) none sh.line env=pure false):
  S1 L sc σ own k false (.Expr (.Call (.Attribute (.Name x xp) "append" apos) [e] [] pos) sh) (oL i f):=by
 intro env A Y Z s ρ ρ' fl Q E R F I kC ki hf hQ
 replace hf:=Option.bind_eq_some_iff.mp hf
 obtain⟨l,hl,hf⟩:=hf
 replace hf:=xB hf
 obtain⟨hsz,hf⟩:=hf
 obtain⟨v,hv,e'⟩:=Option.map_eq_some_iff.mp hf
 skip;(first|exact VD e'|cases e')
 have hl:=Bj hl
 refine DZ he hi hs sj hd hsw PySem.F.slot_list_append PySem.F.type_list_append R F I hl hv fun a xs n y s₁ d hr qu hat qH hg M4 hy=> ?_
 have e1:=M4.size
 refine wpAny_list_append_plain ⟨n,hg⟩ (fun h' jA k9=> ?_) (by show _≤16777216;omega)
 obtain⟨n',jA⟩:=jA
 have hk: ∀b o,b≠a→s₁.heap.get? b=some o→h'.get? b=some o:=fun b o hb e=>k9.extBut b o hb e
 have u:Up s₁.heap (Y++Z) h' (Y++Z):=fun b o hb e=>⟨hb,hk b o (fun h=>hb (h▸qu)) e⟩
 have k:=(F.done d).wy (nv:= .ol (l++[v])) (tk:=s₁.toks) (gO.jQ d) hi hl rfl hr hk rfl ⟨a,xs.push y,n',rfl,qu,hat,qH,jA,by rw[dy];exact(M4.up u).append (gM.cons (hy.up u) gM.nil)⟩
 exact hQ.one rfl k.1 k.2
theorem gM.erase{h:Heap}{X:List Addr}: ∀{ps:List PV} {vs:List Value} (j:Nat),gM L.prog L.w h X ps vs→gM L.prog L.w h X (ps.eraseIdx j) (vs.eraseIdx j):=by
 intro ps
 induction ps with
 |nil=>intro _ _ x;(first|exact VD x|cases x);exact gM.nil
 |cons q ps ih=>
  intro vs j x
  obtain⟨v,r,rfl,hv,hr⟩:=x
  cases j with
  |zero=>exact hr
  |succ j=>exact gM.cons hv (ih j hr)
noncomputable def Rp(i:Nat)(f:List MV→Option PV)(ρ:List MV):Option (Fl×List MV):=
 (Ku ρ i).bind fun l=>if l.length≤100000 then(f ρ).bind (pg fun n=>if small n then(seqIndex? n l.length).bind fun j=>(l[j]?).bind (pg fun _=>some (.next,ρ.set i (.ol (l.eraseIdx j)))) else none) else none
theorem S1.pop{e:aN}{x:Str}{xp apos pos sh:cM}{i:Nat}{f:List MV→Option PV}(he:SE L sc σ k e f)(hi:kr σ x i)(hs: ∀env,starEach [e] env=[(false,eval e env)])(sj:(apos.endLine==pos.line)=true)(hd:(x==("__debug__":Str))=false)(hsw: ∀env,swapsWith (.Call (.Attribute (.Name x xp) "pop" apos) [e] [] pos) none sh.line env=pure false):
  S1 L sc σ own k false (.Expr (.Call (.Attribute (.Name x xp) "pop" apos) [e] [] pos) sh) (Rp i f):=by
 intro env A Y Z s ρ ρ' fl Q E R F I kC ki hf hQ
 replace hf:=Option.bind_eq_some_iff.mp hf
 obtain⟨l,hl,hf⟩:=hf
 replace hf:=xB hf
 obtain⟨hsz,hf⟩:=hf
 replace hf:=Option.bind_eq_some_iff.mp hf
 obtain⟨v,hv,hf⟩:=hf
 replace hf:=km hf
 obtain⟨n,rfl,hf⟩:=hf
 replace hf:=xB hf
 obtain⟨Wn,hf⟩:=hf
 replace hf:=Option.bind_eq_some_iff.mp hf
 obtain⟨j,hj,hf⟩:=hf
 replace hf:=Option.bind_eq_some_iff.mp hf
 obtain⟨q,AJ,hf⟩:=hf
 replace hf:=km hf
 obtain⟨m,rfl,hf⟩:=hf
 skip;(first|exact VD hf|cases hf)
 have hl:=Bj hl
 have Wo:=of_decide_eq_true Wn
 refine DZ he hi hs sj hd hsw PySem.F.slot_list_pop PySem.F.type_list_pop R F I hl hv fun a xs c y s₁ d hr qu hat qH hg M4 hy=> ?_
 refine hy.rq fun t=> ?_
 have e1:=M4.size
 refine M4.xF AJ fun z hz hzr=> ?_
 obtain⟨t',rfl⟩:=hzr.jZ
 refine dQ PySem.F.slot_list_pop ⟨_,hg,rfl⟩ PySem.F.entry_list_pop (PySem.F.args_list_pop_2 _ _) (MeetsSeq.list_pop_at a xs c n t j _ (by simp[aD.List.listFitsIndex];omega) (by rw[e1];exact hj) hz (by show _≤16777216;omega)) ⟨hg,?_⟩
 have k9:=Heap.SameBut.update s₁.heap a (Obj.mapSeq fun xs=>xs.eraseIdxIfInBounds j)
 have jA:=bc (Obj.mapSeq fun xs=>xs.eraseIdxIfInBounds j) hg rfl
 generalize s₁.heap.update a (Obj.mapSeq fun xs=>xs.eraseIdxIfInBounds j)=h' at k9 jA
 have hk: ∀b o,b≠a→s₁.heap.get? b=some o→h'.get? b=some o:=fun b o hb e=>k9.extBut b o hb e
 have u:Up s₁.heap (Y++Z) h' (Y++Z):=fun b o hb e=>⟨hb,hk b o (fun h=>hb (h▸qu)) e⟩
 have el:(xs.eraseIdxIfInBounds j).toList=xs.toList.eraseIdx j:=by
  unfold Array.eraseIdxIfInBounds
  rw[dif_pos (Array.getElem?_eq_some_iff.mp hz).1,Array.toList_eraseIdx]
 have k:=(F.done d).wy (nv:= .ol (l.eraseIdx j)) (tk:=s₁.toks) (gO.jQ d) hi hl rfl hr hk rfl ⟨a,_,_,rfl,qu,hat,qH,jA,el▸(M4.up u).erase j⟩
 exact hQ.one rfl k.1 k.2
end
end
section
open PySem PyProof.Rows
section
variable {L:ic} {sc:Scope} {σ:gJ} {own:List Str} {k:Nat}
noncomputable def Hv:MV→PV→Option PV
 | .ug ks vs,.int n=>jo ks vs n
 | .zk ks vs,.str s=>jo ks vs s
 | .ol l,.int n=>if small n then(seqIndex? n l.length).bind (l[·]?) else none
 |_,_=>none
noncomputable def mO(i:Nat)(g:List MV→Option PV)(ρ:List MV):Option PV:=(ρ[i]?).bind fun mv=>(g ρ).bind fun q=>Hv mv q
inductive D0:MV→PV→PV→Prop
 |ol {l i j r}:small i=true→seqIndex? i l.length=some j→l[j]? =some r→D0 (.ol l) (.int i) r
 |ug {ks vs i r}:jo ks vs i=some r→D0 (.ug ks vs) (.int i) r
 |zk {ks vs i r}:jo ks vs i=some r→D0 (.zk ks vs) (.str i) r
theorem Hw{m:MV}{q r:PV}(h:Hv m q=some r):D0 m q r:=by
 cases m<;>try exact g8 h
 all_goals (cases q<;>try exact g8 h)
 ·replace h:=xB h
  obtain⟨hs,h⟩:=h
  replace h:=Option.bind_eq_some_iff.mp h
  obtain⟨j,hj,h⟩:=h
  exact .ol hs hj h
 ·exact .ug h
 ·exact .zk h
theorem SE.Kw{x:Str}{xp pos:cM}{ix:aN}{i:Nat}{g:List MV→Option PV}(hi:σ.lookup x=some i)(hd:(x==("__debug__":Str))=false)(Wq:SE L sc σ k ix g)(hs: ∀o i',subscripted ix false o i'=operate [o,i'] (getItem o i')):
  SE L sc σ k (.Subscript (.Name x xp) ix pos) (mO i g):=by
 intro env A X s ρ p Q E R F I hf hQ
 replace hf:=Option.bind_eq_some_iff.mp hf
 obtain⟨mv,jy,hf⟩:=hf
 replace hf:=Option.bind_eq_some_iff.mp hf
 obtain⟨q,hq,hf⟩:=hf
 have r9:env.scope.kind= .function:=by rw[F.scope];exact F.kind
 have hu:mv≠ .un:=by rintro rfl;(first|exact VD hf|cases hf)
 obtain⟨v,r,m⟩:=F.rd x i hi mv jy hu
 refine s8 (r.eval r9 (Wq env A X s ρ q _ E R F I hq fun u s₁ hu d=> ?_) hd) (fun o i=> .inl (hs o i))
 cases Hw hf with
 |ol ki hj h=>
  refine hu.rq fun t=> ?_
  obtain⟨a,xs,c,rfl,qu,hat,_,hg,hl⟩:=m
  have DO:=hl.up d.up
  have M5:=d.keep _ _ hat hg
  refine DO.xF h fun y hy hr=> ?_
  exact⟨"list",_,fG,⟨_,M5,rfl⟩,qP M5 ki (DO.size▸hj) hy (hQ _ _ hr d)⟩
 |ug h=>
  refine hu.rq fun t=> ?_
  obtain⟨a,kvs,rfl,qu,hat,_,Bk,hk,hl⟩:=m
  exact lL (isInt_self _ t) (jc Bk fun o e=>d.keep _ o hat e) hk (hl.up d.up) h d.xo d.inv fun y s' hy d'=>hQ y s' hy (d.trans d')
 |zk h=>
  refine hu.EG fun t=> ?_
  obtain⟨a,kvs,rfl,qu,hat,_,Bk,hk,hl⟩:=m
  exact lL (isStrOf_self _ t) (jc Bk fun o e=>d.keep _ o hat e) hk (hl.up d.up) h d.xo d.inv fun y s' hy d'=>hQ y s' hy (d.trans d')
noncomputable def MV.OI:MV→Option (List Str×List PV)
 | .zk ks vs=>some (ks,vs)
 |_=>none
theorem MV.D3{mv:MV}{r:List Str×List PV}(h:mv.OI=some r):mv= .zk r.1 r.2:=by
 cases mv<;>first|exact g8 h|exact Option.some.inj h▸rfl
noncomputable def Hx(i:Nat)(g:List MV→Option PV)(ρ:List MV):Option PV:=(g ρ).bind fun q=>((ρ[i]?).bind MV.OI).bind fun r=>onStr (fun s=>some (.bool (r.1.any (· ==s)))) q
theorem TE.Rq{x:Str}{xp pos:cM}{e:aN}{i:Nat}{g:List MV→Option PV}(he:SE L sc σ k e g)(hi:σ.lookup x=some i)(hd:(x==("__debug__":Str))=false):TE L sc σ k (.Compare e [.In] [.Name x xp] pos) (fun ρ=>(Hx i g ρ).bind lg):=by
 intro env A X s ρ b Q E R F I hf hQ
 obtain⟨p,hp,hb⟩:=Option.bind_eq_some_iff.mp hf
 replace hp:=Option.bind_eq_some_iff.mp hp
 obtain⟨q,hq,hp⟩:=hp
 replace hp:=Option.bind_eq_some_iff.mp hp
 obtain⟨ks,jy,hp⟩:=hp
 replace jy:=Option.bind_eq_some_iff.mp jy
 obtain⟨mv,jy,h⟩:=jy
 obtain rfl:=MV.D3 h
 replace hp:=kn hp
 obtain⟨key,rfl,hp⟩:=hp
 skip;(first|exact VD hp|cases hp)
 skip;(first|exact VD hb|cases hb)
 have r9:env.scope.kind= .function:=by rw[F.scope];exact F.kind
 refine wpAny_isTrue_Compare1 (hm:=rfl) (he env A X s ρ _ _ E R F I hq fun u s₁ hu d=> ?_)
 have jm:=F.done d
 obtain⟨v,r,m⟩:=jm.rd x i hi _ jy (by intro h;(first|exact VD h|cases h))
 refine r.eval r9 ?_ hd
 obtain⟨t,rfl⟩:=hu.ll
 obtain⟨a,kvs,rfl,qu,hat,ki,Bk,hk,hl⟩:=m
 refine wpAny_in_of (knd:=strKind L.prog L.w) (k:=key) (isStrOf_self key t) (by simpa using ki) Bk.mapOf ?_
 rw[pT,hk]
 exact eB (hQ _ (d.trans (gI.toks d.inv d.xo _)))
noncomputable def Rr:PV→Option PV
 | .int i=>some (.int i)
 | .bool b=>some (.bool b)
 | .str s=>some (.str s)
 |_=>none
theorem Kx{p q:PV}(hs:Rr p=some q){h:Heap}{X X':List Addr}{v:Value}(x:VR L.prog L.w h X p v):VR L.prog L.w h X' q v:=by
 cases p<;>first|exact g8 hs|exact Option.some.inj hs▸x
noncomputable def OJ(i:Nat)(f:List MV→Option PV)(ρ:List MV):Option PV:=((ρ[i]?).bind MV.yR).bind fun q=>(f ((ρ.map MV.mJ).set i (.p q))).bind Rr
theorem dict_cls{h:Heap}{K:Type}[DecidableEq K]{knd:KeyKind L.prog L.w K}{a:Addr}{kvs:List (K×Value)}(x:h.DictOf knd a kvs): ∃o,h.get? a=some o∧(o.cls= .type "list"∨o.cls= .type "dict"):=
 x.elim fun o x=>x.elim fun es x=>x.elim fun ep x=>⟨o,x.1,.inr x.2.1.1⟩
theorem FR.view{env:b9}{X:List Addr}{h:Heap}{ρ:List MV}{x:Str}{i:Nat}{mv:MV}{q:PV}(F:FR L sc σ env X h ρ)(hi:kr σ x i)(jy:ρ[i]? =some mv)(E1:mv.yR=some q):
  ∃a X',(∀b∈X',b∈X)∧(∀b∈X,b≠a→b∈X')∧a≠L.tb∧ro L h X mv (.ref a)∧(∃o,h.get? a=some o∧(o.cls= .type "list"∨o.cls= .type "dict"))∧FR L sc σ env X' h ((ρ.map MV.mJ).set i (.p q)):=by
 have ho:mv.owned=true:=by cases mv<;>first|rfl|exact g8 E1
 obtain⟨v,r,m⟩:=F.rd x i hi.1 mv jy (nt ho)
 have key: ∃a,v= .ref a∧a≠L.tb∧a≠sysModules∧(∃o,h.get? a=some o∧(o.cls= .type "list"∨o.cls= .type "dict"))∧ ∀X',(∀b∈X',b∈X)→a∉X'→VR L.prog L.w h X' q v:=by
  cases mv<;>try exact g8 E1
  ·(first|exact VD E1|cases E1);exact m.elim fun a m=>m.elim fun xs m=>m.elim fun n m=>⟨a,m.1,m.2.2.1,m.2.2.2.1,⟨_,m.2.2.2.2.1,.inl rfl⟩,fun X' hs ha=> .intro a ⟨xs,n,m.1,ha,m.2.2.2.2.1,m.2.2.2.2.2.same hs⟩⟩
  ·(first|exact VD E1|cases E1);exact m.elim fun a m=>m.elim fun kvs m=>⟨a,m.1,m.2.2.1,m.2.2.2.1,dict_cls m.2.2.2.2.1,fun X' hs ha=> .intro a ⟨kvs,m.1,ha,m.2.2.2.2.1,m.2.2.2.2.2.1,m.2.2.2.2.2.2.same hs⟩⟩
  ·(first|exact VD E1|cases E1);exact m.elim fun a m=>m.elim fun kvs m=>⟨a,m.1,m.2.2.1,m.2.2.2.1,dict_cls m.2.2.2.2.1,fun X' hs ha=> .intro a ⟨kvs,m.1,ha,m.2.2.2.2.1,m.2.2.2.2.2.1,m.2.2.2.2.2.2.same hs⟩⟩
 obtain⟨a,rfl,hat,qH,E2,Rt⟩:=key
 have hs: ∀b∈X.filter (· !=a),b∈X:=fun b hb=>(List.mem_filter.mp hb).1
 have vE: ∀b∈X,b≠a→b∈X.filter (· !=a):=fun b hb iS=>List.mem_filter.mpr ⟨hb,bne_iff_ne.mpr iS⟩
 refine⟨a,X.filter (· !=a),hs,vE,hat,m,E2,F.scope,F.kind,F.globals,F.builtins,F.xo.sub hs (vE _ F.xo.tb (Ne.symm hat)) (vE _ F.xo.sm (Ne.symm qH)),F.locals,F.cells,F.has,fun y j hj nj OK hu=> ?_⟩
 by_cases e:j=i
 ·subst e
  obtain rfl:=v9 OK
  exact⟨_,hi.2 y hj▸r,Rt _ hs fun h=>absurd rfl (bne_iff_ne.mp (List.mem_filter.mp h).2)⟩
 ·rw[eW (Ne.symm e),aJ] at OK
  obtain⟨MU,h0,rfl⟩:=Option.map_eq_some_iff.mp OK
  obtain⟨q',rfl⟩:=DT hu
  exact(F.rd y j hj _ h0 (fun h=>nomatch h)).elim fun v' r'=>⟨v',r'.1,VR.up (Up.sub _ hs) (show VR L.prog L.w h X q' v' from r'.2)⟩
theorem XO.CR{X X' W:List Addr}{a:Addr}{h h':Heap}(x:XO L X h)(vE: ∀b∈X,b≠a→b∈X')(hat:a≠L.tb)(E2: ∃o,h.get? a=some o∧(o.cls= .type "list"∨o.cls= .type "dict"))(hk: ∀b o,b≠L.tb→h.get? b=some o→h'.get? b=some o)(xo:XO L (W++X') h'):XO L (W++X) h':=by
 obtain⟨oa,E2,Wr⟩:=E2
 refine⟨au _ x.tb,au _ x.sm,fun b hb=>(List.mem_append.mp hb).elim (fun h=>xo.there b (aw _ h)) fun h=> ?_,fun b hb=>(List.mem_append.mp hb).elim (fun h=>xo.look b (aw _ h)) (x.look b),xo.tab.elim fun fp t=>⟨fp,t.1,fun b hb hX=>(List.mem_append.mp hX).elim (fun h=>t.2 b hb (aw _ h)) fun h=> ?_⟩⟩
 ·by_cases e:b=a
  ·exact⟨oa,e▸hk a oa hat E2⟩
  ·exact xo.there b (au _ (vE b h e))
 ·by_cases e:b=a
  ·have h1:=L.Gz _ _ t.1 b hb oa (e▸hk a oa hat E2)
   exact Wr.elim h1.1 h1.2
  ·exact t.2 b hb (au _ (vE b h e))
theorem SE.yR{e:aN}{x:Str}{i:Nat}{f:List MV→Option PV}(h:SE L sc σ k e f)(hi:kr σ x i):SE L sc σ k e (OJ i f):=by
 intro env A X s ρ p Q E R F I hf hQ
 replace hf:=Option.bind_eq_some_iff.mp hf
 obtain⟨q,hq,hf⟩:=hf
 obtain⟨mv,jy,E1⟩:=Option.bind_eq_some_iff.mp hq
 obtain⟨p',xD,uj⟩:=Option.bind_eq_some_iff.mp hf
 obtain⟨a,X',hs,vE,hat,_,E2,F'⟩:=F.view hi jy E1
 exact h env A X' s _ p' Q E R F' I xD fun y s' hy d=>hQ y s' (Kx uj hy) ⟨d.keep,d.inv,F.xo.CR (W:=[]) vE hat E2 d.keep d.xo,d.os,d.drawn⟩
end
end
section
open PySem PyProof.Rows
section
variable {L:ic} {sc:Scope} {σ:gJ} {own:List Str} {k:Nat}
noncomputable def oM(i:Nat)(f:List MV→Option (Fl×List MV))(ρ:List MV):Option (Fl×List MV):=((ρ[i]?).bind MV.yR).bind fun q=>f (ρ.set i (.p q))
theorem SS.freeze{g:Bool}{body:List Stmt}{x:Str}{i:Nat}{f:List MV→Option (Fl×List MV)}(h:SS L sc σ own k g body f)(hi:kr σ x i):SS L sc σ own k true body (oM i f):=by
 intro env A Y Z s ρ ρ' fl Q E R F I kC ki hf hQ
 replace hf:=Option.bind_eq_some_iff.mp hf
 obtain⟨q,hq,hf⟩:=hf
 obtain⟨mv,jy,E1⟩:=Option.bind_eq_some_iff.mp hq
 have ho:mv.owned=true:=by cases mv<;>first|rfl|exact g8 E1
 obtain⟨v,r,m⟩:=F.fr.rd x i hi.1 mv jy (nt ho)
 obtain⟨a,oa,rfl,qu,hat,E2,Qr⟩:=m.addr ho
 have H:Holds σ env s.heap ρ x i mv a:=⟨hi.1,jy,ho,r⟩
 obtain⟨DM,G3⟩:=F.EL _ _ _ _ H
 let Y':=Y.filter (· !=a)
 have Vh: ∀b∈Y',b∈Y:=fun b hb=>(List.mem_filter.mp hb).1
 have hs: ∀b∈Y'++Z,b∈Y++Z:=fun b hb=>(List.mem_append.mp hb).elim (fun h=>aw _ (Vh b h)) (au _)
 have OL:a∉Y'++Z:=fun hm=>(List.mem_append.mp hm).elim (fun h=>absurd rfl (bne_iff_ne.mp (List.mem_filter.mp h).2)) (F.apart a DM)
 have vE: ∀b∈Y,b≠a→b∈Y':=fun b hb iS=>List.mem_filter.mpr ⟨hb,bne_iff_ne.mpr iS⟩
 have Rt:VR L.prog L.w s.heap (Y'++Z) q (.ref a):=by
  cases mv<;>try exact g8 E1
  ·(first|exact VD E1|cases E1);exact m.elim fun a' m=>m.elim fun xs m=>m.elim fun n m=> .intro a ⟨xs,n,rfl,OL,Value.ref.inj m.1▸m.2.2.2.2.1,m.2.2.2.2.2.same hs⟩
  ·(first|exact VD E1|cases E1);exact m.elim fun a' m=>m.elim fun kvs m=> .intro a ⟨kvs,rfl,OL,Value.ref.inj m.1▸m.2.2.2.2.1,m.2.2.2.2.2.1,m.2.2.2.2.2.2.same hs⟩
  ·(first|exact VD E1|cases E1);exact m.elim fun a' m=>m.elim fun kvs m=> .intro a ⟨kvs,rfl,OL,Value.ref.inj m.1▸m.2.2.2.2.1,m.2.2.2.2.2.1,m.2.2.2.2.2.2.same hs⟩
 have F':FS L sc σ own env Y' Z s.heap (ρ.set i (.p q)):=by
  refine F.gen i (F.fr.xo.sub hs (au _ kC) (au _ ki)) (vE _ F.ta (Ne.symm G3)) F.ns (fun y c hc=>⟨(F.fr.cells y c hc).2,fun u GX hu=>⟨vE c GX fun e=> ?_,u,hu⟩⟩) (fun y hy=>F.apart y (Vh y hy)) (Up.sub _ hs) (fun j mv hj e _=>yK hj▸e) (fun _ _ _ _ _ r=>r)
   (fun y j nj b o hj H' _ hg _=>⟨vE b (F.EL _ _ _ _ H').1 fun e=>hj (F.sep _ _ _ _ _ _ _ (e▸H') H),hg⟩) (fun y nj hy e _=>⟨.ref a,hi.2 y hy▸r,v9 e▸Rt⟩) fun y nj b H'=>Bool.noConfusion (v9 H'.val▸H'.ow:(MV.p q).owned=true)
  subst e
  exact hu.elim fun o x=>Qr u (Option.some.inj (E2.symm.trans x.1)▸x.2)
 exact h env A Y' Z s _ ρ' fl Q E R F' I kC ki hf fun fv Vi s' qF Vg Ws _ d=>hQ fv Vi s' qF Vg (fun b hb=>(Ws b hb).imp (Vh b) id) (fun h=>nomatch h) ⟨fun b o h1 h2 e=>d.keep b o h1 (fun h=>h2 (Vh b h)) e,d.inv,d.os,d.drawn⟩
noncomputable def iw{K:Type}[DecidableEq K]:List K→List PV→K→PV→List K×List PV
 |k::ks,v::vs,x,p=>if k=x then(k::ks,p::vs) else let r:=iw ks vs x p;(k::r.1,v::r.2)
 |ks,vs,x,p=>(ks++[x],vs++[p])
theorem yT{K:Type}[DecidableEq K]{h:Heap}{X:List Addr}{x:K}{p:PV}{u:Value}(hp:VR L.prog L.w h X p u): ∀{kvs:List (K×Value)} {ks:List K} {vs:List PV},(kvs.map (·.1)).Nodup→kvs.map (·.1)=ks→gM L.prog L.w h X vs (kvs.map (·.2))→
  (stored kvs x u).map (·.1)=(iw ks vs x p).1∧gM L.prog L.w h X (iw ks vs x p).2 ((stored kvs x u).map (·.2)):=by
 intro kvs
 induction kvs with
 |nil=>
  intro ks vs _ hk hv
  skip;(first|exact VD hk|cases hk)
  cases vs with
  |nil=>exact⟨rfl,gM.cons hp gM.nil⟩
  |cons q qs=>exact absurd hv.length.symm (aV _)
 |cons k0 kvs ih=>
  obtain⟨k,y⟩:=k0
  intro ks vs hn hk hv
  skip;(first|exact VD hk|cases hk)
  cases vs with
  |nil=>exact absurd hv.length (aV _)
  |cons q vs=>
   obtain⟨h1,h2⟩:=List.nodup_cons.mp hn
   obtain⟨_,_,e,hq,hr⟩:=hv
   obtain⟨rfl,rfl⟩:=List.cons.inj e
   show _=(if k=x then _ else _:List K×List PV).1∧gM L.prog L.w h X (if k=x then _ else _:List K×List PV).2 _
   by_cases e:k=x
   ·subst e
    have qE:(kvs.map fun kv=>if kv.1=k then(kv.1,u) else kv)=kvs:=map_store_of_not_mem kvs k u h1
    have:stored ((k,y)::kvs) k u=(k,u)::kvs:=by unfold stored;simp only[de,decide_true,Bool.true_or,if_true,aQ,qE]
    rw[this,if_pos rfl]
    exact⟨rfl,gM.cons hp hr⟩
   ·have:stored ((k,y)::kvs) x u=(k,y)::stored kvs x u:=by
     unfold stored
     simp only[de,e,decide_false,Bool.false_or,aQ,if_false]
     split<;>rfl
    obtain⟨i1,i2⟩:=ih h2 rfl hr
    rw[this,if_neg e]
    exact⟨congrArg (k:: ·) i1,gM.cons hq i2⟩
noncomputable def Ru:MV→PV→PV→Option MV
 | .ug ks vs,q,v=>pg (fun n=>if ks.length≤100000 then some (.ug (iw ks vs n v).1 (iw ks vs n v).2) else none) q
 | .zk ks vs,q,v=>onStr (fun n=>if ks.length≤100000 then some (.zk (iw ks vs n v).1 (iw ks vs n v).2) else none) q
 |_,_,_=>none
noncomputable def E3(i:Nat)(ke ve:List MV→Option PV)(ρ:List MV):Option (Fl×List MV):=(ve ρ).bind fun v=>(ke ρ).bind fun q=>((ρ[i]?).bind fun mv=>Ru mv q v).map fun nj=>(.next,ρ.set i nj)
theorem wz{K:Type}[DecidableEq K]{knd:KeyKind L.prog L.w K}{n:K}{ue:Value}{a:Addr}{kvs:List (K×Value)}{ks:List K}{vs:List PV}{v:PV}{y:Value}{A:aH}{X:List Addr}{s:aq}{Q:Unit→aq→Prop}{E:Value→aq→Prop}(GW:knd.is n ue=true)(qu:a∈X)(Bk:s.heap.DictOf knd a kvs)(hkk:kvs.map (·.1)=ks)(hl:gM L.prog L.w s.heap X vs (kvs.map (·.2)))(hy:VR L.prog L.w s.heap X v y)(hsz:ks.length≤100000)
  (hQ: ∀h' kq,(∀b o,b≠a→s.heap.get? b=some o→h'.get? b=some o)→h'.DictOf knd a kq→kq.map (·.1)=(iw ks vs n v).1→gM L.prog L.w h' X (iw ks vs n v).2 (kq.map (·.2))→Q () {s with heap:=h',toks:=s.toks+1}):wpAny L.M A (setItem (.ref a) ue y) Q E s:=by
 refine wpAny_setItem_pairs (knd:=knd) (k:=n) GW Bk (fun h' sX k9=> ?_) (by rw[←hkk,aF] at hsz;exact Nat.le_trans hsz (by decide))
 have hk: ∀b o,b≠a→s.heap.get? b=some o→h'.get? b=some o:=fun b o hb e=>k9.extBut b o hb e
 have up:Up s.heap X h' X:=fun b o hb e=>⟨hb,hk b o (fun h=>hb (h▸qu)) e⟩
 have k:=yT (p:=v) (x:=n) (hy.up up) (oG Bk) hkk (hl.up up)
 exact hQ h' _ hk sX k.1 k.2
theorem S1.put{x:Str}{xp sp pos:cM}{ke ve:aN}{i:Nat}{f g:List MV→Option PV}(hv:SE L sc σ k ve f)(hk:SE L sc σ k ke g)(hi:kr σ x i)(hd:(x==("__debug__":Str))=false)(hs: ∀env,env.scope=sc→swapsWith ve (some (.Subscript (.Name x xp) ke sp)) pos.line env=pure false):
  S1 L sc σ own k false (.Assign [.Subscript (.Name x xp) ke sp] ve pos) (E3 i g f):=by
 intro env A Y Z s ρ ρ' fl Q E R F I kC ki hf hQ
 replace hf:=Option.bind_eq_some_iff.mp hf
 obtain⟨v,oD,hf⟩:=hf
 replace hf:=Option.bind_eq_some_iff.mp hf
 obtain⟨q,hq,hf⟩:=hf
 obtain⟨nj,Kd,e⟩:=Option.map_eq_some_iff.mp hf
 clear hf
 skip;(first|exact VD e|cases e)
 obtain⟨mv,jy,hf⟩:=Option.bind_eq_some_iff.mp Kd
 have ho:mv.owned=true:=by cases mv<;>first|rfl|exact g8 hf
 have r9:env.scope.kind= .function:=by rw[F.fr.scope];exact F.fr.kind
 refine wpAny_Assign_Subscript (hs:=hs env F.fr.scope) (hv env A _ s ρ v _ E R F.fr I oD fun y s₁ hy d=> ?_)
 have jm:=F.done d
 obtain⟨a,hr,hm⟩:=jm.oK hi.1 jy ho
 refine hr.eval r9 ?_ hd
 refine hk env A _ s₁ ρ _ _ E R jm.fr d.inv hq fun u gQ hu gP=> ?_
 have jJ:=jm.done gP
 have Rv:Reads env gQ.heap x (.ref a):=hr.up (fun o e=>gP.keep _ o jm.fr.locals.1 e) fun c o hc e=>gP.keep c o (jm.fr.cells x c hc).1 e
 have yJ:ro L gQ.heap (Y++Z) mv (.ref a):=hm.up gP.up fun b hb iS=>⟨hb,fun o e=>gP.keep b o iS e⟩
 have fin: ∀h' nv,nv.owned=true→(∀b o,b≠a→gQ.heap.get? b=some o→h'.get? b=some o)→ro L h' (Y++Z) nv (.ref a)→nv=nj→Q .next {gQ with heap:=h',toks:=gQ.toks+1}:=fun h' nv qE hkp AJ e=>by
  subst e
  have k:=jJ.wy (tk:=gQ.toks+1) ((gO.jQ d).trans (fun b h=> .inl h) (gO.jQ gP)) hi jy ho Rv hkp qE AJ
  exact hQ.one rfl k.1 k.2
 cases mv<;>try exact g8 hf
 ·replace hf:=km hf
  obtain⟨n,rfl,hf⟩:=hf
  replace hf:=jU hf
  obtain⟨hsz,e⟩:=hf
  refine hu.rq fun t=> ?_
  obtain⟨a',kvs,ea,qu,hat,qH,Bk,hkk,hl⟩:=yJ
  skip;(first|exact VD ea|cases ea)
  exact wz (isInt_self n t) qu Bk hkk hl (hy.up gP.up) hsz fun h' kq k1 k2 k3 k4=>fin h' (.ug _ _) rfl k1 ⟨a,kq,rfl,qu,hat,qH,k2,k3,k4⟩ e.symm
 ·replace hf:=kn hf
  obtain⟨n,rfl,hf⟩:=hf
  replace hf:=jU hf
  obtain⟨hsz,e⟩:=hf
  refine hu.EG fun t=> ?_
  obtain⟨a',kvs,ea,qu,hat,qH,Bk,hkk,hl⟩:=yJ
  skip;(first|exact VD ea|cases ea)
  exact wz (isStrOf_self n t) qu Bk hkk hl (hy.up gP.up) hsz fun h' kq k1 k2 k3 k4=>fin h' (.zk _ _) rfl k1 ⟨a,kq,rfl,qu,hat,qH,k2,k3,k4⟩ e.symm
end
end
section
open PySem PyProof.Rows
open Builtin Builtin.Str
section
variable {L:ic}
noncomputable def pZ:List PV→Option (List Str)
 |[]=>some []
 | .str s::r=>(pZ r).map (s:: ·)
 |_=>none
theorem Bl{h:Heap}{X:List Addr}{l:List PV}: ∀{vs:List Value} {ns:List Str},gM L.prog L.w h X l vs→pZ l=some ns→ ∃ts:List (Str×gh),vs=strValues ts∧ts.map (·.1)=ns:=by
 induction l with
 |nil=>intro vs ns x h;(first|exact VD x|cases x);(first|exact VD h|cases h);exact⟨[],rfl,rfl⟩
 |cons p ps ih=>
  intro vs ns x h
  obtain⟨v,r,rfl,hv,hr⟩:=x.inv
  cases p<;>try exact g8 h
  rename_i i
  obtain⟨t,rfl⟩:=hv.ll
  obtain⟨ms,hi,rfl⟩:=Option.map_eq_some_iff.mp h
  obtain⟨ts,h1,h2⟩:=ih hr hi
  exact⟨(i,t)::ts,by rw[h1];rfl,by rw[←h2];rfl⟩
theorem CS{h:Heap}{X:List Addr}: ∀{ts:List (Str×gh)},gM L.prog L.w h X (ts.map fun p=> .str p.1) (strValues ts):=by
 intro ts
 induction ts with
 |nil=>exact gM.nil
 |cons q0 r hV=>obtain⟨s,t⟩:=q0;exact gM.cons (VR.mkStr _ _) (hV)
noncomputable def isStr(a:Str):Value→Bool
 | .str b _=>b==a
 |_=>false
theorem CT: ∀{l:List PV} {ns:List Str},pZ l=some ns→l=ns.map .str:=by
 intro l
 induction l with
 |nil=>exact @fun _ h=>kB h▸rfl
 |cons p l hV=>
  intro ns h
  cases p<;>try exact g8 h
  obtain⟨ms,hm,rfl⟩:=Option.map_eq_some_iff.mp h
  rw[hV hm];rfl
noncomputable def OM(l:List PV):PV→Option PV
 | .int a=>(jO l).bind fun ns=>(ns.findIdx? (· ==a)).bind fun j=>if l.length≤1000 then some (.int j) else none
 | .str a=>(pZ l).bind fun ns=>(ns.findIdx? (· ==a)).bind fun j=>if l.length≤1000 then some (.int j) else none
 |_=>none
noncomputable def lM(p:PV)(ps:List PV):Option PV:=mN (fun l=>Co (OM l) ps) p
theorem wA{α:Type}{mk:α→PV}{key:α→Bool}{ON:Value→Bool}{A:aH}{s:aq}{h:Heap}{X:List Addr}{ns:List α}{a:Addr}{xs:Array Value}{n j:Nat}{v:Value}{Q:Value→aq→Prop}{E:Value→aq→Prop}(ho:s.heap.get? a=some {cls:= .type "list",data:= .seq xs n})(hl:gM L.prog L.w h X (ns.map mk) xs.toList)
  (hE: ∀x u,VR L.prog L.w h X (mk x) u→ON u=key x∧ ∀(A:aH) (s:aq),SeqAt.EqAt A s u v (ON u))(hj:ns.findIdx? key=some j)(hf:(ns.map mk).length≤1000)(hQ:Q (.int j s.toks) {s with toks:=s.toks+1}):wpAny L.M A (call (.builtin "list.index") [.ref a,v]) Q E s:=by
 obtain⟨kl,Wt,qE⟩:=List.findIdx?_eq_some_iff_getElem.mp hj
 have hsz:=hl.size
 rw[aF] at hsz hf
 have OO: ∀m (hm:m<xs.size) (hn:m<ns.length),ON xs[m]=key ns[m]∧ ∀(A:aH) (s:aq),SeqAt.EqAt A s xs[m] v (ON xs[m]):=fun m hm hn=>by
  obtain⟨p,hp,hv⟩:=hl.pS hm
  rw[aJ,aG hn] at hp
  exact hE _ _ (kB hp▸hv)
 refine dQ F.slot_list_index ⟨_,ho,rfl⟩ F.entry_list_index (F.args_list_index_2 _ _) (SeqAt.list_indexAt a xs n none #[] v ON j (hsz▸kl) (by have:=bq kl hf;omega) ((OO j (hsz▸kl) kl).1.trans Wt) fun m hm hmj=>(OO m hm (hsz▸hm)).1.trans (b7 _▸qE m hmj)) ⟨ho,fun y hy=> ?_,hQ⟩
 obtain⟨m,hm,rfl⟩:=Array.getElem_of_mem hy
 exact(OO m hm (hsz▸hm)).2 _ _
theorem sq:nM L "index" lM:=by
 intro X s p u x I hp hex
 obtain⟨wB,G5,h0⟩:=hex
 obtain⟨l,rfl,_⟩:=js h0
 obtain⟨a,xs,n,rfl,ha,ho,hl⟩:=hp.listE
 refine⟨"list","list.index",F.plainAttrs_list,F.slot_list_index,F.type_list_index,⟨_,ho,rfl⟩,fun b hb=> ?_,?_⟩
 ·(first|exact VD hb|cases hb);exact⟨_,ho,rfl⟩
 intro A s' ps vs r Q E R d jL hg hQ
 have lp:=(d.up _ _ ha ho).2
 have jA:=hl.up d.up
 replace hg:=my hg
 obtain⟨q,rfl,hg⟩:=hg
 obtain⟨v,rfl,hv⟩:=gM.one jL
 cases q<;>try exact g8 hg
 ·replace hg:=Option.bind_eq_some_iff.mp hg
  obtain⟨ns,wa,hg⟩:=hg
  replace hg:=Option.bind_eq_some_iff.mp hg
  obtain⟨j,hj,hg⟩:=hg
  replace hg:=jU hg
  obtain⟨hf,rfl⟩:=hg
  obtain⟨t,rfl⟩:=hv.jZ
  cases oH wa
  exact wA (ON:=isInt _) lp jA (fun x u hu=>by obtain⟨t',rfl⟩:=hu.jZ;exact⟨rfl,fun _ _=>SeqAt.EqAt.int_int _ _ _ _⟩) hj hf (hQ _ _ (VR.mkInt _ _) (gI.toks d.inv d.xo _))
 ·replace hg:=Option.bind_eq_some_iff.mp hg
  obtain⟨ns,wa,hg⟩:=hg
  replace hg:=Option.bind_eq_some_iff.mp hg
  obtain⟨j,hj,hg⟩:=hg
  replace hg:=jU hg
  obtain⟨hf,rfl⟩:=hg
  obtain⟨t,rfl⟩:=hv.ll
  cases CT wa
  exact wA (ON:=isStr _) lp jA (fun x u hu=>by obtain⟨t',rfl⟩:=hu.ll;exact⟨rfl,fun _ _=>SeqAt.EqAt.str_str _ _ _ _⟩) hj hf (hQ _ _ (VR.mkInt _ _) (gI.toks d.inv d.xo _))
noncomputable def Rw(ks:List Int)(vs:List PV):PV→PV→Option PV
 | .int a,q=>some ((jo ks vs a).getD q)
 |_,_=>none
noncomputable def CU:PV→List PV→Option PV
 | .la ks vs,ps=>EU (Rw ks vs) ps
 |_,_=>none
theorem CV{K:Type}[DecidableEq K]{h:Heap}{X:List Addr}{x:K}{kvs:List (K×Value)}: ∀{vs:List PV},gM L.prog L.w h X vs (kvs.map (·.2))→jo (kvs.map (·.1)) vs x=none→valueAt kvs x=none:=by
 induction kvs with
 |nil=>exact fun _ _=>rfl
 |cons p0 kvs ih=>
  intro vs hv h
  cases vs with
  |nil=>exact absurd hv.length (aV _)
  |cons q vs=>
   obtain⟨_,_,e,hq,hr⟩:=hv.inv
   skip;(first|exact VD e|cases e)
   have h:(if p0.1=x then some q else jo (kvs.map (·.1)) vs x)=none:=h
   by_cases e:p0.1=x
   ·rw[if_pos e] at h;(first|exact VD h|cases h)
   ·rw[if_neg e] at h
    have:=ih hr h
    unfold valueAt at this ⊢
    rw[List.find?_cons_of_neg (p:=fun kv:K×Value=>decide (kv.1=x)) (fun h=>e (of_decide_eq_true h))]
    exact this
theorem Hy{p r:PV}{ps:List PV}(h:CU p ps=some r): ∃ks vs,p= .la ks vs:=by
 cases p<;>first|exact⟨_,_,rfl⟩|exact g8 h
theorem OP:nM L "get" CU:=by
 intro X s p u x I hp hex
 obtain⟨wB,G5,h0⟩:=hex
 obtain⟨ks,vs,rfl⟩:=Hy h0
 obtain⟨a,kvs,rfl,ha,hd,rfl,hl⟩:=hp.GN
 refine⟨"dict","dict.get",F.plainAttrs_dict,F.slot_dict_get,F.type_dict_get,hd.typeIs,fun b hb=> ?_,?_⟩
 ·(first|exact VD hb|cases hb)
  obtain⟨o,es,ep,ho,hx,_⟩:=hd
  exact⟨o,ho,hx.2.1⟩
 intro A s' ps us r Q E R d jL hg hQ
 replace hg:=sk hg
 obtain⟨b,q,rfl,hg⟩:=hg
 obtain⟨v,v',rfl,hv,oD⟩:=gM.two jL
 obtain⟨b,rfl⟩: ∃i,b= .int i:=by cases b<;>first|exact⟨_,rfl⟩|exact g8 hg
 obtain rfl:=kB hg
 obtain⟨t,rfl⟩:=hv.jZ
 have sX:=jc hd fun o e=>(d.up _ o ha e).2
 have jA:=hl.up d.up
 refine call_meetsIn F.slot_dict_get sX.typeIs F.entry_dict_get (F.args_dict_get_3 _ _ _) (meets_dict_get_default (intKind L.prog L.w) a (k:=b) (key:= .int b t) (isInt_self b t) (sZ x.sm ha) v') ⟨_,sX.mapOf,hQ _ _ ?_ (gI.toks d.inv d.xo _)⟩
 have dt:=(gI.toks d.inv d.xo (s'.toks+1)).up
 cases M6:jo (kvs.map (·.1)) vs b with
 |some y=>
  obtain⟨z,hz,hr⟩:=v5 rfl jA M6
  rw[hz]
  exact hr.up dt
 |none=>
  rw[CV jA M6]
  exact oD.up dt
noncomputable def Ky(g:Str→PV→Option PV)(p:PV)(ps:List PV):Option PV:=onStr (fun x=>Co (g x) ps) p
theorem zG{name:Str}{id:String}{g:Str→PV→Option PV}(pl:PlainAttrs "str")(sl:Slot "str" name id)(ty:typeOf (.builtin id)=pure (.type "method_descriptor"))
  (H: ∀{A:aH} {X:List Addr} {s:aq} {x:Str} {t:Nat} {q r:PV} {v:Value},At L A X s→VR L.prog L.w s.heap X q v→g x q=some r→Gives L A X s r (call (.builtin id) [.str x t,v])):nM L name (Ky g):=by
 intro X s p u x I hp hex
 obtain⟨wB,G5,h0⟩:=hex
 obtain⟨l,rfl,_⟩:=kn h0
 obtain⟨t,rfl⟩:=hp.ll
 refine⟨"str",id,pl,sl,ty,fc _ _ _,(fun b hb=>nomatch hb),?_⟩
 intro A s' ps vs r Q E R d jL hg hQ
 replace hg:=my hg
 obtain⟨q,rfl,hg⟩:=hg
 obtain⟨v,rfl,hv⟩:=gM.one jL
 exact H ⟨R,d.xo,d.inv⟩ hv hg Q E hQ
noncomputable def vH(p:PV)(ps:List PV):Option PV:=Ky (fun x=>onStr fun y=>some (.int (Txt.count x y))) p ps
theorem HA:nM L "count" vH:=zG gp F.slot_str_count F.type_str_count fun c hv hg Q E hQ=>by
 replace hg:=kn hg
 obtain⟨y,rfl,hg⟩:=hg
 obtain⟨t',rfl⟩:=hv.ll
 exact SC.count (hQ _ _ (kB hg▸VR.mkInt _ _) (gI.toks c.I c.x _))
noncomputable def rF(p:PV)(ps:List PV):Option PV:=Ky (fun s=>mN fun l=>(pZ l).bind fun ts=>if JoinOk s ts then some (.str (Txt.join s ts)) else none) p ps
theorem zH:nM L "join" rF:=zG gp F.slot_str_join F.type_str_join fun c hv hg Q E hQ=>by
 replace hg:=js hg
 obtain⟨l,rfl,hg⟩:=hg
 replace hg:=Option.bind_eq_some_iff.mp hg
 obtain⟨ts,Gm,hg⟩:=hg
 replace hg:=jU hg
 obtain⟨Gn,rfl⟩:=hg
 obtain⟨a,xs,n,rfl,ha,ho,hl⟩:=hv.listE
 obtain⟨us,h1,h2⟩:=Bl hl Gm
 exact SC.join (l:=us) ⟨_,ho,rfl,n,by rw[←h1]⟩ h2 Gn fun t' k=>hQ _ _ (VR.mkStr _ _) (gI.toks c.I c.x _)
noncomputable def qz(p:PV)(ps:List PV):Option PV:=Ky (fun x=>onStr fun y=>if (y.length==0)=false∧x.length≤100000∧(partsBetween x (occurrences x y 0 x.length (x.length+1)) y.length).length≤100000 then some (.list ((Txt.split x y).map .str)) else none) p ps
theorem Bm:nM L "split" qz:=zG gp eM F.type_str_split fun{_ _ s' l t _ _ _} c hv hg Q E hQ=>by
 replace hg:=kn hg
 obtain⟨b,rfl,hg⟩:=hg
 replace hg:=jU hg
 obtain⟨Gn,rfl⟩:=hg
 obtain⟨t',rfl⟩:=hv.ll
 have fin: ∀(z:List (Str×gh)) tk,z.map (·.1)=Txt.split l b→Q (.ref s'.heap.objs.size) {s' with toks:=tk,heap:=s'.heap.push {cls:= .type "list",data:= .seq (strValues z).toArray}}:=fun ts tk h=>by
  refine hQ _ _ ?_ (gI.push c.I c.x _ _)
  rw[←h,bh]
  exact newList c.I c.x (CS (ts:=ts)) _
 cases h1:(decide (l.length<b.length)||decide (aD.Str.strKind l<aD.Str.strKind b))
 ·cases hf:(occurrences l b 0 l.length (l.length+1)).isEmpty
  ·refine dQ eM (fc _ _ _) gf (fU _ _) (meets_str_split_sep l b t t' h1 Gn.1 hf (mw Gn.2.1) (mw Gn.2.2)) ?_
   show wants Q E _ {s' with toks:=_,heap:=s'.heap.push {cls:= .type "list",data:= .seq (strsFrom s'.toks (partsBetween l (occurrences l b 0 l.length (l.length+1)) b.length)).toArray}}
   rw[strsFrom_eq]
   exact fin (numbered s'.toks _) _ ((numbered_texts _ _).trans ((if_neg (ne_true_of_eq_false h1)).trans (if_neg (ne_true_of_eq_false hf))).symm)
  ·exact dQ eM (fc _ _ _) gf (fU _ _) (meets_str_split_not_found l b t t' h1 Gn.1 hf)
    (fin [(l,t)] _ ((if_neg (ne_true_of_eq_false h1)).trans (if_pos hf)).symm)
 ·exact dQ eM (fc _ _ _) gf (fU _ _) (meets_str_split_cannot_occur l b t t' h1)
   (fin [(l,t)] _ (if_pos h1).symm)
end
end
section
open PySem PyProof.Rows
section
variable {prog:Program} {w:cL} {A:aH} {E:Value→aq→Prop} {s:aq}
theorem sr{it t:Addr}{i:Nat}{items:Array Value}{x:Value}{Q:Value→aq→Prop}(hit:s.heap.IsTupleIter it t i)(ht:s.heap.IsTuple t items)(hx:items[i]? =some x)
  (hQ: ∀h',h'.IsTupleIter it t (i+1)→fE it s.heap h'→Q x {s with heap:=h'}):wpAny (model prog w) A (aD.SmallTypes.nextOf (.ref it)) Q E s:=by
 obtain⟨o,ho,hc,hd⟩:=id hit
 obtain⟨ol,Ke,_,nl,Kf⟩:=ht
 unfold aD.SmallTypes.nextOf
 refine ao (bg (name:=Str.ofString "__next__") hit.typeIs cz
  (bH cz hit.typeIs cY ?_ (cU _)))
 show wpAny _ _ (field (.ref it) 0>>= _) _ _ s
 refine ao (aU ho hd (x:= .ref t) rfl ?_)
 show wpAny _ _ (if (Value.ref t==Value.none)=true then _ else _) _ _ s
 rw[if_neg (show ¬ ((Value.ref t==Value.none)=true) from bl)]
 show wpAny _ _ (field (.ref it) 1>>= _) _ _ s
 refine ao (aU ho hd (x:= .int i 0) rfl ?_)
 show wpAny _ _ (seqItems? (.ref t)>>= _) _ _ s
 refine ao (bf Ke Kf ?_)
 simp only[bN,hx]
 refine ao (cB ho hd (by simp) (aA ⟨x,rfl,aA (hQ _ ?_ (Heap.SameBut.update ..))⟩))
 exact⟨_,bc _ ho (Obj.isFreed_of_fields (Obj.data_mapFields hd _)),(Obj.cls_mapFields ..).trans hc,by
  rw[Obj.data_mapFields hd];simp[rawInt]⟩
theorem CW{α β:Type}{f:α→β→Sem (ForInStep β)}{b:β}(l:List α): ∀(P:Nat→aq→Prop) (n:Nat) (Q:β→aq→Prop) (s:aq),P 0 s→n≤l.length→
  (∀m a s Q',m<n→l[m]? =some a→P m s→(∀s',P (m+1) s'→Q' (.yield b) s')→wpAny (model prog w) A (f a b) Q' E s)→(∀a s Q',l[n]? =some a→P n s→wpAny (model prog w) A (f a b) Q' E s)→(n=l.length→ ∀s',P n s'→Q b s')→wpAny (model prog w) A (forIn l b f) Q E s:=by
 induction l with
 |nil=>
  intro P n Q s h hn _ _ hq
  obtain rfl:=Nat.le_zero.mp hn
  rw[eX];exact aA (hq rfl _ h)
 |cons a l ih=>
  intro P n Q s h hn st hs hq
  rw[dN]
  cases n with
  |zero=>exact ao (hs a s _ rfl h)
  |succ n=>exact ao (st 0 a s _ (Nat.succ_pos _) rfl h fun s' h'=>ih (fun m=>P (m+1)) n Q s' h' (Nat.le_of_succ_le_succ hn) (fun m a s Q' hm e hp CX=>st (m+1) a s Q' (Nat.succ_lt_succ hm) e hp CX) (fun a s Q' e hp=>hs a s Q' e hp) fun e pd=>hq (congrArg (· +1) e) pd)
end
section
variable {L:ic}
noncomputable def yU(L:ic)(X:List Addr)(h:Heap)(i:Addr)(r:Bool×Addr)(k:Nat)(ps:List PV):Prop:=
 (r.1=false∧h.IsListIter i r.2 k∧VR L.prog L.w h X (.list ps) (.ref r.2))∨(r.1=true∧h.IsTupleIter i r.2 k∧VR L.prog L.w h X (.tup ps) (.ref r.2))
theorem yU.there{X:List Addr}{h:Heap}{i:Addr}{r:Bool×Addr}{k:Nat}{ps:List PV}(x:yU L X h i r k ps): ∃o,h.get? i=some o:=
 x.elim (fun x=>x.2.1.elim fun o y=>⟨o,y.1⟩) fun x=>x.2.1.elim fun o y=>⟨o,y.1⟩
theorem yU.up{X:List Addr}{h h':Heap}{i:Addr}{r:Bool×Addr}{k:Nat}{ps:List PV}(x:yU L X h i r k ps)(hi: ∀o,h.get? i=some o→h'.get? i=some o)(hk:Up h X h' X):yU L X h' i r k ps:=
 x.imp (fun x=>⟨x.1,x.2.1.at hi,x.2.2.up hk⟩) fun x=>⟨x.1,x.2.1.at hi,x.2.2.up hk⟩
theorem lN{X:List Addr}{h h':Heap}{i:Addr}(hi:i∈X)(hk:cX i h h'):Up h X h' X:=fun a o ha e=>⟨ha,hk a o (fun x=>ha (x▸hi)) e⟩
theorem yU.item{A:aH}{E:Value→aq→Prop}{X:List Addr}{s:aq}{i:Addr}{r:Bool×Addr}{k:Nat}{ps:List PV}{p:PV}{Q:Value→aq→Prop}(x:yU L X s.heap i r k ps)(hi:i∈X)(hp:ps[k]? =some p)
  (hQ: ∀v h',VR L.prog L.w h' X p v→yU L X h' i r (k+1) ps→fE i s.heap h'→Q v {s with heap:=h'}):wpAny L.M A (aD.SmallTypes.nextOf (.ref i)) Q E s:=by
 rcases x with⟨er,h1,h2⟩|⟨er,h1,h2⟩
 ·obtain⟨a,xs,n,e,ha,ho,hl⟩:=h2.listE
  have ho:=Value.ref.inj e▸ho
  exact hl.xF hp fun v hv hr=>wpAny_nextOf_list_item h1 ⟨_,ho,rfl,_,rfl⟩ hv fun h' nJ k9=>have u:=lN hi k9.extBut;hQ v h' (hr.up u) (.inl ⟨er,nJ,h2.up u⟩) k9
 ·obtain⟨a,xs,n,e,ha,ho,hl⟩:=h2.lY
  have ho:=Value.ref.inj e▸ho
  exact hl.xF hp fun v hv hr=>sr h1 ⟨_,ho,rfl,_,rfl⟩ hv fun h' nJ k9=>have u:=lN hi k9.extBut;hQ v h' (hr.up u) (.inr ⟨er,nJ,h2.up u⟩) k9
theorem yU.ends{A:aH}{E:Value→aq→Prop}{X:List Addr}{s:aq}{i:Addr}{r:Bool×Addr}{k:Nat}{ps:List PV}{Q:Value→aq→Prop}(x:yU L X s.heap i r k ps)(hh:Hd L A)(Iv:HI L s)(hi:L.exc≠none→L.look i=none)(hp:ps[k]? =none)
  (hE: ∀h' e,cX i s.heap h'→(∃o,h'.get? e=some o∧o.cls= .type "StopIteration")→E (.ref e) {s with heap:=h'}):wpAny L.M A (aD.SmallTypes.nextOf (.ref i)) Q E s:=by
 rcases x with⟨er,h1,h2⟩|⟨er,h1,h2⟩
 ·obtain⟨a,xs,n,e,ha,ho,hl⟩:=h2.listE
  have ho:=Value.ref.inj e▸ho
  exact uk cC dq (dA _) h1.typeIs (tc hh Iv h1 hi ⟨_,ho,rfl,_,rfl⟩ (aR (hl.size▸List.getElem?_eq_none_iff.mp hp))) hE
 ·obtain⟨a,xs,n,e,ha,ho,hl⟩:=h2.lY
  have ho:=Value.ref.inj e▸ho
  exact uk cz cY (cU _) h1.typeIs (ry hh Iv h1 hi ⟨_,ho,rfl,_,rfl⟩ (aR (hl.size▸List.getElem?_eq_none_iff.mp hp))) hE
end
end
section
open PySem PyProof.Rows
section
variable {L:ic}
structure Wu(L:ic)(X:List Addr)(sg:Heap)(z TI TO:Addr)(its:List Addr)(rs:Nat→Bool×Addr)(qS:List (List PV))(row:List PV)(k:Nat)(j:Nat)(h:Heap):Prop where
 hz:fB h z TI TO .ellipsis
 HB: ∃xs:Array Value,h.get? TO=some {cls:= .type "tuple",data:= .seq xs}∧xs.size=its.length∧ ∀(m:Nat) p,m<j→row[m]? =some p→ ∃v,xs[m]? =some v∧VR L.prog L.w h X p v
 Kz: ∀(m:Nat) i ps,its[m]? =some i→qS[m]? =some ps→yU L X h i (rs m) (if m<j then k+1 else k) ps
 kN: ∀b o,b∉z::TO::its→sg.get? b=some o→h.get? b=some o
 uq:h.objs.size=sg.objs.size
theorem KA{A:aH}{E:Value→aq→Prop}{s:aq}{T:Addr}{xs:Array Value}{x:Value}{k:Nat}{Q:Unit→aq→Prop}(hT:s.heap.get? T=some {cls:= .type "tuple",data:= .seq xs})(hsz:xs.size≤100)
  (h: ∀h',h'.get? T=some {cls:= .type "tuple",data:= .seq (xs.setIfInBounds k x)}→fE T s.heap h'→Q () {s with heap:=h'}):
  wpAny L.M A (updateSeq T (·.setIfInBounds k x)) Q E s:=by
 refine dX hT rfl (h _ ?_ (Heap.SameBut.update ..)) (Nat.le_trans hsz (by decide)) (by rw[Array.size_setIfInBounds];exact Nat.le_trans hsz (by decide))
 rw[bc _ hT rfl]
 simp[Obj.mapSeq]
theorem su{A:aH}{E:Value→aq→Prop}{X:List Addr}{s:aq}{z TI TO:Addr}{its:List Addr}{rs:Nat→Bool×Addr}{qS:List (List PV)}{row:List PV}{n k:Nat}{kO:Array Value}{Q:Value→aq→Prop}
  (hh:Hd L A)(Iv:HI L s)(M6:L.exc≠none→ ∀a∈z::TO::its,L.look a=none)(hz:fB s.heap z TI TO .none)(CY:s.heap.get? TI=some {cls:= .type "tuple",data:= .seq (its.map Value.ref).toArray})(AM:s.heap.get? TO=some {cls:= .type "tuple",data:= .seq kO})(hx:kO.size=its.length)
  (hn:(z::TO::its).Nodup)(iS:its≠[])(hJ:its.length≤100)(hX: ∀a∈z::TO::its,a∈X)(hp:qS.length=its.length)(Vj:row.length=its.length)(Gp:n≤its.length)(src: ∀(m:Nat) i ps,its[m]? =some i→qS[m]? =some ps→yU L X s.heap i (rs m) k ps)
  (HC: ∀(m:Nat) ps,m<n→qS[m]? =some ps→ ∃q,ps[k]? =some q∧row[m]? =some q)(HD: ∀ps,qS[n]? =some ps→ps[k]? =none)
  (hQ:n=its.length→ ∀h' xs,fB h' z TI TO (rawInt s.heap.objs.size)→h'.get? s.heap.objs.size=some {cls:= .type "tuple",data:= .seq xs}→gM L.prog L.w h' X row xs.toList→(∃ru:Array Value,h'.get? TO=some {cls:= .type "tuple",data:= .seq ru}∧ru.size=its.length)→
   (∀(m:Nat) i ps,its[m]? =some i→qS[m]? =some ps→yU L X h' i (rs m) (k+1) ps)→(∀b o,b∉z::TO::its→s.heap.get? b=some o→h'.get? b=some o)→Q (.ref s.heap.objs.size) {s with heap:=h'})
  (hE:n<its.length→ ∀h' e,(∀b o,b∉z::TO::its→s.heap.get? b=some o→h'.get? b=some o)→(∃o,h'.get? e=some o∧o.cls= .type "StopIteration")→E (.ref e) {s with heap:=h'}):
  wpAny L.M A (aD.«zip.__next__» ⟨[.ref z],[]⟩) (fun fin s'=> ∃v,fin= .done (.ret v)∧Q v s') E s:=by
 have mz:z∈z::TO::its:=az ..
 have mT:TO∈z::TO::its:=av _ (az ..)
 have mi: ∀{m:Nat} {i:Addr},its[m]? =some i→i∈z::TO::its:=fun h=>av _ (av _ (bu h))
 have Wv:=List.nodup_cons.mp hn
 have Vk:=List.nodup_cons.mp Wv.2
 have iz: ∀(m:Nat) i,its[m]? =some i→i≠z:=fun m i hi e=>Wv.1 (e▸av _ (bu hi))
 have iT: ∀(m:Nat) i,its[m]? =some i→i≠TO:=fun m i hi e=>Vk.1 (e▸bu hi)
 have OQ:TO≠z:=fun e=>Wv.1 (e▸az ..)
 show wpAny _ _ (field (.ref z) 2>>= _) _ _ _
 refine ao (aU hz rfl (x:= .bool false) rfl ?_)
 show wpAny _ _ (field (.ref z) 3>>= _) _ _ _
 refine ao (aU hz rfl (x:= .ref TI) rfl ?_)
 refine ao (bf CY rfl ?_)
 dsimp only
 rw[if_neg (by cases its with|nil=>exact absurd rfl iS|cons a r=>exact bl)]
 refine ao ?_
 unfold aD.SmallTypes.ownedTupleIsFree
 refine ao (aU hz rfl (x:= .none) rfl (aA ?_))
 simp only[if_true]
 refine ao (cS ?_)
 refine ao (aU hz rfl (x:= .ref TO) rfl ?_)
 refine ao (d7 hz (by simp) fun h₁ HE jk=> ?_)
 replace HE:fB h₁ z TI TO .ellipsis:=HE
 refine ao ?_
 refine CW (List.map Value.ref its).zipIdx (fun j s'=> ∃h,s'={s with heap:=h}∧Wu L X s.heap z TI TO its rs qS row k j h) n _ _ ⟨h₁,rfl,?_⟩ (by rw[List.length_zipIdx,aF];exact Gp) (fun m a s' Q' hmn ha hP CX=> ?_) (fun a s' Q' ha hP=> ?_) (fun Gp s' hP=> ?_)
 ·exact⟨HE,⟨kO,jk.extBut _ _ OQ AM,hx,fun m p h=>absurd h (dR _)⟩,fun m i ps hi hps=>(if_neg (dR m)).symm▸(src m i ps hi hps).up (fun o e=>jk.extBut _ o (iz m i hi) e) (lN (hX z mz) jk.extBut),fun b o hb e=>jk.extBut b o (fun x=>hb (x▸mz)) e,jk.1⟩
 ·obtain⟨h,rfl,am⟩:=hP
  rw[List.getElem?_zipIdx,aJ,Option.map_map] at ha
  obtain⟨i,hi,rfl⟩:=Option.map_eq_some_iff.mp ha
  have ZZ:m<qS.length:=by rw[hp];exact(List.getElem?_eq_some_iff.mp hi).1
  have hps:qS[m]? =some qS[m]:=aG ZZ
  obtain⟨q,hq,hrq⟩:=HC m _ hmn hps
  have Rx:=am.Kz m i _ hi hps
  rw[if_neg (bD _)] at Rx
  have Z0:i∈X:=hX i (mi hi)
  refine ao (fV ?_)
  show wpAny _ _ (aD.SmallTypes.nextOf (.ref i)>>= _) _ _ _
  refine ao (Rx.item Z0 hq fun v h₂ hv KC sv=>aA ?_)
  obtain⟨xs,Vl,KD,Ww⟩:=am.HB
  have HF:h₂.get? TO=some {cls:= .type "tuple",data:= .seq xs}:=sv.extBut _ _ (iT m i hi).symm Vl
  show wpAny _ _ (seqItems? (.ref TO)>>= _) _ _ _
  refine ao (bf HF rfl ?_)
  show wpAny _ _ (updateSeq TO (·.setIfInBounds (0+m) v)>>= _) _ _ _
  rw[cN]
  refine ao (KA HF (by rw[KD];exact hJ) fun h₃ OR sx=> ?_)
  refine ao (dT (aA (CX _ ⟨h₃,rfl,?_⟩)))
  have KG:Up h₂ X h₃ X:=lN (hX TO mT) sx.extBut
  have KH:Up h X h₂ X:=lN Z0 sv.extBut
  refine⟨sx.extBut _ _ OQ.symm (sv.extBut _ _ (iz m i hi).symm am.hz),⟨_,OR,by rw[Array.size_setIfInBounds];exact KD,fun m' p AJ hr=> ?_⟩,fun m' i' JT HG Ry=> ?_,fun b o hb e=>sx.extBut _ _ (fun x=>hb (x▸mT)) (sv.extBut _ _ (fun x=>hb (x▸mi hi)) (am.kN b o hb e)),sx.1.trans (sv.1.trans am.uq)⟩
  ·by_cases e:m'=m
   ·subst e
    obtain rfl:=Option.some.inj (hrq.symm.trans hr)
    exact⟨v,by rw[cV (by rw[KD,←hp];exact ZZ)],hv.up KG⟩
   ·obtain⟨v',oD,AH⟩:=Ww m' p (fA (fO AJ) e) hr
    exact⟨v',(fF (Ne.symm e)).trans oD,(AH.up KH).up KG⟩
  ·by_cases e:m'=m
   ·subst e
    obtain rfl:=Option.some.inj (hi.symm.trans HG)
    obtain rfl:=Option.some.inj (hps.symm.trans Ry)
    rw[if_pos (dE _)]
    exact KC.up (fun o e=>sx.extBut _ o (iT m' i hi) e) KG
   ·have:=am.Kz m' i' JT HG Ry
    have he:(m'<m+1)=(m'<m):=propext ⟨fun h=>fA (fO h) e,fun h=>fK h⟩
    simp only[he]
    exact(this.up (fun o x=>sv.extBut _ o (fun x=>e ((List.getElem?_inj (List.getElem?_eq_some_iff.mp HG).1 Vk.2).mp (HG.trans (x▸hi.symm)))) x) KH).up (fun o e=>sx.extBut _ o (iT m' i' HG) e) KG
 ·obtain⟨h,rfl,am⟩:=hP
  rw[List.getElem?_zipIdx,aJ,Option.map_map] at ha
  obtain⟨i,hi,rfl⟩:=Option.map_eq_some_iff.mp ha
  have Gp:n<its.length:=(List.getElem?_eq_some_iff.mp hi).1
  have hps:qS[n]? =some (qS[n]'(hp▸Gp)):=aG _
  have Rx:=am.Kz n _ _ hi hps
  rw[if_neg (bD _)] at Rx
  refine ao (fV ?_)
  show wpAny _ _ (aD.SmallTypes.nextOf (.ref i)>>= _) _ _ _
  refine ao (Rx.ends hh (fun x=>⟨fun a o e=>am.kN a o (fun hm=>g8 ((M6 x a hm).symm.trans e)) ((Iv x).ir a o e),(Iv x).bare⟩) (fun x=>M6 x _ (mi hi)) (HD _ hps) fun h₂ e sv he=> ?_)
  obtain⟨oe,Wx,MN⟩:=he
  have M7:fB h₂ z TI TO .ellipsis:=sv _ _ (iz n _ hi).symm am.hz
  have hez:e≠z:=fun x=>by subst x;rw[M7] at Wx;(first|exact VD Wx|cases Wx);exact absurd (Value.type.inj MN) (by decide)
  exact d7 M7 (by simp) fun h₃ _ sx=>hE Gp h₃ e (fun b o hb x=>sx.extBut _ _ (fun x=>hb (x▸mz)) (sv _ _ (fun x=>hb (x▸mi hi)) (am.kN b o hb x))) ⟨oe,sx.extBut _ _ hez Wx,MN⟩
 ·obtain⟨h,rfl,am⟩:=hP
  rw[List.length_zipIdx,aF] at Gp
  obtain⟨xs,Vl,KD,Ww⟩:=am.HB
  show wpAny _ _ (seqItems? (.ref TO)>>= _) _ _ _
  refine ao (bf Vl rfl ?_)
  refine ao (wpAny_newTuple ?_ (by rw[aW,KD];exact Nat.le_trans hJ (by decide)))
  show wpAny _ _ (aD.SmallTypes.ownedTupleHandOut (.ref z) (.ref h.objs.size)>>= _) _ _ _
  refine ao ?_
  unfold aD.SmallTypes.ownedTupleHandOut
  have Rz:fB (h.push {cls:= .type "tuple",data:= .seq xs.toList.toArray}) z TI TO .ellipsis:=aB _ am.hz
  refine ao (d7 Rz (by simp) fun Wy HH M8=> ?_)
  replace HH:fB Wy z TI TO (rawInt h.objs.size):=HH
  refine d7 HH (by simp) fun HJ D4 M9=> ?_
  replace D4:fB HJ z TI TO (rawInt h.objs.size):=D4
  have up: ∀c o,c≠z→h.get? c=some o→HJ.get? c=some o:=fun c o c1 e=>M9.extBut _ _ c1 (M8.extBut _ _ c1 (aB _ e))
  have RA:h.objs.size≠z:=dU (aI am.hz)
  have Na:HJ.get? h.objs.size=some {cls:= .type "tuple",data:= .seq xs.toList.toArray}:=M9.extBut _ _ RA (M8.extBut _ _ RA (aE _ rfl))
  have u:Up h X HJ X:=fun a o ha e=>⟨ha,up a o (fun x=>ha (x▸hX z mz)) e⟩
  rw[am.uq] at D4 Na
  refine aA ⟨_,rfl,?_⟩
  show Q (.ref h.objs.size) _
  rw[am.uq]
  refine hQ Gp HJ _ D4 Na (gM.Hr (by rw[bM,aW,KD,Vj]) fun j p v hp hv=> ?_) ⟨xs,up _ _ OQ Vl,KD⟩ (fun m i ps hi hps=> ?_) fun b o hb e=>up b o (fun x=>hb (x▸mz)) (am.kN b o hb e)
  ·obtain⟨v',oD,AH⟩:=Ww j p (by rw[Gp,←Vj];exact(List.getElem?_eq_some_iff.mp hp).1) hp
   rw[bM,bF,oD] at hv
   exact Option.some.inj hv▸AH.up u
  ·have:=am.Kz m i ps hi hps
   rw[if_pos (Gp▸(List.getElem?_eq_some_iff.mp hi).1)] at this
   exact this.up (fun o e=>up _ o (iz m i hi) e) u
end
end
section
open PySem PyProof.Rows
section
variable {L:ic}
structure Rows(qS:List (List PV))(ps:List PV):Prop where
 row: ∀(k:Nat) p,ps[k]? =some p→ ∃row,p= .tup row∧row.length=qS.length∧ ∀(m:Nat) l,qS[m]? =some l→ ∃q,l[k]? =some q∧row[m]? =some q
 stop: ∃n,(∀(m:Nat) l,m<n→qS[m]? =some l→ ∃q,l[ps.length]? =some q)∧ ∃l,qS[n]? =some l∧l[ps.length]? =none
theorem It.zip{X:List Addr}{z TI TO:Addr}{its:List Addr}{rs:Nat→Bool×Addr}{qS:List (List PV)}{ps:List PV}(hn:(z::TO::its).Nodup)(iS:its≠[])(hJ:its.length≤100)(hX: ∀a∈z::TO::its,a∈X)(RB:TI∉X)(kC:L.tb∉z::TO::its)(hp:qS.length=its.length)(hr:Rows qS ps):
  It L X (z::TO::its) z ps (fun k h=>fB h z TI TO .none∧h.get? TI=some {cls:= .type "tuple",data:= .seq (its.map Value.ref).toArray}∧(∃kO:Array Value,h.get? TO=some {cls:= .type "tuple",data:= .seq kO}∧kO.size=its.length)∧
   ∀(m:Nat) i l,its[m]? =some i→qS[m]? =some l→yU L X h i (rs m) k l) true where
 Ol:=hX
 there:=fun k h st=>st.2.2.1.elim fun xs h3=>kF ⟨_,st.1⟩ (kF ⟨_,h3.1⟩ fun a ha=>(dH ha).elim fun m e=>(st.2.2.2 m a _ e (aG (hp▸(List.getElem?_eq_some_iff.mp e).1))).there)
 frame:=fun k h h' st hk=>⟨hk z _ (fun _=>uP) st.1,hk TI _ (fun h=>absurd h RB) st.2.1,st.2.2.1.elim fun xs h3=>⟨xs,hk TO _ (fun _=>in1) h3.1,h3.2⟩,fun m i l hi hl=>(st.2.2.2 m i l hi hl).up (fun o e=>hk i o (fun _=>av _ (av _ (bu hi))) e) fun a o ha e=>⟨ha,hk a o (fun h=>absurd h ha) e⟩⟩
 self:=fun A k s Q E st hQ=>dO st.1 hQ
 turn:=fun A k s p Q E G8 R x Iv st hpk Rk hQ=>by
  obtain⟨h1,h2,⟨xs,h3,Wz⟩,h4⟩:=st
  obtain⟨row,rfl,Vj,HC⟩:=hr.row k p hpk
  obtain⟨es,kk,pp,rfl⟩:=rz (Rk rfl)
  have HK:s.TypeIs (.ref z) "zip":=⟨_,h1,rfl⟩
  unfold pyNext
  refine ao (dw (bg (name:=Str.ofString "__next__") HK cE
   (bH cE HK eN (su (n:=its.length) R.handled (fun _=>Iv) (fun _ a ha=>x.look a (hX a ha)) h1 h2 h3 Wz hn iS hJ hX hp (Vj.trans hp) (br _) h4 (fun m l _ hl=>HC m l hl) (fun l hl=>g8 ((cR (bt hp)).symm.trans hl)) (fun _ h' ru k1 k2 k3 k4 k5 k6=> ?_) fun h=>absurd h (bD _)) (ei _))))
  refine aA ⟨_,rfl,wpAny_letOwnedTupleGo_zip k1 fun qD l1 ls=> ?_⟩
  have hk: ∀b o,b∉z::TO::its→s.heap.get? b=some o→qD.get? b=some o:=fun b o hb e=>ls.extBut b o (fun x=>hb (x▸uP)) (k6 b o hb e)
  have Z1:Up h' X qD X:=lN (hX z uP) ls.extBut
  have RC:TO≠z:=fun e=>(List.nodup_cons.mp hn).1 (e▸uP)
  obtain⟨ys,Z2,k4b⟩:=k4
  have RD: ∀(m:Nat) i l,its[m]? =some i→qS[m]? =some l→yU L X qD i (rs m) (k+1) l:=fun m i l hi hl=>(k5 m i l hi hl).up (fun o e=>ls.extBut _ o (fun e=>(List.nodup_cons.mp hn).1 (e▸av _ (bu hi))) e) Z1
  exact hQ _ _ (.intro _ ⟨_,_,rfl,x.size,ls.extBut _ _ (dU (aI h1)) k2,k3.up Z1⟩) ⟨l1,hk _ _ (fun h=>RB (hX _ h)) h2,⟨ys,ls.extBut _ _ RC Z2,k4b⟩,RD⟩ (gO.rA Iv x hX hk _)
   (x.rA hX hk kC (kF ⟨_,l1⟩ (kF ⟨_,ls.extBut _ _ RC Z2⟩ fun a ha=>(dH ha).elim fun m e=>(RD m a _ e (aG (hp▸(List.getElem?_eq_some_iff.mp e).1))).there)))
 done:=fun A s Q E R x Iv st hQ=>by
  obtain⟨h1,h2,⟨xs,h3,Wz⟩,h4⟩:=st
  obtain⟨n,HC,l,hl,HD⟩:=hr.stop
  have Gp:n<its.length:=hp▸(List.getElem?_eq_some_iff.mp hl).1
  have HK:s.TypeIs (.ref z) "zip":=⟨_,h1,rfl⟩
  unfold pyNext
  refine ao (dw (bg (name:=Str.ofString "__next__") HK cE
   (bH cE HK eN (su (n:=n) (row:=qS.map fun l=>l.getD ps.length .none) R.handled (fun _=>Iv) (fun _ a ha=>x.look a (hX a ha)) h1 h2 h3 Wz hn iS hJ hX hp ((aF _).trans hp) (cD Gp) h4
    (fun m l hm hl=>(HC m l hm hl).elim fun q hq=>⟨q,hq,by rw[aJ,hl,eu,aS,hq];rfl⟩) (fun l' jA=>Option.some.inj (hl.symm.trans jA)▸HD) (fun e=>absurd e (eG Gp)) fun _ h' e hk he=> ?_) (ei _))))
  obtain⟨o,ho,hc⟩:=he
  exact ao (dh (T:="StopIteration") (b:=true) ⟨o,ho,hc⟩ fu (aA (hQ _ (gO.rA Iv x hX hk _) hk)))
end
end
section
open PySem PyProof.Rows
theorem wC(a b c:Value):checkTypeCall "zip" ⟨[a,b,c],[]⟩=pure ():= (by kernel_rfl)
theorem xT(a b c:Value):checkBuiltinCall "zip.__new__" ⟨[.type "zip",a,b,c],[]⟩=pure ():= (by kernel_rfl)
theorem rG(a b c d:Value):argsOk "object.__init__" ⟨[a,b,c,d],[]⟩:=by
 unfold argsOk;rw[signature?_of (id:="object.__init__") (n:=['_','_','t','i','n','i','_','_']) (o:=['t','c','e','j','b','o']) (by kernel_rfl) F.owner_object];kernel_rfl
noncomputable def seqObj(t:Bool)(xs:Array Value)(n:Nat):Obj:={cls:= .type (if t then "tuple" else "list"),data:= .seq xs n}
noncomputable def n5(t:Bool)(a:Addr):Obj:={cls:= .type (if t then "tuple_iterator" else "list_iterator"),data:= .fields #[.ref a,.int 0 0]}
theorem mP{prog:Program}{w:cL}{A:aH}{E:Value→aq→Prop}{s:aq}{t:Bool}{a:Addr}{xs:Array Value}{n:Nat}{Q:Value→aq→Prop}(h:s.heap.get? a=some (seqObj t xs n))
  (hQ:Q (.ref s.heap.objs.size) {s with heap:=s.heap.push (n5 t a)}):wpAny (model prog w) A (pyIter (.ref a)) Q E s:=by
 skip;(first|exact VD t|cases t)
 ·exact cZ ⟨_,h,rfl,_,rfl⟩ hQ
 ·exact wpAny_pyIter_tuple ⟨_,h,rfl,_,rfl⟩ hQ
noncomputable abbrev n6(h:Heap)(t:Bool)(a:Addr):Heap:=h.push (n5 t a)
noncomputable abbrev WA(h:Heap)(t1 t2:Bool)(a b:Addr):Heap:=
 (((n6 (n6 h t1 a) t2 b).push {cls:= .type "tuple",data:= .seq #[.ref h.objs.size,.ref (n6 h t1 a).objs.size]}).push {cls:= .type "tuple",data:= .seq #[.none,.none]})
noncomputable abbrev WB(h:Heap)(t1 t2 t3:Bool)(a b c:Addr):Heap:=
 (((n6 (n6 (n6 h t1 a) t2 b) t3 c).push {cls:= .type "tuple",data:= .seq #[.ref h.objs.size,.ref (n6 h t1 a).objs.size,.ref (n6 (n6 h t1 a) t2 b).objs.size]}).push {cls:= .type "tuple",data:= .seq #[.none,.none,.none]})
theorem HL(t1 t2:Bool)(a b:Addr)(xs ys:Array Value)(n m:Nat):
  Meets (aD.«zip.__new__» ⟨[.type "zip",.ref a,.ref b],[]⟩) (fun _ R s=>s.heap.get? a=some (seqObj t1 xs n)∧s.heap.get? b=some (seqObj t2 ys m)∧
   R (.ok (.ret (.ref (WA s.heap t1 t2 a b).objs.size))) {s with heap:=(WA s.heap t1 t2 a b).push {cls:= .type "zip",data:= .fields #[.none,.bool false,.bool false,.ref (n6 (n6 s.heap t1 a) t2 b).objs.size,.ref ((n6 (n6 s.heap t1 a) t2 b).push {cls:= .type "tuple",data:= .seq #[.ref s.heap.objs.size,.ref (n6 s.heap t1 a).objs.size]}).objs.size]}}):=
 .of_wp fun prog w A R s h=>by
  obtain⟨hp,g,d,tk,os⟩:=s;obtain⟨JU,KI,h⟩:=h
  have KJ:=sub_zip
  have WC:Heap.get? (aq.heap ⟨hp,g,d,tk,os⟩) a=some (seqObj t1 xs n):=JU
  have WD:Heap.get? (aq.heap ⟨hp.push (n5 t1 a),g,d,tk,os⟩) b=some (seqObj t2 ys m):=aB _ KI
  wp_walk using mP WC,mP WD
  exact⟨_,rfl,h⟩
set_option maxHeartbeats 4000000 in
theorem HM(t1 t2 t3:Bool)(a b c:Addr)(xs ys zs:Array Value)(n m l:Nat):
  Meets (aD.«zip.__new__» ⟨[.type "zip",.ref a,.ref b,.ref c],[]⟩) (fun _ R s=>s.heap.get? a=some (seqObj t1 xs n)∧s.heap.get? b=some (seqObj t2 ys m)∧s.heap.get? c=some (seqObj t3 zs l)∧
   R (.ok (.ret (.ref (WB s.heap t1 t2 t3 a b c).objs.size))) {s with heap:=(WB s.heap t1 t2 t3 a b c).push {cls:= .type "zip",data:= .fields #[.none,.bool false,.bool false,.ref (n6 (n6 (n6 s.heap t1 a) t2 b) t3 c).objs.size,.ref ((n6 (n6 (n6 s.heap t1 a) t2 b) t3 c).push {cls:= .type "tuple",data:= .seq #[.ref s.heap.objs.size,.ref (n6 s.heap t1 a).objs.size,.ref (n6 (n6 s.heap t1 a) t2 b).objs.size]}).objs.size]}}):=
 .of_wp fun prog w A R s h=>by
  obtain⟨hp,g,d,tk,os⟩:=s;obtain⟨JU,KI,hl3,h⟩:=h
  have KJ:=sub_zip
  have WC:Heap.get? (aq.heap ⟨hp,g,d,tk,os⟩) a=some (seqObj t1 xs n):=JU
  have WD:Heap.get? (aq.heap ⟨hp.push (n5 t1 a),g,d,tk,os⟩) b=some (seqObj t2 ys m):=aB _ KI
  have hL3:Heap.get? (aq.heap ⟨(hp.push (n5 t1 a)).push (n5 t2 b),g,d,tk,os⟩) c=some (seqObj t3 zs l):=aB _ (aB _ hl3)
  wp_walk using mP WC,mP WD,mP hL3
  exact⟨_,rfl,h⟩
end
section
open PySem PyProof.Rows
structure sy(h:Heap)(ts:List (Bool×Addr))(h':Heap)(z:Addr)(TI TO:Addr)(its:List Addr):Prop where
 hz:fB h' z TI TO .none
 CY:h'.get? TI=some {cls:= .type "tuple",data:= .seq (its.map Value.ref).toArray}
 AM: ∃kO:Array Value,h'.get? TO=some {cls:= .type "tuple",data:= .seq kO}∧kO.size=its.length
 nd:(z::TO::its).Nodup
 apart:TI∉z::TO::its
 len:its.length=ts.length
 KL: ∀(m:Nat) i t,its[m]? =some i→ts[m]? =some t→h'.get? i=some (n5 t.1 t.2)
 new: ∀a,a=TI∨a∈z::TO::its→h.objs.size≤a
 keep: ∀b o,h.get? b=some o→h'.get? b=some o
theorem Z3(n:Nat){l:List Nat}(h:l.Nodup):(l.map (n+ ·)).Nodup:=List.Pairwise.map _ (fun _ _ Ct e=>Ct (Nat.add_left_cancel e)) h
theorem Z4{n k:Nat}{l:List Nat}(h:k∉l):n+k∉l.map (n+ ·):=fun x=>(List.mem_map.mp x).elim fun _ y=>h (Nat.add_left_cancel y.2▸y.1)
theorem Z5{n k a:Nat}{l:List Nat}(h:a=n+k∨a∈l.map (n+ ·)):n≤a:=h.elim (fun e=>e▸c7 ..) fun x=>(List.mem_map.mp x).elim fun _ y=>y.2▸c7 ..
theorem Vk(n:Nat):([n+4,n+3,n,n+1]:List Nat).Nodup:=Z3 n (l:=[4,3,0,1]) (by decide)
theorem nm2(n:Nat):n+2∉([n+4,n+3,n,n+1]:List Nat):=Z4 (l:=[4,3,0,1]) (by decide)
theorem ge2(n a:Nat)(h:a=n+2∨a∈([n+4,n+3,n,n+1]:List Nat)):n≤a:=Z5 (l:=[4,3,0,1]) h
theorem nd3(n:Nat):([n+5,n+4,n,n+1,n+2]:List Nat).Nodup:=Z3 n (l:=[5,4,0,1,2]) (by decide)
theorem nm3(n:Nat):n+3∉([n+5,n+4,n,n+1,n+2]:List Nat):=Z4 (l:=[5,4,0,1,2]) (by decide)
theorem ge3(n a:Nat)(h:a=n+3∨a∈([n+5,n+4,n,n+1,n+2]:List Nat)):n≤a:=Z5 (l:=[5,4,0,1,2]) h
theorem yV{prog:Program}{w:cL}{A:aH}{E:Value→aq→Prop}{s:aq}{t1 t2:Bool}{a b:Addr}{xs ys:Array Value}{n m:Nat}{Q:Value→aq→Prop}(h1:s.heap.get? a=some (seqObj t1 xs n))(h2:s.heap.get? b=some (seqObj t2 ys m))
  (hQ: ∀h' z TI TO its,sy s.heap [(t1,a),(t2,b)] h' z TI TO its→Q (.ref z) {s with heap:=h'}):wpAny (model prog w) A (call (.type "zip") [.ref a,.ref b]) Q E s:=by
 refine callType_new F.called_zip (by decide) (F.typeCall_zip_2 _ _) (F.newCall_zip_2 _ _) (fun obj=>F.args_object_init_3 obj _ _) F.entry_zip_new
  (HL t1 t2 a b xs ys n m) ⟨h1,h2,?_⟩
 have z1:(n6 s.heap t1 a).objs.size=s.heap.objs.size+1:=aZ ..
 have z2:(n6 (n6 s.heap t1 a) t2 b).objs.size=s.heap.objs.size+2:=by rw[aZ,z1]
 generalize e3:(n6 (n6 s.heap t1 a) t2 b).push {cls:= .type "tuple",data:= .seq #[.ref s.heap.objs.size,.ref (n6 s.heap t1 a).objs.size]}=H3
 have z3:H3.objs.size=s.heap.objs.size+3:=by rw[←e3,aZ,z2]
 have WE:WA s.heap t1 t2 a b=H3.push {cls:= .type "tuple",data:= .seq #[.none,.none]}:=by rw[←e3]
 rw[WE]
 have z4:(H3.push {cls:= .type "tuple",data:= .seq #[.none,.none]}).objs.size=s.heap.objs.size+4:=by rw[aZ,z3]
 rw[z4,z3,z2]
 have k3: ∀c o,s.heap.get? c=some o→H3.get? c=some o:=fun c o x=>by rw[←e3];exact aB _ (aB _ (aB _ x))
 have g1:H3.get? s.heap.objs.size=some (n5 t1 a):=by rw[←e3];exact aB _ (aB _ (aE _ rfl))
 have g2:H3.get? (s.heap.objs.size+1)=some (n5 t2 b):=by rw[←e3,←z1];exact aB _ (aE _ rfl)
 have g3:H3.get? (s.heap.objs.size+2)=some {cls:= .type "tuple",data:= .seq #[.ref s.heap.objs.size,.ref (s.heap.objs.size+1)]}:=by rw[←e3,←z2,←z1];exact aE _ rfl
 have up: ∀(o1 o2:Obj) c o,H3.get? c=some o→((H3.push o1).push o2).get? c=some o:=fun o1 o2 c o x=>aB _ (aB _ x)
 have RE:((H3.push {cls:= .type "tuple",data:= .seq #[.none,.none]}).push {cls:= .type "zip",data:= .fields #[.none,.bool false,.bool false,.ref (s.heap.objs.size+2),.ref (s.heap.objs.size+3)]}).get? (s.heap.objs.size+4)=some {cls:= .type "zip",data:= .fields #[.none,.bool false,.bool false,.ref (s.heap.objs.size+2),.ref (s.heap.objs.size+3)]}:=by rw[←z4];exact aE _ rfl
 refine⟨⟨_,RE,rfl⟩,hQ _ (s.heap.objs.size+4) (s.heap.objs.size+2) (s.heap.objs.size+3) [s.heap.objs.size,s.heap.objs.size+1] ⟨RE,up _ _ _ _ g3,⟨#[.none,.none],by rw[←z3];exact aB _ (aE _ rfl),rfl⟩,?_,?_,rfl,fun j i t hi ht=> ?_,fun a ha=> ?_,fun c o x=>up _ _ c o (k3 c o x)⟩⟩
 ·exact Vk _
 ·exact nm2 _
 ·match j,hi,ht with
  |0,hi,ht=>(first|exact VD hi|cases hi);(first|exact VD ht|cases ht);exact up _ _ _ _ g1
  |1,hi,ht=>(first|exact VD hi|cases hi);(first|exact VD ht|cases ht);exact up _ _ _ _ g2
  |j+2,hi,_=>simp at hi
 ·exact ge2 _ _ ha
theorem E4{prog:Program}{w:cL}{A:aH}{E:Value→aq→Prop}{s:aq}{t1 t2 t3:Bool}{a b d:Addr}{xs ys zs:Array Value}{n m l:Nat}{Q:Value→aq→Prop}(h1:s.heap.get? a=some (seqObj t1 xs n))(h2:s.heap.get? b=some (seqObj t2 ys m))(h3:s.heap.get? d=some (seqObj t3 zs l))
  (hQ: ∀h' z TI TO its,sy s.heap [(t1,a),(t2,b),(t3,d)] h' z TI TO its→Q (.ref z) {s with heap:=h'}):wpAny (model prog w) A (call (.type "zip") [.ref a,.ref b,.ref d]) Q E s:=by
 refine callType_new F.called_zip (by decide) (wC _ _ _) (xT _ _ _) (fun obj=>rG obj _ _ _) F.entry_zip_new
  (HM t1 t2 t3 a b d xs ys zs n m l) ⟨h1,h2,h3,?_⟩
 have z1:(n6 s.heap t1 a).objs.size=s.heap.objs.size+1:=aZ ..
 have z2:(n6 (n6 s.heap t1 a) t2 b).objs.size=s.heap.objs.size+2:=by rw[aZ,z1]
 have WG:(n6 (n6 (n6 s.heap t1 a) t2 b) t3 d).objs.size=s.heap.objs.size+3:=by rw[aZ,z2]
 generalize e3:(n6 (n6 (n6 s.heap t1 a) t2 b) t3 d).push {cls:= .type "tuple",data:= .seq #[.ref s.heap.objs.size,.ref (n6 s.heap t1 a).objs.size,.ref (n6 (n6 s.heap t1 a) t2 b).objs.size]}=H3
 have z3:H3.objs.size=s.heap.objs.size+4:=by rw[←e3,aZ,WG]
 have WE:WB s.heap t1 t2 t3 a b d=H3.push {cls:= .type "tuple",data:= .seq #[.none,.none,.none]}:=by rw[←e3]
 rw[WE]
 have z4:(H3.push {cls:= .type "tuple",data:= .seq #[.none,.none,.none]}).objs.size=s.heap.objs.size+5:=by rw[aZ,z3]
 rw[z4,z3,WG]
 have k3: ∀c o,s.heap.get? c=some o→H3.get? c=some o:=fun c o x=>by rw[←e3];exact aB _ (aB _ (aB _ (aB _ x)))
 have g1:H3.get? s.heap.objs.size=some (n5 t1 a):=by rw[←e3];exact aB _ (aB _ (aB _ (aE _ rfl)))
 have g2:H3.get? (s.heap.objs.size+1)=some (n5 t2 b):=by rw[←e3,←z1];exact aB _ (aB _ (aE _ rfl))
 have g2':H3.get? (s.heap.objs.size+2)=some (n5 t3 d):=by rw[←e3,←z2];exact aB _ (aE _ rfl)
 have g3:H3.get? (s.heap.objs.size+3)=some {cls:= .type "tuple",data:= .seq #[.ref s.heap.objs.size,.ref (s.heap.objs.size+1),.ref (s.heap.objs.size+2)]}:=by rw[←e3,←WG,←z2,←z1];exact aE _ rfl
 have up: ∀(o1 o2:Obj) c o,H3.get? c=some o→((H3.push o1).push o2).get? c=some o:=fun o1 o2 c o x=>aB _ (aB _ x)
 have RE:((H3.push {cls:= .type "tuple",data:= .seq #[.none,.none,.none]}).push {cls:= .type "zip",data:= .fields #[.none,.bool false,.bool false,.ref (s.heap.objs.size+3),.ref (s.heap.objs.size+4)]}).get? (s.heap.objs.size+5)=some {cls:= .type "zip",data:= .fields #[.none,.bool false,.bool false,.ref (s.heap.objs.size+3),.ref (s.heap.objs.size+4)]}:=by rw[←z4];exact aE _ rfl
 refine⟨⟨_,RE,rfl⟩,hQ _ (s.heap.objs.size+5) (s.heap.objs.size+3) (s.heap.objs.size+4) [s.heap.objs.size,s.heap.objs.size+1,s.heap.objs.size+2] ⟨RE,up _ _ _ _ g3,⟨#[.none,.none,.none],by rw[←z3];exact aB _ (aE _ rfl),rfl⟩,?_,?_,rfl,fun j i t hi ht=> ?_,fun a ha=> ?_,fun c o x=>up _ _ c o (k3 c o x)⟩⟩
 ·exact nd3 _
 ·exact nm3 _
 ·match j,hi,ht with
  |0,hi,ht=>(first|exact VD hi|cases hi);(first|exact VD ht|cases ht);exact up _ _ _ _ g1
  |1,hi,ht=>(first|exact VD hi|cases hi);(first|exact VD ht|cases ht);exact up _ _ _ _ g2
  |2,hi,ht=>(first|exact VD hi|cases hi);(first|exact VD ht|cases ht);exact up _ _ _ _ g2'
  |j+3,hi,_=>simp at hi
 ·exact ge3 _ _ ha
end
section
open PySem PyProof.Rows
section
variable {L:ic} {sc:Scope} {σ:gJ} {own:List Str} {k:Nat}
noncomputable def wD:List PV→List PV→List PV
 |a::as,b::bs=> .tup [a,b]::wD as bs
 |_,_=>[]
noncomputable def uS:List PV→List PV→List PV→List PV
 |a::as,b::bs,c::cs=> .tup [a,b,c]::uS as bs cs
 |_,_,_=>[]
theorem HN: ∀(a b:List PV) (k:Nat) p,(wD a b)[k]? =some p→ ∃x y,a[k]? =some x∧b[k]? =some y∧p= .tup [x,y]:=by
 intro a
 induction a with
 |nil=>exact @fun _ _ _ h=>g8 h
 |cons x as hV=>exact fun
  |y::bs,0,p,h=>⟨x,y,rfl,rfl,(Option.some.inj h).symm⟩
  |y::bs,k+1,p,h=>hV bs k p h
  |[],_,_,h=>g8 h
theorem E5: ∀(a b:List PV),a[(wD a b).length]? =none∨(∃x,a[(wD a b).length]? =some x)∧b[(wD a b).length]? =none:=by
 intro a
 induction a with
 |nil=>exact @fun _=> .inl rfl
 |cons q0 as hV=>exact fun
  |_::bs=>hV bs
  |[]=> .inr ⟨⟨q0,rfl⟩,rfl⟩
theorem HO: ∀(a b c:List PV) (k:Nat) p,(uS a b c)[k]? =some p→ ∃x y z,a[k]? =some x∧b[k]? =some y∧c[k]? =some z∧p= .tup [x,y,z]:=by
 intro a
 induction a with
 |nil=>exact @fun _ _ _ _ h=>g8 h
 |cons x as hV=>exact fun
  |y::bs,z::cs,0,p,h=>⟨x,y,z,rfl,rfl,rfl,(Option.some.inj h).symm⟩
  |y::bs,z::cs,k+1,p,h=>hV bs cs k p h
  |[],_,_,_,h=>g8 h
  |_::_,[],_,_,h=>g8 h
theorem E6: ∀(a b c:List PV),a[(uS a b c).length]? =none∨(∃x,a[(uS a b c).length]? =some x)∧(b[(uS a b c).length]? =none∨(∃x,b[(uS a b c).length]? =some x)∧c[(uS a b c).length]? =none):=by
 intro a
 induction a with
 |nil=>exact @fun _ _=> .inl rfl
 |cons q0 as hV=>exact fun
  |_::bs,_::cs=>hV bs cs
  |[],_=> .inr ⟨⟨q0,rfl⟩,.inl rfl⟩
  |y::_,[]=> .inr ⟨⟨q0,rfl⟩,.inr ⟨⟨y,rfl⟩,rfl⟩⟩
theorem Rows.two(a b:List PV):Rows [a,b] (wD a b) where
 row:=fun k p h=>(HN a b k p h).elim fun x h=>h.elim fun y h=>⟨_,h.2.2,rfl,fun
  |0,l,hl=>⟨x,Option.some.inj hl▸h.1,rfl⟩
  |1,l,hl=>⟨y,Option.some.inj hl▸h.2.1,rfl⟩
  |_+2,_,hl=>g8 hl⟩
 stop:=(E5 a b).elim (fun h=>⟨0,fun m l hm=>absurd hm (dR _),a,rfl,h⟩) fun h=>⟨1,fun
  |0,l,_,hl=>Option.some.inj hl▸h.1
  |_+1,_,hm,_=>absurd hm (Nat.not_lt.mpr (cI (aC _))),b,rfl,h.2⟩
theorem Rows.three(a b c:List PV):Rows [a,b,c] (uS a b c) where
 row:=fun k p h=>(HO a b c k p h).elim fun x h=>h.elim fun y h=>h.elim fun z h=>⟨_,h.2.2.2,rfl,fun
  |0,l,hl=>⟨x,Option.some.inj hl▸h.1,rfl⟩
  |1,l,hl=>⟨y,Option.some.inj hl▸h.2.1,rfl⟩
  |2,l,hl=>⟨z,Option.some.inj hl▸h.2.2.1,rfl⟩
  |_+3,_,hl=>g8 hl⟩
 stop:=(E6 a b c).elim (fun h=>⟨0,fun m l hm=>absurd hm (dR _),a,rfl,h⟩) fun h=>h.2.elim (fun h2=>⟨1,fun
  |0,l,_,hl=>Option.some.inj hl▸h.1
  |_+1,_,hm,_=>absurd hm (Nat.not_lt.mpr (cI (aC _))),b,rfl,h2⟩) fun h2=>⟨2,fun
  |0,l,_,hl=>Option.some.inj hl▸h.1
  |1,l,_,hl=>Option.some.inj hl▸h2.1
  |_+2,_,hm,_=>absurd hm (Nat.not_lt.mpr (cI (cI (aC _)))),c,rfl,h2.2⟩
noncomputable def OS(t:Bool)(l:List PV):PV:=if t then .tup l else .list l
theorem n7{h:Heap}{X:List Addr}{p:PV}{l:List PV}{v:Value}(hp:pf p=some l)(hv:VR L.prog L.w h X p v): ∃t a xs n,v= .ref a∧h.get? a=some (seqObj t xs n)∧VR L.prog L.w h X (OS t l) (.ref a):=by
 cases p<;>try exact g8 hp
 ·(first|exact VD hp|cases hp);exact hv.elim fun a x=>x.elim fun xs x=>x.elim fun n x=>⟨true,a,xs,n,x.1,x.2.2.1,x.1▸hv⟩
 ·(first|exact VD hp|cases hp);exact hv.elim fun a x=>x.elim fun xs x=>x.elim fun n x=>⟨false,a,xs,n,x.1,x.2.2.1,x.1▸hv⟩
theorem yU.start{X:List Addr}{h:Heap}{i a:Addr}{t:Bool}{l:List PV}(hi:h.get? i=some (n5 t a))(hv:VR L.prog L.w h X (OS t l) (.ref a)):yU L X h i (t,a) 0 l:=by
 skip;(first|exact VD t|cases t)
 ·exact .inl ⟨rfl,⟨_,hi,rfl,rfl⟩,hv⟩
 ·exact .inr ⟨rfl,⟨_,hi,rfl,rfl⟩,hv⟩
theorem Bn{X:List Addr}{s s₁:aq}{h':Heap}{ts:List (Bool×Addr)}{z TI TO:Addr}{its:List Addr}{qS:List (List PV)}{ps:List PV}{Q:Value→aq→Prop}(M:sy s₁.heap ts h' z TI TO its)(WH:XO L X s.heap)(d:gI L X s s₁)(hr:Rows qS ps)(hp:qS.length=ts.length)(iS:ts≠[])(hJ:ts.length≤100)
  (Gm: ∀(m:Nat) t l,ts[m]? =some t→qS[m]? =some l→VR L.prog L.w s₁.heap X (OS t.1 l) (.ref t.2))
  (hQ: ∀I wr gQ,gI L X s gQ→XO L (wr++X) gQ.heap→(∀a∈wr,s.heap.get? a=none)→I∈wr→
   (∀X',(∀a∈X',a∈X∨a∈wr∨gQ.heap.get? a=none)→(∀a∈wr,a∈X')→ ∃St,It L X' wr I ps St true∧St 0 gQ.heap)→Q (.ref I) gQ):Q (.ref z) {s₁ with heap:=h'}:=by
 have RF: ∀a,s₁.heap.objs.size≤a→s₁.heap.get? a=none:=fun a ha=>by
  cases e':s₁.heap.get? a with
  |none=>rfl
  |some o=>exact absurd (aI e') (Nat.not_lt.mpr ha)
 obtain⟨kO,AM,wF⟩:=M.AM
 refine qv (wr:=z::TO::its) s₁.toks WH d M.keep (fun a ha=>RF a (M.new a (.inr ha))) (kF ⟨_,M.hz⟩ (kF ⟨_,AM⟩ fun a ha=>(dH ha).elim fun m e=>⟨_,M.KL m _ _ e (aG (M.len▸(List.getElem?_eq_some_iff.mp e).1))⟩)) uP hQ fun X' h1 h2 u hX=> ?_
 refine⟨_,It.zip (rs:=fun m=>(ts[m]?).getD (false,0)) (qS:=qS) M.nd (fun e=>iS (bw (M.len▸e▸rfl))) (M.len▸hJ) h1 (fun hm=>(hX TI hm).elim (d.xo.fresh (RF TI (M.new TI (.inl rfl)))) fun h=>h.elim M.apart fun h=>g8 (h.symm.trans M.CY)) (fun h=>h2 _ h rfl) (hp.trans M.len.symm) hr,M.hz,M.CY,⟨kO,AM,wF⟩,fun m i l hi hl=> ?_⟩
 have ht:ts[m]? =some (ts[m]'(M.len▸(List.getElem?_eq_some_iff.mp hi).1)):=aG _
 show yU L X' h' i ((ts[m]?).getD (false,0)) 0 l
 rw[ht]
 exact yU.start (M.KL m i _ hi ht) (VR.up u (Gm m _ l ht hl))
noncomputable def ur:List PV→Option (List PV)
 |[a,b]=>(pf a).bind fun x=>(pf b).map fun y=>wD x y
 |[a,b,c]=>(pf a).bind fun x=>(pf b).bind fun y=>(pf c).map fun z=>uS x y z
 |_=>none
theorem IE.zip{x:Str}{np pos:cM}{e:aN}{es:List aN}{f:List MV→Option (List PV)}(hx:sc.names.lookup x=some .globalImplicit)(hv:L.gl x=some (.type "zip"))(ha:LE L sc σ k (e::es) f)
  (he: ∀env,starEach (e::es) env=(false,eval e env)::starEach es env)(qE: ∀env,(starEach (e::es) env).any (·.1)=false)(hd:(x==("__debug__":Str))=false:=by decide):IE L sc σ k (.Call (.Name x np) (e::es) [] pos) true (fun ρ=>(f ρ).bind ur):=by
 intro env A X s ρ ps Q E R F I hf hQ
 replace hf:=Option.bind_eq_some_iff.mp hf
 obtain⟨qs,VW,hf⟩:=hf
 refine bT (aO (by rw[F.scope];exact F.kind) (by unfold b9.kindOf;rw[F.scope];exact hx) (L.rm s env A x _ _ E I.ir F.globals F.builtins.1 hv ?_) hd)
 refine si (.type _) ha he qE R F I VW fun vs s₁ jL d=> ?_
 rcases qs with _|⟨q1,_|⟨q2,_|⟨q3,_|⟨_,_⟩⟩⟩⟩
 ·exact g8 hf
 ·exact g8 hf
 ·replace hf:=Option.bind_eq_some_iff.mp hf
  obtain⟨l1,h1,hf⟩:=hf
  obtain⟨l2,h2,rfl⟩:=Option.map_eq_some_iff.mp hf
  obtain⟨v,u,rfl,hv,hu⟩:=gM.two jL
  obtain⟨t1,a,xs,n,rfl,D5,RG⟩:=n7 h1 hv
  obtain⟨t2,b,ys,m,rfl,JV,hr2⟩:=n7 h2 hu
  exact yV D5 JV fun h' z TI TO its M=>dO M.hz (Bn M F.xo d (Rows.two l1 l2) rfl (bZ _ _) (by decide:2≤100) (fun
   |0,t,l,ht,hl=>by (first|exact VD ht|cases ht);(first|exact VD hl|cases hl);exact RG
   |1,t,l,ht,hl=>by (first|exact VD ht|cases ht);(first|exact VD hl|cases hl);exact hr2
   |_+2,_,_,ht,_=>g8 ht) hQ)
 ·replace hf:=Option.bind_eq_some_iff.mp hf
  obtain⟨l1,h1,hf⟩:=hf
  replace hf:=Option.bind_eq_some_iff.mp hf
  obtain⟨l2,h2,hf⟩:=hf
  obtain⟨l3,h3,rfl⟩:=Option.map_eq_some_iff.mp hf
  obtain⟨v,u,y,rfl,hv,hu,hy⟩:=gM.three jL
  obtain⟨t1,a,xs,n,rfl,D5,RG⟩:=n7 h1 hv
  obtain⟨t2,b,ys,m,rfl,JV,hr2⟩:=n7 h2 hu
  obtain⟨t3,c,zs,l,rfl,RH,hr3⟩:=n7 h3 hy
  exact E4 D5 JV RH fun h' z TI TO its M=>dO M.hz (Bn M F.xo d (Rows.three l1 l2 l3) rfl (bZ _ _) (by decide:3≤100) (fun
   |0,t,l,ht,hl=>by (first|exact VD ht|cases ht);(first|exact VD hl|cases hl);exact RG
   |1,t,l,ht,hl=>by (first|exact VD ht|cases ht);(first|exact VD hl|cases hl);exact hr2
   |2,t,l,ht,hl=>by (first|exact VD ht|cases ht);(first|exact VD hl|cases hl);exact hr3
   |_+3,_,_,ht,_=>g8 ht) hQ)
 ·exact g8 hf
end
end
section
open PySem PySem.SeqAt PySem.MeetsSeq PySem.MeetsSeq2 PySem.MeetsSeq3 PySem.SeqRoads2
open PySem.AutoSeq1 (wpAny_loadPart')
noncomputable def E7(e o:PV→PV→Option Bool)(gt:Bool):List PV→List PV→Option Bool
 |[],[]=>some false
 |[],_::_=>some (!gt)
 |_::_,[]=>some gt
 |x::xs,y::ys=>(e x y).bind fun b=>if b then E7 e o gt xs ys else o x y
noncomputable def OT(gt:Bool)(k:List PV→List PV→Option Bool):PV→PV→Option Bool
 | .int a,q=>pg (fun b=>some (if gt then decide (b<a) else decide (a<b))) q
 | .list l,q=>mN (k l) q
 |_,_=>none
noncomputable def zI:Nat→Bool→PV→PV→Option Bool
 |0,gt,p,q=>OT gt (fun _ _=>none) p q
 |n+1,gt,p,q=>OT gt (E7 (qN n) (zI n gt) gt) p q
noncomputable def Qu(gt:Bool):CmpOp:=if gt then .Gt else .Lt
noncomputable def Bo(gt:Bool):Int:=if gt then 4 else 0
section
variable {L:ic} {A:aH} {R:fx→aq→Prop}
inductive xU (L:ic) (A:aH) (s:aq) (gt:Bool):List Value→List Value→Bool→Prop
 |nn:xU L A s gt [] [] false
 |nc {y ys}:xU L A s gt [] (y::ys) (!gt)
 |cn {x xs}:xU L A s gt (x::xs) [] gt
 |same {x y xs ys b}:AG L A.in1 s x y true→xU L A s gt xs ys b→xU L A s gt (x::xs) (y::ys) b
 |diff {x y xs ys b}:AG L A.in1 s x y false→(∀(E Q:Value→aq→Prop),Q (.bool b) s→wpAny L.M A.in1 (richCompare (Qu gt) x y) Q E s)→xU L A s gt (x::xs) (y::ys) b
set_option maxHeartbeats 4000000 in
theorem Bp{gt:Bool}{l b:Addr}{xs ys:Array Value}{n n2:Nat}{r:Bool}: ∀(us vs:List Value) (i:Nat) (s:aq),xs.toList.drop i=us→ys.toList.drop i=vs→i≤xs.size→i≤ys.size→
  s.heap.get? l=some {cls:= .type "list",data:= .seq xs n}→s.heap.get? b=some {cls:= .type "list",data:= .seq ys n2}→
  xU L A s gt us vs r→R (.ok (.ret (.bool r))) s→
  jB L A (aD.«list.__eq__.loop» ⟨[.ref l,.ref b,rawInt i,rawInt (Bo gt)],[]⟩) R s:=by
 intro us
 induction us with
 |nil=>
  intro vs i s hu hv hi hj hl hb ho h
  obtain⟨hp,g,d,tk,os⟩:=s
  have e1:xs.size≤i:=by
   have:=List.drop_eq_nil_iff.mp hu
   simpa using this
  have a1:xs[((i:Nat):Int).toNat]? =none:=by simp;omega
  cases gt<;>unfold jB<;>simp only[Bo,bp,if_false,if_true]<;>wp_walk using wpAny_loadPart' hl,wpAny_loadPart' hb<;>rw[a1]<;>wp_walk using wpAny_loadPart' hl,wpAny_loadPart' hb
  ·show R (.ok (.ret (.bool (decide (xs.size<ys.size))))) _
   cases ho with
   |nn=>
    have:=List.drop_eq_nil_iff.mp hv
    rw[decide_eq_false (by simp at this;omega)];exact h
   |nc=>
    have:i<ys.size:=by
     rcases ck i ys.size with h|h
     ·exact h
     ·rw[List.drop_eq_nil_iff.mpr (by simpa using h)] at hv;(first|exact VD hv|cases hv)
    rw[decide_eq_true (by omega)];exact h
  ·show R (.ok (.ret (.bool (decide (xs.size>ys.size))))) _
   cases ho with
   |nn=>
    rw[decide_eq_false (by omega)];exact h
   |nc=>rw[decide_eq_false (by omega)];exact h
 |cons x us ih=>
  intro vs i s hu hv hi hj hl hb ho h
  obtain⟨hp,g,d,tk,os⟩:=s
  have b1:i<xs.size:=by
   rcases ck i xs.size with h|h
   ·exact h
   ·rw[List.drop_eq_nil_iff.mpr (by simpa using h)] at hu;(first|exact VD hu|cases hu)
  have ex:xs[i]=x∧xs.toList.drop (i+1)=us:=by
   have:xs.toList.drop i=xs[i]::xs.toList.drop (i+1):=by simp[aK,b1]
   rw[this] at hu
   injection hu with h1 h2
   exact⟨h1,h2⟩
  have a1:xs[((i:Nat):Int).toNat]? =some x:=by simp[b1,ex.1]
  cases ho with
  |cn=>
   have e2:ys.size≤i:=by
    have:=List.drop_eq_nil_iff.mp hv
    simpa using this
   have a2:ys[((i:Nat):Int).toNat]? =none:=by simp;omega
   cases gt<;>unfold jB<;>simp only[Bo,bp,if_false,if_true]<;>wp_walk using wpAny_loadPart' hl,wpAny_loadPart' hb<;>rw[a1,a2]<;>wp_walk using wpAny_loadPart' hl,wpAny_loadPart' hb
   ·show R (.ok (.ret (.bool (decide (xs.size<ys.size))))) _
    rw[decide_eq_false (by omega)];exact h
   ·show R (.ok (.ret (.bool (decide (xs.size>ys.size))))) _
    rw[decide_eq_true (by omega)];exact h
  |same he hr=>
   rename_i y vs
   have b2:i<ys.size:=by
    rcases ck i ys.size with h|h
    ·exact h
    ·rw[List.drop_eq_nil_iff.mpr (by simpa using h)] at hv;(first|exact VD hv|cases hv)
   have ey:ys[i]=y∧ys.toList.drop (i+1)=vs:=by
    have:ys.toList.drop i=ys[i]::ys.toList.drop (i+1):=by simp[aK,b2]
    rw[this] at hv
    injection hv with h1 h2
    exact⟨h1,h2⟩
   have a2:ys[((i:Nat):Int).toNat]? =some y:=by simp[b2,ey.1]
   have a4:((i:Int)+1)=((i+1:Nat):Int):=by push_cast;rfl
   cases gt<;>unfold jB<;>simp only[Bo,bp,if_false,if_true]<;>wp_walk using wpAny_loadPart' hl,wpAny_loadPart' hb<;>rw[a1,a2]<;>refine ao (he _ _ ?_)<;>wp_walk<;>rw[a4]
   ·exact⟨bz plain_eq_loop _,ba entry_eq_loop (by
     rw[aM plain_eq_loop _]
     exact ih vs (i+1) _ ex.2 ey.2 (by omega) (by omega) hl hb hr h)⟩
   ·exact⟨bz plain_eq_loop _,ba entry_eq_loop (by
     rw[aM plain_eq_loop _]
     exact ih vs (i+1) _ ex.2 ey.2 (by omega) (by omega) hl hb hr h)⟩
  |diff he hr=>
   rename_i y vs
   have b2:i<ys.size:=by
    rcases ck i ys.size with h|h
    ·exact h
    ·rw[List.drop_eq_nil_iff.mpr (by simpa using h)] at hv;(first|exact VD hv|cases hv)
   have ey:ys[i]=y:=by
    have:ys.toList.drop i=ys[i]::ys.toList.drop (i+1):=by simp[aK,b2]
    rw[this] at hv
    injection hv with h1 h2
   have a2:ys[((i:Nat):Int).toNat]? =some y:=by simp[b2,ey]
   cases gt<;>unfold jB<;>simp only[Bo,bp,if_false,if_true]<;>wp_walk using wpAny_loadPart' hl,wpAny_loadPart' hb<;>rw[a1,a2]<;>refine ao (he _ _ ?_)<;>wp_walk using wpAny_loadPart' hl,wpAny_loadPart' hb<;>rw[a1,a2]
   ·refine ao (hr _ _ ?_)
    exact aA h
   ·refine ao (hr _ _ ?_)
    exact aA h
end
end
section
open PySem PySem.SeqAt PySem.MeetsSeq PySem.MeetsSeq2 PySem.MeetsSeq3 PySem.SeqRoads2
open PySem.AutoSeq1 (wpAny_loadPart')
section
variable {L:ic} {X:List Addr}
theorem HP{A:aH}{s:aq}{gt:Bool}{a b:Int}{t u:gh}{E Q:Value→aq→Prop}(h:Q (.bool (if gt then decide (b<a) else decide (a<b))) s):wpAny L.M A (richCompare (Qu gt) (.int a t) (.int b u)) Q E s:=by
 skip;(first|exact VD gt|cases gt)
 ·exact Flt.lt_num (a:= .int a t) (b:= .int b u) (.int _ _) (.int _ _) h
 ·exact Flt.gt_num (a:= .int a t) (b:= .int b u) (.int _ _) (.int _ _) h
theorem E8{A:aH}{s:aq}{gt r:Bool}{l b:Addr}{xs ys:Array Value}{n n2:Nat}{E Q:Value→aq→Prop}(hl:s.heap.get? l=some {cls:= .type "list",data:= .seq xs n})(hb:s.heap.get? b=some {cls:= .type "list",data:= .seq ys n2})(hu:A.units<cLine)
  (ho:xU L A s gt xs.toList ys.toList r)(h:Q (.bool r) s):wpAny L.M A (richCompare (Qu gt) (.ref l) (.ref b)) Q E s:=by
 skip;(first|exact VD gt|cases gt)
 ·refine bU (op:= .Lt) ⟨_,hl,rfl⟩ ⟨_,hb,rfl⟩ F.slot_list_lt (lq F.slot_list_lt ⟨_,hl,rfl⟩ F.entry_list_lt (F.args_list_lt_2 _ _) ?_) hu
  obtain⟨hp,g,d,tk,os⟩:=s
  have f3:=AutoSeq1.sub_list_list
  unfold jB
  wp_walk using wpAny_loadPart' hl,wpAny_loadPart' hb
  exact⟨bz plain_eq_loop _,ba entry_eq_loop (by
   rw[aM plain_eq_loop _]
   exact Bp (gt:=false) _ _ 0 _ rfl rfl (aC _) (aC _) hl hb ho ⟨(fun x=>nomatch x),h⟩)⟩
 ·refine bU (op:= .Gt) ⟨_,hl,rfl⟩ ⟨_,hb,rfl⟩ F.slot_list_gt (lq F.slot_list_gt ⟨_,hl,rfl⟩ F.entry_list_gt (F.args_list_gt_2 _ _) ?_) hu
  obtain⟨hp,g,d,tk,os⟩:=s
  have f3:=AutoSeq1.sub_list_list
  unfold jB
  wp_walk using wpAny_loadPart' hl,wpAny_loadPart' hb
  exact⟨bz plain_eq_loop _,ba entry_eq_loop (by
   rw[aM plain_eq_loop _]
   exact Bp (gt:=true) _ _ 0 _ rfl rfl (aC _) (aC _) hl hb ho ⟨(fun x=>nomatch x),h⟩)⟩
theorem OU{A:aH}{s:aq}{gt:Bool}{e o:PV→PV→Option Bool}(he: ∀p q v u b,VR L.prog L.w s.heap X p v→VR L.prog L.w s.heap X q u→e p q=some b→AG L A.in1 s v u b)
  (ho: ∀p q v u b,VR L.prog L.w s.heap X p v→VR L.prog L.w s.heap X q u→o p q=some b→ ∀(E Q:Value→aq→Prop),Q (.bool b) s→wpAny L.M A.in1 (richCompare (Qu gt) v u) Q E s):
  ∀{l m:List PV} {vs us:List Value} {r:Bool},gM L.prog L.w s.heap X l vs→gM L.prog L.w s.heap X m us→E7 e o gt l m=some r→xU L A s gt vs us r:=by
 intro l
 induction l with
 |nil=>
  intro m vs us r hl hm h
  subst hl
  cases m with
  |nil=>(first|exact VD hm|cases hm);(first|exact VD h|cases h);exact .nn
  |cons q qs=>obtain⟨u,us',rfl,_,_⟩:=hm.inv;(first|exact VD h|cases h);exact .nc
 |cons p ps ih=>
  intro m vs us r hl hm h
  obtain⟨v,JR,rfl,hv,jL⟩:=hl.inv
  cases m with
  |nil=>(first|exact VD hm|cases hm);(first|exact VD h|cases h);exact .cn
  |cons q qs=>
   obtain⟨u,us',rfl,hu,WI⟩:=hm.inv
   unfold E7 at h
   replace h:=Option.bind_eq_some_iff.mp h
   obtain⟨b,hb,h⟩:=h
   cases b with
   |true=>exact .same (he _ _ _ _ _ hv hu hb) (ih jL WI h)
   |false=>exact .diff (he _ _ _ _ _ hv hu hb) (ho _ _ _ _ _ hv hu h)
theorem OV{gt:Bool}: ∀(n:Nat) (A:aH) (s:aq) (p q:PV) (v u:Value) (r:Bool),VR L.prog L.w s.heap X p v→VR L.prog L.w s.heap X q u→zI n gt p q=some r→A.units+n+1<cLine→
  ∀(E Q:Value→aq→Prop),Q (.bool r) s→wpAny L.M A (richCompare (Qu gt) v u) Q E s:=by
 have key: ∀{k:List PV→List PV→Option Bool} {A:aH} {s:aq} {p q:PV} {v u:Value} {r:Bool},VR L.prog L.w s.heap X p v→VR L.prog L.w s.heap X q u→OT gt k p q=some r→A.units<cLine→(∀l m vs us,k l m=some r→gM L.prog L.w s.heap X l vs→gM L.prog L.w s.heap X m us→xU L A s gt vs us r)→
  ∀(E Q:Value→aq→Prop),Q (.bool r) s→wpAny L.M A (richCompare (Qu gt) v u) Q E s:=by
  intro k A s p q v u r hp hq h hu H E Q hQ
  cases p<;>try exact g8 h
  ·obtain⟨b,rfl,h⟩:=km h
   obtain⟨t,rfl⟩:=hp.jZ
   obtain⟨t',rfl⟩:=hq.jZ
   skip;(first|exact VD h|cases h)
   exact HP hQ
  ·obtain⟨m,rfl,h⟩:=js h
   obtain⟨a,xs,k,rfl,ha,ho,hl⟩:=id hp.listE
   obtain⟨a',ru,k',rfl,xE,lp,jA⟩:=id hq.listE
   exact E8 ho lp hu (H _ _ _ _ h hl jA) hQ
 intro n
 induction n with
 |zero=>exact fun A s p q v u r hp hq h hu=>key hp hq h (Nat.lt_of_succ_lt hu) fun l m vs us h=>g8 h
 |succ n ih=>
  intro A s p q v u r hp hq h hu
  have vE:A.in1.units+n+1<cLine:=by show A.units+1+n+1<cLine;omega
  exact key hp hq h (by omega) fun l m vs us h hl hm=>OU (fun p q v u b hv Cv hb=>AG.of (zu n _ _ _ _ _ _ _ hv Cv hb (by omega))) (fun p q v u b hv Cv hb=>ih _ _ _ _ _ _ _ hv Cv hb vE) hl hm h
end
end
section
open PySem PySem.SeqAt
section
variable {L:ic} {X:List Addr}
noncomputable def qT(gt:Bool):List PV→PV→Option PV
 |[],b=>some b
 |p::ps,b=>(zI 3 gt p b).bind fun y=>if y then qT gt ps p else qT gt ps b
theorem HQ{A:aH}{R:fx→aq→Prop}{ax I S:Addr}{ps:List PV}(hI:I∈X)(hS:S∈X)(KN:I≠S)(hh:A.handled=none)(hu:A.units+6<cLine): ∀(rest:List PV) (i:Nat) (s:aq) (best r:PV) (vb:Value) (c:Nat),ps.drop i=rest→i≤ps.length→
  VR L.prog L.w s.heap X (.list ps) (.ref ax)→s.heap.IsListIter I ax i→s.heap.get? S=some {cls:= .type "list",dict:=none,data:= .seq #[vb,vb] c,slots:= #[]}→VR L.prog L.w s.heap X best vb→qT true rest best=some r→
  (∀v h',VR L.prog L.w h' X r v→(∀b o,b≠I→b≠S→s.heap.get? b=some o→h'.get? b=some o)→R (.ok (.ret v)) {s with heap:=h'})→
  codeAny L.M A (.builtin "max.loop" ⟨[.ref I,.none,.ref S],[]⟩) R s:=by
 have yW:(toString "max"++toString ".loop":String)="max.loop":=by decide
 intro rest
 induction rest with
 |nil=>
  intro i s best r vb c hd hi hv hit hs hb hr hR
  skip;(first|exact VD hr|cases hr)
  obtain⟨a,xs,n,e,ha,ho,hl⟩:=id hv.listE
  skip;(first|exact VD e|cases e)
  have e1:=hl.length
  rw[aW] at e1
  have hn:xs[i]? =none:=by rw[aR];have:=List.drop_eq_nil_iff.mp hd;omega
  refine ba gq ?_
  rw[aM cJ _]
  show wpAny _ A.in1 (seqItems? (.ref S)>>= _) _ _ s
  refine ao (bf hs rfl ?_)
  show wpAny _ A.in1 (tryCatch (pyNext (.ref I)) _>>= _) _ _ s
  refine ao (d6 (wpAny_pyNext_list_end hh hit ⟨_,ho,rfl,_,rfl⟩ hn fun h' AK=> ?_))
  have Nb:=AK S _ KN.symm hs
  show wpAny _ A.in1 (updateSeq S (fun _=> #[])>>= _) _ _ _
  refine ao ?_
  refine dX Nb rfl (ao (dT (aA ?_)))
  have kk: ∀b o,b≠I→b≠S→s.heap.get? b=some o→(h'.update S (Obj.mapSeq fun _=> #[])).get? b=some o:=fun b o h1 h2 e=>(bX _ _ (Ne.symm h2)).trans (AK b o h1 e)
  exact hR vb _ (hb.up fun a o ha e=>⟨ha,kk a o (fun x=>ha (x▸hI)) (fun x=>ha (x▸hS)) e⟩) kk
 |cons p rest ih=>
  intro i s best r vb c hd hi hv hit hs hb hr hR
  obtain⟨a,xs,n,e,ha,ho,hl⟩:=id hv.listE
  skip;(first|exact VD e|cases e)
  have kl:i<ps.length:=by
   rcases ck i ps.length with h|h
   ·exact h
   ·rw[List.drop_eq_nil_iff.mpr h] at hd;(first|exact VD hd|cases hd)
  have WJ:ps.drop i=ps[i]::ps.drop (i+1):=aK kl
  rw[WJ] at hd
  injection hd with KO hd2
  have hp:ps[i]? =some p:=by rw[aG kl,KO]
  obtain⟨v,oD,AH⟩:=hl.get hp
  rw[bF] at oD
  refine ba gq ?_
  rw[aM cJ _]
  show wpAny _ A.in1 (seqItems? (.ref S)>>= _) _ _ s
  refine ao (bf hs rfl ?_)
  show wpAny _ A.in1 (tryCatch (pyNext (.ref I)) _>>= _) _ _ s
  refine ao (d6 (dD hit ⟨_,ho,rfl,_,rfl⟩ oD fun h' nJ k9=> ?_))
  have Nb:=k9.extBut S _ KN.symm hs
  have u1:=lN hI k9.extBut
  unfold qT at hr
  replace hr:=Option.bind_eq_some_iff.mp hr
  obtain⟨y,hy,hr⟩:=hr
  show wpAny _ A.in1 (tryCatch (holding [v,v] (richCompare .Gt v vb>>= _)) _>>= _) _ _ _
  refine ao (d6 (aX (ao (OV (gt:=true) 3 _ _ p best v vb y (AH.up u1) (hb.up u1) hy (by show A.units+1+3+1<cLine;omega) _ _ ?_))))
  refine ao (aX (eB ?_))
  refine ao (dT (aA ?_))
  cases y with
  |true=>
   simp only[if_true] at hr ⊢
   refine ao ?_
   refine dX Nb rfl (ao (dT ?_))
   rw[yW]
   have kk: ∀b o,b≠S→h'.get? b=some o→(h'.update S (Obj.mapSeq fun _=> #[v,v])).get? b=some o:=fun b o h2 e=>(bX _ _ (Ne.symm h2)).trans e
   have u2:Up h' X (h'.update S (Obj.mapSeq fun _=> #[v,v])) X:=fun a o ha e=>⟨ha,kk a o (fun x=>ha (x▸hS)) e⟩
   exact aA ⟨bz cJ _,ih (i+1) _ p r v _ hd2 kl ((hv.up u1).up u2) (nJ.at fun o e=>kk I o KN e) (bc _ Nb rfl) ((AH.up u1).up u2) hr fun v' qD HR zJ=>hR v' qD HR fun b o h1 h2 e=>zJ b o h1 h2 (kk b o h2 (k9.extBut b o h1 e))⟩
  |false=>
   simp only[bp,if_false] at hr ⊢
   refine ao (dT ?_)
   rw[yW]
   exact aA ⟨bz cJ _,ih (i+1) _ best r vb c hd2 kl (hv.up u1) nJ Nb (hb.up u1) hr fun v' qD HR zJ=>hR v' qD HR fun b o h1 h2 e=>zJ b o h1 h2 (k9.extBut b o h1 e)⟩
end
end
section
open PySem PySem.SeqAt
section
variable {L:ic} {X:List Addr}
theorem E9{A:aH}{R:fx→aq→Prop}{ax I S:Addr}{p:PV}{ps:List PV}(hI:I∈X)(hS:S∈X)(KN:I≠S)(hh:A.handled=none)(hu:A.units+6<cLine){s:aq}{r:PV}{c:Nat}
  (hv:VR L.prog L.w s.heap X (.list (p::ps)) (.ref ax))(hit:s.heap.IsListIter I ax 0)(hs:s.heap.get? S=some {cls:= .type "list",dict:=none,data:= .seq #[] c,slots:= #[]})(hr:qT true ps p=some r)
  (hR: ∀v h',VR L.prog L.w h' X r v→(∀b o,b≠I→b≠S→s.heap.get? b=some o→h'.get? b=some o)→R (.ok (.ret v)) {s with heap:=h'}):
  codeAny L.M A (.builtin "max.loop" ⟨[.ref I,.none,.ref S],[]⟩) R s:=by
 have yW:(toString "max"++toString ".loop":String)="max.loop":=by decide
 obtain⟨a,xs,n,e,ha,ho,hl⟩:=id hv.listE
 skip;(first|exact VD e|cases e)
 obtain⟨v,oD,AH⟩:=hl.get (i:=0) (p:=p) rfl
 rw[bF] at oD
 refine ba gq ?_
 rw[aM cJ _]
 show wpAny _ A.in1 (seqItems? (.ref S)>>= _) _ _ s
 refine ao (bf hs rfl ?_)
 show wpAny _ A.in1 (tryCatch (pyNext (.ref I)) _>>= _) _ _ s
 refine ao (d6 (dD hit ⟨_,ho,rfl,_,rfl⟩ oD fun h' nJ k9=> ?_))
 have Nb:=k9.extBut S _ KN.symm hs
 have u1:=lN hI k9.extBut
 show wpAny _ A.in1 (updateSeq S (fun _=> #[v,v])>>= _) _ _ _
 refine ao ?_
 refine dX Nb rfl ?_
 rw[yW]
 have kk: ∀b o,b≠S→h'.get? b=some o→(h'.update S (Obj.mapSeq fun _=> #[v,v])).get? b=some o:=fun b o h2 e=>(bX _ _ (Ne.symm h2)).trans e
 have u2:Up h' X (h'.update S (Obj.mapSeq fun _=> #[v,v])) X:=fun a o ha e=>⟨ha,kk a o (fun x=>ha (x▸hS)) e⟩
 exact aA ⟨bz cJ _,HQ hI hS KN hh hu ps 1 _ p r v _ rfl (by simp) ((hv.up u1).up u2) (nJ.at fun o e=>kk I o KN e) (bc _ Nb rfl) ((AH.up u1).up u2) hr fun v' qD HR zJ=>hR v' qD HR fun b o h1 h2 e=>zJ b o h1 h2 (kk b o h2 (k9.extBut b o h1 e))⟩
end
section
variable {L:ic}
noncomputable def Nc(gt:Bool):List PV→Option PV
 |p::ps=>qT gt ps p
 |[]=>none
theorem Fb{gt:Bool}{l:List PV}{r:PV}(h:Nc gt l=some r): ∃p ps,l=p::ps∧qT gt ps p=some r:=by
 cases l with
 |nil=>exact g8 h
 |cons p ps=>exact⟨p,ps,rfl,h⟩
noncomputable def zK(ps:List PV):Option PV:=Co (mN (Nc true)) ps
theorem KP(hn:L.exc=none):iF L 0 (.builtin "max") zK:=by
 intro A X s ps vs r Q E R x I jL hg hQ
 have yW:(toString "max"++toString ".loop":String)="max.loop":=by decide
 replace hg:=my hg
 obtain⟨_,rfl,hg⟩:=hg
 replace hg:=js hg
 obtain⟨_,rfl,hg⟩:=hg
 replace hg:=Fb hg
 obtain⟨p,ps,rfl,hg⟩:=hg
 obtain⟨v,rfl,hv⟩:=gM.one jL
 obtain⟨a,xs,n,rfl,ha,ho,hl⟩:=id hv.listE
 refine call_function_tree F.kind_max F.plain_max F.entry_max (F.args_max1 _) ?_
 show wpAny _ A.in1 (aD.Builtins.bindParams "max" ["key","default"] 0 ⟨[],[]⟩>>= _) _ _ s
 refine ao (c8 (show aD.Builtins.bindParams "max" ["key","default"] 0 ⟨[],[]⟩=pure [none,none] from rfl) ?_)
 refine ao (aA ?_)
 refine ao (cZ ⟨_,ho,rfl,_,rfl⟩ ?_)
 refine ao (bL ?_)
 rw[yW]
 generalize eh:(s.heap.push {cls:= .type "list_iterator",data:= .fields #[.ref a,.int 0 0]})=h₁
 have hsz:h₁.objs.size=s.heap.objs.size+1:=by rw[←eh];exact aZ ..
 have k1: ∀b o,s.heap.get? b=some o→h₁.get? b=some o:=fun b o e=>by rw[←eh];exact iq _ _ b o e
 have hit:h₁.IsListIter s.heap.objs.size a 0:=by rw[←eh];exact⟨_,aE _ rfl,rfl,rfl⟩
 let X':List Addr:=s.heap.objs.size::h₁.objs.size::X
 have f1:s.heap.get? s.heap.objs.size=none:=gY _
 have f2:s.heap.get? h₁.objs.size=none:=by
  cases e:s.heap.get? h₁.objs.size with
  |none=>rfl
  |some o=>have:=aI e;rw[hsz] at this;exact absurd this (Nat.not_lt.mpr (dM _))
 have kk: ∀b o,s.heap.get? b=some o→(h₁.push {cls:= .type "list",data:= .seq #[]}).get? b=some o:=fun b o e=>iq _ _ b o (k1 b o e)
 have up:Up s.heap X (h₁.push {cls:= .type "list",data:= .seq #[]}) X':=fun b o hb e=>⟨fun hm=>by
  rcases List.mem_cons.mp hm with rfl|hm
  ·rw[f1] at e;(first|exact VD e|cases e)
  rcases List.mem_cons.mp hm with rfl|hm
  ·rw[f2] at e;(first|exact VD e|cases e)
  ·exact hb hm,kk b o e⟩
 have KN:s.heap.objs.size≠h₁.objs.size:=by rw[hsz];exact(Nat.succ_ne_self _).symm
 have hu:A.units+6<cLine:=by have:=R.units;show A.units+6<9900;omega
 refine aA ⟨bz cJ _,?_⟩
 refine E9 (X:=X') (az ..) (av _ (az ..)) KN (R.none hn) hu (hv.up up) (hit.at fun o e=>iq _ _ _ o e) (aE _ rfl) hg fun v' h' oD qt=> ?_
 have kf: ∀b o,s.heap.get? b=some o→h'.get? b=some o:=fun b o e=>qt b o (fun h=>by rw[h,f1] at e;(first|exact VD e|cases e)) (fun h=>by rw[h,f2] at e;(first|exact VD e|cases e)) (kk b o e)
 exact hQ _ _ (oD.up fun b o hb e=>⟨fun hm=>hb (av _ (av _ hm)),e⟩) (gI.yP (tk:=s.toks) I x kf)
end
end
section
open PySem PySem.SeqAt
theorem Fc:typeLookup (.type "list") "keys"=pure none:=by rw[cj,bJ];kernel_rfl
theorem OW{prog:Program}{w:cL}{A:aH}{E:Value→aq→Prop}{s:aq}{a:Addr}{xs:Array Value}{k:Nat}{Q:Option Value→aq→Prop}
  (hx:s.heap.get? a=some {cls:= .type "list",data:= .seq xs k})(hA:A.handled=none)(h: ∀h' tk,(∀b o,s.heap.get? b=some o→h'.get? b=some o)→Q none {s with heap:=h',toks:=tk}):
  wpAny (model prog w) A (getAttr? (.ref a) "keys") Q E s:=by
 obtain⟨hp,g,d,tk,os⟩:=s
 have hT: ∀Vm,(⟨hp,g,d,Vm,os⟩:aq).TypeIs (.ref a) "list":=fun _=>⟨_,hx,rfl⟩
 have f1:=sub_AttributeError
 have f3:=F.slot_list_getattribute.lookup
 have f4:=F.slot_list_getattribute.bind (.ref a)
 have f5:=am_list_getattr_none
 unfold getAttr? getAttrBy? getAttrBy
 repeat (any_goals (first|assumption|exact hT _|((with_reducible show wpAny _ _ (call (Value.builtin "list.__getattribute__") _ _) _ _ _);refine dQ F.slot_list_getattribute (hT _) am_entry_list_getattribute (F.args_list_getattribute_2 _ _) (meets_getattribute_miss_list a xs k #[] "keys" _ Fc (by decide+kernel) (by decide)) ⟨hx,hA,fun h' Vm e Fd=> ?_⟩)|wp_step))
 obtain⟨t',u',he⟩:=Fd.there
 show wpAny _ _ (getattributeRaised _ _ _ _ _ _ _) _ _ _
 unfold getattributeRaised
 repeat (any_goals (first|assumption|wp_step))
 exact h _ _ Fd.of.keeps
end
section
open PySem PySem.SeqAt
theorem qA:plainId "dict.update.loop"=true:=by decide+kernel
theorem yX:entryFor table "dict.update.loop"=some aD.«dict.update.loop»:=dP (by kernel_rfl)
noncomputable def HS(p:PV):Option (Int×PV):=DX (EU fun p v=>pg (fun k=>some (k,v)) p) p
theorem CZ{p:PV}{r:Int×PV}(h:HS p=some r):p= .tup [.int r.1,r.2]:=
 (ti h).elim fun _ h=>(sk h.2).elim fun _ h1=>h1.elim fun _ h1=>(km h1.2).elim fun _ h2=>by rw[h.1,h1.1,h2.1,←Option.some.inj h2.2]
noncomputable def C0:List PV→List Int×List PV→Option (List Int×List PV)
 |[],r=>some r
 |p::ps,r=>(HS p).bind fun kv=>if r.1.length≤1000 then C0 ps (iw r.1 r.2 kv.1 kv.2) else none
section
variable {L:ic} {X:List Addr}
theorem xV{A:aH}{E:Value→aq→Prop}{s:aq}{a:Addr}{xs:Array Value}{n:Nat}{Q:List Value→aq→Prop}(ho:s.heap.get? a=some {cls:= .type "tuple",data:= .seq xs n})(h:Q xs.toList s):
  wpAny L.M A (aD.Dict.pairItems (.ref a)) Q E s:=by
 unfold aD.Dict.pairItems
 refine ao (e9 (T:="tuple") ⟨_,ho,rfl⟩ ?_)
 rw[if_pos (by decide)]
 exact ao (bf ho rfl (aA h))
theorem HT{A:aH}{R:fx→aq→Prop}{ax I D:Addr}{ps:List PV}(hI:I∈X)(hD:D∈X)(RI:I≠D)(hh:A.handled=none): ∀(rest:List PV) (i:Nat) (s:aq) (kvs:List (Int×Value)) (ks:List Int) (vs:List PV) (r:List Int×List PV),ps.drop i=rest→i≤ps.length→
  VR L.prog L.w s.heap X (.list ps) (.ref ax)→s.heap.IsListIter I ax i→s.heap.DictOf (intKind L.prog L.w) D kvs→kvs.map (·.1)=ks→gM L.prog L.w s.heap X vs (kvs.map (·.2))→C0 rest (ks,vs)=some r→
  (∀h' tk kq,h'.DictOf (intKind L.prog L.w) D kq→kq.map (·.1)=r.1→gM L.prog L.w h' X r.2 (kq.map (·.2))→(∀b o,b≠I→b≠D→s.heap.get? b=some o→h'.get? b=some o)→R (.ok (.ret .none)) {s with heap:=h',toks:=tk})→
  codeAny L.M A (.builtin "dict.update.loop" ⟨[.ref D,.ref I,rawInt i,.none],[]⟩) R s:=by
 intro rest
 induction rest with
 |nil=>
  intro i s kvs ks vs r hd hi hv hit Gj hk hl hr hR
  skip;(first|exact VD hr|cases hr)
  obtain⟨a,xs,n,e,ha,ho,jA⟩:=id hv.listE
  skip;(first|exact VD e|cases e)
  have e1:=jA.length
  rw[aW] at e1
  have hn:xs[i]? =none:=by rw[aR];have:=List.drop_eq_nil_iff.mp hd;omega
  refine ba yX ?_
  rw[aM qA _]
  show wpAny _ A.in1 (pyNext (.ref I)>>= _) _ _ s
  refine ao (wpAny_pyNext_list_end hh hit ⟨_,ho,rfl,_,rfl⟩ hn fun h' AK=> ?_)
  show wpAny _ A.in1 (aD.Dict.addKeywords D []>>= _) _ _ _
  refine ao (aA (aA ?_))
  exact hR h' s.toks kvs (jc Gj fun o e=>AK D o RI.symm e) hk (hl.up fun b o hb e=>⟨hb,AK b o (fun x=>hb (x▸hI)) e⟩) fun b o h1 h2 e=>AK b o h1 e
 |cons p rest ih=>
  intro i s kvs ks vs r hd hi hv hit Gj hk hl hr hR
  obtain⟨a,xs,n,e,ha,ho,jA⟩:=id hv.listE
  skip;(first|exact VD e|cases e)
  have kl:i<ps.length:=by
   rcases ck i ps.length with h|h
   ·exact h
   ·rw[List.drop_eq_nil_iff.mpr h] at hd;(first|exact VD hd|cases hd)
  have WJ:ps.drop i=ps[i]::ps.drop (i+1):=aK kl
  rw[WJ] at hd
  injection hd with KO hd2
  have hp:ps[i]? =some p:=by rw[aG kl,KO]
  obtain⟨v,oD,AH⟩:=jA.get hp
  rw[bF] at oD
  replace hr:=Option.bind_eq_some_iff.mp hr
  obtain⟨⟨k,y⟩,hky,hr⟩:=hr
  cases CZ hky
  replace hr:=xB hr
  obtain⟨hsz,hr⟩:=hr
  ·skip
   refine ba yX ?_
   rw[aM qA _]
   show wpAny _ A.in1 (pyNext (.ref I)>>= _) _ _ s
   refine ao (dD hit ⟨_,ho,rfl,_,rfl⟩ oD fun h' nJ k9=> ?_)
   have u1:=lN hI k9.extBut
   obtain⟨b,zs,m,rfl,hb,WK,RJ⟩:=(AH.up u1).lY
   obtain⟨v1,w1,e1,q1,RJ⟩:=RJ.inv
   obtain⟨v2,w2,e2,q2,RJ⟩:=RJ.inv
   subst RJ
   subst e2
   obtain⟨t,rfl⟩:=q1.jZ
   refine ao (aX (ao (d6 (xV WK ?_))))
   rw[e1]
   show wpAny _ A.in1 (holding _ (dictSet D (.int k t) v2)) _ _ _
   have hJ:kvs.length≤1000:=by rw[←hk] at hsz;simpa using hsz
   have sX:h'.DictOf (intKind L.prog L.w) D kvs:=jc Gj fun o e=>k9.extBut D o RI.symm e
   refine aX (wpAny_dictSet_pairs (knd:=intKind L.prog L.w) (k:=k) (isInt_self k t) sX (fun qD WL OX=> ?_) (Nat.le_trans hJ (by decide)))
   have u2:=lN hD OX.extBut
   have st:=yT (L:=L) (h:=qD) (X:=X) (x:=k) (p:=y) (u:=v2) (q2.up u2) (oG Gj) hk ((hl.up u1).up u2)
   have a4:((i:Int)+1)=((i+1:Nat):Int):=by push_cast;rfl
   rw[a4]
   exact aA ⟨bz qA _,ih (i+1) _ _ _ _ r hd2 kl ((hv.up u1).up u2) (nJ.at fun o e=>OX.extBut I o RI e) WL st.1 st.2 hr fun h3 tk kq g1 g2 g3 g4=>hR h3 tk kq g1 g2 g3 fun b o h1 h2 e=>g4 b o h1 h2 (OX.extBut b o h2 (k9.extBut b o h1 e))⟩
end
end
section
open PySem PySem.SeqAt
section
variable {L:ic}
noncomputable def qa(ps:List PV):Option MV:=Co (mN fun l=>(C0 l ([],[])).map fun r=> .ug r.1 r.2) ps
theorem xW(hn:L.exc=none):nN L 0 (.type "dict") qa:=by
 intro A X s ps vs r Q E R x I jL hg hQ
 have iS:s.heap.objs.size≠L.tb:=fun e=>x.size (e▸x.tb)
 have ki:s.heap.objs.size≠sysModules:=fun e=>x.size (e▸x.sm)
 replace hg:=my hg
 obtain⟨_,rfl,hg⟩:=hg
 replace hg:=js hg
 obtain⟨l,rfl,hg⟩:=hg
 obtain⟨rr,hr,rfl⟩:=Option.map_eq_some_iff.mp hg
 obtain⟨v,rfl,hv⟩:=gM.one jL
 obtain⟨a,xs,n,rfl,ha,ho,hl⟩:=id hv.listE
 have ML: ¬ ((Value.type "list"!=Value.type "dict")=false):=by decide
 refine callType_codes (Q₁:=fun obj s₁=>obj= .ref s.heap.objs.size∧s₁={s with heap:=s.heap.push {cls:= .type "dict",data:= .dict #[]}}) F.kt_called_dict (F.kt_typeCall_dict_1 _) F.entry_dict_init (kt_code_dict_new _ ⟨rfl,rfl⟩) ?_
 rintro obj s₁ ⟨rfl,rfl⟩
 generalize eh:s.heap.push {cls:= .type "dict",data:= .dict #[]}=h₁
 have zz:h₁.DictOf (intKind L.prog L.w) s.heap.objs.size []:=by rw[←eh];exact Heap.DictOf.new s.heap
 have k1: ∀b o,s.heap.get? b=some o→h₁.get? b=some o:=fun b o e=>by rw[←eh];exact iq _ _ b o e
 have D5:=k1 _ _ ho
 refine⟨zz.typeIs,F.args_dict_init_2 _ _,?_⟩
 unfold aD.«dict.__init__»
 refine ao ?_
 unfold aD.Dict.selfAndRest
 refine ao (wpAny_notOrdered_dict zz.typeIs ?_)
 show wpAny _ _ (pure (s.heap.objs.size,[Value.ref a])) _ _ _
 refine aA ?_
 show wpAny _ _ (aD.Dict.updateFrom "dict.__init__" s.heap.objs.size (.ref a) [] .none) _ _ _
 unfold aD.Dict.updateFrom
 refine ao (e9 (T:="list") ⟨_,D5,rfl⟩ ?_)
 rw[if_pos (by decide)]
 refine ao (OW D5 (by first|exact R.none hn|exact(show A.in1.handled=none from R.none hn)) fun h₂ tk k2=> ?_)
 simp only[Option.isNone_none,if_true]
 refine ao (cS ?_)
 refine ao (cZ ⟨_,k2 _ _ D5,rfl,_,rfl⟩ ?_)
 refine aA ⟨bz qA _,?_⟩
 generalize Z6:h₂.push {cls:= .type "list_iterator",data:= .fields #[.ref a,.int 0 0]}=h₃
 have k3: ∀b o,h₂.get? b=some o→h₃.get? b=some o:=fun b o e=>by rw[←Z6];exact iq _ _ b o e
 have hit:h₃.IsListIter h₂.objs.size a 0:=by rw[←Z6];exact⟨_,aE _ rfl,rfl,rfl⟩
 have kk: ∀b o,s.heap.get? b=some o→h₃.get? b=some o:=fun b o e=>k3 b o (k2 b o (k1 b o e))
 have hd2:h₂.DictOf (intKind L.prog L.w) s.heap.objs.size []:=jc zz fun o e=>k2 _ o e
 have Qv:h₃.DictOf (intKind L.prog L.w) s.heap.objs.size []:=jc hd2 fun o e=>k3 _ o e
 have f1:s.heap.get? s.heap.objs.size=none:=gY _
 have f2:s.heap.get? h₂.objs.size=none:=by
  cases e:s.heap.get? h₂.objs.size with
  |none=>rfl
  |some o=>exact absurd (aI (k2 _ _ (k1 _ _ e))) (bD _)
 have RI:h₂.objs.size≠s.heap.objs.size:=fun e=>by
  obtain⟨o,ho⟩:=kj hd2
  exact absurd (aI ho) (by rw[e];exact bD _)
 have up:Up s.heap X h₃ (h₂.objs.size::s.heap.objs.size::X):=fun b o hb e=>by
  refine⟨fun hm=> ?_,kk b o e⟩
  rcases List.mem_cons.mp hm with rfl|hm
  ·rw[f2] at e;(first|exact VD e|cases e)
  rcases List.mem_cons.mp hm with rfl|hm
  ·rw[f1] at e;(first|exact VD e|cases e)
  ·exact hb hm
 refine HT (X:=h₂.objs.size::s.heap.objs.size::X) (az ..) (av _ (az ..)) RI (by first|exact R.none hn|exact(show A.in1.handled=none from R.none hn)) l 0 _ [] [] [] rr rfl (aC _) (hv.up up) hit Qv rfl gM.nil hr fun h' Vm kq g1 g2 g3 g4=> ?_
 have kf: ∀b o,s.heap.get? b=some o→h'.get? b=some o:=fun b o e=>g4 b o (fun h=>by rw[h,f2] at e;(first|exact VD e|cases e)) (fun h=>by rw[h,f1] at e;(first|exact VD e|cases e)) (kk b o e)
 exact⟨rfl,hQ _ _ (gY _) (gI.yS (tk:=Vm) I x (gY _) kf (kj g1)) rfl ⟨_,kq,rfl,az ..,iS,ki,g1,g2,g3.up fun b o hb e=>⟨fun hm=>hb (av _ hm),e⟩⟩⟩
end
end
section
open PySem PyProof.Rows
section
variable {L:ic} {sc:Scope} {σ:gJ} {own:List Str} {k:Nat}
theorem KQ:ni L (inplaceOp .BitXor) MI:=kA fun h x I hQ=>PyProof.Rows.ixor_int (hQ _ _ (kB h▸VR.mkInt _ _) (gI.toks I x _))
theorem OY:ni L (inplaceOp .BitOr) N5:=kA fun h x I hQ=>PyProof.Rows.ior_int (hQ _ _ (kB h▸VR.mkInt _ _) (gI.toks I x _))
noncomputable def HU(p q:PV):Option PV:=kM (fun a b=>some (.int (a+b))) p q
theorem KR:ni L (inplaceOp .Add) HU:=kA fun h x I hQ=>PyProof.Rows.iadd_int (hQ _ _ (kB h▸VR.mkInt _ _) (gI.toks I x _))
theorem S1.aug{e:aN}{x:Str}{p pos:cM}{op:Operator}{i:Nat}{f:List MV→Option PV}{g:PV→PV→Option PV}(he:SE L sc σ k e f)(hop:ni L (inplaceOp op) g)(hx:x∈own)(hi:kr σ x i):
  S1 L sc σ own k false (.AugAssign (.Name x p) op e pos) (fun ρ=>(gX ρ[i]?).bind fun a=>(f ρ).bind fun b=>(g a b).map fun v=>(.next,ρ.set i (.p v))):=by
 intro env A Y Z s ρ ρ' fl Q E R F I kC ki hf hQ
 replace hf:=Option.bind_eq_some_iff.mp hf
 obtain⟨a,ha,hf⟩:=hf
 replace hf:=Option.bind_eq_some_iff.mp hf
 obtain⟨b,hb,hf⟩:=hf
 obtain⟨v,hv,e'⟩:=Option.map_eq_some_iff.mp hf
 skip;(first|exact VD e'|cases e')
 have jy:=qq ha
 obtain⟨va,r,m⟩:=F.fr.rd x i hi.1 _ jy (by intro h;(first|exact VD h|cases h))
 have hk:env.scope.kind= .function:=by rw[F.fr.scope];exact F.fr.kind
 have go:wpAny L.M A (eval e env) (fun v gQ=>wpAny L.M A (inplaceOp op va v) (fun r i6=>wpAny L.M A (storeName env x r) (fun _=>Q .next) E i6) E gQ) E s:=by
  refine he env A _ s ρ b _ E R F.fr I hb fun u s₁ hu d=> ?_
  refine hop A _ s₁ a b v va u _ E (R.less (aC _)) d.xo d.inv ((show VR L.prog L.w s.heap (Y++Z) a va from m).up d.up) hu hv fun y gQ hy gP=> ?_
  refine((F.done d).done gP).bind gP.inv hx hi hy fun i6 kG i5=> ?_
  exact hQ.one rfl kG ((gO.jQ (d.trans gP)).trans (fun b h=> .inl h) i5)
 refine wpAny_AugAssign_Name ?_
 rcases r with⟨hl,m',hn,hm⟩|⟨hl|hl,hcd,c,hc,hv⟩
 ·exact cF hk hl hn hm go
 ·exact wpAny_loadName_cell hk hl hc hv go
 ·exact wpAny_loadName_free hk hl hc hv go hcd
theorem SS.flag{g g':Bool}{body:List Stmt}{f:List MV→Option (Fl×List MV)}(h:SS L sc σ own k g body f)(hg:g=g'):SS L sc σ own k g' body f:=hg▸h
end
end
section
open PySem PyProof.Rows
section
variable {L:ic} {sc:Scope} {σ:gJ} {own:List Str} {k:Nat}
noncomputable def JW(L:ic)(σ:gJ)(env:b9)(Y Z:List Addr)(h:Heap)(ρ:List MV)(mv:MV)(v:Value):Prop:=
 ro L h (Y++Z) mv v∧ ∀a,mv.owned=true→v= .ref a→(a∈Y∧a≠env.locals)∧ ∀z j nj,¬ Holds σ env h ρ z j nj a
noncomputable def Qw(q r:MV×Value):Prop:=q.1.owned=true→r.1.owned=true→q.2≠r.2
structure n8(L:ic)(Y Y':List Addr)(s s':aq):Prop where
 Fe: ∀b∈Y',b∈Y∨s.heap.get? b=none
 sub: ∀b∈Y,b∈Y'
 keep: ∀b o,b≠L.tb→s.heap.get? b=some o→s'.heap.get? b=some o
 inv:Inv L s'
 os:s'.os=s.os
 drawn:s'.drawn=s.drawn
theorem n8.new{Y Y' X:List Addr}{s s':aq}(g:n8 L Y Y' s s')(x:XO L X s'.heap){b:Addr}(h:s'.heap.get? b=none):s.heap.get? b=none:=by
 cases e:s.heap.get? b with
 |none=>rfl
 |some o=>
  by_cases ht:b=L.tb
  ·exact absurd (ht▸x.tb) (x.fresh h)
  ·exact g8 (h.symm.trans (g.keep b o ht e))
theorem n8.trans{Y Y' Vi X:List Addr}{s s' pd:aq}(g:n8 L Y Y' s s')(x:XO L X s'.heap)(g':n8 L Y' Vi s' pd):n8 L Y Vi s pd:=
 ⟨fun b hb=>(g'.Fe b hb).elim (g.Fe b) fun h=> .inr (g.new x h),fun b hb=>g'.sub b (g.sub b hb),fun b o ht e=>g'.keep b o ht (g.keep b o ht e),g'.inv,g'.os.trans g.os,g'.drawn.trans g.drawn⟩
theorem JW.keep{env:b9}{Y Y' Z:List Addr}{s s':aq}{ρ:List MV}{mv:MV}{v:Value}(p:JW L σ env Y Z s.heap ρ mv v)(F:FS L sc σ own env Y Z s.heap ρ)(g:n8 L Y Y' s s'):JW L σ env Y' Z s'.heap ρ mv v:=by
 refine⟨p.1.up (fun b o hb e=>⟨fun hm=>(List.mem_append.mp hm).elim (fun h=>(g.Fe b h).elim (fun h=>hb (aw _ h)) fun h=>g8 (h.symm.trans e)) fun h=>hb (au _ h),g.keep b o (fun h=>hb (h▸F.fr.xo.tb)) e⟩)
  fun b hb ht=>⟨(List.mem_append.mp hb).elim (fun h=>aw _ (g.sub b h)) (au _),fun o e=>g.keep b o ht e⟩,fun a ho e=>⟨⟨g.sub a (p.2 a ho e).1.1,(p.2 a ho e).1.2⟩,fun z j nj H=>(p.2 a ho e).2 z j nj ⟨H.lk,H.val,H.ow,?_⟩⟩⟩
 exact(F.fr.rd z j H.lk nj H.val (nt H.ow)).elim fun u r=>(r.1.up (fun o e=>g.keep _ o F.fr.locals.1 e) fun c o hc e=>g.keep c o (F.fr.cells z c hc).1 e).unique H.rd▸r.1
theorem JW.stored{env:b9}{Y Z:List Addr}{h h':Heap}{ρ:List MV}{mv nv:MV}{v w:Value}{x:Str}{i:Nat}{D:Addr}(p:JW L σ env Y Z h ρ mv w)(F:FS L sc σ own env Y Z h ρ)(hi:kr σ x i)(hD:D∈Y)(DL:D=env.locals∨ ∃u,h.IsCell D u)(S:rx env x v D h h')(hd:Qw (nv,v) (mv,w)):JW L σ env Y Z h' (ρ.set i nv) mv w:=by
 refine⟨p.1.vD (fun b o hb e=>⟨hb,S.keep b o (fun h=>hb (h▸aw _ hD)) e⟩) fun a o ea ha _ hg hc ho=>⟨ha,S.keep a o (fun e=>DL.elim (fun h=>(p.2 a ho ea).1.2 (e.trans h)) fun⟨u,o',lp,e'⟩=>hc u (Option.some.inj (hg.symm.trans (e▸lp))▸e')) hg⟩,fun a ho e=>⟨(p.2 a ho e).1,fun z j nj H=> ?_⟩⟩
 by_cases ej:j=i
 ·subst ej
  obtain rfl:=v9 H.val
  obtain rfl:=hi.2 z H.lk
  exact hd H.ow ho ((S.here.unique H.rd).trans e.symm)
 ·have hv:ρ[j]? =some nj:=yK ej▸H.val
  exact(F.fr.rd z j H.lk nj hv (nt H.ow)).elim fun u r=>(p.2 a ho e).2 z j nj ⟨H.lk,hv,H.ow,(S.others z u (fun e=>ej (Option.some.inj (H.lk.symm.trans (e▸hi.1)))) r.1).unique H.rd▸r.1⟩
inductive Ts (M:Model) (env:b9):List (Value→Sem Unit)→List Str→Prop
 |nil:Ts M env [] []
 |cons {t:Value→Sem Unit} {x:Str} {ts:List (Value→Sem Unit)} {xs:List Str}:(∀(A:aH) (v:Value) (Q:Unit→aq→Prop) (E:Value→aq→Prop) (s:aq),wpAny M A (PySem.storeName env x v) Q E s→wpAny M A (t v) Q E s)→Ts M env ts xs→Ts M env (t::ts) (x::xs)
noncomputable def RK:List Nat→List MV→List MV→List MV
 |i::is,m::ms,ρ=>RK is ms (ρ.set i m)
 |_,_,ρ=>ρ
theorem FS.Nd{env:b9}{Y Z:List Addr}{A:aH}{E:Value→aq→Prop}{Q:Unit→aq→Prop}{xs:List Str}{is:List Nat}(hn:i8 own σ xs is): ∀{ts:List (Value→Sem Unit)} {ms:List MV} {vs:List Value} {ρ:List MV} {s:aq},Ts L.M env ts xs→xs.length=ms.length→ms.length=vs.length→FS L sc σ own env Y Z s.heap ρ→Inv L s→
  (∀q∈ms.zip vs,JW L σ env Y Z s.heap ρ q.1 q.2)→(ms.zip vs).Pairwise Qw→(∀s',FS L sc σ own env Y Z s'.heap (RK is ms ρ)→gO L Y s s'→Q () s')→wpAny L.M A (assignInOrder ts vs) Q E s:=by
 induction hn with
 |nil=>
  intro ts ms vs ρ s ht h1 h2 F I _ _ hQ
  skip;(first|exact VD ht|cases ht)
  cases ms<;>cases vs<;>first|exact absurd h1 (aV _).symm|exact absurd h2 (aV _).symm|exact dm (hQ _ F (gO.refl I))
 |cons hx hi _ ih=>
  intro ts ms vs ρ s ht h1 h2 F I hp hd hQ
  cases ht with
  |cons t ht=>
   cases ms with
   |nil=>exact absurd h1 (aV _)
   |cons m ms=>
    cases vs with
    |nil=>exact absurd h2 (aV _)
    |cons v vs=>
     have hd:=List.pairwise_cons.mp hd
     have p:=hp _ (az ..)
     refine c9 (t A v _ _ _ (F.storeName hx fun D h' tk hD yL DL S=> ?_))
     have I':Inv L {s with heap:=h',toks:=tk}:=⟨fun b o e=>S.keep b o (fun h=>g8 ((F.fr.xo.look D (aw _ hD)).symm.trans (h▸e))) (I.ir b o e),I.bare⟩
     exact ih ht (Nat.succ.inj h1) (Nat.succ.inj h2) (F.setG hi.1 hi.2 hD yL DL S p.1 fun a ho e=>⟨(p.2 a ho e).1,fun z j nj _=>(p.2 a ho e).2 z j nj⟩) I' (fun q hq=>(hp q (av _ hq)).stored F hi hD DL S (hd.1 q hq)) hd.2
      fun s' F' d'=>hQ s' F' (gO.trans ⟨fun b o _ hb e=>S.keep b o (fun e=>hb (e▸hD)) e,I',rfl,rfl⟩ (fun b h=> .inl h) d')
noncomputable def VL(L:ic)(sc:Scope)(σ:gJ)(own:List Str)(k:Nat)(es:List aN)(f:List MV→Option (List MV)):Prop:=
 ∀(env:b9) (A:aH) (Y Z:List Addr) (s:aq) (ρ ms:List MV) (pos:cM) (Q:List Value→aq→Prop) (E:Value→aq→Prop),iU L k A→FS L sc σ own env Y Z s.heap ρ→Inv L s→f ρ=some ms→
  (∀vs s' Y',FS L sc σ own env Y' Z s'.heap ρ→n8 L Y Y' s s'→ms.length=vs.length→(∀q∈ms.zip vs,JW L σ env Y' Z s'.heap ρ q.1 q.2∧ ∀a,q.1.owned=true→q.2= .ref a→s.heap.get? a=none)→(ms.zip vs).Pairwise Qw→Q vs s')→wpAny L.M A (spliced (backTo pos (starEach es env))) Q E s
theorem VL.nil:VL L sc σ own k [] (fun _=>some []):=by
 intro env A Y Z s ρ ms pos Q E R F I hf hQ
 skip;(first|exact VD hf|cases hf)
 exact cW (hQ [] s Y F ⟨fun b h=> .inl h,fun _ h=>h,fun _ _ _ e=>e,I,rfl,rfl⟩ rfl (fun _ h=>nomatch h) .nil)
theorem VL.cons{e:aN}{es:List aN}{g:List MV→Option (List MV)}{f:List MV→Option MV}(h: ∀(env:b9) (A:aH) (Y Z:List Addr) (s:aq) (ρ:List MV) (mv:MV) (Q:Value→aq→Prop) (E:Value→aq→Prop),iU L k A→FS L sc σ own env Y Z s.heap ρ→Inv L s→f ρ=some mv→
   (∀v s' Y',FS L sc σ own env Y' Z s'.heap ρ→n8 L Y Y' s s'→JW L σ env Y' Z s'.heap ρ mv v→(∀a,mv.owned=true→v= .ref a→s.heap.get? a=none)→Q v s')→wpAny L.M A (eval e env) Q E s)
  (hs:VL L sc σ own k es g)(he: ∀env,starEach (e::es) env=(false,eval e env)::starEach es env):VL L sc σ own k (e::es) (fun ρ=>(f ρ).bind fun a=>(g ρ).map (a:: ·)):=by
 intro env A Y Z s ρ ms pos Q E R F I hf hQ
 replace hf:=Option.bind_eq_some_iff.mp hf
 obtain⟨a,uN,hf⟩:=hf
 obtain⟨as,VN,rfl⟩:=Option.map_eq_some_iff.mp hf
 refine df (he:=he env) (h env A Y Z s ρ a _ E R F I uN fun v s₁ wk jm Ff p new=>hs env A wk Z s₁ ρ as pos _ E R jm Ff.inv VN fun vs gQ WM jJ RL hl hp hd=> ?_)
 refine hQ (v::vs) gQ WM jJ (Ff.trans jm.fr.xo RL) (congrArg (· +1) hl) (List.forall_mem_cons.mpr ⟨⟨p.keep jm RL,new⟩,fun q hq=>⟨(hp q hq).1,fun b ho e=>Ff.new jm.fr.xo ((hp q hq).2 b ho e)⟩⟩) (List.pairwise_cons.mpr ⟨fun q hq o1 o2 e=> ?_,hd⟩)
 obtain⟨b,o,eb,_,_,hg,_⟩:=p.1.addr o1
 exact g8 (((hp q hq).2 b o2 (e.symm.trans eb)).symm.trans hg)
theorem VL.new{e:aN}{es:List aN}{f:List MV→Option MV}{g:List MV→Option (List MV)}(h:OE L sc σ k e f)(hs:VL L sc σ own k es g)(he: ∀env,starEach (e::es) env=(false,eval e env)::starEach es env):VL L sc σ own k (e::es) (fun ρ=>(f ρ).bind fun a=>(g ρ).map (a:: ·)):=
 VL.cons (fun env A Y Z s ρ mv Q E R F I hf hQ=>h env A _ s ρ mv Q E R F.fr I hf fun a s₁ ha d ho hm=>hQ (.ref a) s₁ (a::Y) (F.G4 ha d) ⟨fun b hb=>(List.mem_cons.mp hb).elim (fun e=> .inr (e▸ha)) .inl,fun b hb=>av _ hb,d.keep,d.inv,d.os,d.drawn⟩
  ⟨hm,fun b _ e=>Value.ref.inj e▸⟨⟨az ..,fun e=>F.fr.xo.fresh ha (aw _ (e▸F.ta))⟩,fun z j nj H=>(F.fr.rd z j H.lk nj H.val (nt H.ow)).elim fun u r=>(r.2.addr H.ow).elim fun b x=>x.elim fun o x=>F.fr.xo.fresh ha (Value.ref.inj (x.1.symm.trans ((r.1.up (fun o e=>d.keep _ o F.fr.locals.1 e) fun c o hc e=>d.keep c o (F.fr.cells z c hc).1 e).unique H.rd))▸x.2.1)⟩⟩
  fun b _ e=>Value.ref.inj e▸ha) hs he
theorem VL.yR{e:aN}{es:List aN}{f:List MV→Option PV}{g:List MV→Option (List MV)}(h:SE L sc σ k e f)(hs:VL L sc σ own k es g)(he: ∀env,starEach (e::es) env=(false,eval e env)::starEach es env):VL L sc σ own k (e::es) (fun ρ=>((f ρ).map MV.p).bind fun a=>(g ρ).map (a:: ·)):=
 VL.cons (fun env A Y Z s ρ mv Q E R F I hf hQ=>by
  obtain⟨p,hp,rfl⟩:=Option.map_eq_some_iff.mp hf
  exact h env A _ s ρ p Q E R F.fr I hp fun v s₁ hv d=>hQ v s₁ Y (F.done d) ⟨fun b hb=> .inl hb,fun _ hb=>hb,d.keep,d.inv,d.os,d.drawn⟩ ⟨hv,fun _ ho=>Bool.noConfusion ho⟩ fun _ ho=>Bool.noConfusion ho) hs he
theorem VL.taken{es:List aN}{ek:Nat}{xX:cM}{f:List MV→Option (List MV)}(h:VL L sc σ own k es f){env:b9}{A:aH}{Y Z:List Addr}{s:aq}{ρ ms:List MV}{Q:Value→aq→Prop}{E:Value→aq→Prop}(R:iU L k A)(F:FS L sc σ own env Y Z s.heap ρ)(I:Inv L s)(hf:f ρ=some ms)(hs:ms.length≤100)
  (hQ: ∀tv s',(∀(Q':List Value→aq→Prop) (E':Value→aq→Prop),(∀vs pd Y',FS L sc σ own env Y' Z pd.heap ρ→n8 L Y Y' s pd→ms.length=vs.length→(∀q∈ms.zip vs,JW L σ env Y' Z pd.heap ρ q.1 q.2)→(ms.zip vs).Pairwise Qw→Q' vs pd)→wpAny L.M A (unpackItems tv ms.length none) Q' E' s')→Q tv s'):wpAny L.M A (eval (.Tuple es ek xX) env) Q E s:=by
 refine PySem.wpAny_Tuple (h env A Y Z s ρ ms xX _ E R F I hf fun vs s₁ wk jm Ff hl hp hd=>⟨Nat.le_trans (hl▸hs) (by decide),hQ _ _ fun Q' E' CX=> ?_⟩)
 have gP:gI L (wk++Z) s₁ {s₁ with heap:=s₁.heap.push {cls:= .type "tuple",data:= .seq vs.toArray}}:=gI.push Ff.inv jm.fr.xo _ s₁.toks
 rw[show ms.length=vs.toArray.size from hl]
 refine pU (s:={s₁ with heap:=s₁.heap.push {cls:= .type "tuple",data:= .seq vs.toArray}}) R.handled gP.inv ⟨_,aE _ rfl,rfl,_,rfl⟩ fun h₃ hx=> ?_
 have i5:gI L (wk++Z) s₁ {s₁ with heap:=h₃}:=gP.trans (gI.of_keep (s:={s₁ with heap:=s₁.heap.push {cls:= .type "tuple",data:= .seq vs.toArray}}) gP.inv gP.xo (fun b o e=>hx b o (fun e'=>absurd (aI (e'▸e)) (bD _)) e) s₁.toks)
 have RM:n8 L wk wk s₁ {s₁ with heap:=h₃}:=⟨fun b hb=> .inl hb,fun _ hb=>hb,i5.keep,i5.inv,i5.os,i5.drawn⟩
 exact CX vs _ wk (jm.done i5) (Ff.trans jm.fr.xo RM) hl (fun q hq=>(hp q hq).1.keep jm RM) hd
end
end
section
open PySem PyProof.Rows
section
variable {L:ic} {sc:Scope} {σ:gJ} {own:List Str} {k:Nat}
theorem Ts.names{M:Model}{env:b9}: ∀xs:List Str,Ts M env (xs.map fun n=>bindName env n) xs:=by
 intro xs
 induction xs with
 |nil=>exact .nil
 |cons _ xs hV=>exact .cons (fun _ _ _ _ _ h=>fW h) (hV)
theorem Ts.elts{M:Model}{env:b9}{es:List aN}{xs:List Str}(h:gZ es xs):Ts M env ((assignEach es env).map (·.2)) xs:=by
 induction h with
 |nil=>exact .nil
 |cons _ ih=>exact .cons (fun _ _ _ _ _ h=>cm h) ih
theorem KS{l:List (MV×Value)}(h:l.Pairwise Qw):l.reverse.Pairwise Qw:=List.pairwise_reverse.mpr (h.imp fun h o1 o2 e=>h o2 o1 e.symm)
theorem n8.Nf{Y Y' X:List Addr}{s s' pd:aq}(g:n8 L Y Y' s s')(x:XO L X s'.heap)(d:gO L Y' s' pd):gO L Y s pd:=
 gO.trans ⟨fun b o ht _ e=>g.keep b o ht e,g.inv,g.os,g.drawn⟩ g.Fe d
noncomputable def RN(n i1 i2 i3:Nat)(f1:List MV→Option MV)(f2:List MV→Option PV)(f3:List MV→Option MV)(ρ:List MV):Option (Fl×List MV):=
 if ρ.length≤n then(f1 ρ).bind fun m1=>(f2 ρ).bind fun p2=>(f3 ρ).map fun m3=>(.next,((ρ.set i3 m3).set i2 (.p p2)).set i1 m1) else none
theorem S1.RO{WN:List aN}{kk ek:Nat}{qG xX pos:cM}{e1 e2 e3:aN}{x1 x2 x3:Str}{i1 i2 i3:Nat}{f1:List MV→Option MV}{f2:List MV→Option PV}{f3:List MV→Option MV}(h1:OE L sc σ k e1 f1)(h2:SE L sc σ k e2 f2)(h3:OE L sc σ k e3 f3)
  (D5:x1∈own)(JV:x2∈own)(RH:x3∈own)(WO:kr σ x1 i1)(WQ:kr σ x2 i2)(WR:kr σ x3 i3)(M3:Hu σ=true)(WS: ∀env,starEach [e1,e2,e3] env=(false,eval e1 env)::starEach [e2,e3] env)(WT: ∀env,starEach [e2,e3] env=(false,eval e2 env)::starEach [e3] env)(WU: ∀env,starEach [e3] env=(false,eval e3 env)::starEach [] env)
  (hs: ∀env,env.scope=sc→swapsWithSole [.Tuple WN kk qG] (.Tuple [e1,e2,e3] ek xX) pos.line env=pure false)(hw: ∀env,env.scope=sc→swappedStores [.Tuple WN kk qG] (.Tuple [e1,e2,e3] ek xX) env=pure (some [x1,x2,x3])):
  S1 L sc σ own k true (.Assign [.Tuple WN kk qG] (.Tuple [e1,e2,e3] ek xX) pos) (RN σ.length i1 i2 i3 f1 f2 f3):=by
 intro env A Y Z s ρ ρ' fl Q E R F I kC ki hf hQ
 replace hf:=xB hf
 obtain⟨hJ,hf⟩:=hf
 replace hf:=Option.bind_eq_some_iff.mp hf
 obtain⟨m1,WV,hf⟩:=hf
 replace hf:=Option.bind_eq_some_iff.mp hf
 obtain⟨p2,Ng,hf⟩:=hf
 obtain⟨m3,WW,e'⟩:=Option.map_eq_some_iff.mp hf
 skip;(first|exact VD e'|cases e')
 refine eF (names:=[x1,x2,x3]) (hs:=hs env F.fr.scope) (hw:=hw env F.fr.scope) ((VL.new h1 (VL.yR h2 (VL.new h3 VL.nil WU) WT) WS).taken R F I (ms:=[m1,.p p2,m3]) (by rw[WV,Ng,WW];rfl) (by decide:3≤100) fun tv s' H=>H _ _ fun vs pd Y' F' g hl hp hd=> ?_)
 have jA:[m1,.p p2,m3].reverse.length=vs.reverse.length:=by rw[dS,dS];exact hl
 have hz:[m1,.p p2,m3].reverse.zip vs.reverse=([m1,.p p2,m3].zip vs).reverse:=(List.reverse_zipWith hl).symm
 exact FS.Nd (.cons RH WR (.cons JV WQ (.cons D5 WO .nil))) (Ts.names [x3,x2,x1]) rfl jA F' g.inv (fun q hq=>hp q (List.mem_reverse.mp (hz▸hq))) (hz▸KS hd) fun i6 kG i5=>hQ .next Y' i6 rfl kG g.Fe (fun h=>nomatch h) (g.Nf F'.fr.xo i5)
noncomputable def HV(n i1 i2 i3:Nat)(f1:List MV→Option MV)(f2:List MV→Option PV)(f3:List MV→Option MV)(ρ:List MV):Option (Fl×List MV):=
 if ρ.length≤n then(f1 ρ).bind fun m1=>(f2 ρ).bind fun p2=>(f3 ρ).map fun m3=>(.next,((ρ.set i1 m1).set i2 (.p p2)).set i3 m3) else none
theorem S1.RP{Vn Vo Vp:cM}{kk ek:Nat}{qG xX pos:cM}{e1 e2 e3:aN}{x1 x2 x3:Str}{i1 i2 i3:Nat}{f1:List MV→Option MV}{f2:List MV→Option PV}{f3:List MV→Option MV}(h1:OE L sc σ k e1 f1)(h2:SE L sc σ k e2 f2)(h3:OE L sc σ k e3 f3)
  (D5:x1∈own)(JV:x2∈own)(RH:x3∈own)(WO:kr σ x1 i1)(WQ:kr σ x2 i2)(WR:kr σ x3 i3)(M3:Hu σ=true)(WS: ∀env,starEach [e1,e2,e3] env=(false,eval e1 env)::starEach [e2,e3] env)(WT: ∀env,starEach [e2,e3] env=(false,eval e2 env)::starEach [e3] env)(WU: ∀env,starEach [e3] env=(false,eval e3 env)::starEach [] env)
  (hs: ∀env,env.scope=sc→swapsWithSole [.Tuple [.Name x1 Vn,.Name x2 Vo,.Name x3 Vp] kk qG] (.Tuple [e1,e2,e3] ek xX) pos.line env=pure false)(hw: ∀env,env.scope=sc→swappedStores [.Tuple [.Name x1 Vn,.Name x2 Vo,.Name x3 Vp] kk qG] (.Tuple [e1,e2,e3] ek xX) env=pure none):
  S1 L sc σ own k true (.Assign [.Tuple [.Name x1 Vn,.Name x2 Vo,.Name x3 Vp] kk qG] (.Tuple [e1,e2,e3] ek xX) pos) (HV σ.length i1 i2 i3 f1 f2 f3):=by
 intro env A Y Z s ρ ρ' fl Q E R F I kC ki hf hQ
 replace hf:=xB hf
 obtain⟨hJ,hf⟩:=hf
 replace hf:=Option.bind_eq_some_iff.mp hf
 obtain⟨m1,WV,hf⟩:=hf
 replace hf:=Option.bind_eq_some_iff.mp hf
 obtain⟨p2,Ng,hf⟩:=hf
 obtain⟨m3,WW,e'⟩:=Option.map_eq_some_iff.mp hf
 skip;(first|exact VD e'|cases e')
 have hn:gZ [.Name x1 Vn,.Name x2 Vo,.Name x3 Vp] [x1,x2,x3]:= .cons (.cons (.cons .nil))
 refine fy (hs:=hs env F.fr.scope) (hw:=hw env F.fr.scope) ((VL.new h1 (VL.yR h2 (VL.new h3 VL.nil WU) WT) WS).taken R F I (ms:=[m1,.p p2,m3]) (by rw[WV,Ng,WW];rfl) (by decide:3≤100) fun tv s' H=> ?_)
 rw[arm_assign_Tuple]
 refine ao (bP ?_)
 unfold unpack
 rw[hn.find]
 exact ao (aX (H _ _ fun vs pd Y' F' g hl hp hd=>FS.Nd (.cons D5 WO (.cons JV WQ (.cons RH WR .nil))) (Ts.elts hn) rfl hl F' g.inv hp hd fun i6 kG i5=>hQ .next Y' i6 rfl kG g.Fe (fun h=>nomatch h) (g.Nf F'.fr.xo i5)))
end
end
section
open PySem PyProof.Rows
mutual
noncomputable def tm:PV→Bool
 | .la _ _=>false
 | .tup l=>Bq l
 | .list l=>Bq l
 | .iM _ vs=>Bq vs
 | .inst _ _ p=>tm p
 |_=>true
noncomputable def Bq:List PV→Bool
 |[]=>true
 |p::ps=>tm p&&Bq ps
end
section
variable {L:ic} {sc:Scope} {σ:gJ} {own:List Str} {k:Nat}
theorem Br{prog:Program}{w:cL}{h:Heap}{a:Addr}{kvs:List (Int×Value)}(x:h.DictOf (intKind prog w) a kvs)(iS:kvs≠[]): ∃o es ep,h.get? a=some o∧o.cls= .type "dict"∧o.data= .dict es ep∧ ∃e∈es,∃i t,e.key= .int i t:=by
 obtain⟨o,es,ep,ho,hx,hd,hk,hp,_⟩:=x
 refine⟨o,es,ep,ho,hx.1,hd,?_⟩
 cases xD:es.toList with
 |nil=>rw[xD] at hp;(first|exact VD hp|cases hp);exact absurd rfl iS
 |cons e r=>
  have he:e∈es:=Array.mem_toList_iff.mp (xD▸az ..)
  exact(hk e he).elim fun i z=>(Value.isInt_shape z.1).elim fun t ht=>⟨e,he,i,t,ht⟩
theorem C1{prog:Program}{w:cL}{h:Heap}{a:Addr}{kvs:List (Int×Value)}{kq:List (Str×Value)}(x:h.DictOf (intKind prog w) a kvs)(iS:kvs≠[])(y:h.DictOf (strKind prog w) a kq):False:=by
 obtain⟨o,es,ep,ho,_,hd,e,he,i,t,hk⟩:=Br x iS
 obtain⟨o',U9,VI,lp,_,sX,qt,_⟩:=y
 obtain rfl:=Option.some.inj (ho.symm.trans lp)
 obtain⟨rfl,_⟩:=Data.dict.inj (hd.symm.trans sX)
 exact(qt e he).elim fun z hz=>(Value.isStrOf_shape hz.1).elim fun t' ht'=>nomatch hk.symm.trans ht'
theorem wG{prog:Program}{w:cL}{h:Heap}{a:Addr}{kvs:List (Int×Value)}(x:h.DictOf (intKind prog w) a kvs){n:String}{d:Data}{dd:Option Addr}(ho:h.get? a=some {cls:= .type n,dict:=dd,data:=d})(hc:n≠"dict"):False:=
 x.elim fun o' x=>x.elim fun _ x=>x.elim fun _ x=>hc (Value.type.inj ((congrArg Obj.cls (Option.some.inj (ho.symm.trans x.1))).trans x.2.1.1))
mutual
theorem VR.tm{prog:Program}{w:cL}{h:Heap}{X X':List Addr}{a:Addr}{kvs:List (Int×Value)}(x:h.DictOf (intKind prog w) a kvs)(iS:kvs≠[])(hX: ∀b∈X',b∈X∨b=a): ∀{p:PV} {v:Value},Mine.Internal.tm p=true→VR prog w h X p v→VR prog w h X' p v
 | .none,_,_,y=>y
 | .bool _,_,_,y=>y
 | .int _,_,_,y=>y
 | .str _,_,_,y=>y
 | .bytes _,_,_,y=>y
 | .val _,_,_,y=>y
 | .la _ _,_,hn,_=>Bool.noConfusion hn
 | .vN _ _ _,_,_,y=>y.elim fun ad y=>y.elim fun t y=>y.elim fun u' y=>y.elim fun w y=> .intro ad ⟨t,u',w,y.1,fun hm=>(hX _ hm).elim y.2.1 fun h=>wG x (h▸y.2.2) (by decide),y.2.2⟩
 | .tup l,_,hn,y=>y.elim fun b y=>y.elim fun xs y=>y.elim fun n y=> .intro b ⟨xs,n,y.1,fun hm=>(hX _ hm).elim y.2.1 fun h=>wG x (h▸y.2.2.1) (by decide),y.2.2.1,gM.tm x iS hX hn y.2.2.2⟩
 | .list l,_,hn,y=>y.elim fun b y=>y.elim fun xs y=>y.elim fun n y=> .intro b ⟨xs,n,y.1,fun hm=>(hX _ hm).elim y.2.1 fun h=>wG x (h▸y.2.2.1) (by decide),y.2.2.1,gM.tm x iS hX hn y.2.2.2⟩
 | .iM ks vs,_,hn,y=>y.elim fun b y=>y.elim fun kq y=> .intro b ⟨kq,y.1,fun hm=>(hX _ hm).elim y.2.1 fun h=>C1 x iS (h▸y.2.2.1),y.2.2.1,y.2.2.2.1,gM.tm x iS hX hn y.2.2.2.2⟩
 | .inst C nm p,_,hn,y=>by
  obtain⟨b,dx,es,n,J3,t,u,e,ha,QS,ho,Gj,he,hp⟩:=y
  refine .intro b ⟨dx,es,n,J3,t,u,e,fun hm=>(hX _ hm).elim ha fun h=> ?_,fun hm=>(hX _ hm).elim QS fun h=> ?_,ho,Gj,he,VR.tm x iS hX hn hp⟩
  ·exact x.elim fun o' x=>x.elim fun _ x=>x.elim fun _ x=>nomatch (congrArg Obj.cls (Option.some.inj (ho.symm.trans (h▸x.1)))).trans x.2.1.1
  ·obtain⟨o,U9,VI,lp,_,sX,e',AK,i,t',hk⟩:=Br x iS
   obtain rfl:=Option.some.inj (Gj.symm.trans (h▸lp))
   obtain⟨rfl,_⟩:=Data.dict.inj sX
   subst he
   rw[Array.mem_singleton.mp AK] at hk
   exact nomatch hk
theorem gM.tm{prog:Program}{w:cL}{h:Heap}{X X':List Addr}{a:Addr}{kvs:List (Int×Value)}(x:h.DictOf (intKind prog w) a kvs)(iS:kvs≠[])(hX: ∀b∈X',b∈X∨b=a): ∀{ps:List PV} {vs:List Value},Mine.Internal.Bq ps=true→gM prog w h X ps vs→gM prog w h X' ps vs
 |[],_,_,y=>y
 |p::ps,_,hn,y=>y.elim fun v y=>y.elim fun r y=> .intro v ⟨r,y.1,VR.tm x iS hX (jz hn).1 y.2.1,gM.tm x iS hX (jz hn).2 y.2.2⟩
end
noncomputable def MV.OZ:MV→Option (List Int×List PV)
 | .ug ks vs=>some (ks,vs)
 |_=>none
theorem MV.KU{mv:MV}{r:List Int×List PV}(h:mv.OZ=some r):mv= .ug r.1 r.2:=by
 cases mv<;>first|exact g8 h|exact Option.some.inj h▸rfl
noncomputable def HW(i j n:Nat)(f₀:List MV→Option (List PV))(f₁:List MV→List PV→Option (List PV))(ρ:List MV):Option (Fl×List MV):=((ρ[i]?).bind MV.OZ).bind fun r=>
 if r.1.isEmpty=false then(iB n f₀ f₁ ((ρ.map MV.mJ).set i (.p (.la r.1 r.2)))).bind fun v=>if tm v then some (.next,ρ.set j (.p v)) else none else none
theorem S1.RQ{elt gU iter:aN}{jU:List aN}{rest:List cb}{scope:Scope}{pos p sh:cM}{tg:List Str}{tt:Bool}{f₀:List MV→Option (List PV)}{f₁:List MV→List PV→Option (List PV)}{x z:Str}{i j:Nat}
  (hz:kr σ z j)(ok:oJ sc scope tg)(hI:IE L sc σ k iter tt f₀)(hC:CJ L (j8 scope sc) (lr tg scope σ) tg k elt (⟨gU,iter,jU,0⟩::rest) scope pos 0 tt f₁)(CG: ∀env x,foldedSetIterable iter env x=pure x)
  (hx:x∈own)(hi:kr σ x i)(hs: ∀env,env.scope=sc→swapsWith (.ListComp elt (⟨gU,iter,jU,0⟩::rest) scope pos) (some (.Name x p)) sh.line env=pure true):
  S1 L sc σ own k false (.Assign [.Name x p] (.ListComp elt (⟨gU,iter,jU,0⟩::rest) scope pos) sh) (HW j i tg.length f₀ f₁):=by
 intro env A Y Z s ρ ρ' fl Q E R F I kC ki hf hQ
 replace hf:=Option.bind_eq_some_iff.mp hf
 obtain⟨r,hr,hf⟩:=hf
 replace hr:=Option.bind_eq_some_iff.mp hr
 obtain⟨mv,jy,hr⟩:=hr
 obtain rfl:=MV.KU hr
 replace hf:=xB hf
 obtain⟨iS,hf⟩:=hf
 replace hf:=Option.bind_eq_some_iff.mp hf
 obtain⟨v,hv,hf⟩:=hf
 replace hf:=xB hf
 obtain⟨ML,hf⟩:=hf
 skip;(first|exact VD hf|cases hf)
 obtain⟨ps,out,h0,h1,ER,rfl⟩:=rD hv
 obtain⟨a,X',hsX,vE,hat,m,E2,F'⟩:=F.fr.view hz jy (q:= .la r.1 r.2) rfl
 obtain⟨a',kvs,e,qu,_,qH,Bk,hkk,hl⟩:=m
 skip;(first|exact VD e|cases e)
 have WX:kvs≠[]:=fun h=>by rw[h] at hkk;rw[←hkk] at iS;exact Bool.noConfusion iS
 rw[exec_Assign_Name_used _ _ _ _ (hs env F.fr.scope)]
 refine ao (bP (ao ?_))
 show wpAny _ A (do let _←comprehension (.ListComp elt (⟨gU,iter,jU,0⟩::rest) scope pos) scope env _ (PySem.newList []) false (eval iter env) (some (assign (.Name x p) env))) _ _ s
 refine ao (bI (th (Q:=fun _ s'=>Q .next s') (use:=some (assign (.Name x p) env)) ok hI hC CG R F' I h0 h1 ER fun C D s' d' xc' hC hD oD hn abr Rb=> ?_) (fun _ s' hq=>aA (aA hq)) fun _ _ e=>e)
 obtain⟨mm,hm⟩:=hn
 have d:gI L (Y++Z) s s':=⟨d'.keep,d'.inv,F.fr.xo.CR (W:=[]) vE hat E2 d'.keep d'.xo,d'.os,d'.drawn⟩
 have DU:C∉Y++Z:=F.fr.xo.fresh hC
 obtain⟨jm,kG⟩:=FS.MY (σ:=σ) (own:=own) F d (F.fr.xo.CR (W:=[C]) vE hat E2 d'.keep xc') hC DU
 have hv:VR L.prog L.w s'.heap (C::(Y++Z)) (.list out) (.ref D):=VR.tm (jc Bk fun o e=>d'.keep a o hat e) WX (fun b hb=>(List.mem_cons.mp hb).elim (fun e=> .inl (e▸az ..)) fun h=>by
  by_cases e:b=a
  ·exact .inr e
  ·exact .inl (av _ (vE b h e))) ML oD
 refine cm (jm.bind d.inv hx hi (hv.up (Up.sub _ fun a ha=>Hg ha)) fun gQ jJ gP=> ?_)
 refine⟨mm,hm.at' fun o e=>gP.keep C o (fun e=>DU (e▸F.fr.xo.tb)) (fun h=>DU (aw _ h)) e,fun h' k9=> ?_⟩
 have k:=kG _ _ _ jJ gP fun b o hb e=>k9.extBut b o hb e
 exact hQ.one (s':={gQ with heap:=h'}) rfl k.1 k.2
end
end
section
open PySem PyProof.Rows
section
variable {L:ic} {sc:Scope} {σ:gJ} {own:List Str} {k:Nat}
theorem DictAt.at'{K:Type}[DecidableEq K]{prog:Program}{w:cL}{knd:KeyKind prog w K}{h h':Heap}{a:Addr}{kvs:List (K×Value)}{ep:Nat}(x:h.DictAt knd a kvs ep)(e: ∀o,h.get? a=some o→h'.get? a=some o):h'.DictAt knd a kvs ep:=x.elim fun o x=>x.elim fun es x=>⟨o,es,e _ x.1,x.2⟩
theorem qI:entryFor table "dict_itemiterator.__iter__"=some aD.«dict_keyiterator.__iter__»:=entryFor_alias (id':="dict_keyiterator.__iter__") (by kernel_rfl) (by first|rfl|decide+kernel) (by decide+kernel) (by kernel_rfl)
noncomputable def yY:List Str→List PV→List PV
 |k::ks,v::vs=> .tup [.str k,v]::yY ks vs
 |_,_=>[]
noncomputable def zL:PV→Option (List PV)
 | .iM ks vs=>some (yY ks vs)
 |_=>none
theorem C2{p:PV}{ps:List PV}(h:zL p=some ps): ∃ks vs,p= .iM ks vs∧yY ks vs=ps:=by cases p<;>first|exact g8 h|exact⟨_,_,rfl,Option.some.inj h⟩
theorem Fg{h:Heap}{X:List Addr}: ∀{kvs:List (Str×Value)} {vs:List PV} (i:Nat) (p:PV),gM L.prog L.w h X vs (kvs.map (·.2))→(yY (kvs.map (·.1)) vs)[i]? =some p→ ∃k v q,kvs[i]? =some (k,v)∧p= .tup [.str k,q]∧VR L.prog L.w h X q v:=by
 intro kvs
 induction kvs with
 |nil=>intro _ _ _ _ e;exact g8 e
 |cons k0 kvs ih=>
  obtain⟨k0,v0⟩:=k0
  intro vs i p x e
  cases vs with
  |nil=>exact absurd x.length (aV _)
  |cons q vs=>
   cases i with
   |zero=>exact x.elim fun v x=>x.elim fun r x=>⟨_,_,q,rfl,(Option.some.inj e).symm,(show v0=v from(List.cons.inj x.1).1)▸x.2.1⟩
   |succ i=>exact x.elim fun v x=>x.elim fun r x=>ih i p ((List.cons.inj x.1).2▸x.2.2) e
theorem Fh{h:Heap}{X:List Addr}: ∀{kvs:List (Str×Value)} {vs:List PV},gM L.prog L.w h X vs (kvs.map (·.2))→(yY (kvs.map (·.1)) vs).length=kvs.length:=by
 intro kvs
 induction kvs with
 |nil=>intro _ _;rfl
 |cons k0 kvs ih=>
  intro vs x
  cases vs with
  |nil=>exact absurd x.length (aV _)
  |cons q vs=>exact x.elim fun v x=>x.elim fun r x=>congrArg (· +1) (ih ((List.cons.inj x.1).2▸x.2.2))
theorem It.items(hn:L.exc=none){X:List Addr}{it d:Addr}{ep:Nat}{kvs:List (Str×Value)}{vs:List PV}(hi:it∈X)(ht:it≠L.tb)(hd:d∉X):
  It L X [it] it (yY (kvs.map (·.1)) vs) (fun i h=>(∃ok ov,IsItemIter h it d i kvs.length ep ok ov)∧h.DictAt (strKind L.prog L.w) d kvs ep∧gM L.prog L.w h X vs (kvs.map (·.2))) true where
 Ol:=all1 hi
 there:=fun i h st=>st.1.elim fun ok x=>x.elim fun ov h1=>all1 ⟨_,h1⟩
 frame:=fun i h h' st hk=>⟨st.1.elim fun ok x=>x.elim fun ov h1=>⟨ok,ov,hk it _ (fun _=>uP) h1⟩,DictAt.at' st.2.1 fun o e=>hk d o (fun h=>absurd h hd) e,st.2.2.up fun a o ha e=>⟨ha,hk a o (fun h=>absurd h ha) e⟩⟩
 self:=fun A i s Q E st hQ=>st.1.elim fun ok x=>x.elim fun ov h1=>
  have hT:s.TypeIs (.ref it) "dict_itemiterator":=⟨_,h1,rfl⟩
  wpAny_pyIter_slot hT gv (bH gv hT qI (aA ⟨_,rfl,"dict_itemiterator",_,hT,F.slot_dict_itemiterator_next.lookup,hQ⟩) (F.args_dict_itemiterator_iter_1 _))
 turn:=fun A i s p Q E G8 R x Iv st hp Rk hQ=>by
  obtain⟨⟨ok,ov,h1⟩,h2,h3⟩:=st
  obtain⟨key,v,q,hkv,rfl,hq⟩:=Fg i p h3 hp
  obtain⟨es,kk,pp,rfl⟩:=rz (Rk rfl)
  refine wpAny_pyNext_items_item h1 h2 hkv fun kv h' GW k1 k2 ZX kk=>⟨_,rfl,?_⟩
  obtain⟨t,rfl⟩:=Value.isStrOf_shape GW
  refine wpAny_letOwnedTupleGo_items k1 fun qD l1 ls=> ?_
  have hw: ∀a∈[it],a∈X:=all1 hi
  have hk: ∀b o,b∉[it]→s.heap.get? b=some o→qD.get? b=some o:=fun b o hb e'=>ls.extBut b o (fun h=>hb (h▸uP)) (kk b o (fun h=>hb (h▸uP)) e')
  have hu:=DQ hw hk
  exact hQ _ _ (.intro _ ⟨_,_,rfl,x.size,ls.extBut _ _ (dU (aI h1)) k2,gM.cons (VR.mkStr _ _) (gM.cons (hq.up hu) gM.nil)⟩) ⟨⟨_,_,l1⟩,DictAt.at' h2 fun o e=>hk d o (fun h=>hd (List.mem_singleton.mp h▸hi)) e,h3.up hu⟩ (gO.rA Iv x hw hk _) (x.rA hw hk (fun h=>ht (List.mem_singleton.mp h).symm) (all1 ⟨_,l1⟩))
 done:=fun A s Q E R x Iv st hQ=>by
  obtain⟨⟨ok,ov,h1⟩,h2,h3⟩:=st
  rw[Fh h3] at h1
  refine wpAny_pyNext_items_end (R.none hn) h1 h2 (cR (br _)) fun h' hx=> ?_
  have hk: ∀b o,b∉[it]→s.heap.get? b=some o→h'.get? b=some o:=fun b o hb e'=>hx b o (fun h=>hb (h▸uP)) e'
  exact hQ _ (gO.rA Iv x (all1 hi) hk _) hk
theorem IE.items(hn:L.exc=none){x:Str}{xp apos pos:cM}{i:Nat}(hi:σ.lookup x=some i)(sj:(apos.endLine==pos.line)=true)(hd:(x==("__debug__":Str))=false):
  IE L sc σ k (.Call (.Attribute (.Name x xp) "items" apos) [] [] pos) true (fun ρ=>(gX ρ[i]?).bind zL):=by
 intro env A X s ρ ps Q E R F I hf hQ
 replace hf:=Option.bind_eq_some_iff.mp hf
 obtain⟨p,hp,hf⟩:=hf
 obtain⟨ks,vs,rfl,rfl⟩:=C2 hf
 obtain⟨v,r,m⟩:=F.rd x i hi _ (qq hp) (fun h=>nomatch h)
 have hk:env.scope.kind= .function:=by rw[F.scope];exact F.kind
 obtain⟨a,kvs,rfl,ha,Gj,hkk,hl⟩:=VR.nH (show VR L.prog L.w s.heap X (.iM ks vs) v from m)
 subst hkk
 obtain⟨o,es,ep,ho,r1⟩:=Gj
 have hat:s.heap.DictAt (strKind L.prog L.w) a kvs ep:=⟨o,es,ho,r1⟩
 refine wpAny_Call_items (sZ F.xo.sm ha) ⟨o,es,ep,ho,r1⟩ rfl sj (fun Q' hq=>r.eval hk hq hd) ?_
 refine wpAny_pyIter_items (d:=a) (kvs:=kvs) (ep:=ep) ⟨_,aE _ rfl,rfl,rfl⟩ (hat.push _) ?_
 have hsz:(s.heap.push {cls:= .type "dict_items",data:= .fields #[.ref a]}).objs.size=s.heap.objs.size+1:=aZ ..
 have k1: ∀b o,s.heap.get? b=some o→(s.heap.push {cls:= .type "dict_items",data:= .fields #[.ref a]}).get? b=some o:=fun b o e=>iq _ _ b o e
 generalize s.heap.push {cls:= .type "dict_items",data:= .fields #[.ref a]}=h₁ at hsz k1
 have f1:s.heap.get? h₁.objs.size=none:=by
  cases e':s.heap.get? h₁.objs.size with
  |none=>rfl
  |some o=>exact absurd (hsz▸aI e') (Nat.not_lt.mpr (dM _))
 have g:=aE (o:={cls:= .type "dict_itemiterator",data:= .fields #[.none,.bool false,.ref a,.int 0 0,.int kvs.length 0,.int ep 0,.none,.none]}) h₁ rfl
 exact qv (s₁:=s) (wr:=[h₁.objs.size]) s.toks F.xo (gI.refl I F.xo) (fun b o e=>iq _ _ b o (k1 b o e)) (all1 f1) (all1 ⟨_,g⟩) uP hQ fun X' h1 h2 u _=>⟨_,It.items hn (kvs:=kvs) (ep:=ep) (h1 _ uP) (h2 _ uP) (u a o ha ho).1,⟨_,_,g⟩,DictAt.at' hat fun o e=>iq _ _ a o (k1 a o e),gM.up u hl⟩
end
end
section
open PySem PyProof.Rows
section
variable {L:ic} {sc:Scope} {σ:gJ} {own:List Str} {k:Nat}
theorem gM.Nh{h h':Heap}{X X':List Addr}: ∀{l:List Int} {vs:List Value},gM L.prog L.w h X (l.map .int) vs→gM L.prog L.w h' X' (l.map .int) vs:=by
 intro l
 induction l with
 |nil=>exact @fun _ x=>x
 |cons n l hV=>exact @fun _ x=>x.elim fun v x=>x.elim fun r x=> .intro v ⟨r,x.1,x.2.1.elim fun t e=> .intro t e,hV x.2.2⟩
structure JX(z TI TO i1 i2 a b:Addr)(xs ys:Array Value)(k:Nat)(h:Heap):Prop where
 hz:fB h z TI TO .none
 CY:h.get? TI=some {cls:= .type "tuple",data:= .seq ([i1,i2].map Value.ref).toArray}
 AM: ∃kO:Array Value,h.get? TO=some {cls:= .type "tuple",data:= .seq kO}∧kO.size=[i1,i2].length
 h1:h.IsTupleIter i1 a k
 h2:h.IsTupleIter i2 b k
 ha: ∃n,h.get? a=some {cls:= .type "tuple",data:= .seq xs n}
 hb: ∃n,h.get? b=some {cls:= .type "tuple",data:= .seq ys n}
theorem HX{x y z:Addr}{l:List Addr}:z∈x::y::z::l:= .tail _ in1
theorem JX.at'{z TI TO i1 i2 a b:Addr}{xs ys:Array Value}{k:Nat}{h h':Heap}(x:JX z TI TO i1 i2 a b xs ys k h)(hk: ∀c∈[z,TI,TO,i1,i2,a,b],∀o,h.get? c=some o→h'.get? c=some o):JX z TI TO i1 i2 a b xs ys k h' where
 hz:=hk z uP _ x.hz
 CY:=hk TI in1 _ x.CY
 AM:=x.AM.elim fun kO e=>⟨kO,hk TO HX _ e.1,e.2⟩
 h1:=x.h1.at fun o e=>hk i1 (.tail _ HX) o e
 h2:=x.h2.at fun o e=>hk i2 (.tail _ (.tail _ HX)) o e
 ha:=x.ha.elim fun n e=>⟨n,hk a (.tail _ (.tail _ (.tail _ HX))) _ e⟩
 hb:=x.hb.elim fun n e=>⟨n,hk b (.tail _ (.tail _ (.tail _ (.tail _ HX)))) _ e⟩
theorem JX.src{z TI TO i1 i2 a b:Addr}{xs ys:Array Value}{k:Nat}{h:Heap}{as bs:List Int}(x:JX z TI TO i1 i2 a b xs ys k h)(ha:a∉[z,TO,i1,i2])(hb:b∉[z,TO,i1,i2])(hx:gM L.prog L.w h [z,TO,i1,i2] (as.map .int) xs.toList)(hy:gM L.prog L.w h [z,TO,i1,i2] (bs.map .int) ys.toList):
  ∀(m:Nat) i ps,[i1,i2][m]? =some i→[as.map PV.int,bs.map PV.int][m]? =some ps→yU L [z,TO,i1,i2] h i (match m with|0=>(true,a)|_=>(true,b)) k ps:=fun
 |0,i,ps,hi,hp=>by (first|exact VD hi|cases hi);(first|exact VD hp|cases hp);exact x.ha.elim fun n e=> .inr ⟨rfl,x.h1,.intro a ⟨xs,n,rfl,ha,e,hx⟩⟩
 |1,i,ps,hi,hp=>by (first|exact VD hi|cases hi);(first|exact VD hp|cases hp);exact x.hb.elim fun n e=> .inr ⟨rfl,x.h2,.intro b ⟨ys,n,rfl,hb,e,hy⟩⟩
 |_+2,_,_,hi,_=>g8 hi
theorem Fi{A:aH}(hn:L.exc=none)(hA:A.handled=none){z TI TO i1 i2 a b:Addr}{xs ys:Array Value}{as bs:List Int}(ML:[z,TO,i1,i2].Nodup)(CY:TI∉[z,TO,i1,i2])(ha:a∉[z,TO,i1,i2])(hb:b∉[z,TO,i1,i2])(hl:as.length=bs.length)
  (hx: ∀h X,gM L.prog L.w h X (as.map .int) xs.toList)(hy: ∀h X,gM L.prog L.w h X (bs.map .int) ys.toList):
  WalksU L.prog L.w A z [z,TI,TO,i1,i2,a,b] [z,TO,i1,i2] as.length (fun i vals=> ∃p q t t',as[i]? =some p∧bs[i]? =some q∧vals= #[.int p t,.int q t']) (JX z TI TO i1 i2 a b xs ys)
   (fun i T h=>T∉[z,TO,i1,i2]∧fB h z TI TO (rawInt T)∧ ∀h',(∀c o,c≠z→h.get? c=some o→h'.get? c=some o)→fB h' z TI TO .none→JX z TI TO i1 i2 a b xs ys (i+1) h') where
 sub:=kF uP (kF HX (kF (.tail _ HX) (all1 (.tail _ (.tail _ HX)))))
 frame:=fun i h h' st hk=>st.at' hk
 item:=fun i s Q E hi st hQ=>by
  have HK:s.TypeIs (.ref z) "zip":=⟨_,st.hz,rfl⟩
  obtain⟨kO,AM,wF⟩:=st.AM
  have ea:as[i]? =some as[i]:=aG hi
  have eb:bs[i]? =some (bs[i]'(hl▸hi)):=aG _
  unfold pyNext
  refine ao (dw (bg (name:=Str.ofString "__next__") HK cE
   (bH cE HK eN (su (L:=L) (X:=[z,TO,i1,i2]) (its:=[i1,i2]) (rs:=fun m=>match m with|0=>(true,a)|_=>(true,b)) (qS:=[as.map .int,bs.map .int]) (row:=[.int as[i],.int (bs[i]'(hl▸hi))]) (n:=2) (k:=i) (by show A.handled=_;rw[hA,hn];rfl) (fun h=>absurd hn h) (fun h=>absurd hn h) st.hz st.CY AM wF ML (bZ _ _) (by decide:2≤100) (fun c h=>h) rfl rfl (br 2) (st.src ha hb (hx _ _) (hy _ _)) (fun
    |0,ps,_,hp=>by (first|exact VD hp|cases hp);exact⟨.int as[i],by rw[aJ,ea];rfl,rfl⟩
    |1,ps,_,hp=>by (first|exact VD hp|cases hp);exact⟨.int (bs[i]'(hl▸hi)),by rw[aJ,eb];rfl,rfl⟩
    |_+2,_,_,hp=>g8 hp) (fun ps hp=>g8 hp) (fun _ h' ru k1 k2 k3 k4 k5 k6=> ?_) fun h=>absurd h (bD 2)) (ei _))))
  refine aA ?_
  obtain⟨v1,v2,e,e1,e2⟩:=gM.two k3
  obtain⟨t1,rfl⟩:=e1.jZ
  obtain⟨t2,rfl⟩:=e2.jZ
  have old: ∀c∈[z,TO,i1,i2],c<s.heap.objs.size:=kF (aI st.hz) (kF (aI AM) (st.h1.elim fun _ g1=>st.h2.elim fun _ g2=>kF (aI g1.1) (all1 (aI g2.1))))
  refine hQ _ _ _ _ ⟨as[i],_,t1,t2,ea,eb,Array.toList_inj.mp e⟩ ⟨_,k2,rfl,_,rfl⟩ ⟨fun hm=>absurd (old _ hm) (bD _),k1,fun qD hk WY=> ?_⟩ k6
  have n1: ∀c∈[TO,i1,i2],c≠z:=fun c hc e=>(List.nodup_cons.mp ML).1 (e▸hc)
  have n2: ∀{c:Addr},c∉[z,TO,i1,i2]→c≠z:=fun h e=>h (e▸uP)
  have s1:h'.IsTupleIter i1 a (i+1):=(k5 0 i1 _ rfl rfl).elim (fun h=>Bool.noConfusion h.1) fun h=>h.2.1
  have s2:h'.IsTupleIter i2 b (i+1):=(k5 1 i2 _ rfl rfl).elim (fun h=>Bool.noConfusion h.1) fun h=>h.2.1
  exact⟨WY,hk _ _ (n2 CY) (k6 _ _ CY st.CY),k4.elim fun ys' g=>⟨ys',hk _ _ (n1 TO uP) g.1,g.2⟩,s1.at fun o e=>hk _ o (n1 i1 in1) e,s2.at fun o e=>hk _ o (n1 i2 HX) e,st.ha.elim fun na g=>⟨na,hk _ _ (n2 ha) (k6 a _ ha g)⟩,st.hb.elim fun nb g=>⟨nb,hk _ _ (n2 hb) (k6 b _ hb g)⟩⟩
 go:=fun elts kk pos i T s Q E hm hQ=>wpAny_letOwnedTupleGo_zip hm.2.1 fun qD l1 ls=>hQ qD (hm.2.2 qD (fun c o hc e=>ls.extBut c o hc e) l1) fun c o hc e=>ls.extBut c o (fun e=>hc (e▸uP)) e
 apart:=fun i T h hm=>hm.1
 done:=fun s Q E st hQ=>by
  have HK:s.TypeIs (.ref z) "zip":=⟨_,st.hz,rfl⟩
  obtain⟨kO,AM,wF⟩:=st.AM
  unfold pyNext
  refine ao (dw (bg (name:=Str.ofString "__next__") HK cE
   (bH cE HK eN (su (L:=L) (X:=[z,TO,i1,i2]) (its:=[i1,i2]) (rs:=fun m=>match m with|0=>(true,a)|_=>(true,b)) (qS:=[as.map .int,bs.map .int]) (row:=[.none,.none]) (k:=as.length) (n:=0) (by show A.handled=_;rw[hA,hn];rfl) (fun h=>absurd hn h) (fun h=>absurd hn h) st.hz st.CY AM wF ML (bZ _ _) (by decide:2≤100) (fun c h=>h) rfl rfl (aC _) (st.src ha hb (hx _ _) (hy _ _)) (fun m ps hm=>absurd hm (dR _)) (fun ps hp=>by (first|exact VD hp|cases hp);exact cR (bt (aF _))) (fun e=>nomatch (e:0=2)) fun _ h' e hk he=> ?_) (ei _))))
  obtain⟨o,ho,hc⟩:=he
  exact ao (dh (T:="StopIteration") (b:=true) ⟨o,ho,hc⟩ fu (aA (hQ _ _ hk)))
 self:=fun i s Q E st hQ=>dO st.hz hQ
end
end
section
open PySem PyProof.Rows
section
variable {L:ic} {sc:Scope} {σ:gJ} {own:List Str} {k:Nat}
noncomputable def C3(ps:List PV):Option PV:=EU (fun p q=>DX (fun a=>DX (fun b=>(jO a).bind fun as=>(jO b).bind fun bs=>if as.length=bs.length∧as.length≤1000 then some (.tup ((List.zipWith (· + ·) as bs).map .int)) else none) q) p) ps
theorem HY{α:Type}: ∀{l:List α},l.length=2→ ∃a b,l=[a,b]
 |[a,b],_=>⟨a,b,rfl⟩
theorem Bs{h:Heap}{c P:Addr}{ps:Array Value}(x:h.IsCode c P ps): ∃o,h.get? P=some o:=
 x.elim fun _ x=>x.elim fun _ x=>x.elim fun _ x=>x.elim fun _ x=>x.elim fun _ x=>x.elim fun _ x=>x.elim fun _ x=>x.elim fun _ x=>x.elim fun _ x=>x.elim fun op x=>⟨op,x.2.2.2.2.2.2.2.1⟩
structure RR(sc scope:Scope)(xa xb:Str):Prop where
 co:scope.isCoroutine=false
 WZ: ∀env,closureFor scope env=pure []
 cell: ∀y∈scope.names,y.2≠ .cell
 dot:scope.names.lookup (".0":Str)=some NameKind.local
 a:scope.names.lookup xa=some .local
 b:scope.names.lookup xb=some .local
 ab:xa≠xb
 kind:scope.kind= .function
 host:vM sc=true
 da:(xa==("__debug__":Str))=false
 db:(xb==("__debug__":Str))=false
theorem Bt(n:Nat):passing (fun _=>true) n 0=List.range n:=by simp[passing]
theorem HZ{X:List Addr}{s s₄ rC s':aq}{JT:Array Value}{C:Addr}{wr:List Addr}{g:Nat}{gs:GenState}{C4:Heap}{tk:Nat}(F:XO L X s.heap)(I:Inv L s)(k4: ∀b o,b≠L.tb→s.heap.get? b=some o→s₄.heap.get? b=some o)(hos:s₄.os=s.os)(Wk:s₄.drawn=s.drawn)(hgn:AllBare s₄.gens)
  (hc:s₄.heap.IsCode L.iI L.tb JT∧s₄.heap.TableAt L.iI L.tb JT∧L.zl JT)(Gl: ∀b∈C::wr,s.heap.get? b=none)(e5:rC={s₄ with gens:=s₄.gens.push gs,toks:=tk,heap:=C4})(hb:gs.bare=true)(k5: ∀b o,s₄.heap.get? b=some o→C4.get? b=some o)(hm:Moved (C::wr) (GenOnlyQ g) rC s'):
  gI L X s s':=by
 subst e5
 have Z7:L.tb∉C::wr:=fun h=>F.fresh (Gl _ h) F.tb
 have up: ∀b o,b∉C::wr→s₄.heap.get? b=some o→s'.heap.get? b=some o:=fun b o h e=>hm.heap b o h (k5 b o e)
 have out: ∀b o,s.heap.get? b=some o→b∉C::wr:=fun b o e h=>g8 ((Gl b h).symm.trans e)
 have keep: ∀b o,b≠L.tb→s.heap.get? b=some o→s'.heap.get? b=some o:=fun b o hb e=>up b o (out b o e) (k4 b o hb e)
 refine⟨keep,⟨fun a o e=>keep a o (fun h=>g8 (L.vP.symm.trans (h▸e))) (I.ir a o e),AllBare.movedS (s':=s') (s:={s₄ with gens:=s₄.gens.push gs,toks:=tk,heap:=C4}) (AllBare.push hgn hb) hm⟩,⟨F.tb,F.sm,fun a ha=> ?_,F.look,?_⟩,hm.os.trans hos,hm.drawn.trans Wk⟩
 ·by_cases e:a=L.tb
  ·exact(Bs hc.1).elim fun o h'=>⟨o,e▸up _ _ Z7 h'⟩
  ·exact(F.there a ha).elim fun o ho=>⟨o,keep a o e ho⟩
 ·obtain⟨fp,hf,MZ⟩:=L.GB _ _ hc
  obtain⟨oh,O0⟩:=L.vQ
  exact⟨fp,L.vO _ _ fp hf fun b o hb e=>up b o (hb.elim (fun h=>h▸Z7) fun h=>MZ b h▸out _ _ (I.ir _ _ O0)) e,fun a ha h=>g8 ((F.look _ (MZ a ha▸h)).symm.trans O0)⟩
theorem zM{A:aH}{E:Value→aq→Prop}{s:aq}{env:b9}{ps:Array Value}{pos:cM}{qualname:Str}{scope:Scope}{Q:Value→aq→Prop}(hc:env.code= .ref L.iI)(Gn:s.heap.IsCode L.iI L.tb ps∧s.heap.TableAt L.iI L.tb ps∧L.zl ps)
  (hQ: ∀code h' tk JT,cX L.tb s.heap h'→(h'.IsCode L.iI L.tb JT∧h'.TableAt L.iI L.tb JT∧L.zl JT)→Q code {s with heap:=h',toks:=tk}):
  wpAny L.M A (genexprCode env pos qualname scope) Q E s:=by
 cases Ni:codeAmong pos ps.toList with
 |some cv=>exact wpAny_genexprCode_hit hc Gn.1 Ni (hQ cv s.heap s.toks ps (Heap.ExtBut.refl _ _) Gn)
 |none=>exact wpAny_genexprCodeX hc Gn.1 Gn.2.1 Ni fun c' h' tk k1 _ _ k2 _ k3 _=>hQ _ h' tk _ k1 ⟨k2,k3,L.GA _ _ Gn.2.2⟩
theorem C5{ps:List PV}{r:PV}(h:C3 ps=some r): ∃l1 l2 as bs,ps=[.tup l1,.tup l2]∧jO l1=some as∧jO l2=some bs∧(as.length=bs.length∧as.length≤1000)∧r= .tup ((List.zipWith (· + ·) as bs).map .int):=
 (sk h).elim fun p h=>h.elim fun q h=>(ti h.2).elim fun l1 h1=>(ti h1.2).elim fun l2 h2=>(Option.bind_eq_some_iff.mp h2.2).elim fun as h3=>(Option.bind_eq_some_iff.mp h3.2).elim fun bs h4=>⟨l1,l2,as,bs,by rw[h.1,h1.1,h2.1],h3.1,h4.1,jU h4.2⟩
theorem H4{A:aH}{X:List Addr}{s:aq}{Q E:Value→aq→Prop}{l1 l2:List PV}{as bs:List Int}{vs:List Value}(jL:gM L.prog L.w s.heap X [.tup l1,.tup l2] vs)(ha:jO l1=some as)(hb:jO l2=some bs)
  (k: ∀a b xs ys n m h' z TI TO i1 i2,a∉X→b∉X→s.heap.get? a=some (seqObj true xs n)→s.heap.get? b=some (seqObj true ys m)→(∀h X,gM L.prog L.w h X (as.map .int) xs.toList)→(∀h X,gM L.prog L.w h X (bs.map .int) ys.toList)→sy s.heap [(true,a),(true,b)] h' z TI TO [i1,i2]→Q (.ref z) {s with heap:=h'}):
  wpAny L.M A (PySem.call (.type "zip") vs) Q E s:=
 jL.two.elim fun v h=>h.elim fun u h=>h.2.1.lY.elim fun a h1=>h1.elim fun xs h1=>h1.elim fun n h1=>h.2.2.lY.elim fun b h2=>h2.elim fun ys h2=>h2.elim fun m h2=>by
  rw[h.1,h1.1,h2.1]
  exact yV (t1:=true) (t2:=true) h1.2.2.1 h2.2.2.1 fun h' z TI TO its M=>(HY M.len).elim fun i1 h3=>h3.elim fun i2 h3=>
   k a b xs ys n m h' z TI TO i1 i2 h1.2.1 h2.2.1 h1.2.2.1 h2.2.2.1 (fun _ _=>gM.Nh (oH ha▸h1.2.2.2)) (fun _ _=>gM.Nh (oH hb▸h2.2.2.2)) (h3▸M)
theorem H5{h h' h₃:Heap}{z TI TO i1 i2 a b:Addr}{xs ys:Array Value}{n m:Nat}(M:sy h [(true,a),(true,b)] h' z TI TO [i1,i2])(ha:h.get? a=some (seqObj true xs n))(hb:h.get? b=some (seqObj true ys m))(up: ∀c o,h'.get? c=some o→c≠L.tb→h₃.get? c=some o)(O1: ∀c,(c=TI∨c∈[z,TO,i1,i2])→c≠L.tb)(na:a≠L.tb)(nb:b≠L.tb):JX z TI TO i1 i2 a b xs ys 0 h₃:=
 ⟨up _ _ M.hz (O1 z (.inr uP)),up _ _ M.CY (O1 TI (.inl rfl)),M.AM.elim fun kO g=>⟨kO,up _ _ g.1 (O1 TO (.inr in1)),g.2⟩,⟨_,up _ _ (M.KL 0 i1 _ rfl rfl) (O1 i1 (.inr HX)),rfl,rfl⟩,⟨_,up _ _ (M.KL 1 i2 _ rfl rfl) (O1 i2 (.inr (.tail _ HX))),rfl,rfl⟩,⟨n,up _ _ (M.keep _ _ ha) na⟩,⟨m,up _ _ (M.keep _ _ hb) nb⟩⟩
theorem KV{h₃:Heap}{z TI TO i1 i2 a b:Addr}{xs ys:Array Value}{i:Nat}(st:JX z TI TO i1 i2 a b xs ys i h₃): ∀c∈[z,TI,TO,i1,i2,a,b],c<h₃.objs.size:=
 kF (aI st.hz) (kF (aI st.CY) (st.AM.elim fun _ g=>kF (aI g.1) (st.h1.elim fun _ g1=>st.h2.elim fun _ g2=>kF (aI g1.1) (kF (aI g2.1) (st.ha.elim fun _ ga=>st.hb.elim fun _ gb=>kF (aI ga) (all1 (aI gb)))))))
theorem SE.O2(hn:L.exc=Option.none){tn zn xa xb:Str}{np zp p1 p2 p3 pa pb pt cp pos pos':cM}{kt:Nat}{scope:Scope}{e:aN}{es:List aN}{f:List MV→Option (List PV)}
  (ht:sc.names.lookup tn=some .globalImplicit)(htv:L.gl tn=some (.type "tuple"))(hz:sc.names.lookup zn=some .globalImplicit)(hzv:L.gl zn=some (.type "zip"))(ok:RR sc scope xa xb)(ha:LE L sc σ k (e::es) f)
  (he: ∀env,starEach (e::es) env=(false,eval e env)::starEach es env)(qE: ∀env,(starEach (e::es) env).any (·.1)=false)
  (hg: ∀env x,genFold (.Call (.Name zn zp) (e::es) [] cp) env x=pure x)(KO:(tn==("__debug__":Str))=false)(hd2:(zn==("__debug__":Str))=false):
  SE L sc σ k (.Call (.Name tn np) [.GeneratorExp (.BinOp (.Name xa p1) .Add (.Name xb p2) p3) [⟨.Tuple [.Name xa pa,.Name xb pb] kt pt,.Call (.Name zn zp) (e::es) [] cp,[],0⟩] scope pos] [] pos') (fun ρ=>(f ρ).bind C3):=by
 intro env A X s ρ r Q E R F I hf hQ
 refine(Option.bind_eq_some_iff.mp hf).elim fun qs hf=>(C5 hf.2).elim fun l1 h=>h.elim fun l2 h=>h.elim fun as h=>h.elim fun bs h=> ?_
 have hJ:=h.2.2.2.1
 have hh:=R.none hn
 have r9:env.scope.kind= .function:=by rw[F.scope];exact F.kind
 refine bT (aO r9 (by unfold b9.kindOf;rw[F.scope];exact ht) (L.rm s env A tn _ _ E I.ir F.globals F.builtins.1 htv ?_) KO)
 suffices key:wpAny L.M A (spliced (backTo pos' (starEach [aN.GeneratorExp (.BinOp (.Name xa p1) .Add (.Name xb p2) p3) [⟨.Tuple [.Name xa pa,.Name xb pb] kt pt,.Call (.Name zn zp) (e::es) [] cp,[],0⟩] scope pos] env))) (fun vs s'=>wpAny L.M A (PySem.call (.type "tuple") vs) Q E s') E s from
  PySem.callWith_type rfl (b8 (rest:=[]) key)
 refine df (rest:=[]) (he:=rfl) ?_
 refine wpAny_GeneratorExp_walksQTD hh ok.co (ok.WZ env) ok.cell ok.dot ok.a ok.b ok.ab ok.kind R.limit ?_ (hg env)
 refine bT (aO r9 (by unfold b9.kindOf;rw[F.scope];exact hz) (L.rm s env A zn _ _ E I.ir F.globals F.builtins.1 hzv ?_) hd2)
 refine si (.type _) ha he qE R F I hf.1 fun vs s₁ jL d=> ?_
 refine H4 (h.1▸jL) h.2.1 h.2.2.1 fun a b xs ys n m h' z TI TO i1 i2 qu hbX D5 JV RG hr2 M=> ?_
 refine dO M.hz ?_
 have H6: ∀a o,L.look a=some o→h'.get? a=some o:=fun a o e=>M.keep a o (d.inv.ir a o e)
 refine⟨L.noLimit _ H6,?_⟩
 obtain⟨fp,MZ,_⟩:=d.xo.tab
 obtain⟨wB,H7⟩:=L.zm _ _ MZ
 have O3:h'.IsCode L.iI L.tb wB∧h'.TableAt L.iI L.tb wB∧L.zl wB:=⟨H7.1.keeps M.keep,H7.2.1.keeps M.keep,H7.2.2⟩
 refine zM (F.builtins.2.1 ok.host) O3 fun code h₃ RT JT KW Nj=> ?_
 have Nk: ∀a o,L.look a=some o→a≠L.tb:=fun a o e h=>by rw[h,L.vP] at e;(first|exact VD e|cases e)
 rw[F.globals,F.builtins.1]
 refine L.J4 _ _ _ _ (fun a o e=>KW a o (Nk a o e) (H6 a o e)) ?_
 have new: ∀c,(c=TI∨c∈[z,TO,i1,i2])→s₁.heap.get? c=Option.none:=fun c hc=>by
  cases e':s₁.heap.get? c with
  |none=>rfl
  |some o=>exact absurd (aI e') (Nat.not_lt.mpr (M.new c hc))
 have W0: ∀c,c∈[z,TO,i1,i2]→s.heap.get? c=Option.none:=fun c hc=>d.fresh F.xo (new c (.inr hc))
 have O1: ∀c,(c=TI∨c∈[z,TO,i1,i2])→c≠L.tb:=fun c hc e=>d.xo.fresh (new c hc) (e▸d.xo.tb)
 have na:a∉[z,TO,i1,i2]:=fun h=>g8 ((new a (.inr h)).symm.trans D5)
 have nb:b∉[z,TO,i1,i2]:=fun h=>g8 ((new b (.inr h)).symm.trans JV)
 have st:JX z TI TO i1 i2 a b xs ys 0 h₃:=H5 (L:=L) M D5 JV (fun c o e hc=>KW c o hc e) O1 (fun e=>qu (e▸d.xo.tb)) (fun e=>hbX (e▸d.xo.tb))
 have KY:h₃.NoLimit:=L.noLimit _ fun a o e=>KW a o (Nk a o e) (H6 a o e)
 refine⟨z,[z,TI,TO,i1,i2,a,b],[z,TO,i1,i2],as.length,_,_,_,fun _=>true,fun i y=> ∃p q t,as[i]? =some p∧bs[i]? =some q∧y= .int (p+q) t,rfl,fun A' hA=>Fi hn hA M.nd M.apart na nb hJ.1 RG hr2,fun i vals hv=>by obtain⟨_,_,_,_,_,_,e⟩:=hv;exact⟨_,_,e⟩,st,KV st,KY,fun hm=> ?_,fun abz _=>⟨?_,?_⟩,?_⟩
 ·obtain⟨_,wa,_⟩:=L.noLimit s₁.heap d.inv.ir
  have:=wa.lt
  exact absurd (M.new _ (.inr hm)) (Nat.not_le.mpr this)
 ·intro A' E' i va vb gQ Oe _ _ _ _ _ _ _ _
  rw[eX]
  exact aA ⟨rfl,_,_,rfl,fun _ _ e=>e⟩
 ·intro A' E' i va vb gQ Oe _ _ _ hP _ wa ha2 RU _
  obtain⟨p,q,t,t',hp,hq,e⟩:=hP
  obtain⟨e1,e2⟩:va= .int p t∧vb= .int q t':=by simpa using congrArg Array.toList e
  subst e1 e2
  refine wpAny_BinOp (f7 (cF ok.kind ok.a wa ha2 (f7 (cF ok.kind ok.b wa RU ?_) ok.db)) ok.da)
  exact gi ⟨⟨p,q,_,hp,hq,rfl⟩,_,_,rfl,fun _ _ e=>e⟩
 ·intro abB C4 tk gs RV kl W2 k5 W RW
  refine cW ?_
  rw[Bt,cT] at W
  refine call_tuple_gen W.in4_3 (fun i s st=>st.1.typeIs) RW (fun c hc=> ?_) (az ..) (fun s' acc hm xN=> ?_) (by show _≤16777216;omega)
  ·show c<C4.objs.size
   rw[W2]
   exact(List.mem_cons.mp hc).elim (fun h=>h▸dE _) fun h=>(List.mem_cons.mp h).elim (fun h=>h▸fK kl) fun h=>fK (bj (List.mem_range.mp h) kl)
  ·have Nl: ∀b o,b≠L.tb→s.heap.get? b=some o→h₃.get? b=some o:=fun b o hb e=>KW b o hb (M.keep b o (d.keep b o hb e))
   have hC:s.heap.get? h₃.objs.size=Option.none:=by
    cases e':s.heap.get? h₃.objs.size with
    |none=>rfl
    |some o=>
     by_cases h:h₃.objs.size=L.tb
     ·exact(Bs Nj.1).elim fun o h2=>absurd (aI h2) (h▸bD _)
     ·exact absurd (aI (Nl _ _ h e')) (bD _)
   have D:=HZ (s₄:={s₁ with heap:=h₃,toks:=RT}) F.xo I Nl d.os d.drawn d.inv.bare Nj (kF hC W0) rfl RV k5 hm
   refine hQ _ _ (h.2.2.2.2▸ .intro _ ⟨_,_,rfl,D.xo.size,aE _ rfl,gM.Hr ?_ fun j p v hp hv=> ?_⟩) (D.trans (gI.push D.inv D.xo _ s'.toks))
   ·rw[bM,aW,xN.1,aF,List.length_zipWith,←hJ.1,eH]
   ·rw[bM,bF] at hv
    obtain⟨i,hi,x,y,t,hx,hy,rfl⟩:=xN.2 j v hv
    obtain rfl:j=i:=by obtain⟨h,e⟩:=List.getElem?_eq_some_iff.mp hi;rw[cu] at e;exact e
    rw[aJ,List.getElem?_zipWith,hx,hy] at hp
    exact Option.some.inj hp▸VR.mkInt _ _
end
end
section
open PySem PyProof.Rows
section
variable {L:ic} {sc:Scope} {σ:gJ} {own:List Str} {k:Nat}
noncomputable def Bu(i:Nat)(ke ve:List MV→Option PV)(ρ:List MV):Option (Fl×List MV):=(ke ρ).bind fun q=>((ρ[i]?).bind MV.OI).bind fun r=>
 onStr (fun n=>if r.1.length≤100000 then(jo r.1 r.2 n).bind fun o=>(ve ρ).bind fun v=>(HU o v).map fun p=>(.next,ρ.set i (.zk (iw r.1 r.2 n p).1 (iw r.1 r.2 n p).2)) else none) q
theorem S1.KZ{x:Str}{xp sp pos:cM}{ke ve:aN}{i:Nat}{f g:List MV→Option PV}(hv:SE L sc σ k ve f)(hk:SE L sc σ k ke g)(hi:kr σ x i)(hd:(x==("__debug__":Str))=false)(ha: ∀ov iv new,augStore ke ov iv new=(do holding [new,ov,iv] (setItem ov iv new);release [new,ov,iv] [];pure .next)):
  S1 L sc σ own k false (.AugAssign (.Subscript (.Name x xp) ke sp) .Add ve pos) (Bu i g f):=by
 intro env A Y Z s ρ ρ' fl Q E R F I kC ki hf hQ
 replace hf:=Option.bind_eq_some_iff.mp hf
 obtain⟨q,hq,hf⟩:=hf
 have r9:env.scope.kind= .function:=by rw[F.fr.scope];exact F.fr.kind
 replace hf:=Option.bind_eq_some_iff.mp hf
 obtain⟨rr,jy,hf⟩:=hf
 replace jy:=Option.bind_eq_some_iff.mp jy
 obtain⟨mv,jy,h'⟩:=jy
 obtain rfl:=MV.D3 h'
 replace hf:=kn hf
 obtain⟨n,rfl,hf⟩:=hf
 replace hf:=xB hf
 obtain⟨hsz,hf⟩:=hf
 replace hf:=Option.bind_eq_some_iff.mp hf
 obtain⟨o,ho,hf⟩:=hf
 replace hf:=Option.bind_eq_some_iff.mp hf
 obtain⟨v,oD,hf⟩:=hf
 obtain⟨r,AH,e'⟩:=Option.map_eq_some_iff.mp hf
 clear hf
 skip;(first|exact VD e'|cases e')
 refine wpAny_AugAssign_SubscriptAny ?_ ha
 obtain⟨a,hr,hm⟩:=F.oK hi.1 jy rfl
 refine hr.eval r9 ?_ hd
 refine hk env A _ s ρ _ _ E R F.fr I hq fun u s₁ hu iu=> ?_
 refine hu.EG fun t=> ?_
 have jm:=F.done iu
 obtain⟨a',kvs,e,qu,hat,qH,Bk,hkk,hl⟩:=hm
 skip;(first|exact VD e|cases e)
 have RX:=jc Bk fun o e=>iu.keep _ o hat e
 obtain⟨y,hy,hyr⟩:=v5 hkk (hl.up iu.up) ho
 have dt:=gI.toks iu.inv iu.xo (s₁.toks+1)
 refine wpAny_getItem_of (knd:=strKind L.prog L.w) (isStrOf_self n t) RX.mapOf hy ?_
 have RY:=jm.done dt
 refine hv env A _ _ ρ _ _ E R RY.fr dt.inv oD fun KH gQ RZ gP=> ?_
 refine KR A _ gQ o v r y KH _ E (R.less (aC _)) gP.xo gP.inv ((hyr.up dt.up).up gP.up) RZ AH fun w i6 hw i5=> ?_
 have dd:=((iu.trans dt).trans gP).trans i5
 have kG:=F.done dd
 have R3:Reads env i6.heap x (.ref a):=hr.up (fun o e=>dd.keep _ o F.fr.locals.1 e) (fun c o hc e=>dd.keep c o (F.fr.cells x c hc).1 e)
 have D6:=jc Bk fun o e=>dd.keep _ o hat e
 refine wz (isStrOf_self n t) qu D6 hkk (hl.up dd.up) hw hsz fun h' kq k1 k2 k3 k4=> ?_
 have k:=kG.wy (nv:= .zk _ _) (tk:=i6.toks+1) (gO.jQ dd) hi jy rfl R3 k1 rfl ⟨a,kq,rfl,qu,hat,qH,k2,k3,k4⟩
 exact hQ.one rfl k.1 k.2
end
end
section
open PySem PyProof.Rows
noncomputable def sz(h:Heap)(e:Addr):Prop:= ∃o vs a0,h.get? e=some o∧o.cls= .type "StopIteration"∧o.data= .fields vs∧vs[0]? =some a0∧vs[1]? =some .none∧vs[2]? =some .none
section
variable {L:ic} {A:aH} {E:Value→aq→Prop} {s:aq}
theorem O4{α:Type}{Q:α→aq→Prop}(hH:A.handled=none)(h: ∀h' e,(∀b o,s.heap.get? b=some o→h'.get? b=some o)→s.heap.get? e=none→sz h' e→E (.ref e) {s with heap:=h'}):
  wpAny L.M A (newExc (.type "StopIteration") []>>= fun e=>(raiseNew e:Sem α)) Q E s:=by
 refine ao ?_
 simp only[newExc,newTuple]
 refine ao (bL ?_ (by size_fits))
 refine ao (m:=firstArgMember _ _) (c8 (a:=Value.none) (by first|rfl|(simp only[firstArgMember];rfl)) ?_)
 refine bL ?_ (by size_fits)
 unfold raiseNew
 refine ao (wpAny_handled ?_)
 rw[hH]
 refine ao (aA (wpAny_throw (h _ _ (fun b o e=>aB _ (aB _ e)) ?_ ⟨_,_,_,aE _ rfl,rfl,rfl,rfl,rfl,rfl⟩)))
 cases e:s.heap.get? (s.heap.push {cls:= .type "tuple",data:= .seq #[]}).objs.size with
 |none=>rfl
 |some o=>exact absurd (aI (aB _ e)) (bD _)
theorem Fj{it l:Addr}{i:Nat}{items:Array Value}{x:Value}{Q:Value→aq→Prop}(hit:s.heap.IsListIter it l i)(hl:s.heap.IsList l items)(hx:items[i]? =some x)
  (hQ: ∀h',h'.IsListIter it l (i+1)→fE it s.heap h'→Q x {s with heap:=h'}):wpAny L.M A (call (.builtin "next") [.ref it]) Q E s:=by
 refine dj (by decide+kernel) (by decide+kernel) PySem.W.kdk_entry_next (PySem.W.kdk_args_next _) ?_
 unfold aD.«next»
 refine ao (m:=someArgs "next" 1 2 _) (c8 (a:=[Value.ref it]) (by first|rfl|kernel_rfl!) ?_)
 show wpAny _ _ (specialOf (.ref it) "__next__">>= _) _ _ s
 refine ao (bG hit.typeIs cC.lookup ?_)
 simp only[Option.isNone_some,bp,if_false]
 show wpAny _ _ (callSpecial? (.ref it) (Str.ofString "__next__")>>= _) _ _ s
 obtain⟨o,ho,hc,hd⟩:=id hit
 obtain⟨ol,Ke,_,nl,Kf⟩:=hl
 refine ao (bg (name:=Str.ofString "__next__") hit.typeIs cC
  (bH cC hit.typeIs dq ?_ (dA _)))
 show wpAny _ _ (field (.ref it) 0>>= _) _ _ s
 refine ao (aU ho hd (x:= .ref l) rfl ?_)
 show wpAny _ _ (if (Value.ref l==Value.none)=true then _ else _) _ _ s
 rw[if_neg (show ¬ ((Value.ref l==Value.none)=true) from bl)]
 show wpAny _ _ (field (.ref it) 1>>= _) _ _ s
 refine ao (aU ho hd (x:= .int i 0) rfl ?_)
 show wpAny _ _ (seqItems? (.ref l)>>= _) _ _ s
 refine ao (bf Ke Kf ?_)
 simp only[bN,hx]
 refine ao (cB ho hd (by simp) (aA ⟨x,rfl,aA ⟨x,rfl,hQ _ ?_ (Heap.SameBut.update ..)⟩⟩))
 exact⟨_,bc _ ho (Obj.isFreed_of_fields (Obj.data_mapFields hd _)),(Obj.cls_mapFields ..).trans hc,by
  rw[Obj.data_mapFields hd];simp[rawInt]⟩
theorem H8{it l:Addr}{i:Nat}{items:Array Value}{Q:Value→aq→Prop}(hH:A.handled=none)(hit:s.heap.IsListIter it l i)(hl:s.heap.IsList l items)(hx:items[i]? =none)
  (hE: ∀h' e,(∀b o,b≠it→s.heap.get? b=some o→h'.get? b=some o)→(∃o,h'.get? it=some o)→s.heap.get? e=none→sz h' e→E (.ref e) {s with heap:=h'}):wpAny L.M A (call (.builtin "next") [.ref it]) Q E s:=by
 refine dj (by decide+kernel) (by decide+kernel) PySem.W.kdk_entry_next (PySem.W.kdk_args_next _) ?_
 unfold aD.«next»
 refine ao (m:=someArgs "next" 1 2 _) (c8 (a:=[Value.ref it]) (by first|rfl|kernel_rfl!) ?_)
 show wpAny _ _ (specialOf (.ref it) "__next__">>= _) _ _ s
 refine ao (bG hit.typeIs cC.lookup ?_)
 simp only[Option.isNone_some,bp,if_false]
 show wpAny _ _ (callSpecial? (.ref it) (Str.ofString "__next__")>>= _) _ _ s
 obtain⟨o,ho,hc,hd⟩:=id hit
 obtain⟨ol,Ke,_,nl,Kf⟩:=hl
 refine ao (bg (name:=Str.ofString "__next__") hit.typeIs cC
  (bH cC hit.typeIs dq ?_ (dA _)))
 show wpAny _ _ (field (.ref it) 0>>= _) _ _ s
 refine ao (aU ho hd (x:= .ref l) rfl ?_)
 show wpAny _ _ (if (Value.ref l==Value.none)=true then _ else _) _ _ s
 rw[if_neg (show ¬ ((Value.ref l==Value.none)=true) from bl)]
 show wpAny _ _ (field (.ref it) 1>>= _) _ _ s
 refine ao (aU ho hd (x:= .int i 0) rfl ?_)
 show wpAny _ _ (seqItems? (.ref l)>>= _) _ _ s
 refine ao (bf Ke Kf ?_)
 simp only[bN,hx]
 refine ao (cS (ao (cB ho hd (by simp) ?_)))
 have hs:=Heap.SameBut.update s.heap it (Obj.mapFields (·.setIfInBounds 0 Value.none))
 have nJ:=bc (Obj.mapFields (·.setIfInBounds 0 Value.none)) ho (Obj.isFreed_of_fields (Obj.data_mapFields hd _))
 refine O4 hH fun h' e hk hn he=>hE h' e (fun b o hb e=>hk b o (hs.extBut b o hb e)) ⟨_,hk _ _ nJ⟩ ?_ he
 cases e':s.heap.get? e with
 |none=>rfl
 |some o'=>
  by_cases h:e=it
  ·subst h;rw[nJ] at hn;(first|exact VD hn|cases hn)
  ·rw[hs.extBut _ _ h e'] at hn;(first|exact VD hn|cases hn)
end
end
section
open PySem PyProof.Rows
section
variable {L:ic} {sc:Scope} {σ:gJ} {own:List Str} {k:Nat}
structure RS(L:ic)(env:b9)(Y Z:List Addr)(s:aq)(e:Addr)(s':aq):Prop where
 done:gO L Y s s'
 new:s.heap.get? e=none
 stop:sz s'.heap e
 ns: ∃m,s'.heap.Ns env.locals m
 ex: ∀b,(∃o,s.heap.get? b=some o)→ ∃o,s'.heap.get? b=some o
 xo:XO L (Y++Z) s'.heap
noncomputable def D7(L:ic)(sc:Scope)(σ:gJ)(own:List Str)(k:Nat)(st:Stmt)(f:List MV→Option (Option Fl×List MV)):Prop:=
 ∀(env:b9) (A:aH) (Y Z:List Addr) (s:aq) (ρ ρ':List MV) (fl:Option Fl) (Q:Flow→aq→Prop) (E:Value→aq→Prop),
  iU L k A→A.handled=none→FS L sc σ own env Y Z s.heap ρ→Inv L s→L.tb∈Z→sysModules∈Z→PassesOwn L.M A env E→f ρ=some (fl,ρ')→(∀zN,fl=some zN→wj L sc σ own false env Y Z s zN ρ' Q)→(fl=none→ ∀e s',RS L env Y Z s e s'→E (.ref e) s')→wpAny L.M A (exec st env) Q E s
noncomputable def SX(L:ic)(sc:Scope)(σ:gJ)(own:List Str)(k:Nat)(body:List Stmt)(f:List MV→Option (Option Fl×List MV)):Prop:=
 ∀(env:b9) (A:aH) (Y Z:List Addr) (s:aq) (ρ ρ':List MV) (fl:Option Fl) (Q:Flow→aq→Prop) (E:Value→aq→Prop),
  iU L k A→A.handled=none→FS L sc σ own env Y Z s.heap ρ→Inv L s→L.tb∈Z→sysModules∈Z→PassesOwn L.M A env E→f ρ=some (fl,ρ')→(∀zN,fl=some zN→wj L sc σ own false env Y Z s zN ρ' Q)→(fl=none→ ∀e s',RS L env Y Z s e s'→E (.ref e) s')→wpAny L.M A (execs body env) Q E s
theorem D7.of{st:Stmt}{f:List MV→Option (Fl×List MV)}(h:S1 L sc σ own k false st f):D7 L sc σ own k st (fun ρ=>(f ρ).map fun r=>(some r.1,r.2)):=by
 intro env A Y Z s ρ ρ' fl Q E R hh F I kC ki hp hf hQ hE
 obtain⟨⟨pW,gK⟩,h1,e⟩:=Option.map_eq_some_iff.mp hf
 skip;(first|exact VD e|cases e)
 exact h env A Y Z s ρ _ _ Q E R F I kC ki h1 (hQ _ rfl)
theorem SX.nil:SX L sc σ own k [] (fun ρ=>some (some .next,ρ)):=by
 intro env A Y Z s ρ ρ' fl Q E R hh F I kC ki hp hf hQ hE
 skip;(first|exact VD hf|cases hf)
 exact fg ((hQ _ rfl).one rfl F (gO.refl I))
noncomputable def qb(f g:List MV→Option (Option Fl×List MV))(ρ:List MV):Option (Option Fl×List MV):=(f ρ).bind fun r=>match r with|(some .next,ρ')=>g ρ'|r=>some r
theorem RS.after{env:b9}{Y Z:List Addr}{s s₁ s':aq}{e:Addr}{ρ:List MV}(F:FS L sc σ own env Y Z s.heap ρ)(jm: ∀b∈Y++Z,∃o,s₁.heap.get? b=some o)(d:gO L Y s s₁)(x:RS L env Y Z s₁ e s'):RS L env Y Z s e s':=by
 have Z8: ∀b,(∃o,s.heap.get? b=some o)→ ∃o,s₁.heap.get? b=some o:=fun b h=>by
  by_cases h1:b=L.tb
  ·exact jm b (h1▸F.fr.xo.tb)
  ·by_cases h2:b∈Y
   ·exact jm b (aw _ h2)
   ·exact h.elim fun o ho=>⟨o,d.keep b o h1 h2 ho⟩
 refine⟨d.trans (fun b h=> .inl h) x.done,?_,x.stop,x.ns,fun b h=>x.ex b (Z8 b h),x.xo⟩
 cases h:s.heap.get? e with
 |none=>rfl
 |some o=>exact(Z8 e ⟨o,h⟩).elim fun o' h'=>g8 (x.new.symm.trans h')
theorem SX.cons{st:Stmt}{rest:List Stmt}{f f':List MV→Option (Option Fl×List MV)}(h:D7 L sc σ own k st f)(hr:SX L sc σ own k rest f'):SX L sc σ own k (st::rest) (qb f f'):=by
 intro env A Y Z s ρ ρ' fl Q E R hh F I kC ki hp hf hQ hE
 obtain⟨⟨pW,gK⟩,h1,h2⟩:=Option.bind_eq_some_iff.mp hf
 refine di (h env A Y Z s ρ gK pW _ E R hh F I kC ki hp h1 (fun zN yH=> ?_) (fun yH=> ?_))
 ·subst yH
  intro fv Y' s' qF F' hY hg d
  obtain rfl:=hg rfl
  have fin:some (some zN,gK)=some (fl,ρ')→Q fv s':=fun e=>by
   skip;(first|exact VD e|cases e)
   exact hQ _ rfl fv Y' s' qF F' hY hg d
  cases zN with
  |next=>
   skip;(first|exact VD qF|cases qF)
   exact hr env A Y' Z s' gK ρ' fl Q E R hh F' d.inv kC ki hp h2 (fun zN rH=>((hQ zN rH).imp hY (fun _=>⟨rfl,rfl⟩) d (F'.fr.xo.there _ F'.fr.xo.tb))) fun rH e pd x=>hE rH e pd (x.after F F'.fr.xo.there d)
  |brk=>have q:=fin h2;(first|exact VD qF|cases qF);exact q
  |cont=>have q:=fin h2;(first|exact VD qF|cases qF);exact q
  |ret p=>have q:=fin h2;obtain⟨v,rfl,hv⟩:=qF;exact q
 ·subst yH
  skip;(first|exact VD h2|cases h2)
  exact hE rfl
noncomputable def H9(k:List MV→Option (Option Fl×List MV)):Option Fl×List MV→Option (Option Fl×List MV)
 |(some .next,ρ')=>k ρ'
 |(none,ρ')=>some (none,ρ')
 |_=>none
noncomputable def lZ(t:List MV→Option Bool)(fb:List MV→Option (Option Fl×List MV)):Nat→List MV→Option (Option Fl×List MV)
 |0,_=>none
 |n+1,ρ=>(t ρ).bind fun b=>if b then(fb ρ).bind (H9 (lZ t fb n)) else some (some .next,ρ)
theorem whl{test:aN}{body:List Stmt}{env:b9}{A:aH}{Z:List Addr}{Q:Flow→aq→Prop}{E:Value→aq→Prop}{t:List MV→Option Bool}{fb:List MV→Option (Option Fl×List MV)}(ht:TE L sc σ k test t)(hb:SX L sc σ own k body fb)
  (R:iU L k A)(hh:A.handled=none)(kC:L.tb∈Z)(ki:sysModules∈Z)(hp:PassesOwn L.M A env E): ∀(n:Nat) (Y:List Addr) (s:aq) (ρ ρ':List MV) (fl:Option Fl),FS L sc σ own env Y Z s.heap ρ→Inv L s→lZ t fb n ρ=some (fl,ρ')→
   (∀zN,fl=some zN→wj L sc σ own false env Y Z s zN ρ' Q)→(fl=none→ ∀e s',RS L env Y Z s e s'→E (.ref e) s')→PySem.W.WhlRest L.prog L.w A E env test body [] Q n s:=by
 intro n
 induction n with
 |zero=>exact fun _ _ _ _ _ _ _ hf _ _=>g8 hf
 |succ n ih=>
  intro Y s ρ ρ' fl F I hf hQ hE
  replace hf:((t ρ).bind fun b=>if b=true then(fb ρ).bind (H9 (lZ t fb n)) else some (some .next,ρ))=some (fl,ρ'):=hf
  replace hf:=Option.bind_eq_some_iff.mp hf
  obtain⟨b,xC,hf⟩:=hf
  refine PySem.W.whl_turn (k:=n) hp (ht env A _ s ρ b _ E R F.fr I xC fun s₁ d=> ?_)
  have jm:=F.done d
  have dY:=gO.jQ (Y:=Y) d
  cases b with
  |false=>
   simp only[bp,if_false] at hf
   skip;(first|exact VD hf|cases hf)
   refine PySem.W.WhlIf.no rfl (fg ((hQ _ rfl).one rfl jm dY))
  |true=>
   simp only[if_true] at hf
   obtain⟨⟨pW,gK⟩,h1,h2⟩:=Option.bind_eq_some_iff.mp hf
   refine PySem.W.WhlIf.yes rfl (hb env A Y Z s₁ ρ gK pW _ E R hh jm d.inv kC ki hp h1 (fun zN yH=> ?_) fun yH=> ?_)
   ·subst yH
    intro fv Y' s' qF F' hY hg d'
    obtain rfl:=hg rfl
    cases zN with
    |next=>
     skip;(first|exact VD qF|cases qF)
     have dd:=dY.trans (fun b h=> .inl h) d'
     exact ih Y' s' gK ρ' fl F' d'.inv h2 (fun zN rH=>(hQ zN rH).imp (fun b h=> .inl h) (fun _=>⟨rfl,rfl⟩) dd (F'.fr.xo.there _ F'.fr.xo.tb)) fun rH e pd x=>hE rH e pd (x.after F F'.fr.xo.there dd)
    |brk=>(first|exact VD h2|cases h2)
    |cont=>(first|exact VD h2|cases h2)
    |ret p=>(first|exact VD h2|cases h2)
   ·subst yH
    skip;(first|exact VD h2|cases h2)
    exact fun e s' x=>hE rfl e s' (x.after F jm.fr.xo.there dY)
theorem D7.while{test:aN}{body:List Stmt}{pos:cM}{t:List MV→Option Bool}{fb:List MV→Option (Option Fl×List MV)}(n:Nat)(ht:TE L sc σ k test t)(hb:SX L sc σ own k body fb):D7 L sc σ own k (.While test body [] pos) (lZ t fb n):=by
 intro env A Y Z s ρ ρ' fl Q E R hh F I kC ki hp hf hQ hE
 exact PySem.W.whl_start n (whl ht hb R hh kC ki hp n Y s ρ ρ' fl F I hf hQ hE)
noncomputable def MV.Ia:MV→Option (List PV)
 | .lR r=>some r
 |_=>none
theorem MV.zO{mv:MV}{r:List PV}(h:mv.Ia=some r):mv= .lR r:=by
 cases mv<;>first|exact g8 h|exact Option.some.inj h▸rfl
noncomputable def R4(i j:Nat)(ρ:List MV):List PV→Option Fl×List MV
 |p::r=>(some .next,(ρ.set i (.lR r)).set j (.p p))
 |[]=>(none,ρ)
noncomputable def yZ(i j:Nat)(ρ:List MV):Option (Option Fl×List MV):=((ρ[i]?).bind MV.Ia).map (R4 i j ρ)
theorem D7.next{x y nn:Str}{xp yp np cp pos:cM}{i j:Nat}(hn:sc.names.lookup nn=some .globalImplicit)(hv:L.gl nn=some (.builtin "next"))(hi:kr σ y i)(hx:x∈own)(hj:kr σ x j)(hd:(nn==("__debug__":Str))=false)(hd2:(y==("__debug__":Str))=false)
  (hs: ∀env,env.scope=sc→swapsWith (.Call (.Name nn np) [.Name y yp] [] cp) (some (.Name x xp)) pos.line env=pure false):
  D7 L sc σ own k (.Assign [.Name x xp] (.Call (.Name nn np) [.Name y yp] [] cp) pos) (yZ i j):=by
 intro env A Y Z s ρ ρ' fl Q E R hh F I kC ki hp hf hQ hE
 have r9:env.scope.kind= .function:=by rw[F.fr.scope];exact F.fr.kind
 refine eC (hs:=hs env F.fr.scope) (bT (aO r9 (by unfold b9.kindOf;rw[F.fr.scope];exact hn) (L.rm s env A nn _ _ E I.ir F.fr.globals F.fr.builtins.1 hv ?_) hd))
 replace hf:=Option.map_eq_some_iff.mp hf
 obtain⟨rest,h0,hf⟩:=hf
 replace h0:=Option.bind_eq_some_iff.mp h0
 obtain⟨mv,jy,h0⟩:=h0
 obtain rfl:=MV.zO h0
 clear h0
 obtain⟨a,hr,hm⟩:=F.oK hi.1 jy rfl
 suffices key:wpAny L.M A (spliced (backTo cp (starEach [aN.Name y yp] env))) (fun vs s'=>wpAny L.M A (PySem.call (.builtin "next") vs) (fun v s₁=>wpAny L.M A (storeName env x v) (fun _=>Q .next) E s₁) E s') E s from
  Calls.callWith_builtin rfl (b8 (rest:=[]) key)
 refine df (rest:=[]) (he:=rfl) (hr.eval r9 (cW ?_) hd2)
 obtain⟨a',ax,l,ix,e,qu,hat,qH,hit,hl,sb⟩:=id hm
 skip;(first|exact VD e|cases e)
 obtain⟨Z9,xs,n,e,abE,hg,jL⟩:=hl.listE
 skip;(first|exact VD e|cases e)
 have hJ:=jL.size
 cases rest with
 |nil=>
  skip;(first|exact VD hf|cases hf)
  have Wq:xs[ix]? =none:=aR (hJ▸List.drop_eq_nil_iff.mp sb)
  obtain⟨DM,G3⟩:=F.EL _ _ _ _ ⟨hi.1,jy,rfl,hr⟩
  refine H8 hh hit ⟨_,hg,rfl,_,rfl⟩ Wq fun h' e hk hex iS EE=>hE rfl e _ ⟨⟨fun b o _ hb e=>hk b o (fun h=>hb (h▸DM)) e,⟨fun b o e=>hk b o (fun h=>g8 ((F.fr.xo.look a qu).symm.trans (h▸e))) (I.ir b o e),I.bare⟩,rfl,rfl⟩,iS,EE,F.ns.elim fun m wa=>⟨m,wa.at' fun o e=>hk _ o (fun h=>G3 h.symm) e⟩,fun b x=> ?_,F.fr.xo.mut qu hat hk hex⟩
  by_cases h:b=a
  ·exact h▸hex
  ·exact x.elim fun o ho=>⟨o,hk b o h ho⟩
 |cons p r=>
  skip;(first|exact VD hf|cases hf)
  obtain⟨Qx,_,KO⟩:=wg sb
  refine jL.xF Qx fun v hv1 Rt=> ?_
  refine Fj hit ⟨_,hg,rfl,_,rfl⟩ hv1 fun h' nJ k9=> ?_
  have hk: ∀b o,b≠a→s.heap.get? b=some o→h'.get? b=some o:=fun b o hb e=>k9.extBut b o hb e
  have up:Up s.heap (Y++Z) h' (Y++Z):=fun b o hb e=>⟨hb,hk b o (fun h=>hb (h▸qu)) e⟩
  obtain⟨jJ,gP⟩:=F.wy (nv:= .lR r) (tk:=s.toks) (gO.refl I) hi jy rfl hr hk rfl ⟨a,ax,l,ix+1,rfl,qu,hat,qH,nJ,hl.up up,KO⟩
  exact FS.bind (s:={s with heap:=h'}) jJ gP.inv hx hj (Rt.up up) fun i6 kG i5=>(hQ _ rfl).one rfl kG (gP.trans (fun b h=> .inl h) i5)
end
end
section
open PySem PyProof.Rows
section
variable {L:ic} {k:Nat}
theorem Nm{a:Addr}{fd:FuncData}{sc:Scope}{y:Str}{own:List Str}{σ:gJ}{body:List Stmt}{m:Nat}{f:List MV→Option (Option Fl×List MV)}(D:iC L a fd sc [y] body)(S:so sc σ own [y])(Qr:(sc.names.filter fun x=>x.2== .cell)=[])(hy0:σ.lookup y=some 0)(hb:SX L sc σ own k body f)
  {A:aH}{X:List Addr}{s:aq}{it:Addr}{rest:List PV}{fl:Option Fl}{ρ':List MV}{Q:Value→aq→Prop}{E:Value→aq→Prop}(R:iU L (k+1) A)(hh:A.handled=none)(x:XO L X s.heap)(I:Inv L s)(hm:ro L s.heap X (.lR rest) (.ref it))(hf:f (.lR rest::List.replicate m .un)=some (fl,ρ'))
  (yH:fl=none∨ ∃p uu,fl=some (.ret (.int p))∧ρ'[0]? =some (.lR uu))
  (hQ: ∀p uu,fl=some (.ret (.int p))→ρ'[0]? =some (.lR uu)→ ∀v s',VR L.prog L.w s'.heap X (.int p) v→ro L s'.heap X (.lR uu) (.ref it)→XO L X s'.heap→gO L [it] s s'→Q v s')
  (hE:fl=none→ ∀env e s',env.frame=some env.locals→env.scope.kind= .function→s.heap.get? env.locals=none→(∃m,s'.heap.Ns env.locals m)→gO L [it] s s'→s.heap.get? e=none→sz s'.heap e→(∀b,(∃o,s.heap.get? b=some o)→ ∃o,s'.heap.get? b=some o)→XO L X s'.heap→wpAny L.M (A.deeper env) (leaving env (.ref e)) (fun _ pd=>E (.ref e) pd) (fun e' pd=>E e' pd) s'):
  wpAny L.M A (call (.ref a) [.ref it]) Q E s:=by
 obtain⟨o,ho,hd⟩:=D.obj
 have uj:fd.scope=sc:=D.scope
 obtain⟨a',ax,l,ix,e,Bv,K0,hits,hit,hl,sb⟩:=id hm
 skip;(first|exact VD e|cases e)
 generalize nq:callEnvC fd s.heap.objs.size a=env
 have e1:env.scope=sc:=by rw[←nq];exact uj
 have e2:env.locals=s.heap.objs.size:=by rw[←nq];rfl
 have e3:env.globals=mainGlobals:=by rw[←nq];exact D.globals
 have e4:env.builtins=builtinsNs:=by rw[←nq];exact D.builtins
 have e6:env.frame=some env.locals:=by rw[e2,←nq];rfl
 have Ib: ∀z,sc.names.lookup z≠some .cell:=fun z h=>by
  have:(z,NameKind.cell)∈sc.names.filter fun x=>x.2== .cell:=List.mem_filter.mpr ⟨gW h,rfl⟩
  rw[Qr] at this;exact absurd this bY
 have e5:env.cells=[]:=by
  have h2:=pX sc.names (s.heap.objs.size+1) []
  rw[Qr] at h2
  rw[show env.cells=cellsFrom (s.heap.objs.size+1) sc.names [] by rw[←nq,←uj];rfl]
  exact List.map_eq_nil_iff.mp h2
 have kindOf: ∀y,env.kindOf y=sc.names.lookup y:=fun y=>by unfold b9.kindOf;rw[e1]
 have loc: ∀z∈own,sc.names.lookup z=some .local:=fun z hz=>(S.Kt z hz).1.elim id fun h=>absurd h (Ib z)
 have W3:sc.names.lookup y=some .local:=loc y (S.par 0 y rfl)
 refine fZ (codeAny_call_cells (body:=body) (binds:=[y].zip [.ref it]) R.limit (I.ir a o ho) hd (L.noLimit _ I.ir) (D.code _ I.ir) D.body (D.bind [.ref it] rfl) D.closure (fun z hz=>by rw[uj,List.mem_singleton.mp hz];exact .inl W3) ?_ (by rw[uj];exact S.co) (by rw[uj];exact S.gen) (by rw[uj];exact S.kind))
 rw[nq]
 intro s₁ nk
 obtain⟨h₁,tk,jk⟩:=nk.toInCall.same
 have keep:=nk.toInCall.keep
 have fresh:s.heap.get? env.locals=none:=by rw[e2];exact gY _
 have iS:env.locals≠it:=fun e=>hit.elim fun o ho=>g8 (fresh.symm.trans (e▸ho.1))
 have uO:Inv L s₁:=by rw[jk];exact I.keeps (fun b o e=>by have:=keep b o e;rw[jk] at this;exact this) tk
 have R5: ∃o,s₁.heap.get? env.locals=some o:=nk.toInCall.ns.elim fun o z=>z.elim fun _ z=>z.elim fun _ z=>⟨o,z.1⟩
 have Vq: ∀b∈X.filter (· !=it),b∈X:=fun b hb=>(List.mem_filter.mp hb).1
 have R6:it∉X.filter (· !=it):=fun h=>absurd rfl (bne_iff_ne.mp (List.mem_filter.mp h).2)
 have K1: ∀b∈X,b≠it→b∈X.filter (· !=it):=fun b hb iS=>List.mem_filter.mpr ⟨hb,bne_iff_ne.mpr iS⟩
 generalize X.filter (· !=it)=Z at Vq R6 K1
 have Vr: ∀b∈X,b∈[env.locals,it]++Z:=fun b hb=>by
  by_cases h:b=it
  ·exact h▸in1
  ·exact au _ (K1 b hb h)
 have kC:L.tb∈Z:=K1 _ x.tb (Ne.symm K0)
 have ki:sysModules∈Z:=K1 _ x.sm (Ne.symm hits)
 have R7: ∀b∈X,∃o,s₁.heap.get? b=some o:=fun b hb=>(x.there b hb).elim fun o ho=>⟨o,keep _ o ho⟩
 have hex: ∀b∈[env.locals,it]++Z,∃o,s₁.heap.get? b=some o:=kF R5 (kF (R7 it Bv) fun b hb=>R7 b (Vq b hb))
 have KJ: ∀b∈[env.locals,it]++Z,b∈X∨s.heap.get? b=none:=kF (.inr fresh) (kF (.inl Bv) fun b hb=> .inl (Vq b hb))
 have qR:XO L ([env.locals,it]++Z) s₁.heap:=x.widen keep I.ir KJ Vr hex
 have up:Up s.heap X s₁.heap ([env.locals,it]++Z):=fun b o hb e=>⟨fun hm=>(KJ b hm).elim hb fun h=>g8 (h.symm.trans e),keep b o e⟩
 have hrd:Reads env s₁.heap y (.ref it):= .inl ⟨by rw[kindOf];exact W3,_,nk.toInCall.ns,qy _ [y] [.ref it] _ 0 y _ S.Bi rfl rfl (by rw[kindOf];exact W3)⟩
 have K2: ∀(i:Nat) mv,(MV.lR rest::List.replicate m .un)[i]? =some mv→mv≠ .un→i=0∧mv= .lR rest:=fun i mv h hu=>by
  cases i with
  |zero=>exact⟨rfl,(Option.some.inj h).symm⟩
  |succ i=>exact absurd (List.mem_replicate.mp (bu (List.getElem?_cons_succ.symm.trans h))).2 hu
 have hσ: ∀z,σ.lookup z=some 0→z=y:=fun z hz=>(Option.some.inj (S.slot z 0 hz Nat.zero_lt_one)).symm
 have O5:ro L s₁.heap ([env.locals,it]++Z) (.lR rest) (.ref it):=⟨it,ax,l,ix,rfl,in1,K0,hits,hit.at fun o e=>keep _ o e,hl.up up,sb⟩
 have F:FS L sc σ own env [env.locals,it] Z s₁.heap (.lR rest::List.replicate m .un):=by
  refine⟨⟨e1,S.kind,e3,⟨e4,fun h=>by rw[←nq];exact D.host h,fun _=>e6⟩,qR,⟨fun e=>x.fresh fresh (e▸x.tb),R5⟩,fun z c h=>(by rw[e5] at h;exact g8 h),fun z hz=>hz.elim (fun h=>absurd h (Ib z)) fun h=>absurd rfl (S.Ht _ (gW h)),fun z i hi mv jy hu=> ?_⟩,uP,⟨_,nk.toInCall.ns⟩,fun z hz=> .inl (loc z hz),kF (fun hz=>x.fresh fresh (Vq _ hz)) (all1 R6),fun z i mv a H=> ?_,fun z z' i j mv nj a H H'=>(K2 i mv H.val (nt H.ow)).1.trans (K2 j nj H'.val (nt H'.ow)).1.symm⟩
  ·obtain⟨rfl,rfl⟩:=K2 i mv jy hu
   exact⟨_,hσ z hi▸hrd,O5⟩
  ·obtain⟨rfl,rfl⟩:=K2 i mv H.val (nt H.ow)
   obtain rfl:a=it:=Value.ref.inj (H.rd.unique (hσ z H.lk▸hrd))
   exact⟨in1,Ne.symm iS⟩
 have iu:gO L [it] s s₁:=⟨fun b o _ _ e=>keep b o e,uO,by rw[jk],by rw[jk]⟩
 have dY: ∀s',gO L [env.locals,it] s₁ s'→gO L [it] s s':=fun s' d=>⟨fun b o hb hn e=>d.keep b o hb (fun h=>(List.mem_cons.mp h).elim (fun h=>g8 (fresh.symm.trans (h▸e))) hn) (keep b o e),d.inv,by rw[d.os,jk],by rw[d.drawn,jk]⟩
 refine hb env (A.deeper env) [env.locals,it] Z s₁ _ ρ' fl _ _ (R.deeper env) hh F uO kC ki PassesOwn.leaving hf (fun zN rH=> ?_) fun hn e s' rs=> ?_
 ·rcases yH with h|⟨p,uu,h,h0⟩
  ·rw[h] at rH;(first|exact VD rH|cases rH)
  rw[h] at rH
  skip;(first|exact VD rH|cases rH)
  intro fv Y' s' qF F' Qt hg d'
  obtain rfl:=hg rfl
  obtain⟨v,rfl,hv⟩:=qF
  obtain⟨c,hrc,hmc⟩:=F'.oK hy0 h0 rfl
  have k:=F'.EL _ _ _ _ ⟨hy0,h0,rfl,hrc⟩
  obtain rfl:c=it:=(List.mem_cons.mp k.1).elim (fun h=>absurd h k.2) List.mem_singleton.mp
  have EK:XO L X s'.heap:=F'.fr.xo.sub Vr x.tb x.sm
  obtain⟨c',Z9,l',ix',e',_,_,_,nJ,jA,O6⟩:=hmc
  skip;(first|exact VD e'|cases e')
  refine hv.rq fun t=> ?_
  exact hQ p uu h h0 _ s' (VR.mkInt _ _) ⟨c,Z9,l',ix',rfl,Bv,K0,hits,nJ,jA.up (Up.sub _ Vr),O6⟩ EK (dY _ d')
 ·refine hE hn env e s' e6 (by rw[e1];exact S.kind) fresh rs.ns (dY _ rs.done) ?_ rs.stop (fun b ⟨o,ho⟩=>rs.ex b ⟨o,keep b o ho⟩) (rs.xo.sub Vr x.tb x.sm)
  cases h:s.heap.get? e with
  |none=>rfl
  |some o=>exact g8 (rs.new.symm.trans (keep e o h))
end
end
section
open PySem PyProof.Rows
noncomputable def E0:Heap:=⟨#[],{}⟩
structure zP(g:Heap)(S:List Addr)(e:Addr)(fl:Option Value)(h:Heap):Prop where
 keep: ∀b o,b∉S→g.get? b=some o→h.get? b=some o
 slots: ∀b o,b≠e→g.get? b=some o→ ∃sl,h.get? b=some {o with slots:=sl}
 exc: ∃oe vs,h.get? e=some oe∧oe.cls= .type "StopIteration"∧oe.data= .fields vs∧vs[2]? =some .none∧match fl with
  |none=>vs[1]? =some .none
  |some f=> ∃T oT ts,vs[1]? =some (.ref T)∧T≠e∧g.get? T=none∧h.get? T=some oT∧oT.data= .fields ts∧ts[3]? =some f
theorem zP.start{g:Heap}{S:List Addr}{e:Addr}(x:sz g e):zP g S e none g:=by
 obtain⟨o,vs,a0,h1,h2,h3,_,h5,h6⟩:=x
 exact⟨fun _ _ _ e=>e,fun b o _ e=>⟨o.slots,e⟩,o,vs,h1,h2,h3,h6,h5⟩
theorem zP.frames{g:Heap}{S:List Addr}{e:Addr}{fl:Option Value}{h:Heap}{l:List b9}(x:zP g S e fl h)(he: ∃oe vs,g.get? e=some oe∧oe.data= .fields vs)(hl:g.FunFrames E0 l):h.FunFrames E0 l:=by
 refine hl.of_keeps fun b o ho hd=> ?_
 have iS:b≠e:=fun h=>by
  obtain⟨oe,vs,h1,h2⟩:=he
  rw[h,h1] at ho;(first|exact VD ho|cases ho);exact hd _ h2
 obtain⟨sl,h'⟩:=x.slots b o iS ho
 exact⟨_,h',rfl⟩
section
variable {M:Model} {A:aH} {E:Value→aq→Prop} {s:aq}
theorem y3{g:Heap}{S:List Addr}{e:Addr}{env:b9}{outer:List b9}{Lc:Addr}{hn:Bool}{head:Value}{Q:Unit→aq→Prop}{oe:Obj}{vs:Array Value}(hk: ∀b o,b∉S→g.get? b=some o→s.heap.get? b=some o)(Cp: ∀b o,b≠e→g.get? b=some o→ ∃sl,s.heap.get? b=some {o with slots:=sl})
  (he:s.heap.get? e=some oe)(hc:oe.cls= .type "StopIteration")(hd:oe.data= .fields vs)(h2:vs[2]? =some .none)(hsz:2<vs.size)(K3:A.frames=some (env::outer))(hf:env.frame=some Lc)(hl:s.heap.FunFrames E0 (env::outer))(hS: ∀b∈e::(env::outer).filterMap (·.frame),b∈S)
  (h: ∀h',zP g S e (some (rawInt Lc)) h'→Q () {s with heap:=h'}):
  wpAny M A (do let a←frameOf env;let pl←entryPlaceOf Lc hn;let b←EntryCells.newEntry head a .none (rawInt Lc) .none pl;setField (.ref e) 1 b) Q E s:=by
 have hef:e∉(env::outer).filterMap (·.frame):=fun hm=>by
  obtain⟨_,o,ho,Ni⟩:=hl.mem hm
  rw[he] at ho;(first|exact VD ho|cases ho);exact Ni vs hd
 refine ao (wpAny_frameOf_fun K3 hl hf fun h₁ jk=> ?_)
 refine ao (wpAny_entryPlaceOf fun pl W4=> ?_)
 unfold EntryCells.newEntry newFields
 refine ao (bL ?_ (W4.sizeOk5 _ _ _ _ _))
 have Nn:h₁.get? e=some oe:=(jk.2.1 e hef).trans he
 generalize hob:({cls:= .type "traceback",dict:=none,data:= .fields ([head,.ref Lc,.none,rawInt Lc,.none]++(if pl.isEmpty then List.replicate 6 Value.none else pl)).toArray}:Obj)=ob
 have W5:ob.data= .fields ([head,.ref Lc,.none,rawInt Lc,.none]++(if pl.isEmpty then List.replicate 6 Value.none else pl)).toArray:=by rw[←hob]
 have W6:ob.isFreed=false:=by rw[←hob];rfl
 have yM:(h₁.push ob).get? e=some oe:=aB _ Nn
 refine cB yM hd (by omega) (h _ ?_)
 have Np:h₁.objs.size≠e:=dU (aI Nn)
 have D6:=Obj.data_mapFields hd (·.setIfInBounds 1 (Value.ref h₁.objs.size))
 have R8:=bc (Obj.mapFields (·.setIfInBounds 1 (Value.ref h₁.objs.size))) yM (Obj.isFreed_of_fields D6)
 have Ic: ∀b o,b≠e→h₁.get? b=some o→((h₁.push ob).update e (Obj.mapFields (·.setIfInBounds 1 (Value.ref h₁.objs.size)))).get? b=some o:=fun b o hb WK=>by
  rw[bX _ _ (Ne.symm hb)];exact aB _ WK
 refine⟨fun b o hb e'=>Ic b o (fun h=>hb (hS b (h▸az ..))) ((jk.2.1 b fun h=>hb (hS b (av _ h))).trans (hk b o hb e')),fun b o hb e'=> ?_,_,_,R8,(Obj.cls_mapFields ..).trans hc,D6,?_,h₁.objs.size,ob,_,?_,Np,?_,?_,W5,?_⟩
 ·obtain⟨sl,g1⟩:=Cp b o hb e'
  obtain⟨sl',g2⟩:=jk.2.2 b _ g1
  exact⟨sl',Ic b _ hb g2⟩
 ·rw[fF (by decide)];exact h2
 ·rw[cV (by omega)]
 ·cases q:g.get? h₁.objs.size with
  |none=>rfl
  |some o=>
   obtain⟨sl,g1⟩:=Cp _ o Np q
   obtain⟨sl',g2⟩:=jk.2.2 _ _ g1
   exact absurd (aI g2) (bD _)
 ·rw[bX _ _ (Ne.symm Np)];exact aE _ W6
 ·simp
theorem zP.note{g:Heap}{S:List Addr}{e:Addr}{env:b9}{outer:List b9}{Lc:Addr}{fl:Option Value}{Q:Unit→aq→Prop}(x:zP g S e fl s.heap)(yH:fl=none∨fl=some .none)(K3:A.frames=some (env::outer))(hf:env.frame=some Lc)(hl:s.heap.FunFrames E0 (env::outer))(hS: ∀b∈e::(env::outer).filterMap (·.frame),b∈S)
  (h: ∀h',zP g S e (some (rawInt Lc)) h'→Q () {s with heap:=h'}):wpAny M A (noteFrame (.ref e) env) Q E s:=by
 obtain⟨hk,Cp,oe,vs,he,hc,hd,h2,rH⟩:=x
 have hsz:2<vs.size:=(Array.getElem?_eq_some_iff.mp h2).1
 unfold noteFrame
 simp only[hf]
 rcases yH with rfl|rfl
 ·refine ao (aU he hd rH ?_)
  rw[if_neg (by decide)]
  exact y3 hk Cp he hc hd h2 hsz K3 hf hl hS h
 ·obtain⟨T,oT,ts,h1,Np,Vs,hT,O7,h3⟩:=rH
  refine ao (aU he hd h1 ?_)
  rw[if_pos (show(Value.ref T !=Value.none)=true from by simp)]
  refine ao (aU hT O7 h3 ?_)
  rw[if_neg (show ¬ ((Value.none==rawInt Lc)=true) from by simp[rawInt])]
  have Kl:3<ts.size:=(Array.getElem?_eq_some_iff.mp h3).1
  refine ao (cB hT O7 Kl ?_)
  have Ic: ∀b,b≠T→(s.heap.update T (Obj.mapFields (·.setIfInBounds 3 Value.none))).get? b=s.heap.get? b:=fun b hb=>bX _ _ (Ne.symm hb)
  have gT: ∀b o,g.get? b=some o→b≠T:=fun b o e' h=>by rw[h,Vs] at e';(first|exact VD e'|cases e')
  refine y3 (fun b o hb e'=>(Ic b (gT b o e')).trans (hk b o hb e')) (fun b o hb e'=> ?_) ((Ic e (Ne.symm Np)).trans he) hc hd h2 hsz K3 hf ?_ hS h
  ·obtain⟨sl,g1⟩:=Cp b o hb e'
   exact⟨sl,(Ic b (gT b o e')).trans g1⟩
  ·refine hl.of_keeps fun b o ho Ni=>⟨o,(Ic b fun h=> ?_).trans ho,rfl⟩
   rw[h,hT] at ho;(first|exact VD ho|cases ho);exact Ni _ O7
theorem zP.land{g:Heap}{S:List Addr}{e:Addr}{f:Value}{Q:Unit→aq→Prop}(x:zP g S e (some f) s.heap)(h: ∀h',zP g S e (some .none) h'→Q () {s with heap:=h'}):wpAny M A (setFlight (.ref e) none) Q E s:=by
 obtain⟨hk,Cp,oe,vs,he,hc,hd,h2,T,oT,ts,h1,Np,Vs,hT,O7,h3⟩:=x
 have Kl:3<ts.size:=(Array.getElem?_eq_some_iff.mp h3).1
 unfold setFlight
 refine ao (aU he hd h1 ?_)
 rw[if_pos (show(Value.ref T !=Value.none)=true from by simp)]
 refine cB hT O7 Kl (h _ ?_)
 have Ic: ∀b,b≠T→(s.heap.update T (Obj.mapFields (·.setIfInBounds 3 Value.none))).get? b=s.heap.get? b:=fun b hb=>bX _ _ (Ne.symm hb)
 have gT: ∀b o,g.get? b=some o→b≠T:=fun b o e' h=>by rw[h,Vs] at e';(first|exact VD e'|cases e')
 refine⟨fun b o hb e'=>(Ic b (gT b o e')).trans (hk b o hb e'),fun b o hb e'=> ?_,oe,vs,(Ic e (Ne.symm Np)).trans he,hc,hd,h2,T,_,_,h1,Np,Vs,bc _ hT (Obj.isFreed_of_fields (Obj.data_mapFields O7 _)),Obj.data_mapFields O7 _,?_⟩
 ·obtain⟨sl,g1⟩:=Cp b o hb e'
  exact⟨sl,(Ic b (gT b o e')).trans g1⟩
 ·rw[cV Kl];rfl
theorem zP.leave{g:Heap}{S:List Addr}{e:Addr}{env:b9}{outer:List b9}{Lc:Addr}{fl:Option Value}{Q:Unit→aq→Prop}(x:zP g S e fl s.heap)(yH:fl=none∨fl=some .none)(K3:A.frames=some (env::outer))(hf:env.frame=some Lc)(hl:s.heap.FunFrames E0 (env::outer))(hS: ∀b∈e::(env::outer).filterMap (·.frame),b∈S)
  (h: ∀h',zP g S e (some .none) h'→Q () {s with heap:=h'}):wpAny M A (leaving env (.ref e)) Q E s:=by
 unfold leaving
 exact ao (x.note yH K3 hf hl hS fun h' x'=>x'.land h)
end
end
section
open PySem PyProof.Rows
section
variable {L:ic} {sc:Scope} {σ:gJ} {own:List Str} {k:Nat}
noncomputable def retInt:Option Fl→Option Int
 |some (.ret p)=>pg some p
 |_=>none
theorem C6{o:Option Fl}{n:Int}(h:retInt o=some n):o=some (.ret (.int n)):=by
 rcases o with _|fl
 ·exact g8 h
 ·cases fl<;>try exact g8 h
  obtain⟨a,rfl,h⟩:=km (show pg some _=some n from h)
  exact Option.some.inj h▸rfl
noncomputable def Gq(m:Nat)(f:List MV→Option (Option Fl×List MV))(rest:List PV):Option (Int×List PV):=(f (.lR rest::List.replicate m .un)).bind fun r=>(retInt r.1).bind fun n=>((r.2[0]?).bind MV.Ia).map fun l=>(n,l)
noncomputable def D8(i j m:Nat)(f:List MV→Option (Option Fl×List MV))(ρ:List MV):Option (Fl×List MV):=((ρ[i]?).bind MV.Ia).bind fun rest=>(Gq m f rest).map fun r=>(.next,(ρ.set i (.lR r.2)).set j (.p (.int r.1)))
structure K4(L:ic)(a:Addr)(fd:FuncData)(zQ:Scope)(y':Str)(Bw:List Str)(K5:gJ)(body:List Stmt)(k m:Nat)(f:List MV→Option (Option Fl×List MV)):Prop where
 D:iC L a fd zQ [y'] body
 S:so zQ K5 Bw [y']
 nc:(zQ.names.filter fun x=>x.2== .cell)=[]
 y0:K5.lookup y'=some 0
 b:SX L zQ K5 Bw k body f
theorem S1.O8{k':Nat}(hk:k+1≤k')(hn:L.exc=none){a:Addr}{fd:FuncData}{zQ:Scope}{y':Str}{Bw:List Str}{K5:gJ}{body:List Stmt}{m:Nat}{f:List MV→Option (Option Fl×List MV)}(C:K4 L a fd zQ y' Bw K5 body k m f){x y fn:Str}{xp yp np cp pos:cM}{i j:Nat}(hg:sc.names.lookup fn=some .globalImplicit)(hv:L.gl fn=some (.ref a))(hi:kr σ y i)(hx:x∈own)(hj:kr σ x j)
  (hd:(fn==("__debug__":Str))=false)(hd2:(y==("__debug__":Str))=false)(hs: ∀env,env.scope=sc→swapsWith (.Call (.Name fn np) [.Name y yp] [] cp) (some (.Name x xp)) pos.line env=pure false):
  S1 L sc σ own k' false (.Assign [.Name x xp] (.Call (.Name fn np) [.Name y yp] [] cp) pos) (D8 i j m f):=by
 intro env A Y Z s ρ ρ' fl Q E R' F I kC ki hf hQ
 have R:=R'.less hk
 have r9:env.scope.kind= .function:=by rw[F.fr.scope];exact F.fr.kind
 replace hf:=Option.bind_eq_some_iff.mp hf
 obtain⟨rest,jy,hf⟩:=hf
 replace jy:=Option.bind_eq_some_iff.mp jy
 obtain⟨mv,jy,h'⟩:=jy
 obtain rfl:=MV.zO h'
 obtain⟨⟨n,uu⟩,hr,e'⟩:=Option.map_eq_some_iff.mp hf
 skip;(first|exact VD e'|cases e')
 replace hr:=Option.bind_eq_some_iff.mp hr
 obtain⟨⟨zN,C7⟩,Kd,hr⟩:=hr
 replace hr:=Option.bind_eq_some_iff.mp hr
 obtain⟨n',JS,hr⟩:=hr
 obtain rfl:=C6 JS
 obtain⟨l,h0,hr⟩:=Option.map_eq_some_iff.mp hr
 skip;(first|exact VD hr|cases hr)
 replace h0:=Option.bind_eq_some_iff.mp h0
 obtain⟨nj,h0,qD⟩:=h0
 obtain rfl:=MV.zO qD
 refine eC (hs:=hs env F.fr.scope) (bT (aO r9 (by unfold b9.kindOf;rw[F.fr.scope];exact hg) (L.rm s env A fn _ _ E I.ir F.fr.globals F.fr.builtins.1 hv ?_) hd))
 obtain⟨it,hrd,hm⟩:=F.oK hi.1 jy rfl
 obtain⟨o,ho,Ob⟩:=C.D.obj
 suffices key:wpAny L.M A (spliced (backTo cp (starEach [aN.Name y yp] env))) (fun vs s'=>(s'.heap.get? a=some o∧o.data= .func fd)∧wpAny L.M A (PySem.call (.ref a) vs) (fun v s₁=>wpAny L.M A (storeName env x v) (fun _=>Q .next) E s₁) E s') E s from
  ed (b8 (rest:=[]) key)
 refine df (rest:=[]) (he:=rfl) (hrd.eval r9 (cW ⟨⟨I.ir _ _ ho,Ob⟩,?_⟩) hd2)
 refine Nm C.D C.S C.nc C.y0 C.b R (R.none hn) F.fr.xo I hm Kd (.inr ⟨_,_,rfl,h0⟩) (fun p r hp hr v s₁ R9 Sa qR iu=> ?_) (fun h=>by (first|exact VD h|cases h))
 rw[h0] at hr
 skip;(first|exact VD hr|cases hr)
 skip;(first|exact VD hp|cases hp)
 have DM:=(F.EL _ _ _ _ ⟨hi.1,jy,rfl,hrd⟩).1
 have jm:FS L sc σ own env Y Z s₁.heap (ρ.set i (.lR uu)):=F.QR hi.1 hi.2 jy rfl hrd (fun b o ht hb e=>iu.keep b o ht (fun h=>hb (List.mem_singleton.mp h)) e) qR Sa
 exact jm.bind iu.inv hx hj R9 fun gQ jJ gP=>hQ.one rfl jJ (gO.trans ⟨fun b o ht hb e=>iu.keep b o ht (fun h=>hb (List.mem_singleton.mp h▸DM)) e,iu.inv,iu.os,iu.drawn⟩ (fun b h=> .inl h) gP)
end
end
section
open PySem PyProof.Rows
section
variable {L:ic} {sc:Scope} {σ:gJ} {own:List Str} {k:Nat}
noncomputable def Nq:PV→Option MV
 | .list l=>some (.lR l)
 |_=>none
theorem Fm{p:PV}{r:MV}(h:Nq p=some r): ∃l,p= .list l∧r= .lR l:=by cases p<;>first|exact g8 h|exact⟨_,rfl,(Option.some.inj h).symm⟩
noncomputable def Ie(ps:List PV):Option MV:=Ks Nq ps
theorem Ig:nN L 0 (.builtin "iter") Ie:=by
 intro A X s ps vs r Q E R x I jL hg hQ
 obtain⟨p,rfl,hg⟩:=wx hg
 obtain⟨l,rfl,rfl⟩:=Fm hg
 obtain⟨v,rfl,hv⟩:=gM.one jL
 refine hv.vR fun a xs n ha ho hl=> ?_
 refine dj (by decide+kernel) (by decide+kernel) PySem.W.kdk_entry_iter (PySem.W.kdk_args_iter _) ?_
 unfold aD.«iter»
 refine ao (m:=someArgs "iter" 1 2 _) (c8 (a:=[Value.ref a]) (by first|rfl|kernel_rfl!) ?_)
 show wpAny _ _ (pyIter (.ref a)>>= _) _ _ _
 refine ao (cZ ⟨_,ho,rfl,_,rfl⟩ (aA ⟨_,rfl,?_⟩))
 exact hQ _ _ (gY _) (gI.yS (tk:=s.toks) I x (gY _) (iq _ _) ⟨_,aE _ rfl⟩) rfl ⟨_,a,l,0,rfl,az ..,fun e=>x.size (e▸x.tb),fun e=>x.size (e▸x.sm),⟨_,aE _ rfl,rfl,rfl⟩,VR.up (CL (gY _) (iq _ _)) (.intro a ⟨xs,n,rfl,ha,ho,hl⟩),rfl⟩
theorem wH{L:ic}{e:Addr}{o:Obj}(hl:L.look e=none){a:Addr}{o':Obj}(h:L.look a=some o'):(if a=e then some o else L.look a)=some o':=by
 by_cases h':a=e
 ·exact g8 (hl.symm.trans (h'▸h))
 ·rw[if_neg h'];exact h
noncomputable def ic.ja(L:ic)(e:Addr)(o:Obj)(iS:e≠L.tb)(hl:L.look e=none)(hx: ∃vs,o.data= .fields vs∧vs[2]? =some .none):ic:=
 {L with
  look:=fun a=>if a=e then some o else L.look a
  vP:=by rw[if_neg (Ne.symm iS)];exact L.vP
  noLimit:=fun h H=>L.noLimit h fun a o' ha=>H a o' (wH hl ha)
  rm:=fun s env A x v Q E H=>L.rm s env A x v Q E fun a o' ha=>H a o' (wH hl ha)
  vQ:=L.vQ.elim fun o' h=>⟨o',wH hl h⟩
  J4:=fun s A Q E H=>L.J4 s A Q E fun a o' ha=>H a o' (wH hl ha)
  exc:=some e
  GC:=fun a ha=>hx.elim fun vs x=>⟨o,vs,if_pos (Option.some.inj ha).symm,x.1,x.2⟩}
theorem jt{e:Addr}{o:Obj}{iS:e≠L.tb}{hl:L.look e=none}{hx: ∃vs,o.data= .fields vs∧vs[2]? =some .none}{a:Addr}{o':Obj}(h:L.look a=some o'):(L.ja e o iS hl hx).look a=some o':=wH hl h
theorem iC.ja{a:Addr}{fd:FuncData}{ns:List Str}{body:List Stmt}(D:iC L a fd sc ns body){e:Addr}{o:Obj}{iS:e≠L.tb}{hl:L.look e=none}{hx: ∃vs,o.data= .fields vs∧vs[2]? =some .none}:iC (L.ja e o iS hl hx) a fd sc ns body where
 obj:=let ⟨o',h,d⟩:=D.obj;⟨o',jt h,d⟩
 code:=fun h H=>D.code h fun a o' ha=>H a o' (jt ha)
 body:=D.body
 scope:=D.scope
 globals:=D.globals
 builtins:=D.builtins
 closure:=D.closure
 bind:=D.bind
 host:=D.host
theorem wI{h h':Heap}{c P:Addr}{ps:Array Value}(x:h.TableAt c P ps)(h1: ∀o,h.get? c=some o→h'.get? c=some o)(h2: ∀o,h.get? P=some o→h'.get? P=some o):h'.TableAt c P ps:=
 ⟨x.1.elim fun o y=>y.elim fun vs y=>⟨o,vs,h1 _ y.1,y.2⟩,h2 _ x.2⟩
theorem Ih{h h':Heap}{a:Addr}{m:Str→Option Value}(x:h.Ns a m)(k: ∀o,h.get? a=some o→ ∃sl,h'.get? a=some {o with slots:=sl}):h'.Ns a m:=
 x.elim fun o x=>x.elim fun es x=>x.elim fun ep x=>(k o x.1).elim fun sl e=>⟨_,es,ep,e,x.2⟩
theorem C8{h h':Heap}{a:Addr}{u:Option Value}(x:h.IsCell a u)(k: ∀o,h.get? a=some o→ ∃sl,h'.get? a=some {o with slots:=sl}):h'.IsCell a u:=
 x.elim fun o x=>(k o x.1).elim fun sl e=>⟨_,e,x.2⟩
theorem y4{h h':Heap}{c P:Addr}{ps:Array Value}(x:h.IsCode c P ps)(h1: ∀o,h.get? c=some o→h'.get? c=some o)(h2: ∀o,h.get? P=some o→h'.get? P=some o):h'.IsCode c P ps:=
 x.elim fun o x=>x.elim fun vs x=>x.elim fun file x=>x.elim fun tf x=>x.elim fun flags x=>x.elim fun tg x=>x.elim fun inF x=>x.elim fun text x=>x.elim fun tt x=>x.elim fun op x=>
  ⟨o,vs,file,tf,flags,tg,inF,text,tt,op,h1 _ x.1,x.2.1,x.2.2.1,x.2.2.2.1,x.2.2.2.2.1,x.2.2.2.2.2.1,x.2.2.2.2.2.2.1,h2 _ x.2.2.2.2.2.2.2.1,x.2.2.2.2.2.2.2.2⟩
theorem xY:isSubtype (.type "StopIteration") (.type "BaseException")=pure true:=by rw[d8];kernel_rfl
theorem K6:isSubtype (.type ((Manifest.find? "StopIteration").elim "type" fun x=>x.metatype)) (.type "tuple")=pure false:=by rw[d8];kernel_rfl
theorem O9{env:b9}{Y Z:List Addr}{s:aq}{ρ:List MV}{g h:Heap}{S:List Addr}{e it:Addr}{s₁:aq}{oe:Obj}(F:FS L sc σ own env Y Z s.heap ρ)(I:Inv L s)(hg:s₁.heap=g)(iu:gO L [it] s s₁)(Bv:it∈Y++Z)(Ii:it≠env.locals)(Pa: ∀c u,s.heap.IsCell c u→c≠it)(qR:XO L (Y++Z) g)(hen:s.heap.get? e=none)(C9:L.look e=none)
  (hS: ∀b∈S,b=e∨s.heap.get? b=none∨(b∈Y++Z∧b≠L.tb))(W:zP g S e (some .none) h)(he:h.get? e=some oe)(hx: ∃vs,oe.data= .fields vs∧vs[2]? =some .none)(iS:e≠L.tb):
  FS (L.ja e oe iS C9 hx) sc σ own env Y Z h (ρ.map MV.mJ)∧Inv (L.ja e oe iS C9 hx) {s₁ with heap:=h}:=by
 subst hg
 have K7: ∀b o,s.heap.get? b=some o→b≠e:=fun b o h' x=>g8 (hen.symm.trans (x▸h'))
 have keep: ∀b o,b∉Y++Z→s.heap.get? b=some o→h.get? b=some o:=fun b o hb e'=>
  W.keep b o (fun hm=>(hS b hm).elim (K7 b o e') fun h1=>h1.elim (fun h1=>g8 (h1.symm.trans e')) fun h1=>hb h1.1) (iu.keep b o (fun h=>hb (h▸F.fr.xo.tb)) (fun h=>hb (List.mem_singleton.mp h▸Bv)) e')
 have Ij: ∀b o,L.look b=some o→b∉Y++Z:=fun b o h1 hm=>g8 ((F.fr.xo.look b hm).symm.trans h1)
 have slots: ∀b o,b≠L.tb→b≠it→s.heap.get? b=some o→ ∃sl,h.get? b=some {o with slots:=sl}:=fun b o h1 h2 e'=>W.slots b o (K7 b o e') (iu.keep b o h1 (fun h=>h2 (List.mem_singleton.mp h)) e')
 have R7: ∀b∈Y++Z,∃o,h.get? b=some o:=fun b hb=>(qR.there b hb).elim fun o ho=>(F.fr.xo.there b hb).elim fun o' lp=>(W.slots b o (K7 b o' lp) ho).elim fun sl h'=>⟨_,h'⟩
 have tbS:L.tb∉S:=fun hm=>(hS _ hm).elim (fun h1=>iS h1.symm) fun h1=>h1.elim (fun h1=>F.fr.xo.fresh h1 F.fr.xo.tb) fun h1=>h1.2 rfl
 obtain⟨oh,O0⟩:=L.vQ
 have Ik:L.iI∉S:=fun hm=>(hS _ hm).elim (fun h1=>g8 (C9.symm.trans (h1▸O0))) fun h1=>h1.elim (fun h1=>g8 (h1.symm.trans (I.ir _ _ O0))) fun h1=>Ij _ _ O0 h1.1
 have Sb: ∀b∈Y++Z,(L.ja e oe iS C9 hx).look b=none:=fun b hb=>(if_neg ((F.fr.xo.there b hb).elim fun o ho=>K7 b o ho)).trans (F.fr.xo.look b hb)
 have EK:XO (L.ja e oe iS C9 hx) (Y++Z) h:=by
  refine⟨F.fr.xo.tb,F.fr.xo.sm,R7,Sb,?_⟩
  obtain⟨fp,hf,_⟩:=qR.tab
  obtain⟨ps,hc⟩:=L.zm _ _ hf
  obtain⟨fp',Kd,W7⟩:=L.GB h ps ⟨y4 hc.1 (fun o e'=>W.keep _ o Ik e') (fun o e'=>W.keep _ o tbS e'),wI hc.2.1 (fun o e'=>W.keep _ o Ik e') (fun o e'=>W.keep _ o tbS e'),hc.2.2⟩
  exact⟨fp',Kd,fun a ha hm=>Ij _ _ O0 (W7 a ha▸hm)⟩
 have Og: ∀m,s.heap.Ns env.locals m→h.Ns env.locals m:=fun m x=>Ih x fun o=>slots _ o F.fr.locals.1 (Ne.symm Ii)
 have Nr: ∀y c u,env.cells.lookup y=some c→s.heap.IsCell c u→h.IsCell c u:=fun y c u hc x=>C8 x fun o=>slots c o (F.fr.cells y c hc).1 (Pa c u x)
 have up:Up s.heap (Y++Z) h (Y++Z):=fun a o ha e'=>⟨ha,keep a o ha e'⟩
 have noOwn: ∀(i:Nat) mv,(ρ.map MV.mJ)[i]? =some mv→mv.owned=true→False:=fun i mv hm ho=>(Option.map_eq_some_iff.mp (List.getElem?_map.symm.trans hm)).elim fun q x=>Bool.noConfusion ((yO q).symm.trans (x.2▸ho))
 refine⟨⟨⟨F.fr.scope,F.fr.kind,F.fr.globals,F.fr.builtins,EK,⟨F.fr.locals.1,F.fr.locals.2.elim fun o ho=>(slots _ o F.fr.locals.1 (Ne.symm Ii) ho).elim fun sl h'=>⟨_,h'⟩⟩,fun y c hc=>⟨(F.fr.cells y c hc).1,?_⟩,F.fr.has,fun y i hi mv jy hu=> ?_⟩,F.ta,F.ns.elim fun m x=>⟨m,Og m x⟩,fun y hy=>(F.cell y hy).imp id fun x=>⟨x.1,x.2.1,x.2.2.elim fun c x=>⟨c,x.1,x.2.1,x.2.2.1.elim fun v hv=>⟨v,Nr y c v x.1 hv⟩,x.2.2.2⟩⟩,F.apart,fun x i mv a H=>(noOwn i mv H.val H.ow).elim,fun x y i j mv nj a H _=>(noOwn i mv H.val H.ow).elim⟩,⟨fun a o' ha=> ?_,iu.inv.bare⟩⟩
 ·by_cases hci:c=it
  ·exact hci▸R7 it Bv
  ·exact(F.fr.cells y c hc).2.elim fun o ho=>(slots _ o (F.fr.cells y c hc).1 hci ho).elim fun sl h'=>⟨_,h'⟩
 ·rw[aJ] at jy
  obtain⟨MU,h0,rfl⟩:=Option.map_eq_some_iff.mp jy
  obtain⟨q,rfl⟩:=DT hu
  exact(F.fr.rd y i hi _ h0 (fun h=>nomatch h)).elim fun v r=>⟨v,r.1.map Og fun c u hc=>Nr y c u hc,VR.up up (show VR L.prog L.w s.heap (Y++Z) q v from r.2)⟩
 ·change (if a=e then some oe else L.look a)=some o' at ha
  by_cases h':a=e
  ·rw[if_pos h'] at ha;exact Option.some.inj ha▸h'▸he
  ·rw[if_neg h'] at ha;exact keep a o' (Ij a o' ha) (I.ir a o' ha)
end
end
section
open PySem PyProof.Rows
section
variable {L:ic} {sc:Scope} {σ:gJ} {own:List Str} {k:Nat}
theorem Bx{h h':Heap}: ∀{l:List b9},(∀b o,b∈l.filterMap (·.frame)→h.get? b=some o→h'.get? b=some o)→h.FunFrames E0 l→h'.FunFrames E0 l:=by
 intro l
 induction l with
 |nil=>exact @fun _ _=>trivial
 |cons c l hV=>
  intro hb x
  obtain⟨h1,⟨Lc,o,h2,h3,h4,h5⟩,h6⟩:=x
  have e:(c::l).filterMap (·.frame)=Lc::l.filterMap (·.frame):=by rw[cg,h2]
  rw[e] at hb
  exact⟨h1,⟨Lc,o,h2,h3,hb Lc o (az ..) h4,h5⟩,hV (fun b o h e=>hb b o (av _ h) e) h6⟩
theorem By{h:Heap}{env:b9}{l:List b9}{m:Str→Option Value}(hk:env.scope.kind= .function)(hf:env.frame=some env.locals)(x:h.Ns env.locals m)(hl:h.FunFrames E0 l):h.FunFrames E0 (env::l):=
 ⟨(by rw[hk];intro h;(first|exact VD h|cases h)),x.elim fun o x=>x.elim fun es x=>x.elim fun ep x=>⟨_,o,hf,rfl,x.1,fun vs h=>nomatch x.2.1.symm.trans h⟩,hl⟩
theorem Il(hn:L.exc=none){a:Addr}{fd:FuncData}{zQ:Scope}{y':Str}{Bw:List Str}{K5:gJ}{body:List Stmt}{m kk K:Nat}{gg:Bool}{f:List MV→Option (Option Fl×List MV)}(C:K4 L a fd zQ y' Bw K5 body k m f)
  {y fn sn:Str}{yp np cp ep sp hp pos:cM}{i:Nat}{Fn:Stmt}{y5:List Stmt}{fs:List MV→Option (Fl×List MV)}
  {env:b9}{A:aH}{Y Z:List Addr}{s:aq}{ρ JY C7:List MV}{rest:List PV}{outer:List b9}{bb:Bool}{Q:Flow→aq→Prop}{E:Value→aq→Prop}
  (hg:sc.names.lookup fn=some .globalImplicit)(hv:L.gl fn=some (.ref a))(hi:kr σ y i)(jy:ρ[i]? =some (.lR rest))(hf:f (.lR rest::List.replicate m .un)=some (none,JY))
  (Vt:sc.names.lookup sn=some .globalImplicit)(hsv:L.gl sn=some (.type "StopIteration"))(K8:EF sc=false)(K3:A.frames=some (env::outer))(HB:s.heap.FunFrames E0 outer)(Nt: ∀b∈outer.filterMap (·.frame),b∈Y++Z∧b≠L.tb)
  (W8: ∀e oe iS C9 hx,SS (L.ja e oe iS C9 hx) sc σ own kk gg (Fn::y5) fs)(W9:fs (ρ.map MV.mJ)=some (.ret (.bool bb),C7))(hkk:kk≤K)(hkK:k+1≤K)
  (Pb:iU L K A)(F:FS L sc σ own env Y Z s.heap ρ)(I:Inv L s)(kC:L.tb∈Z)(ki:sysModules∈Z)(Sd:sysModules≠L.tb)
  (hd:(fn==("__debug__":Str))=false)(hd2:(y==("__debug__":Str))=false)(Qv:(sn==("__debug__":Str))=false)(hsw: ∀env,swapsWith (.Call (.Name fn np) [.Name y yp] [] cp) none ep.line env=pure false)
  (Xa:sysModules∉outer.filterMap (·.frame))
  (hQ: ∀s',AllBare s'.gens→s'.os=s.os→s'.drawn=s.drawn→(∀a o,L.look a=some o→s'.heap.get? a=some o)→(∃fp,L.tabI s'.heap fp)→(∀o,s.heap.get? sysModules=some o→s'.heap.get? sysModules=some o)→Q (.ret (.bool bb)) s'):
  wpAny L.M A (exec (.Try [.Expr (.Call (.Name fn np) [.Name y yp] [] cp) ep] [.ExceptHandler (some (.Name sn sp)) none (Fn::y5) hp] [] [] pos) env) Q E s:=by
 have R:=Pb.less hkK
 have r9:env.scope.kind= .function:=by rw[F.fr.scope];exact F.fr.kind
 refine wpAny_Try_except (di (wpAny_Expr (hi:=pY r9) (hs:=hsw env) (bT (aO r9 (by unfold b9.kindOf;rw[F.fr.scope];exact hg) (L.rm s env A fn _ _ _ I.ir F.fr.globals F.fr.builtins.1 hv ?_) hd))))
 obtain⟨it,hrd,hm⟩:=F.oK hi.1 jy rfl
 obtain⟨o,ho,Ob⟩:=C.D.obj
 generalize Se:(fun(e:Value) (s₁:aq)=>wpAny (model L.prog L.w) A (noteFrame e env) (fun _ gQ=>wpAny (model L.prog L.w) A (setFlight e none) (fun _ i6=>wpAny (model L.prog L.w) A (handleBy e env [.ExceptHandler (some (.Name sn sp)) none (Fn::y5) hp]) Q E i6) E gQ) E s₁)=abO
 refine ed (a:=a) (o:=o) (fd:=fd) (b8 (rest:=[]) ?_)
 refine df (rest:=[]) (he:=rfl) (pos:=cp) (hrd.eval r9 (cW ⟨⟨I.ir _ _ ho,Ob⟩,?_⟩) hd2)
 refine Nm C.D C.S C.nc C.y0 C.b R (R.none hn) F.fr.xo I hm hf (.inl rfl) (fun p r hp=>by (first|exact VD hp|cases hp)) (fun _ K9 e s₁ q1 q2 q3 q4 iu q5 q6 q7 qR=> ?_)
 obtain⟨MO,ax,l,ix,e1,Bv,K0,hits,hit,_⟩:=hm
 skip;(first|exact VD e1|cases e1)
 obtain⟨lR,Sf,_,Sg⟩:=hit
 have Ii:it≠env.locals:=(F.EL _ _ _ _ ⟨hi.1,jy,rfl,hrd⟩).2
 have Pa: ∀c u,s.heap.IsCell c u→c≠it:=fun c u x h=>x.elim fun o x=>qM (Sg.symm.trans ((congrArg Obj.data (Option.some.inj (Sf.symm.trans (h▸x.1)))).trans x.2))
 have Vu:env.frame=some env.locals:=F.fr.builtins.2.2 K8
 have iS:e≠L.tb:=fun h=>F.fr.xo.fresh q5 (h▸F.fr.xo.tb)
 have C9:L.look e=none:=by
  cases h:L.look e with
  |none=>rfl
  |some o=>exact g8 (q5.symm.trans (I.ir _ _ h))
 have Im: ∀b o,b≠L.tb→b≠it→s.heap.get? b=some o→s₁.heap.get? b=some o:=fun b o h1 h2 e'=>iu.keep b o h1 (fun h=>h2 (List.mem_singleton.mp h)) e'
 have Pc: ∀b∈outer.filterMap (·.frame),b≠it:=fun b hb h=>by
  obtain⟨_,o,ho,Ni⟩:=HB.mem hb
  exact Ni _ (Option.some.inj (Sf.symm.trans (h▸ho))▸Sg)
 have Sh:s₁.heap.FunFrames E0 (env::outer):=F.ns.elim fun m' AJ=>By r9 Vu (AJ.at' fun o e=>Im _ o F.fr.locals.1 (Ne.symm Ii) e) (Bx (fun b o hb e=>Im b o (Nt b hb).2 (Pc b hb) e) HB)
 have Xb:s₁.heap.FunFrames E0 (K9::env::outer):=q4.elim fun m' AJ=>By q2 q1 AJ Sh
 have exc: ∃oe vs,s₁.heap.get? e=some oe∧oe.data= .fields vs:=q6.elim fun o x=>x.elim fun vs x=>x.elim fun _ x=>⟨o,vs,x.1,x.2.2.1⟩
 generalize hSS:e::(K9::env::outer).filterMap (·.frame)=S
 have Pd:e::K9.locals::env.locals::outer.filterMap (·.frame)=S:=by rw[←hSS,cg,q1,cg,Vu]
 have hS1: ∀b∈e::(env::outer).filterMap (·.frame),b∈S:=fun b hb=>by
  rw[cg,Vu] at hb
  exact Pd▸(List.mem_cons.mp hb).elim (fun h=>h▸az ..) fun h=>av _ (av _ h)
 have hS2: ∀b∈S,b=e∨s.heap.get? b=none∨(b∈Y++Z∧b≠L.tb):=fun b hb=>by
  rw[←Pd] at hb
  exact(List.mem_cons.mp hb).imp id fun h=>(List.mem_cons.mp h).imp (fun(h:b=K9.locals)=>h▸q3) fun h=>(List.mem_cons.mp h).elim (fun(h:b=env.locals)=>⟨h▸aw _ F.ta,h▸F.fr.locals.1⟩) (Nt b)
 refine(zP.start (S:=S) q6).leave (.inl rfl) (by show A.frames.map _=_;rw[K3];rfl) q1 Xb (fun b hb=>hSS▸hb) fun h₂ Si=> ?_
 rw[←Se]
 refine zP.note (s:={s₁ with heap:=h₂}) Si (.inr rfl) K3 Vu (Si.frames exc Sh) hS1 fun h₃ Xc=> ?_
 refine zP.land (s:={s₁ with heap:=h₃}) Xc fun Pe Pf=> ?_
 have Xd: ∀a o,L.look a=some o→Pe.get? a=some o:=fun c oc hc=>Pf.keep c oc (fun hm=>(hS2 c hm).elim (fun h1=>g8 (C9.symm.trans (h1▸hc))) fun h=>h.elim (fun h1=>g8 (h1.symm.trans (I.ir _ _ hc))) fun h1=>g8 ((F.fr.xo.look c h1.1).symm.trans hc)) (iu.inv.ir c oc hc)
 refine wpAny_handleBy_builtin (X:="StopIteration") (T:="StopIteration") (b:=true) xY K6 fu ?_
 refine aO r9 (by unfold b9.kindOf;rw[F.fr.scope];exact Vt) (L.rm {s₁ with heap:=Pe} env _ sn _ _ _ Xd F.fr.globals F.fr.builtins.1 hsv ?_) Qv
 refine⟨rfl,Pf.exc.elim fun Sj x=>x.elim fun aai x=>⟨Sj,x.1,x.2.1⟩,?_⟩
 rw[if_pos rfl]
 refine zP.land (s:={s₁ with heap:=Pe}) Pf fun C4 Pg=> ?_
 obtain⟨oe,vs,g3,_,g5,g6,_⟩:=Pg.exc
 obtain⟨A6,Xe⟩:=O9 (L:=L) F I rfl iu Bv Ii Pa qR q5 C9 hS2 Pg g3 ⟨vs,g5,g6⟩ iS
 refine W8 e oe iS C9 ⟨vs,g5,g6⟩ env (A.mark (some (.ref e))) Y Z {s₁ with heap:=C4} _ C7 (.ret (.bool bb)) Q _ ⟨?_,Pb.depth|> fun h=>by show A.depth+kk<900;omega,Pb.units|> fun h=>by show A.units+100*kk<9000;omega⟩ A6 Xe kC ki W9 fun fv Y' s' qF F' Qt ZU d'=> ?_
 ·show(some (Value.ref e)).or A.handled=_;rfl
 ·obtain⟨v,rfl,oD⟩:=qF
  have:=oD.pQ
  subst this
  refine hQ s' d'.inv.bare (d'.os.trans iu.os) (d'.drawn.trans iu.drawn) (fun a o ha=>d'.inv.ir a o (jt ha)) (F'.fr.xo.tab.elim fun fp h=>⟨fp,h.1⟩) fun o ho=> ?_
  have hsS:sysModules∉S:=fun hm=>by
   rw[←Pd] at hm
   exact(List.mem_cons.mp hm).elim (fun h=>g8 (q5.symm.trans (h▸ho))) fun h=>(List.mem_cons.mp h).elim (fun h=>g8 (q3.symm.trans (h▸ho))) fun h=>(List.mem_cons.mp h).elim (fun h=>F.apart _ (h▸F.ta) ki) Xa
  exact d'.keep _ o Sd (fun h=>F.apart _ h ki) (Pg.keep _ o hsS (Im _ o Sd (Ne.symm hits) ho))
end
end
section
open PySem PyProof.Rows
structure vI(L:ic)(K:d9)(C fI:Addr)(nm:Str):Prop where
 Qy: ∀h:Heap,(∀a o,L.look a=some o→h.get? a=some o)→PySem.W.Frag.In K h
 makes:PySem.W.makesIn K C=true
 init:PySem.W.findIn K (.ref C) "__init__"=some (some (.ref fI))
 fn:PySem.W.typeIn K (.ref fI)=some (.type "function")
 setattr:PySem.W.findIn K (.ref C) "__setattr__"=some (some (.builtin "object.__setattr__"))
 over:PySem.W.plainOver K C=true
 Sk:PySem.W.takerIn K C nm=some none
 dict:PySem.W.hasDictIn K C=true
 get:PySem.W.plainGet K C nm=true
 attr:PySem.W.findIn K (.ref C) nm=some none
 Ph:PySem.W.keepIn K (.ref C)=true
theorem VR.Nu{prog:Program}{w:cL}{h:Heap}{X:List Addr}{C:Addr}{nm:Str}{p:PV}{v:Value}(x:VR prog w h X (.inst C nm p) v):
 ∃a dx es n J3 t u,v= .ref a∧a∉X∧dx∉X∧h.get? a=some {cls:= .ref C,dict:=some dx,data:= .plain}∧h.get? dx=some {cls:= .type "dict",data:= .dict es n}∧es= #[⟨J3,.str nm t,u⟩]∧VR prog w h X p u:=x
section
variable {L:ic} {sc:Scope} {σ:gJ} {own:List Str} {k:Nat} {K:d9} {C fI:Addr} {nm:Str}
noncomputable def zR(C:Addr)(nm:Str)(ps:List PV):Option PV:=Co (fun p=>some (.inst C nm p)) ps
theorem Pj(D:vI L K C fI nm){fd:FuncData}{zQ:Scope}{sf ar:Str}{sp ap apos pos:cM}(Df:iC L fI fd zQ [sf,ar] [.Assign [.Attribute (.Name sf sp) nm apos] (.Name ar ap) pos])(S:so zQ [] [sf,ar] [sf,ar])(JU:zQ.names.lookup sf=some .local)(KI:zQ.names.lookup ar=some .local)
  (KO:(sf==("__debug__":Str))=false)(hd2:(ar==("__debug__":Str))=false)(hsw: ∀env,env.scope=zQ→swapsWith (.Name ar ap) (some (.Attribute (.Name sf sp) nm apos)) pos.line env=pure false):iF L (k+2) (.ref C) (zR C nm):=by
 intro A X s ps vs r Q E R x I jL hg hQ
 replace hg:=my hg
 obtain⟨p,rfl,hg⟩:=hg
 skip;(first|exact VD hg|cases hg)
 obtain⟨v,rfl,hv⟩:=gM.one jL
 obtain⟨hh,g,d,t,os⟩:=s
 have La:=D.Qy hh I.ir
 refine fZ (PySem.W.make_core (PySem.W.makes_of La D.makes) (PySem.W.looks_findIn La D.init) (fun self=>PySem.W.bind_fn La self D.fn) (.inl rfl) ?_)
 obtain⟨o,ho,Ob⟩:=Df.obj
 have uj:fd.scope=zQ:=Df.scope
 have Sl:(hh.push PySem.W.emptyDict).objs.size=hh.objs.size+1:=aZ ..
 have Lb:((hh.push PySem.W.emptyDict).push (PySem.W.instObj C hh.objs.size)).objs.size=hh.objs.size+2:=by rw[aZ,Sl]
 have k0: ∀b o,hh.get? b=some o→((hh.push PySem.W.emptyDict).push (PySem.W.instObj C hh.objs.size)).get? b=some o:=fun b o e=>aB _ (aB _ e)
 have gx:((hh.push PySem.W.emptyDict).push (PySem.W.instObj C hh.objs.size)).get? (hh.objs.size+1)=some (PySem.W.instObj C hh.objs.size):=by rw[←Sl];exact aE _ rfl
 have gd:((hh.push PySem.W.emptyDict).push (PySem.W.instObj C hh.objs.size)).get? hh.objs.size=some PySem.W.emptyDict:=aB _ (aE _ rfl)
 generalize hH:(hh.push PySem.W.emptyDict).push (PySem.W.instObj C hh.objs.size)=H at Lb k0 gx gd
 have EE: ∀a o,L.look a=some o→H.get? a=some o:=fun a o e=>k0 a o (I.ir a o e)
 generalize nq:callEnvC fd H.objs.size fI=env
 have e1:env.scope=zQ:=by rw[←nq];exact uj
 have e2:env.locals=H.objs.size:=by rw[←nq];rfl
 have kindOf: ∀y,env.kindOf y=zQ.names.lookup y:=fun y=>by unfold b9.kindOf;rw[e1]
 have hd:=R.depth
 refine PySem.codeAny_call_cells (s:=⟨H,g,d,t,os⟩) (binds:=[sf,ar].zip [.ref (hh.objs.size+1),v]) (by have hw:(Code.builtin "type.__call__" ⟨[.ref C,v],[]⟩).weight=1:= (by kernel_rfl);show A.depth+(Code.builtin "type.__call__" ⟨[.ref C,v],[]⟩).weight<1000;rw[hw];omega) (EE fI o ho) Ob (L.noLimit _ EE) (Df.code _ EE) Df.body (Df.bind _ rfl) Df.closure ?_ ?_ (by rw[uj];exact S.co) (by rw[uj];exact S.gen) (by rw[uj];exact S.kind)
 ·intro z hz
  rw[uj]
  simp only[List.zip_cons_cons,List.zip_nil_right,fk,bY,or_false] at hz
  rcases hz with rfl|rfl
  ·exact .inl JU
  ·exact .inl KI
 rw[nq]
 intro s₁ nk
 obtain⟨h₁,tk,rfl⟩:=nk.toInCall.same
 have keep:=nk.toInCall.keep
 have wa:=nk.toInCall.ns
 have r9:env.scope.kind= .function:=by rw[e1];exact S.kind
 have F:Fr hh env.locals h₁ (bindL env.kindOf ([sf,ar].zip [.ref (hh.objs.size+1),v]) fun _=>none):=⟨wa,fun b o e=>keep b o (k0 b o e),by rw[e2,Lb];omega⟩
 have N:News hh env.locals h₁ [(hh.objs.size+1,PySem.W.instObj C hh.objs.size),(hh.objs.size,PySem.W.dictOf [] 0)]:=by
  intro q hq
  simp only[fk,bY,or_false] at hq
  rcases hq with rfl|rfl
  ·exact⟨keep _ _ gx,(by rw[e2,Lb];exact eG (dE _)),dJ (dM _)⟩
  ·exact⟨keep _ _ gd,(by rw[e2,Lb];exact eG (Nat.lt_add_of_pos_right (by decide))),dJ (br _)⟩
 have vsf:bindL env.kindOf ([sf,ar].zip [.ref (hh.objs.size+1),v]) (fun _=>none) sf=some (.ref (hh.objs.size+1)):=qy _ [sf,ar] [.ref (hh.objs.size+1),v] _ 0 sf _ S.Bi rfl rfl (by rw[kindOf];exact JU)
 have var:bindL env.kindOf ([sf,ar].zip [.ref (hh.objs.size+1),v]) (fun _=>none) ar=some v:=qy _ [sf,ar] [.ref (hh.objs.size+1),v] _ 1 ar _ S.Bi rfl rfl (by rw[kindOf];exact KI)
 refine di (plainObj_wpAny_Assign_Attribute (hs:=hsw env e1) (f7 (cF r9 (by rw[kindOf];exact KI) wa var (f7 (cF r9 (by rw[kindOf];exact JU) wa vsf ?_) KO)) hd2))
 refine PySem.W.set_dict (dx:=hh.objs.size) (n':=1) F La N (PySem.W.InstAt.of_news N (.head _) (.tail _ (.head _))) rfl D.setattr D.over D.Sk D.dict rfl rfl (.tail (dU (dE _)) (.head fun _ h=>nomatch h)) (by show 1≤1000;decide) fun h₂ jJ Sm=> ?_
 refine fg (And.intro rfl ?_)
 have nx:hh.get? (hh.objs.size+1)=none:=dJ (dM _)
 have nd:hh.get? hh.objs.size=none:=dJ (br _)
 refine hQ _ _ ?_ (gI.of_keep (s:=⟨hh,g,d,t,os⟩) I x jJ.keep _)
 exact .intro _ ⟨_,_,_,_,_,_,rfl,x.fresh nx,x.fresh nd,(Sm _ (.head _)).1,(Sm _ (.tail _ (.head _))).1,rfl,hv.up fun b o hb e=>⟨hb,jJ.keep b o e⟩⟩
end
end
section
open PySem PyProof.Rows PySem.Builtin.Re
theorem wJ:PlainAttrs "re.Pattern":=
 ⟨⟨"object.__getattribute__",by rw[cj,bJ];kernel_rfl,by decide+kernel⟩,by rw[cj,bJ];kernel_rfl⟩
theorem oN:Slot "re.Pattern" "sub" "re.Pattern.sub":=
 .of (owner:="re.Pattern") (n:="sub") (by rw[cj,bJ];kernel_rfl) (by decide+kernel) (by decide+kernel) (by decide+kernel)
  (by first|exact .inl (by decide+kernel)|exact .inr (by decide+kernel)) (by rw[d8];kernel_rfl)
theorem zS:typeOf (.builtin "re.Pattern.sub")=pure (.type "method_descriptor"):=by show builtinType _=_;rw[builtinType_eq_fast];kernel_rfl
theorem xZ:entryFor table "re.Pattern.sub"=some aD.«re.Pattern.sub»:=dP (by kernel_rfl)
theorem qc:entryFor table "re.Pattern.sub.loop"=some aD.«re.Pattern.sub.loop»:=dP (by kernel_rfl)
theorem Fo:Manifest.owners.lookup (String.ofList ['n','r','e','t','t','a','P','.','e','r'].reverse)=some Manifest.sig_re_Pattern:= (by kernel_rfl)
theorem zT(a b c:Value):argsOk "re.Pattern.sub" ⟨[a,b,c],[]⟩:=by
 unfold argsOk;rw[signature?_of (id:="re.Pattern.sub") (n:=['b','u','s']) (o:=['n','r','e','t','t','a','P','.','e','r']) (by kernel_rfl) Fo];kernel_rfl
theorem Io(r x:Value):reNamed "re.Pattern.sub" "sub" ["repl","string","count"] 2 [r,x] []=pure [some r,some x,none]:=by
 rfl
end
section
open PySem PySem.Sre
noncomputable def pO(code t:Array Nat)(st ls pc pos hd:Nat)(om:Bool)(fr:List et)(wt:Nat)(Xf:Option Bool)(seen:Seen)(oc:Option Sre.Outcome):M:=
 {code,text:=t,lim:=t.size,start:=st,lastStart:=ls,pc,pos,handed:=hd,outermost:=om,marks:= #[],frames:=fr,weight:=wt,answer:=Xf,seen,outcome:=oc}
noncomputable def To(B:Nat)(m m':M):Prop:= ∃N,N≤B∧m.runFor N=m'
theorem nu(n:Nat)(m:M):m.runFor (n+1)=if m.outcome.isSome then m else m.step.runFor n:=rfl
theorem qd(n:Nat)(m:M)(h:m.outcome.isSome=true):m.runFor n=m:=by
 cases n with
 |zero=>rfl
 |succ n=>rw[nu,if_pos h]
theorem rI(a b:Nat)(m:M):m.runFor (a+b)=(m.runFor a).runFor b:=by
 induction a generalizing m with
 |zero=>rw[cN];rfl
 |succ a ih=>
  rw[Nat.succ_add,nu,nu]
  by_cases h:m.outcome.isSome
  ·rw[if_pos h,if_pos h,qd b m h]
  ·rw[if_neg h,if_neg h];exact ih m.step
theorem To.trans{a b:Nat}{m m' m'':M}(x:To a m m')(y:To b m' m''):To (a+b) m m'':=by
 obtain⟨n,hn,e⟩:=x
 obtain⟨k,hk,e'⟩:=y
 exact⟨n+k,by omega,by rw[rI,e,e']⟩
theorem To.step{m m':M}(h:m.outcome=none)(e:m.step=m'):To 1 m m':=⟨1,br _,by rw[nu,if_neg (by rw[h];decide),e];rfl⟩
theorem To.less{a b:Nat}{m m':M}(x:To a m m')(h:a≤b):To b m m':=let ⟨n,hn,e⟩:=x;⟨n,by omega,e⟩
theorem To.refl(m:M):To 0 m m:=⟨0,br _,rfl⟩
noncomputable def Nv(r:Option (Nat×Nat))(m:M):Prop:=match r with
 |some (a,b)=>m.outcome=some .matched∧m.start=a∧m.handed=b
 |none=>m.outcome=some .failed
noncomputable def n9(t:Array Nat)(p:Nat):Bool:=p==0||t.getD (p-1) 0==10
noncomputable def mQ(t:Array Nat):Nat→Nat→Option (Nat×Nat)
 |0,_=>none
 |k+1,s=>if n9 t s&&t.getD s 0==46 then some (s,s+1) else mQ t k (s+1)
noncomputable def AN(s:Nat)(om:Bool):et:={wait:= .nextStart,pc:=5,pos:=s,outermost:=om}
theorem Vv(t:Array Nat)(s hd:Nat)(om:Bool)(seen:Seen):
  (pO c1 t s t.size 5 s hd om [AN s om] 1 none seen none).step=if n9 t s then pO c1 t s t.size 7 s hd om [AN s om] 1 none ((seen.add 6).add 44) none else pO c1 t s t.size 5 s hd om [AN s om] 1 (some false) ((seen.add 6).add 44) none:=by
 rfl
theorem Sn(t:Array Nat)(s hd:Nat)(om:Bool)(seen:Seen)(h:s<t.size):
  (pO c1 t s t.size 7 s hd om [AN s om] 1 none seen none).step=if t.getD s 0==46 then pO c1 t s t.size 9 (s+1) hd om [AN s om] 1 none (seen.add 16) none else pO c1 t s t.size 7 s hd om [AN s om] 1 (some false) (seen.add 16) none:=by
 show(if s≥t.size then _ else _)=_
 rw[if_neg (by omega)]
 show(match (Except.ok (t.getD s 0==46,seen.add 16):Except String (Bool×Seen)) with| .error why=>_| .ok (false,seen)=>_| .ok (true,seen)=>_)=_
 cases t.getD s 0==46<;>rfl
theorem So(t:Array Nat)(s hd:Nat)(om:Bool)(seen:Seen)(h:t.size≤s):
  (pO c1 t s t.size 7 s hd om [AN s om] 1 none seen none).step=pO c1 t s t.size 7 s hd om [AN s om] 1 (some false) (seen.add 16) none:=by
 show(if s≥t.size then _ else _)=_
 rw[if_pos h];rfl
theorem Xg(t:Array Nat)(s p hd:Nat)(om:Bool)(seen:Seen):
  (pO c1 t s t.size 9 p hd om [AN s om] 1 none seen none).step=pO c1 t s t.size 9 p p om [AN s om] 1 (some true) (seen.add 1) none:=by
 cases om<;>rfl
theorem Xh(t:Array Nat)(s p pc hd:Nat)(om:Bool)(seen:Seen):
  (pO c1 t s t.size pc p hd om [AN s om] 1 (some true) seen none).step=pO c1 t s t.size 5 s hd om [] 0 (some true) seen none:=by
 rfl
theorem Xi(t:Array Nat)(st s pc hd:Nat)(om:Bool)(seen:Seen):
  (pO c1 t st t.size pc s hd om [] 0 (some true) seen none).step=pO c1 t st t.size pc s hd om [] 0 (some true) seen (some .matched):=by
 rfl
theorem Sp(t:Array Nat)(st s pc hd:Nat)(om:Bool)(seen:Seen):
  (pO c1 t st t.size pc s hd om [] 0 (some false) seen none).step=pO c1 t st t.size pc s hd om [] 0 (some false) seen (some .failed):=by
 rfl
theorem Xj(t:Array Nat)(s pc hd:Nat)(om:Bool)(seen:Seen)(h:s<t.size):
  (pO c1 t s t.size pc s hd om [AN s om] 1 (some false) seen none).step=pO c1 t (s+1) t.size 5 (s+1) (s+1) false [AN (s+1) false] 1 none seen none:=by
 show(if false=true then _ else if s<t.size then _ else _)=_
 rw[if_neg (by decide),if_pos h];rfl
theorem Sq(t:Array Nat)(s pc hd:Nat)(om:Bool)(seen:Seen)(h:t.size≤s):
  (pO c1 t s t.size pc s hd om [AN s om] 1 (some false) seen none).step=pO c1 t s t.size 5 s hd om [] 0 (some false) seen none:=by
 show(if false=true then _ else if s<t.size then _ else _)=_
 rw[if_neg (by decide),if_neg (by omega)];rfl
theorem Xk(t:Array Nat): ∀(k s hd:Nat) (om:Bool) (seen:Seen),s+k=t.size→ ∃m',To (5*k+5) (pO c1 t s t.size 5 s hd om [AN s om] 1 none seen none) m'∧Nv (mQ t k s) m':=by
 intro k
 induction k with
 |zero=>
  intro s hd om seen h
  have fin: ∀pc kc,To 2 (pO c1 t s t.size pc s hd om [AN s om] 1 (some false) kc none) (pO c1 t s t.size 5 s hd om [] 0 (some false) kc (some .failed)):=fun pc kc=>
   (To.step (by rfl) (Sq t s pc hd om kc (by omega))).trans (To.step (by rfl) (Sp ..))
  by_cases hb:n9 t s
  ·exact⟨_,(((To.step (by rfl) ((Vv ..).trans (if_pos hb))).trans (To.step (by rfl) (So t s hd om _ (by omega)))).trans (fin _ _)).less (by omega),rfl⟩
  ·exact⟨_,((To.step (by rfl) ((Vv ..).trans (if_neg hb))).trans (fin _ _)).less (by omega),rfl⟩
 |succ k ih=>
  intro s hd om seen h
  have next: ∀pc kc,∃m',To (5*k+6) (pO c1 t s t.size pc s hd om [AN s om] 1 (some false) kc none) m'∧Nv (mQ t k (s+1)) m':=fun pc kc=>by
   obtain⟨m',h1,h2⟩:=ih (s+1) (s+1) false kc (by omega)
   exact⟨m',((To.step (by rfl) (Xj t s pc hd om kc (by omega))).trans h1).less (by omega),h2⟩
  by_cases hb:n9 t s
  ·have h1:=To.step (by rfl) ((Vv t s hd om seen).trans (if_pos hb))
   by_cases hc:t.getD s 0==46
   ·refine⟨_,((((h1.trans (To.step (by rfl) ((Sn t s hd om _ (by omega)).trans (if_pos hc)))).trans (To.step (by rfl) (Xg ..))).trans (To.step (by rfl) (Xh ..))).trans (To.step (by rfl) (Xi ..))).less (by omega),?_⟩
    unfold mQ
    rw[if_pos (by rw[hb,hc];rfl)]
    exact⟨rfl,rfl,rfl⟩
   ·obtain⟨m',h2,h3⟩:=next 7 _
    refine⟨m',((h1.trans (To.step (by rfl) ((Sn t s hd om _ (by omega)).trans (if_neg hc)))).trans h2).less (by omega),?_⟩
    unfold mQ
    rw[if_neg (by rw[(b7 _).mp hc,eZ];decide)];exact h3
  ·obtain⟨m',h2,h3⟩:=next 5 _
   refine⟨m',((To.step (by rfl) ((Vv t s hd om seen).trans (if_neg hb))).trans h2).less (by omega),?_⟩
   unfold mQ
   rw[if_neg (by rw[(b7 _).mp hb,gw];decide)];exact h3
theorem Sr(t:Array Nat)(s:Nat)(h:s≤t.size): ∃m',To (5*(t.size-s)+6) (forSearch c1 t 0 s t.size false) m'∧Nv (mQ t (t.size-s) s) m':=by
 by_cases h1:t.size-s<1
 ·have e:forSearch c1 t 0 s t.size false=pO c1 t s 0 5 s s true [] 0 (some false) (({}:Seen).add 14) none:=by
   show(if s>t.size||t.size-s<1 then _ else _)=_
   rw[if_pos (by simp;omega)];rfl
  rw[e]
  refine⟨_,(To.step (m':=pO c1 t s 0 5 s s true [] 0 (some false) (({}:Seen).add 14) (some .failed)) (by rfl) rfl).less (by omega),?_⟩
  have:t.size-s=0:=by omega
  rw[this];rfl
 ·have e:forSearch c1 t 0 s t.size false=pO c1 t s t.size 5 s s true [AN s true] 1 none (({}:Seen).add 14) none:=by
   show(if s>t.size||t.size-s<1 then _ else _)=_
   rw[if_neg (by simp;omega)];rfl
  rw[e]
  obtain⟨m',a,b⟩:=Xk t (t.size-s) s s true (({}:Seen).add 14) (by omega)
  exact⟨m',a.less (by omega),b⟩
end
section
open PySem PySem.Sre
noncomputable def ny(c:Nat):Bool:=c==10||c==13
noncomputable def od(t:Array Nat):Nat→Nat→Option (Nat×Nat)
 |0,_=>none
 |k+1,s=>if ny (t.getD s 0) then some (s,if t.getD s 0==13&&(decide (s+1<t.size)&&t.getD (s+1) 0==10) then s+2 else s+1) else od t k (s+1)
noncomputable def rJ(t:Array Nat):Nat→Nat→Option Nat
 |0,_=>none
 |k+1,s=>if ny (t.getD s 0) then some s else rJ t k (s+1)
noncomputable def Gr(s:Nat)(om:Bool):et:={wait:= .nextStart,pc:=10,pos:=s,outermost:=om}
noncomputable def Nw(s:Nat)(om:Bool)(pc:Nat):et:={wait:= .nextBranch,pc:=pc,pos:=s,outermost:=om}
noncomputable def frN(p:Nat)(om:Bool):et:={wait:= .lookNot,pc:=26,pos:=p,outermost:=om}
section
variable (t:Array Nat) (s p hd:Nat) (om:Bool) (fr:List et) (seen:Seen)
noncomputable abbrev Mk(t:Array Nat)(s pc p hd:Nat)(om:Bool)(fr:List et)(wt:Nat)(Xf:Option Bool)(seen:Seen)(oc:Option Sre.Outcome):M:=pO c3 t s t.size pc p hd om fr wt Xf seen oc
theorem Nx(h:p<t.size):(Mk t s 12 p hd om fr 2 none seen none).step=if t.getD p 0==13 then Mk t s 14 (p+1) hd om fr 2 none (seen.add 16) none else Mk t s 12 p hd om fr 2 (some false) (seen.add 16) none:=by
 show(if p≥t.size then _ else _)=_
 rw[if_neg (by omega)]
 show(match (Except.ok (t.getD p 0==13,seen.add 16):Except String (Bool×Seen)) with| .error why=>_| .ok (false,seen)=>_| .ok (true,seen)=>_)=_
 cases t.getD p 0==13<;>rfl
theorem Ny(h:p<t.size):(Mk t s 14 p hd om fr 2 none seen none).step=if t.getD p 0==10 then Mk t s 16 (p+1) hd om fr 2 none (seen.add 16) none else Mk t s 14 p hd om fr 2 (some false) (seen.add 16) none:=by
 show(if p≥t.size then _ else _)=_
 rw[if_neg (by omega)]
 show(match (Except.ok (t.getD p 0==10,seen.add 16):Except String (Bool×Seen)) with| .error why=>_| .ok (false,seen)=>_| .ok (true,seen)=>_)=_
 cases t.getD p 0==10<;>rfl
theorem Pk(h:t.size≤p):(Mk t s 14 p hd om fr 2 none seen none).step=Mk t s 14 p hd om fr 2 (some false) (seen.add 16) none:=by
 show(if p≥t.size then _ else _)=_
 rw[if_pos h];rfl
theorem Nz(h:p<t.size):(Mk t s 19 p hd om fr 2 none seen none).step=if t.getD p 0==10 then Mk t s 21 (p+1) hd om fr 2 none (seen.add 16) none else Mk t s 19 p hd om fr 2 (some false) (seen.add 16) none:=by
 show(if p≥t.size then _ else _)=_
 rw[if_neg (by omega)]
 show(match (Except.ok (t.getD p 0==10,seen.add 16):Except String (Bool×Seen)) with| .error why=>_| .ok (false,seen)=>_| .ok (true,seen)=>_)=_
 cases t.getD p 0==10<;>rfl
theorem Ss(h:p<t.size):(Mk t s 24 p hd om fr 2 none seen none).step=if t.getD p 0==13 then Mk t s 26 (p+1) hd om fr 2 none (seen.add 16) none else Mk t s 24 p hd om fr 2 (some false) (seen.add 16) none:=by
 show(if p≥t.size then _ else _)=_
 rw[if_neg (by omega)]
 show(match (Except.ok (t.getD p 0==13,seen.add 16):Except String (Bool×Seen)) with| .error why=>_| .ok (false,seen)=>_| .ok (true,seen)=>_)=_
 cases t.getD p 0==13<;>rfl
theorem Su(h:p<t.size):(Mk t s 29 p hd om fr 3 none seen none).step=if t.getD p 0==10 then Mk t s 31 (p+1) hd om fr 3 none (seen.add 16) none else Mk t s 29 p hd om fr 3 (some false) (seen.add 16) none:=by
 show(if p≥t.size then _ else _)=_
 rw[if_neg (by omega)]
 show(match (Except.ok (t.getD p 0==10,seen.add 16):Except String (Bool×Seen)) with| .error why=>_| .ok (false,seen)=>_| .ok (true,seen)=>_)=_
 cases t.getD p 0==10<;>rfl
theorem Pl(h:t.size≤p):(Mk t s 29 p hd om fr 3 none seen none).step=Mk t s 29 p hd om fr 3 (some false) (seen.add 16) none:=by
 show(if p≥t.size then _ else _)=_
 rw[if_pos h];rfl
theorem b3:(Mk t s 10 s hd om [Gr s om] 1 none seen none).step=Mk t s 12 s s om [Nw s om 11,Gr s om] 2 none (seen.add 7) none:=rfl
theorem NA(pc:Nat):(Mk t s pc p hd om [Nw s om 11,Gr s om] 2 (some false) seen none).step=Mk t s 19 s s om [Nw s om 18,Gr s om] 2 none seen none:=rfl
theorem Sv(pc:Nat):(Mk t s pc p hd om [Nw s om 18,Gr s om] 2 (some false) seen none).step=Mk t s 24 s s om [Nw s om 23,Gr s om] 2 none seen none:=rfl
theorem n3:(Mk t s 26 p hd om fr 2 none seen none).step=Mk t s 29 p p false (frN p om::fr) 3 none (seen.add 5) none:=rfl
theorem n3'(pc p':Nat)(om':Bool):(Mk t s pc p' hd om' (frN p om::fr) 3 (some false) seen none).step=Mk t s 32 p hd om fr 2 none seen none:=rfl
theorem Sw:(Mk t s 16 p hd om fr 2 none seen none).step=Mk t s 35 p hd om fr 2 none (seen.add 15) none:=rfl
theorem Sx:(Mk t s 21 p hd om fr 2 none seen none).step=Mk t s 35 p hd om fr 2 none (seen.add 15) none:=rfl
theorem NB:(Mk t s 32 p hd om fr 2 none seen none).step=Mk t s 35 p hd om fr 2 none (seen.add 15) none:=rfl
theorem s3(wt:Nat):(Mk t s 35 p hd om fr wt none seen none).step=Mk t s 35 p p om fr wt (some true) (seen.add 1) none:=by cases om<;>rfl
theorem r3b(pc Vw:Nat):(Mk t s pc p hd om [Nw s om Vw,Gr s om] 2 (some true) seen none).step=Mk t s Vw s hd om [Gr s om] 1 (some true) seen none:=rfl
theorem r3s(pc:Nat):(Mk t s pc p hd om [Gr s om] 1 (some true) seen none).step=Mk t s 10 s hd om [] 0 (some true) seen none:=rfl
theorem e3(pc:Nat):(Mk t s pc p hd om [] 0 (some true) seen none).step=Mk t s pc p hd om [] 0 (some true) seen (some .matched):=rfl
theorem tail3(Vw:Nat): ∃m',To 4 (Mk t s 35 p hd om [Nw s om Vw,Gr s om] 2 none seen none) m'∧m'.outcome=some .matched∧m'.start=s∧m'.handed=p:=
 ⟨_,(((To.step rfl (s3 ..)).trans (To.step rfl (r3b ..))).trans (To.step rfl (r3s ..))).trans (To.step rfl (e3 ..)),rfl,rfl,rfl⟩
end
theorem at3(t:Array Nat)(s hd:Nat)(om:Bool)(seen:Seen)(h:s<t.size)(he:ny (t.getD s 0)=true):
  ∃m',To 20 (Mk t s 10 s hd om [Gr s om] 1 none seen none) m'∧m'.outcome=some .matched∧m'.start=s∧m'.handed=if t.getD s 0==13&&(decide (s+1<t.size)&&t.getD (s+1) 0==10) then s+2 else s+1:=by
 have hb:=To.step rfl (b3 t s hd om seen)
 by_cases Ip:t.getD s 0==13
 ·have tp:(t.getD s 0==10)=false:=by have:=eq_of_beq Ip;rw[this];rfl
  have h1:=hb.trans (To.step rfl ((Nx t s s s om _ _ h).trans (if_pos Ip)))
  have odd: ∀pc kc,(∃B m',To B (Mk t s pc (s+1) s om [Nw s om 11,Gr s om] 2 (some false) kc none) m'∧B≤13∧m'.outcome=some .matched∧m'.start=s∧m'.handed=s+1)∨(s+1<t.size∧t.getD (s+1) 0==10):=fun pc kc=>by
   by_cases hx:s+1<t.size∧t.getD (s+1) 0==10
   ·exact .inr hx
   ·left
    have h2:=(To.step rfl (NA t s (s+1) s om kc pc)).trans (To.step rfl ((Nz t s s s om _ _ h).trans (if_neg (by rw[tp];decide))))
    have h3:=((h2.trans (To.step rfl (Sv ..))).trans (To.step rfl ((Ss t s s s om _ _ h).trans (if_pos Ip)))).trans (To.step rfl (n3 ..))
    by_cases kl:s+1<t.size
    ·have hn: ¬ (t.getD (s+1) 0==10)=true:=fun e=>hx ⟨kl,e⟩
     have h4:=((h3.trans (To.step rfl ((Su t s (s+1) (s+1) false _ _ kl).trans (if_neg hn)))).trans (To.step rfl (n3' ..))).trans (To.step rfl (NB ..))
     obtain⟨m',a,b⟩:=tail3 t s (s+1) (s+1) om _ 23
     exact⟨_,m',h4.trans a,by omega,b⟩
    ·have h4:=((h3.trans (To.step rfl (Pl t s (s+1) (s+1) false _ _ (by omega)))).trans (To.step rfl (n3' ..))).trans (To.step rfl (NB ..))
     obtain⟨m',a,b⟩:=tail3 t s (s+1) (s+1) om _ 23
     exact⟨_,m',h4.trans a,by omega,b⟩
  by_cases kl:s+1<t.size
  ·by_cases hc:t.getD (s+1) 0==10
   ·have h2:=(h1.trans (To.step rfl ((Ny t s (s+1) s om _ _ kl).trans (if_pos hc)))).trans (To.step rfl (Sw ..))
    obtain⟨m',a,b1,b2,b3⟩:=tail3 t s (s+1+1) s om _ 11
    refine⟨m',(h2.trans a).less (by omega),b1,b2,?_⟩
    rw[b3,if_pos (by rw[Ip,hc,decide_eq_true kl];rfl)]
   ·have h2:=h1.trans (To.step rfl ((Ny t s (s+1) s om _ _ kl).trans (if_neg hc)))
    rcases odd 14 _ with⟨B,m',a,hB,b1,b2,b3⟩|hx
    ·refine⟨m',(h2.trans a).less (by omega),b1,b2,?_⟩
     rw[b3,if_neg (by rw[(b7 _).mp hc,eZ,eZ];decide)]
    ·exact absurd hx.2 hc
  ·have h2:=h1.trans (To.step rfl (Pk t s (s+1) s om _ _ (by omega)))
   rcases odd 14 _ with⟨B,m',a,hB,b1,b2,b3⟩|hx
   ·refine⟨m',(h2.trans a).less (by omega),b1,b2,?_⟩
    rw[b3,if_neg (by rw[decide_eq_false kl,gw,eZ];decide)]
   ·exact absurd hx.1 kl
 ·have Sy:=(b7 _).mp Ip
  have tp:t.getD s 0==10:=by unfold ny at he;rw[Sy,Bool.or_false] at he;exact he
  have h1:=(hb.trans (To.step rfl ((Nx t s s s om _ _ h).trans (if_neg Ip)))).trans (To.step rfl (NA ..))
  have h2:=(h1.trans (To.step rfl ((Nz t s s s om _ _ h).trans (if_pos tp)))).trans (To.step rfl (Sx ..))
  obtain⟨m',a,b1,b2,b3⟩:=tail3 t s (s+1) s om _ 18
  refine⟨m',(h2.trans a).less (by omega),b1,b2,?_⟩
  rw[b3,if_neg (by rw[Sy,gw];decide)]
theorem RO(c:Nat)(seen:Seen): ∃kc,inSet c3 c c3.size 5 true seen= .ok (ny c,kc):=by
 by_cases h1:c==10
 ·refine⟨seen.add 16,?_⟩
  show(if c==10 then _ else _)=_
  rw[if_pos h1];unfold ny;rw[h1];rfl
 ·by_cases h2:c==13
  ·refine⟨(seen.add 16).add 16,?_⟩
   show(if c==10 then _ else if c==13 then _ else _)=_
   rw[if_neg h1,if_pos h2];unfold ny;rw[h2,eE];rfl
  ·refine⟨((seen.add 16).add 16).add 0,?_⟩
   show(if c==10 then _ else if c==13 then _ else _)=_
   rw[if_neg h1,if_neg h2];unfold ny;rw[(b7 _).mp h1,(b7 _).mp h2];rfl
theorem Xl(t:Array Nat)(m:M)(hc:m.code=c3)(ht:m.text=t)(hl:m.lim=t.size): ∀(k s:Nat) (seen:Seen),s+k=t.size→ ∃kc,M.admitted m (k+1) s seen= .ok (rJ t k s,kc):=by
 intro k
 induction k with
 |zero=>exact @fun s seen h=>⟨seen,by unfold M.admitted;rw[if_pos (by omega)];rfl⟩
 |succ k hV=>
  intro s seen h
  obtain⟨kc,e⟩:=RO (t.getD s 0) seen
  unfold M.admitted rJ
  rw[if_neg (by omega),hc,ht,e]
  cases ny (t.getD s 0) with
  |true=>exact⟨kc,rfl⟩
  |false=>exact hV (s+1) kc (by omega)
theorem Bz(t:Array Nat): ∀(k s:Nat),s+k=t.size→(rJ t k s=none→od t k s=none)∧ ∀p,rJ t k s=some p→p<t.size∧ny (t.getD p 0)=true∧od t k s=some (p,if t.getD p 0==13&&(decide (p+1<t.size)&&t.getD (p+1) 0==10) then p+2 else p+1):=by
 intro k
 induction k with
 |zero=>exact @fun s h=>⟨fun _=>rfl,fun p e=>by (first|exact VD e|cases e)⟩
 |succ k hV=>
  intro s h
  unfold rJ od
  cases he:ny (t.getD s 0) with
  |true=>exact⟨fun e=>by simp at e,fun p e=>by simp at e;subst e;exact⟨by omega,he,by simp⟩⟩
  |false=>simpa using hV (s+1) (by omega)
theorem Sz(t:Array Nat)(s:Nat)(h:s≤t.size): ∃m',To 25 (forSearch c3 t 0 s t.size false) m'∧Nv (od t (t.size-s) s) m':=by
 by_cases h1:t.size-s<1
 ·have e:forSearch c3 t 0 s t.size false=pO c3 t s 0 10 s s true [] 0 (some false) (({}:Seen).add 14) none:=by
   show(if s>t.size||t.size-s<1 then _ else _)=_
   rw[if_pos (by simp;omega)];rfl
  rw[e]
  refine⟨_,(To.step (m':=pO c3 t s 0 10 s s true [] 0 (some false) (({}:Seen).add 14) (some .failed)) (by rfl) rfl).less (by omega),?_⟩
  have:t.size-s=0:=by omega
  rw[this];rfl
 ·obtain⟨kc,ha⟩:=Xl t (pO c3 t s t.size 10 s s true [] 0 none (({}:Seen).add 14) none) rfl rfl rfl (t.size-s) s (({}:Seen).add 14) (by omega)
  have e:forSearch c3 t 0 s t.size false=match M.admitted (pO c3 t s t.size 10 s s true [] 0 none (({}:Seen).add 14) none) (t.size+1-s) s (({}:Seen).add 14) with
   | .ok (some s',seen)=>({pO c3 t s t.size 10 s s true [] 0 none (({}:Seen).add 14) none with mustAdvance:=false,seen}).attemptAt s' true
   | .ok (none,seen)=>({pO c3 t s t.size 10 s s true [] 0 none (({}:Seen).add 14) none with seen}).say false
   | .error why=>(pO c3 t s t.size 10 s s true [] 0 none (({}:Seen).add 14) none).stick why:=by
   show(if s>t.size||t.size-s<1 then _ else _)=_
   rw[if_neg (by simp;omega)];rfl
  have hk:t.size+1-s=t.size-s+1:=by omega
  rw[hk,ha] at e
  obtain⟨f1,f2⟩:=Bz t (t.size-s) s (by omega)
  cases hf:rJ t (t.size-s) s with
  |none=>
   rw[hf] at e
   rw[e,f1 hf]
   exact⟨_,(To.step (m':=pO c3 t s t.size 10 s s true [] 0 (some false) kc (some .failed)) (by rfl) rfl).less (by omega),rfl⟩
  |some p=>
   rw[hf] at e
   obtain⟨g1,g2,g3⟩:=f2 p hf
   rw[e,g3]
   obtain⟨m',a,b⟩:=at3 t p p true kc g1 g2
   exact⟨m',a.less (by omega),b⟩
end
section
open PySem PyProof.Rows PySem.Builtin.Re
section
variable {L:ic} {A:aH} {E:Value→aq→Prop} {s:aq}
theorem kU:plainId "re.Pattern.sub.loop"=true:=by decide+kernel
theorem x4{m':Sre.M}{Q:Sre.M→aq→Prop}(hq:Q m' s)(ho:m'.outcome.isSome=true): ∀(n:Nat) (turns:Nat) (m:Sre.M),n<turns→m.runFor (4*(n+1))=m'→wpAny L.M A (reDrive turns m) Q E s:=by
 intro n
 induction n with
 |zero=>
  intro turns m ht hm
  obtain⟨k,rfl⟩: ∃k,turns=k+1:=⟨turns-1,by omega⟩
  unfold reDrive
  have AJ:m.runFor reTurnSteps=m':=hm
  simp only[AJ,ho,if_true]
  exact aA hq
 |succ n ih=>
  intro turns m ht hm
  obtain⟨k,rfl⟩: ∃k,turns=k+1:=⟨turns-1,by omega⟩
  have AJ:(m.runFor reTurnSteps).runFor (4*(n+1))=m':=by
   rw[←rI]
   have:reTurnSteps+4*(n+1)=4*(n+1+1):=by unfold reTurnSteps;omega
   rw[this];exact hm
  unfold reDrive
  by_cases h:(m.runFor reTurnSteps).outcome.isSome=true
  ·have:m.runFor reTurnSteps=m':=by rw[←AJ,qd _ _ h]
   simp only[this,ho,if_true]
   exact aA hq
  ·simp only[h]
   exact ao (cS (ih k _ (by omega) AJ))
theorem BA{α:Type}{f:α→PUnit→Sem (ForInStep PUnit)}{Q:PUnit→aq→Prop}(hf: ∀a Q',Q' (.yield ⟨⟩) s→wpAny L.M A (f a ⟨⟩) Q' E s)(hq:Q ⟨⟩ s): ∀l:List α,wpAny L.M A (forIn l PUnit.unit f) Q E s:=by
 intro l
 induction l with
 |nil=>exact by rw[eX];exact aA hq
 |cons a l hV=>
  rw[dN]
  exact ao (hf a _ (hV))
theorem tq{m m':Sre.M}{B:Nat}{Q:Option Sre.M→aq→Prop}(h:To B m m')(hB:B<2^60)(r:Option (Nat×Nat))(hr:Nv r m')
  (hq: ∀x,(match r with|some (a,b)=> ∃y:Sre.M,x=some y∧y.start=a∧y.handed=b|none=>x=none)→Q x s):wpAny L.M A (reRunToEnd m) Q E s:=by
 obtain⟨N,hN,e⟩:=h
 have ho:m'.outcome.isSome=true:=by
  unfold Nv at hr
  split at hr
  ·rw[hr.1];rfl
  ·rw[hr];rfl
 have e4:m.runFor (4*(N+1))=m':=by
  have:4*(N+1)=N+(3*N+4):=by omega
  rw[this,rI,e,qd _ _ ho]
 unfold reRunToEnd
 refine ao (x4 ?_ ho N (2^64) m (by omega) e4)
 refine ao (BA (fun i Q' CX=> ?_) ?_ _)
 ·split
  ·exact ao (cS (aA CX))
  ·exact aA CX
 ·unfold Nv at hr
  split at hr
  ·rename_i a b
   rw[hr.1]
   exact aA (hq _ ⟨m',rfl,hr.2.1,hr.2.2⟩)
  ·rw[hr]
   exact aA (hq _ rfl)
noncomputable def wK(h:Heap)(a:Addr)(code:Array Nat)(kind:Nat):Prop:=
 ∃o fs tup o2 xs n,h.get? a=some o∧o.cls= .type "re.Pattern"∧o.dict=none∧o.data= .fields fs∧reRawNat (fs.getD 2 .none)=0∧fs.getD 5 .none= .ref tup∧reRawNat (fs.getD 6 .none)=kind∧
  h.get? tup=some o2∧o2.data= .seq xs n∧(xs.map reRawOf).map (·.toNat)=code
theorem wK.keep{h h':Heap}{a:Addr}{code:Array Nat}{kind:Nat}(x:wK h a code kind)(hk: ∀b o,(b=a∨True)→h.get? b=some o→h'.get? b=some o):wK h' a code kind:=by
 obtain⟨o,fs,tup,o2,xs,n,h1,h2,h3,h4,h5,h6,h7,h8,h9,tp⟩:=x
 exact⟨o,fs,tup,o2,xs,n,hk _ _ (.inr trivial) h1,h2,h3,h4,h5,h6,h7,hk _ _ (.inr trivial) h8,h9,tp⟩
theorem iQ:typeLookup (.type "bytes") "__buffer__"=pure (some (.builtin "bytes.__buffer__")):=by rw[cj,bJ];kernel_rfl
theorem pJ:typeLookup (.type "bytes") "__release_buffer__"=pure none:=by rw[cj,bJ];kernel_rfl
theorem tr:typeLookup (.type "str") "__call__"=pure none:=by rw[cj,bJ];kernel_rfl
theorem rK:typeLookup (.type "bytes") "__call__"=pure none:=by rw[cj,bJ];kernel_rfl
theorem tu:isSubtype (.type "bytes") (.type "bytes")=pure true:=by rw[d8];kernel_rfl
theorem typeIs_bytes(b:Array UInt8)(t:gh):s.TypeIs (.bytes b t) "bytes":=by first|exact rfl|trivial
theorem qe{b:Array UInt8}{t:gh}{Q:Bool→aq→Prop}(h:Q true s):wpAny L.M A (aD.Bytes.slotIsOwn (.bytes b t) "__buffer__") Q E s:=by
 unfold aD.Bytes.slotIsOwn
 refine ao (bG (typeIs_bytes b t) iQ ?_)
 have e1:(!("bytes.__buffer__":String).endsWith ("."++"__buffer__"))=false:=by decide+kernel
 have e2:(("bytes.__buffer__":String).dropRight ("__buffer__".length+1))="bytes":=by decide+kernel
 simp only[e1,e2]
 exact dh (typeIs_bytes b t) tu h
theorem uT{b:Array UInt8}{t:gh}{Q:Bool→aq→Prop}(h:Q true s):wpAny L.M A (aD.Bytes.slotIsOwn (.bytes b t) "__release_buffer__") Q E s:=by
 unfold aD.Bytes.slotIsOwn
 exact ao (bG (typeIs_bytes b t) pJ (aA h))
theorem qU{b:Array UInt8}{t:gh}{Q:Array UInt8→aq→Prop}(h:Q b s):wpAny L.M A (aD.Bytes.payload (.bytes b t)) Q E s:=by
 unfold aD.Bytes.payload
 exact ao (aA (aA h))
theorem sA{id:String}{full:Bool}{b:Array UInt8}{t:gh}{Q:Option (Array UInt8)→aq→Prop}(h:Q (some b) s):wpAny L.M A (aD.Bytes.buffer? id (.bytes b t) full) Q E s:=by
 unfold aD.Bytes.buffer?
 refine ao (bG (typeIs_bytes b t) iQ ?_)
 refine ao (qe ?_)
 rw[if_neg (c:=(!true)=true) bl]
 refine ao (bG (typeIs_bytes b t) iQ ?_)
 refine ao ?_
 unfold aD.Bytes.ownRelease
 refine ao (uT (aA ?_))
 exact ao (qU (aA h))
theorem nz{id:String}{b:Array UInt8}{t:gh}{Q:Option (Array UInt8)→aq→Prop}(h:Q (some b) s):wpAny L.M A (aD.Bytes.bufferQuiet? id (.bytes b t)) Q E s:=by
 unfold aD.Bytes.bufferQuiet?
 exact ao (dw (sA (aA h)))
end
end
section
open PySem PyProof.Rows PySem.Builtin.Re
section
variable {L:ic} {A:aH} {E:Value→aq→Prop} {s:aq}
inductive tw:Value→Array Nat→Nat→Prop
 |str (x:Str) (t:gh):tw (.str x t) x.cps 0
 |bytes (b:Array UInt8) (t:gh):tw (.bytes b t) (b.map (·.toNat)) 1
theorem BB{v:Value}{t:Array Nat}{k:Nat}{Q:Array Nat×Nat→aq→Prop}(hv:tw v t k)(h:Q (t,k) s):wpAny L.M A (reTextOf v) Q E s:=by
 cases hv with
 |str x tk=>
  unfold reTextOf
  exact ao (aA (aA h))
 |bytes b tk=>
  unfold reTextOf
  refine ao (ao (aA (aA ?_)))
  exact ao (nz (aA h))
theorem x5{a:Addr}{o:Obj}{xs:Array Value}{n:Nat}{Q:Array Int→aq→Prop}(ho:s.heap.get? a=some o)(hd:o.data= .seq xs n)(h:Q (xs.map reRawOf) s):wpAny L.M A (reRawItems (.ref a)) Q E s:=by
 unfold reRawItems
 exact ao (bf ho hd (aA h))
theorem y6{a:Addr}{code:Array Nat}{k:Nat}{v:Value}{t:Array Nat}{Q:ReTarget→aq→Prop}(hp:wK s.heap a code k)(hv:tw v t k)(hk:k≤1)
  (h: ∀T:ReTarget,T.code=code→T.text=t→T.kind=k→T.groups=0→T.lim=t.size→Q T s):wpAny L.M A (reWholeTarget (.ref a) v) Q E s:=by
 obtain⟨o,fs,tup,o2,xs,n,h1,h2,h3,h4,h5,h6,h7,h8,h9,tp⟩:=hp
 unfold reWholeTarget
 refine ao (wpAny_fieldsOf h1 h4 ?_)
 refine ao (BB hv ?_)
 simp only[h7]
 have c1:(k==0&&k==1)=false:=by cases hv<;>rfl
 have c2:(k==1&&k==0)=false:=by cases hv<;>rfl
 simp only[c1,c2]
 have Xm: ∀Q':Unit→aq→Prop,Q' () s→wpAny L.M A (reNoCollectionInside v k) Q' E s:=by
  intro Q' hq
  unfold reNoCollectionInside
  cases hv with
  |str x tk=>exact aA hq
  |bytes b tk=>exact ao (dh (typeIs_bytes b tk) tu (aA hq))
 refine ao (Xm _ ?_)
 rw[h6]
 refine ao (x5 h8 h9 (aA ?_))
 exact h _ tp rfl rfl h5 rfl
theorem Dc{v:Value}{t:Array Nat}{k:Nat}{Q:Unit→aq→Prop}(hv:tw v t k)(h:Q () s):wpAny L.M A (reLiteralCannotBeTurned v) Q E s:=by
 unfold reLiteralCannotBeTurned
 cases hv with
 |str x tk=>exact ao (aA (aA h))
 |bytes b tk=>exact ao (ao (aA (aA (ao (dh (typeIs_bytes b tk) tu (aA h))))))
noncomputable def vJ(k:Nat)(t:Array Nat)(tk:gh):Value:=if k==0 then .str ⟨t⟩ tk else .bytes (t.map (·.toUInt8)) tk
theorem wL{t:Array Nat}{k b e:Nat}{Q:Value→aq→Prop}(ht:t.size≤100000)(h:Q (vJ k (t.extract b e) s.toks) {s with toks:=s.toks+1}):wpAny L.M A (reSlice t k b e) Q E s:=by
 unfold reSlice
 unfold vJ at h
 have hz:(t.extract b e).size≤100000:=by rw[Array.size_extract];exact Nat.le_trans (Nat.sub_le ..) (Nat.le_trans (ez ..) ht)
 cases hk:k==0 with
 |true=>rw[hk] at h;exact wpAny_mkStr h (Nat.le_trans hz (by decide))
 |false=>rw[hk] at h;exact wpAny_mkBytes h (by rw[gr];exact Nat.le_trans hz (by decide))
structure D9(code:Array Nat)(find:Array Nat→Nat→Nat→Option (Nat×Nat)):Prop where
 Pm: ∀t s,s≤t.size→t.size≤100000→ ∃B m',To B (Sre.forSearch code t 0 s t.size false) m'∧B<2^60∧Nv (find t (t.size-s) s) m'
 Xn: ∀t s a b,s≤t.size→find t (t.size-s) s=some (a,b)→s≤a∧a<b∧b≤t.size
noncomputable def j1(find:Array Nat→Nat→Nat→Option (Nat×Nat))(t rep:Array Nat):Nat→Nat→List (Array Nat)
 |0,_=>[]
 |f+1,s=>match find t (t.size-s) s with
  |none=>if s<t.size then[t.extract s t.size] else[]
  |some (a,b)=>(if s<a then[t.extract s a] else[])++rep::j1 find t rep f b
noncomputable def x6(h:Heap)(D:Addr)(k:Nat)(P:List (Array Nat)):Prop:= ∃xs n,h.get? D=some {cls:= .type "list",data:= .seq xs n}∧ ∃ts:List gh,xs.toList=(P.zip ts).map (fun x=>vJ k x.1 x.2)∧ts.length=P.length
theorem x6.push{D:Addr}{k:Nat}{P:List (Array Nat)}{p:Array Nat}{tk:gh}{Q:Unit→aq→Prop}(x:x6 s.heap D k P)(hP:P.length≤1000000)(h: ∀h',x6 h' D k (P++[p])→(∀b o,b≠D→s.heap.get? b=some o→h'.get? b=some o)→Q () {s with heap:=h'}):
  wpAny L.M A (updateSeq D (·.push (vJ k p tk))) Q E s:=by
 obtain⟨xs,n,hd,ts,e,hl⟩:=x
 have hsz:xs.size=P.length:=by rw[←aW,e];simp[hl]
 refine dX hd rfl (h _ ?_ ?_) (by show _≤16777216;omega) (by rw[Array.size_push];show _≤16777216+1;omega)
 ·obtain⟨n',JS⟩: ∃n',Obj.mapSeq (fun xs=>xs.push (vJ k p tk)) ({cls:= .type "list",data:= .seq xs n}:Obj)={cls:= .type "list",data:= .seq (xs.push (vJ k p tk)) n'}:=⟨_,rfl⟩
  have jA:=bc (Obj.mapSeq fun xs=>xs.push (vJ k p tk)) hd rfl
  rw[JS] at jA
  refine⟨_,n',jA,ts++[tk],?_,by simp[hl]⟩
  rw[dy,e,List.zip_append hl.symm,bO];rfl
 ·exact fun b o hb e=>(Heap.SameBut.update s.heap D (Obj.mapSeq fun xs=>xs.push (vJ k p tk))).extBut b o hb e
end
end
section
open PySem PyProof.Rows PySem.Builtin.Re
theorem uU:Slot "bytes" "join" "bytes.join":=
 .of (owner:="bytes") (n:="join") (by rw[cj,bJ];kernel_rfl) (by decide+kernel) (by decide+kernel) (by decide+kernel)
  (by first|exact .inl (by decide+kernel)|exact .inr (by decide+kernel)) (by rw[d8];kernel_rfl)
theorem tx:entryFor table "bytes.join"=some aD.«bytes.join»:=dP (by kernel_rfl)
theorem zU:Manifest.owners.lookup (String.ofList ['s','e','t','y','b'].reverse)=some Manifest.sig_bytes:= (by kernel_rfl)
theorem uV(a b:Value):argsOk "bytes.join" ⟨[a,b],[]⟩:=by
 unfold argsOk;rw[signature?_of (id:="bytes.join") (n:=['n','i','o','j']) (o:=['s','e','t','y','b']) (by kernel_rfl) zU];kernel_rfl
section
variable {L:ic} {A:aH} {E:Value→aq→Prop} {s:aq}
theorem tA{id:String}{b:Array UInt8}{t:gh}{Q:Option (Array UInt8×Option Value)→aq→Prop}(h:Q (some (b,none)) s):wpAny L.M A (aD.Bytes.takeBufferQuiet? id (.bytes b t) 0) Q E s:=by
 unfold aD.Bytes.takeBufferQuiet? aD.Bytes.takeBuffer?
 refine ao (dw ?_)
 refine ao (bG (typeIs_bytes b t) iQ ?_)
 refine ao (qe ?_)
 rw[if_neg (c:=(!true)=true) bl]
 refine ao (bG (typeIs_bytes b t) iQ ?_)
 exact ao (sA (aA (aA h)))
theorem zV{Q:Unit→aq→Prop}(h:Q () s): ∀(bs:List Value) (keep:List Value),wpAny L.M A (aD.Bytes.joinLetGo (bs.map fun b=>(b,none)) keep) Q E s:=by
 intro bs
 induction bs with
 |nil=>exact @fun _=>aA h
 |cons b bs hV=>
  intro keep
  rw[aQ]
  unfold aD.Bytes.joinLetGo
  exact ao (dT (hV keep))
noncomputable def sC(bs:List (Array UInt8))(ts:List gh):List Value:=(bs.zip ts).map fun x=> .bytes x.1 x.2
theorem Fp{α β:Type}{f:α→β→Sem (ForInStep β)}{Q:β→aq→Prop}(P:Nat→β→Prop): ∀(l:List α) (j:Nat) (b:β),P j b→
  (∀m a b Q',l[m]? =some a→P (j+m) b→(∀b',P (j+m+1) b'→Q' (.yield b') s)→wpAny L.M A (f a b) Q' E s)→(∀b,P (j+l.length) b→Q b s)→wpAny L.M A (forIn l b f) Q E s:=by
 intro l
 induction l with
 |nil=>exact @fun j b h _ hq=>by rw[eX];exact aA (hq b h)
 |cons a l hV=>
  intro j b h st hq
  rw[dN]
  refine ao (st 0 a b _ rfl h fun b' xC=> ?_)
  exact hV (j+1) b' xC (fun m a b Q' hm hp CX=>st (m+1) a b Q' (by simpa using hm) (by rwa [show j+(m+1)=j+1+m by omega]) fun b' hb=>CX b' (by rwa [show j+1+m+1=j+(m+1)+1 by omega])) fun b hb=>hq b (by rwa [aY,show j+(l.length+1)=j+1+l.length by omega])
theorem Dd{sep:Array UInt8}(zW:sep.size=0)(bs:List (Array UInt8)):aD.Bytes.joined sep bs=bs.foldl (· ++ ·) #[]:=by
 have e:sep= #[]:=Array.eq_empty_of_size_eq_zero zW
 subst e
 unfold aD.Bytes.joined
 have: ∀(n:Nat) (acc:Array UInt8),(bs.zipIdx n).foldl (fun out (x:Array UInt8×Nat)=>(if x.2>0 then out++ #[] else out)++x.1) acc=bs.foldl (· ++ ·) acc:=by
  induction bs with
  |nil=>intro n acc;rfl
  |cons b bs ih=>
   intro n acc
   rw[List.zipIdx_cons,aL,aL,ih]
   congr 1
   simp
 exact this 0 #[]
theorem join_loop{xs:Array Value}{bs:List (Array UInt8)}{ts:List gh}(hx:xs.toList=sC bs ts)(hl:ts.length=bs.length)(body:Nat→Array (Array UInt8)×List (Value×Option Value)→Sem (ForInStep (Array (Array UInt8)×List (Value×Option Value))))(fin:Array (Array UInt8)×List (Value×Option Value)→Sem fH)(Fq:fH→aq→Prop)
  (hb: ∀(i:Nat) (parts:Array (Array UInt8)) (b:Array UInt8) (t:gh) (vs:List Value) (Q':ForInStep (Array (Array UInt8)×List (Value×Option Value))→aq→Prop),(∀v∈vs,v.onHeap=false)→xs[i]? =some (.bytes b t)→Q' (.yield (parts.push b,(vs.map fun v=>(v,none))++[(.bytes b t,none)])) s→wpAny L.M A (body i (parts,vs.map fun v=>(v,none))) Q' E s)
  (hf: ∀vs:List Value,wpAny L.M A (fin (bs.toArray,vs.map fun v=>(v,none))) Fq E s):wpAny L.M A (forIn [:xs.size] ((#[]:Array (Array UInt8)),([]:List (Value×Option Value))) body>>= fin) Fq E s:=by
 have uq:xs.size=bs.length:=by rw[←aW,hx];simp[sC,hl]
 refine ao ?_
 rw[Std.Legacy.Range.forIn_eq_forIn_range']
 have hJ:(bE [:xs.size].start [:xs.size].size [:xs.size].step)=bE 0 xs.size 1:=by
  have:[:xs.size].size=xs.size:=Nat.div_one _
  rw[this]
 rw[hJ]
 refine Fp (fun i st=>st.1.toList=bs.take i∧st.2=((sC bs ts).take i).map fun v=>(v,none)) _ 0 _ ⟨by simp,by simp⟩ (fun m a Kg Q' hm hp CX=> ?_) (fun Kg hp=> ?_)
 ·obtain⟨Qx,Ng⟩:=hp
  rw[cN] at Qx Ng CX
  have AJ:m<xs.size∧a=m:=by
   obtain⟨h1,h2⟩:=List.getElem?_eq_some_iff.mp hm
   rw[List.length_range'] at h1
   rw[List.getElem_range'] at h2
   exact⟨h1,h2.symm.trans ((cN _).trans (Nat.one_mul _))⟩
  obtain⟨kl,rfl⟩:=AJ
  have MX:a<bs.length:=bQ kl uq
  have RU:a<ts.length:=bQ MX hl.symm
  have hv:(sC bs ts)[a]? =some (.bytes bs[a] ts[a]):=by
   unfold sC
   rw[aJ,(List.getElem?_zip_eq_some (z:=(bs[a],ts[a]))).mpr ⟨aG MX,aG RU⟩];rfl
  have hxa:xs[a]? =some (.bytes bs[a] ts[a]):=by rw[←bF,hx];exact hv
  obtain⟨parts,taken⟩:=Kg
  have Xo:taken=_:=Ng
  subst Xo
  refine hb a parts _ _ _ Q' (fun v oD=> ?_) hxa (CX _ ⟨?_,?_⟩)
  ·have:=List.mem_of_mem_take oD
   obtain⟨y,_,rfl⟩:=List.mem_map.mp this
   rfl
  ·show(parts.push _).toList=_
   rw[dy,Qx,List.take_add_one,aG MX];rfl
  ·show _=List.map _ _
   rw[List.take_add_one,hv,bO];rfl
 ·obtain⟨Qx,Ng⟩:=hp
  obtain⟨parts,taken⟩:=Kg
  have e1:parts=bs.toArray:=by
   apply Array.toList_inj.mp
   have e0:0+(bE 0 xs.size 1).length=bs.length:=by rw[List.length_range'];omega
   rw[Qx,e0,List.take_length]
  have e2:taken=_:=Ng
  rw[e1,e2]
  exact hf _
theorem x7{sep:Array UInt8}{st:gh}{D:Addr}{xs:Array Value}{n:Nat}{bs:List (Array UInt8)}{ts:List gh}{Q:Value→aq→Prop}(hd:s.heap.get? D=some {cls:= .type "list",data:= .seq xs n})(hx:xs.toList=sC bs ts)(hl:ts.length=bs.length)(zW:sep.size=0)
  (hsz:(bs.foldl (· ++ ·) #[]).size≤1000000)(hq: ∀t' k,Q (.bytes (bs.foldl (· ++ ·) #[]) t') {s with toks:=k}):wpAny L.M A (call (.builtin "bytes.join") [.bytes sep st,.ref D]) Q E s:=by
 have uq:xs.size=bs.length:=by rw[←aW,hx];simp[sC,hl]
 refine bH uU (typeIs_bytes sep st) tx ?_ (uV _ _)
 show wpAny _ _ (aD.Bytes.joinM .bytes ⟨[.bytes sep st,.ref D],[]⟩) _ _ s
 unfold aD.Bytes.joinM
 refine ao (c8 (a:=(.bytes sep st,.ref D)) rfl ?_)
 refine ao ?_
 show wpAny _ _ (aD.Bytes.joinItems (.ref D)) _ _ s
 unfold aD.Bytes.joinItems
 refine ao (e9 (T:="list") ⟨_,hd,rfl⟩ ?_)
 refine aA ?_
 refine ao (bf hd rfl ?_)
 by_cases h1: ∃b t,xs= #[.bytes b t]∧bs=[b]
 ·obtain⟨b,t,rfl,rfl⟩:=h1
  refine ao (e9 (typeIs_bytes b t) ?_)
  refine ao (cS (aA ⟨_,rfl,?_⟩))
  have e:[b].foldl (· ++ ·) #[]=b:=by simp
  rw[e] at hq
  exact hq t s.toks
 ·have jp: ∀(ys:Array Value) (b':Value→Sem fH) (c:Unit→Sem fH) (Fq:fH→aq→Prop),ys=xs→wpAny L.M A.in1 (c ()) Fq (fun e s'=>E e s') s→wpAny L.M A.in1 (match ys with| #[x]=>b' x|_=>c ()) Fq (fun e s'=>E e s') s:=by
   intro ys b' c Fq e hc
   obtain⟨l⟩:=ys
   cases l with
   |nil=>exact hc
   |cons v r=>
    cases r with
    |cons _ _=>exact hc
    |nil=>
     exfalso
     subst e
     obtain⟨b,rfl⟩:=List.length_eq_one_iff.mp uq.symm
     obtain⟨t,rfl⟩:=List.length_eq_one_iff.mp hl
     have:v= .bytes b t:=by simpa[sC] using hx
     exact h1 ⟨b,t,by rw[this],rfl⟩
  refine jp xs _ (fun _=>_) _ rfl ?_
  refine join_loop hx hl _ _ _ (fun i parts b t vs Q' jL hxi CX=> ?_) (fun vs=> ?_)
  ·refine ao (bf hd rfl ?_)
   have Fd:xs.getD i .none= .bytes b t:=by rw[Array.getD_eq_getD_getElem?,hxi];rfl
   have Xp:((vs.map fun v=>(v,(none:Option Value))).any fun x=>x.1.onHeap)=false:=by
    rw[List.any_map,List.any_eq_false]
    intro v hv
    have:=jL v hv
    simpa using this
   show wpAny _ _ (if (aD.Bytes.Kind.bytes==aD.Bytes.Kind.bytearray||(vs.map fun v=>(v,(none:Option Value))).any fun x=>x.1.onHeap)=true then _ else _) _ _ _
   rw[Xp,if_neg (by decide),Fd]
   refine ao (aX (tA ?_))
   refine ao (bf hd rfl ?_)
   show wpAny _ _ (if (xs.size !=xs.size)=true then _ else _) _ _ _
   rw[if_neg (by simp)]
   exact aA CX
  ·refine ao (qU ?_)
   show wpAny _ _ (if aD.Bytes.tooLong (bs.toArray.foldl (· + ·.size) (sep.size*(bs.toArray.size-1)))=true then _ else _) _ _ _
   have Xq:bs.toArray.foldl (· + ·.size) (sep.size*(bs.toArray.size-1))=(bs.foldl (· ++ ·) #[]).size:=by
    rw[zW,Nat.zero_mul,ft]
    have: ∀(l:List (Array UInt8)) (acc:Array UInt8),l.foldl (· + ·.size) acc.size=(l.foldl (· ++ ·) acc).size:=by
     intro l
     induction l with
     |nil=>intro acc;rfl
     |cons b l ih=>intro acc;rw[aL,aL,←ih,Array.size_append]
    exact this bs #[]
   rw[Xq,if_neg (by unfold aD.Bytes.tooLong;simp;show _≤16777216;omega)]
   have ej:aD.Bytes.joined sep bs.toArray.toList=bs.foldl (· ++ ·) #[]:=by rw[bM];exact Dd zW bs
   rw[ej]
   refine ao (wpAny_mkBytes ?_ (by show _≤16777216;omega))
   refine ao (aX (wpAny_point ?_))
   refine ao (zV ?_ _ _)
   exact aA ⟨_,rfl,hq _ _⟩
end
end
section
open PySem PyProof.Rows PySem.Builtin.Re
noncomputable def kW(P:List (Array Nat)):Array Nat:=P.foldl (· ++ ·) #[]
theorem Iq(P:List (Array Nat)){sep:Str}(hs:sep.cps= #[]):Txt.join sep (P.map fun p=>⟨p⟩)=⟨kW P⟩:=by
 unfold Txt.join aD.Str.glued kW
 rw[hs]
 cases P with
 |nil=>rfl
 |cons p P=>
  simp only[aQ,List.drop_succ_cons,eY,List.headD_cons,aL,Array.append_empty,fq,List.foldl_map]
noncomputable abbrev BC(n:Nat):Bool:=decide (n>16777216)
theorem Ld(P:List (Array Nat)){sep:Str}(hs:sep.cps= #[])(h:(kW P).size≤1000000):JoinOk sep (P.map fun p=>⟨p⟩)=true:=by
 unfold JoinOk
 have hl:sep.length=0:=by show sep.cps.size=0;rw[hs];rfl
 have: ∀(l:List (Array Nat)) (acc:Array Nat),(l.map fun p=>(⟨p⟩:Str)).foldl (fun n x=>n+x.length+sep.length) acc.size=(l.foldl (· ++ ·) acc).size:=by
  intro l
  induction l with
  |nil=>intro acc;rfl
  |cons b l ih=>
   intro acc
   rw[aQ,aL,aL,←ih,Array.size_append,hl];rfl
 rw[ft]
 have e:=this P #[]
 rw[show(#[]:Array Nat).size=0 from rfl] at e
 rw[e]
 show(!BC (kW P).size)=true
 have h2:(kW P).size≤16777216:=by omega
 have:BC (kW P).size=false:=decide_eq_false (Nat.not_lt.mpr h2)
 simpa using this
theorem wM(P:List (Array Nat)):(P.map fun p=>p.map (·.toUInt8)).foldl (· ++ ·) #[]=(kW P).map (·.toUInt8):=by
 unfold kW
 have: ∀(l:List (Array Nat)) (acc:Array Nat),(l.map fun p=>p.map (·.toUInt8)).foldl (· ++ ·) (acc.map (·.toUInt8))=(l.foldl (· ++ ·) acc).map (·.toUInt8):=by
  intro l
  induction l with
  |nil=>intro acc;rfl
  |cons b l ih=>intro acc;rw[aQ,aL,aL,←ih,Array.map_append]
 have e:=this P #[]
 simpa using e
section
variable {L:ic} {A:aH} {E:Value→aq→Prop}
theorem BD{s:aq}{k:Nat}{D:Addr}{P:List (Array Nat)}{sep:Array Nat}{tk:gh}{Q:Value→aq→Prop}(hk:k≤1)(hH:x6 s.heap D k P)(zW:sep= #[])(hsz:(kW P).size≤1000000)(hq: ∀t' j,Q (vJ k (kW P) t') {s with toks:=j}):
  wpAny L.M A (call (.builtin (if k==0 then "str.join" else "bytes.join")) [vJ k sep tk,.ref D]) Q E s:=by
 obtain⟨xs,n,hd,ts,hx,hl⟩:=hH
 subst zW
 match k,hk with
 |0,_=>
  refine SC.join (x:=⟨#[]⟩) (l:=(P.map fun p=>(⟨p⟩:Str)).zip ts) (texts:=P.map fun p=>⟨p⟩) ⟨_,hd,rfl,n,?_⟩ ?_ (Ld P rfl hsz) fun t' j=> ?_
  ·show Data.seq xs n=Data.seq _ n
   congr 1
   apply Array.toList_inj.mp
   rw[bM,hx]
   unfold strValues
   rw[List.zip_map_left,bh];rfl
  ·rw[List.map_fst_zip (by simp[hl])]
  ·rw[Iq P rfl];exact hq t' j
 |1,_=>
  refine x7 (sep:=Array.map Nat.toUInt8 #[]) (bs:=P.map fun p=>p.map (·.toUInt8)) (ts:=ts) hd ?_ (by simp[hl]) (by simp) ?_ fun t' j=> ?_
  ·rw[hx]
   unfold sC
   rw[List.zip_map_left,bh];rfl
  ·rw[wM,gr];exact hsz
  ·rw[wM];exact hq t' j
theorem Ir{pa D:Addr}{code:Array Nat}{find:Array Nat→Nat→Nat→Option (Nat×Nat)}{k:Nat}{v:Value}{t rep:Array Nat}{Pn:gh}{sg:Heap}{R:fx→aq→Prop}(hF:D9 code find)(hk:k≤1)(hv:tw v t k)(hr:tw (vJ k rep Pn) rep k)(ht:t.size≤100000)
  (hp:wK sg pa code k)(hD:sg.get? D=none): ∀(f p n:Nat) (P:List (Array Nat)) (s:aq),t.size-p<f→p≤t.size→(∀b o,sg.get? b=some o→s.heap.get? b=some o)→x6 s.heap D k P→(kW (P++j1 find t rep f p)).size≤1000000→(P++j1 find t rep f p).length≤500000→
   (∀h' j t',(∀b o,sg.get? b=some o→h'.get? b=some o)→R (.ok (.ret (vJ k (kW (P++j1 find t rep f p)) t'))) {s with heap:=h',toks:=j})→
   jB L A (aD.«re.Pattern.sub.loop» ⟨[.ref pa,v,vJ k rep Pn,rawInt 0,rawInt 0,rawInt n,rawInt p,rawInt p,.bool false,.ref D,.bool false],[]⟩) R s:=by
 have Ea: ∀(s:aq) (h':Heap),(∀b o,sg.get? b=some o→s.heap.get? b=some o)→(∀b o,b≠D→s.heap.get? b=some o→h'.get? b=some o)→ ∀b o,sg.get? b=some o→h'.get? b=some o:=fun s h' h1 h2 b o e=>h2 b o (fun e'=>by rw[e',hD] at e;(first|exact VD e|cases e)) (h1 b o e)
 intro f
 induction f with
 |zero=>intro p n P s h;omega
 |succ f ih=>
  intro p n P s hf hpt kN hH hsz hJ hR
  unfold jB
  have hP:=hp.keep (fun b o _ e=>kN b o e)
  show wpAny _ _ (do
   let T←reWholeTarget (.ref pa) v
   _) _ _ s
  refine ao (y6 hP hv hk fun T c1 c2 c3 c4 c5=> ?_)
  refine ao (Dc hr ?_)
  obtain⟨B,m',hTo,hB,Xr⟩:=hF.Pm t p hpt ht
  refine ao ?_
  show wpAny _ _ (reNextFound T ((p:Int)).toNat false) _ _ s
  have ep:((p:Int)).toNat=p:=bN p
  rw[ep]
  unfold reNextFound
  rw[c1,c2,c4,c5]
  refine tq hTo hB _ Xr fun x hx=> ?_
  have e0:((p:Int)).toNat=p:=bN p
  unfold j1 at hsz hJ hR
  cases Iu:find t (t.size-p) p with
  |none=>
   rw[Iu] at hx hsz hJ hR
   subst hx
   have fin: ∀(s:aq) (P':List (Array Nat)) (E':Value→aq→Prop),(∀b o,sg.get? b=some o→s.heap.get? b=some o)→x6 s.heap D k P'→(kW P').size≤1000000→(∀j t',R (.ok (.ret (vJ k (kW P') t'))) {s with toks:=j})→
     wpAny L.M A.in1 (reSlice t k 0 0>>= fun Iw=>seqItems? (.ref D)>>= fun l=>if (l.getD #[]).isEmpty=true then(pure Iw>>= fun text=>ret text) else(call (.builtin (if (k==0)=true then "str.join" else "bytes.join")) [Iw,.ref D]>>= fun text=>ret text)) (fun fin s'=>match fin with| .done f=>R (.ok f) s'| .again c'=>c'.quiet=true∧codeAny L.M A c' R s') E' s:=by
    intro s P' E' kN hH hsz hR
    have he:t.extract 0 0= #[]:=by simp
    refine ao (wL ht ?_)
    obtain⟨xs,m,hd,ts,hx,hl⟩:=id hH
    refine ao (bf hd rfl ?_)
    rw[he]
    show wpAny _ _ (if xs.isEmpty=true then _ else _) _ _ _
    by_cases Xs:xs.isEmpty=true
    ·rw[if_pos Xs]
     have KD:xs= #[]:=Array.isEmpty_iff.mp Xs
     have hP':P'=[]:=by
      rw[KD] at hx
      have:=congrArg List.length hx
      simp[hl] at this
      exact bw this.symm
     subst hP'
     refine ao (aA (aA ?_))
     have:=hR (s.toks+1) s.toks
     unfold vJ at this ⊢
     cases hk0:k==0<;>(rw[hk0] at this;exact this)
    ·rw[if_neg Xs]
     exact ao (BD hk (s:={s with toks:=s.toks+1}) hH rfl hsz fun t' j=>aA (hR _ _))
   rw[c3]
   show wpAny _ _ (if p<t.size then _ else _) _ _ s
   by_cases kl:p<t.size
   ·simp only[if_pos kl] at hsz hJ hR
    rw[if_pos kl]
    refine ao (wL ht ?_)
    refine ao (x6.push (s:={s with toks:=s.toks+1}) hH (by simp at hJ;omega) fun h' SA qt=> ?_)
    exact fin {s with heap:=h',toks:=s.toks+1} _ _ (Ea s h' kN qt) SA hsz (fun j t'=>hR h' j t' (Ea s h' kN qt))
   ·simp only[if_neg kl,bB] at hsz hJ hR
    rw[if_neg kl]
    exact fin s P _ kN hH hsz (fun j t'=>hR s.heap j t' kN)
  |some ab=>
   obtain⟨a,b⟩:=ab
   rw[Iu] at hx hsz hJ hR
   obtain⟨y,rfl,y1,y2⟩:=hx
   obtain⟨i1,i2,i3⟩:=hF.Xn t p a b hpt Iu
   rw[c3]
   have rest: ∀(s:aq) (P':List (Array Nat)) (E':Value→aq→Prop),(∀b o,sg.get? b=some o→s.heap.get? b=some o)→x6 s.heap D k P'→(kW (P'++rep::j1 find t rep f b)).size≤1000000→(P'++rep::j1 find t rep f b).length≤500000→
     (∀h' j t',(∀b o,sg.get? b=some o→h'.get? b=some o)→R (.ok (.ret (vJ k (kW (P'++rep::j1 find t rep f b)) t'))) {s with heap:=h',toks:=j})→
     wpAny L.M A.in1 (pure (vJ k rep Pn)>>= fun item=>if (item !=Value.none)=true then(updateSeq D (fun x=>x.push item)>>= fun _=>again (.builtin "re.Pattern.sub.loop" ⟨[.ref pa,v,vJ k rep Pn,rawInt 0,rawInt 0,rawInt (n+1),rawInt y.handed,rawInt y.handed,.bool (y.handed==a),.ref D,.bool false],[]⟩)) else again (.builtin "re.Pattern.sub.loop" ⟨[.ref pa,v,vJ k rep Pn,rawInt 0,rawInt 0,rawInt (n+1),rawInt y.handed,rawInt y.handed,.bool (y.handed==a),.ref D,.bool false],[]⟩))
      (fun fin s'=>match fin with| .done f=>R (.ok f) s'| .again c'=>c'.quiet=true∧codeAny L.M A c' R s') E' s:=by
    intro s P' E' kN hH hsz hJ hR
    refine ao (aA ?_)
    have iS:(vJ k rep Pn !=Value.none)=true:=by unfold vJ;cases k==0<;>rfl
    rw[if_pos iS]
    refine ao (x6.push hH (by simp at hJ;omega) fun h' SA qt=> ?_)
    refine aA ⟨bz kU _,ba qc (by
     rw[aM kU _]
     rw[y2]
     have hba:(b==a)=false:=by simp;omega
     rw[hba]
     have e1:((n:Int)+1)=((n+1:Nat):Int):=by push_cast;rfl
     rw[e1]
     have ea: ∀x:List (Array Nat),P'++rep::x=(P'++[rep])++x:=fun x=>by simp
     rw[ea] at hsz hJ hR
     exact ih b (n+1) (P'++[rep]) _ (by omega) i3 (Ea s h' kN qt) SA hsz hJ (fun qD j t' zJ=>hR qD j t' zJ))⟩
   show wpAny _ _ (if p<y.start then _ else _) _ _ s
   rw[y1]
   by_cases kl:p<a
   ·simp only[if_pos kl,c6,dk] at hsz hJ hR
    rw[if_pos kl]
    refine ao (wL ht ?_)
    refine ao (x6.push (s:={s with toks:=s.toks+1}) hH (by simp at hJ;omega) fun h' SA qt=> ?_)
    have ea: ∀x:List (Array Nat),P++t.extract p a::x=(P++[t.extract p a])++x:=fun x=>by simp
    rw[ea] at hsz hJ hR
    exact rest {s with heap:=h',toks:=s.toks+1} _ _ (Ea s h' kN qt) SA hsz hJ (fun qD j t' zJ=>hR qD j t' zJ)
   ·simp only[if_neg kl,dk] at hsz hJ hR
    rw[if_neg kl]
    exact rest s P _ kN hH hsz hJ hR
end
end
section
open PySem
noncomputable def j5:Bool→List Nat→List Nat
 |_,[]=>[]
 |b,c::r=>if b&&c==46 then 46::46::j5 false r else c::j5 (c==10) r
noncomputable def iZ:Bool→List Nat→List Nat
 |_,[]=>[]
 |b,c::r=>if b&&c==10 then iZ false r else if c==10 then 13::10::iZ false r else if c==13 then 13::10::iZ true r else c::iZ false r
theorem kP(p:Array Nat)(P:List (Array Nat)):(kW (p::P)).toList=p.toList++(kW P).toList:=by
 unfold kW
 rw[aL,fq]
 have: ∀(l:List (Array Nat)) (acc:Array Nat),(l.foldl (· ++ ·) acc).toList=acc.toList++(l.foldl (· ++ ·) #[]).toList:=by
  intro l
  induction l with
  |nil=>intro acc;simp
  |cons b l ih=>intro acc;rw[aL,aL,ih,ih (#[]++b)];simp
 exact this P p
theorem uv(P P':List (Array Nat)):(kW (P++P')).toList=(kW P).toList++(kW P').toList:=by
 induction P with
 |nil=>simp[kW]
 |cons p P ih=>rw[c6,kP,kP,ih,bW]
theorem og:(kW []).toList=[]:=rfl
section
variable {t:Array Nat}
theorem nA{s:Nat}(h:s<t.size):t.toList.drop s=t.getD s 0::t.toList.drop (s+1):=by
 rw[aK (by simpa using h)]
 congr 1
 simp[Array.getD,h]
theorem Po{i q:Nat}(h:i+1≤q):q-i=q-(i+1)+1:=(Nat.sub_add_cancel (Nat.le_sub_of_add_le (Nat.le_trans (bt (Nat.add_comm 1 i)) h))).symm
theorem Iy{s a:Nat}(h:s<a)(ha:a≤t.size):(t.extract s a).toList=t.getD s 0::(t.extract (s+1) a).toList:=by
 have h1: ∀i,(t.extract i a).toList=(t.toList.drop i).take (a-i):=fun i=>by simp[List.take_drop]
 rw[h1,h1,nA (bq h ha)]
 have:a-s=(a-(s+1))+1:=Po h
 rw[this,List.take_succ_cons]
theorem sD(a:Nat):(t.extract a a).toList=[]:=by simp
theorem Eb(s:Nat):(t.extract s t.size).toList=t.toList.drop s:=by
 have:(t.extract s t.size).toList=(t.toList.drop s).take (t.size-s):=by simp[List.take_drop]
 rw[this];exact cK (by simp)
theorem wN(s:Nat):n9 t (s+1)=(t.getD s 0==10):=by unfold n9;simp
theorem De(b:Bool)(c:Nat)(r:List Nat):j5 b (c::r)=if b&&c==46 then 46::46::j5 false r else c::j5 (c==10) r:=rfl
theorem wO: ∀(k s:Nat),s+k=t.size→match mQ t k s with
  |none=>j5 (n9 t s) (t.toList.drop s)=t.toList.drop s
  |some (a,b)=>s≤a∧b=a+1∧a<t.size∧n9 t b=false∧j5 (n9 t s) (t.toList.drop s)=(t.extract s a).toList++46::46::j5 false (t.toList.drop b):=by
 intro k
 induction k with
 |zero=>
  intro s h
  show j5 _ _=_
  rw[bV (by simp;omega)];cases n9 t s<;>rfl
 |succ k hV=>
  intro s h
  have ih:=hV (s+1) (by omega)
  unfold mQ
  rw[nA (by omega:s<t.size),De]
  by_cases hc:(n9 t s&&t.getD s 0==46)=true
  ·rw[if_pos hc,if_pos hc]
   have h46:t.getD s 0=46:=by
    rw[cH] at hc
    exact eq_of_beq hc.2
   refine⟨br _,rfl,by omega,by rw[wN,h46];rfl,by rw[sD];rfl⟩
  ·rw[if_neg hc,if_neg hc,←wN]
   cases hf:mQ t k (s+1) with
   |none=>rw[hf] at ih;exact congrArg _ ih
   |some ab=>
    obtain⟨a,b⟩:=ab
    rw[hf] at ih
    obtain⟨h1,h2,h3,h4,h5⟩:=ih
    refine⟨by omega,h2,h3,h4,?_⟩
    rw[h5,Iy (by omega:s<a) (by omega)];rfl
theorem wQ: ∀(k s:Nat),s+k=t.size→match od t k s with
  |none=>iZ false (t.toList.drop s)=t.toList.drop s
  |some (a,b)=>s≤a∧a<b∧b≤t.size∧iZ false (t.toList.drop s)=(t.extract s a).toList++13::10::iZ false (t.toList.drop b):=by
 intro k
 induction k with
 |zero=>
  intro s h
  show iZ _ _=_
  rw[bV (by simp;omega)];rfl
 |succ k hV=>
  intro s h
  have ih:=hV (s+1) (by omega)
  unfold od
  by_cases he:ny (t.getD s 0)=true
  ·rw[if_pos he]
   by_cases hc:(t.getD s 0==13&&(decide (s+1<t.size)&&t.getD (s+1) 0==10))=true
   ·simp only[if_pos hc]
    rw[cH,cH] at hc
    obtain⟨c1,c2,c3⟩:=hc
    have c1:=eq_of_beq c1
    have c2:=of_decide_eq_true c2
    have c3:=eq_of_beq c3
    refine⟨br _,by omega,by omega,?_⟩
    rw[nA (by omega:s<t.size),nA c2,c1,c3,sD]
    rfl
   ·simp only[if_neg hc]
    refine⟨br _,by omega,by omega,?_⟩
    rw[nA (by omega:s<t.size),sD]
    unfold ny at he
    rw[eO] at he
    rcases he with tp|Ip
    ·rw[eq_of_beq tp];rfl
    ·have e13:=eq_of_beq Ip
     rw[e13]
     show 13::10::iZ true (t.toList.drop (s+1))=_
     congr 2
     rw[Ip,Bool.true_and] at hc
     by_cases kl:s+1<t.size
     ·rw[nA kl]
      have:(t.getD (s+1) 0==10)=false:=by
       rw[decide_eq_true kl,Bool.true_and] at hc
       exact(b7 _).mp hc
      unfold iZ
      rw[this];rfl
     ·rw[bV (by simp;omega)];rfl
  ·rw[if_neg he]
   have hn:=(b7 _).mp he
   unfold ny at hn
   rw[Bool.or_eq_false_iff] at hn
   have e1:iZ false (t.toList.drop s)=t.getD s 0::iZ false (t.toList.drop (s+1)):=by
    rw[nA (by omega:s<t.size)]
    rw[iZ,hn.1,hn.2];rfl
   rw[e1]
   cases hf:od t k (s+1) with
   |none=>rw[hf] at ih;rw[nA (by omega:s<t.size)];exact congrArg _ ih
   |some ab=>
    obtain⟨a,b⟩:=ab
    rw[hf] at ih
    obtain⟨h1,h2,h3,h4⟩:=ih
    refine⟨by omega,h2,h3,?_⟩
    rw[h4,Iy (by omega:s<a) (by omega)];rfl
theorem Le: ∀(f p:Nat),t.size-p<f→p≤t.size→(kW (j1 mQ t #[46,46] f p)).toList=j5 (n9 t p) (t.toList.drop p)∧(j1 mQ t #[46,46] f p).length≤2*(t.size-p)+1:=by
 intro f
 induction f with
 |zero=>exact @fun _ h _=>by omega
 |succ f hV=>
  intro p h hp
  have sp:=wO (t:=t) (t.size-p) p (by omega)
  unfold j1
  cases hf:mQ t (t.size-p) p with
  |none=>
   rw[hf] at sp
   simp only
   by_cases kl:p<t.size
   ·rw[if_pos kl]
    refine⟨?_,by simp⟩
    rw[kP,og,bB,Eb];exact sp.symm
   ·rw[if_neg kl]
    refine⟨?_,by simp⟩
    rw[bV (by simp;omega)];cases n9 t p<;>rfl
  |some ab=>
   obtain⟨a,b⟩:=ab
   rw[hf] at sp
   obtain⟨h1,h2,h3,h4,h5⟩:=sp
   subst h2
   obtain⟨i1,i2⟩:=hV (a+1) (by omega) (by omega)
   simp only
   rw[h5,uv,kP,i1,h4]
   by_cases kl:p<a
   ·rw[if_pos kl]
    exact⟨by rw[kP,og,bB];rfl,by simp;omega⟩
   ·rw[if_neg kl]
    have:p=a:=by omega
    subst this
    exact⟨by rw[og,sD];rfl,by simp;omega⟩
theorem Lf: ∀(f p:Nat),t.size-p<f→p≤t.size→(kW (j1 od t #[13,10] f p)).toList=iZ false (t.toList.drop p)∧(j1 od t #[13,10] f p).length≤2*(t.size-p)+1:=by
 intro f
 induction f with
 |zero=>exact @fun _ h _=>by omega
 |succ f hV=>
  intro p h hp
  have sp:=wQ (t:=t) (t.size-p) p (by omega)
  unfold j1
  cases hf:od t (t.size-p) p with
  |none=>
   rw[hf] at sp
   simp only
   by_cases kl:p<t.size
   ·rw[if_pos kl]
    refine⟨?_,by simp⟩
    rw[kP,og,bB,Eb];exact sp.symm
   ·rw[if_neg kl]
    refine⟨?_,by simp⟩
    rw[bV (by simp;omega)];rfl
  |some ab=>
   obtain⟨a,b⟩:=ab
   rw[hf] at sp
   obtain⟨h1,h2,h3,h5⟩:=sp
   obtain⟨i1,i2⟩:=hV b (by omega) (by omega)
   simp only
   rw[h5,uv,kP,i1]
   by_cases kl:p<a
   ·rw[if_pos kl]
    exact⟨by rw[kP,og,bB];rfl,by simp;omega⟩
   ·rw[if_neg kl]
    have:p=a:=by omega
    subst this
    exact⟨by rw[og,sD];rfl,by simp;omega⟩
end
theorem Fs: ∀(l:List Nat) (b:Bool),(j5 b l).length≤2*l.length:=by
 intro l
 induction l with
 |nil=>exact @fun _=>by simp[j5]
 |cons c r hV=>
  intro b
  unfold j5
  have h1:=hV false
  have h2:=hV (c==10)
  split<;>simp<;>omega
theorem tB: ∀(l:List Nat) (b:Bool),(iZ b l).length≤2*l.length:=by
 intro l
 induction l with
 |nil=>exact @fun _=>by simp[iZ]
 |cons c r hV=>
  intro b
  unfold iZ
  have h1:=hV false
  have h2:=hV true
  split
  ·simp;omega
  ·split
   ·simp;omega
   ·split<;>simp<;>omega
end
section
open PySem PyProof.Rows PySem.Builtin.Re
theorem Pp:D9 c1 mQ where
 Pm:=fun t s h ht=>by
  obtain⟨m',a,b⟩:=Sr t s h
  exact⟨_,m',a,by omega,b⟩
 Xn:=fun t s a b h e=>by
  have:=wO (t:=t) (t.size-s) s (by omega)
  rw[e] at this
  obtain⟨h1,h2,h3,_⟩:=this
  omega
theorem Pq:D9 c3 od where
 Pm:=fun t s h ht=>by
  obtain⟨m',a,b⟩:=Sz t s h
  exact⟨_,m',a,by omega,b⟩
 Xn:=fun t s a b h e=>by
  have:=wQ (t:=t) (t.size-s) s (by omega)
  rw[e] at this
  obtain⟨h1,h2,h3,_⟩:=this
  omega
structure y7(code rep:Array Nat)(F:List Nat→List Nat):Prop where
 ex: ∃find,D9 code find∧ ∀t:Array Nat,t.size≤100000→(kW (j1 find t rep (t.size+1) 0)).toList=F t.toList∧(j1 find t rep (t.size+1) 0).length≤2*t.size+1
 len: ∀l,(F l).length≤2*l.length
theorem Iz:y7 c1 #[46,46] (j5 true):=⟨⟨mQ,Pp,fun t _=>by
 obtain⟨a,b⟩:=Le (t:=t) (t.size+1) 0 (by omega) (aC _)
 exact⟨a,by omega⟩⟩,fun l=>Fs l true⟩
theorem IA:y7 c3 #[13,10] (iZ false):=⟨⟨od,Pq,fun t _=>by
 obtain⟨a,b⟩:=Lf (t:=t) (t.size+1) 0 (by omega) (aC _)
 exact⟨a,by omega⟩⟩,fun l=>tB l false⟩
theorem Lg(b:Array UInt8):(b.map (·.toNat)).map (·.toUInt8)=b:=by
 rw[Array.map_map]
 have:(Nat.toUInt8∘UInt8.toNat)=id:=by funext x;simp
 show b.map (Nat.toUInt8∘UInt8.toNat)=b
 rw[this,Array.map_id]
section
variable {L:ic} {A:aH} {E:Value→aq→Prop} {s:aq}
theorem Pr{v:Value}{t:Array Nat}{k:Nat}(h:tw v t k): ∃tk,v=vJ k t tk:=by
 cases h with
 |str x tk=>exact⟨tk,rfl⟩
 |bytes b tk=>exact⟨tk,by show Value.bytes b tk=Value.bytes ((b.map (·.toNat)).map (·.toUInt8)) tk;rw[Lg]⟩
theorem zX{v:Value}{t:Array Nat}{k:Nat}(hv:tw v t k){Q:Option Value→aq→Prop}(h:Q none s):wpAny L.M A (specialOf v "__call__") Q E s:=by
 cases hv with
 |str x tk=>exact bG (T:="str") (fc _ _ _) tr h
 |bytes b tk=>exact bG (typeIs_bytes b tk) rK h
theorem IB{pa:Addr}{code:Array Nat}{k:Nat}{v rv:Value}{t rep:Array Nat}{F:List Nat→List Nat}{Q:Value→aq→Prop}(hT:y7 code rep F)(hk:k≤1)(hp:wK s.heap pa code k)(hv:tw v t k)(hr:tw rv rep k)(Pt:rep.contains 92=false)(ht:t.size≤100000)
  (hQ: ∀h' j t',(∀b o,s.heap.get? b=some o→h'.get? b=some o)→Q (vJ k (F t.toList).toArray t') {s with heap:=h',toks:=j}):wpAny L.M A (call (.builtin "re.Pattern.sub") [.ref pa,rv,v]) Q E s:=by
 obtain⟨⟨find,hF,SD⟩,hJ⟩:=hT
 obtain⟨p1,p2⟩:=SD t ht
 obtain⟨Pn,erv⟩:=Pr hr
 have Wm:s.TypeIs (.ref pa) "re.Pattern":=by
  obtain⟨o,fs,tup,o2,xs,n,h1,h2,_⟩:=hp
  exact⟨o,h1,h2⟩
 have uq:(kW (j1 find t rep (t.size+1) 0)).size≤2*t.size:=by
  rw[←aW,p1]
  have:=hJ t.toList
  simpa using this
 have SF:kW (j1 find t rep (t.size+1) 0)=(F t.toList).toArray:=by
  apply Array.toList_inj.mp
  rw[p1,bM]
 refine fZ (codeAny_call_builtin oN.plain xZ (oN.check _ _ _ _ _ _ _ _ Wm (zT _ _ _) ?_))
 show wpAny _ _ (aD.Re.reSubstitute "re.Pattern.sub" "sub" false ⟨[.ref pa,rv,v],[]⟩) _ _ s
 unfold reSubstitute
 refine ao (c8 (Io rv v) ?_)
 refine ao (aA ?_)
 refine ao (zX hr ?_)
 have tail:wpAny L.M A.in1 (holding [rv] (reWholeTarget (.ref pa) v)>>= fun _=>PySem.newList []>>= fun l=>again (.builtin "re.Pattern.sub.loop" ⟨[.ref pa,v,rv,rawInt 0,rawInt 0,rawInt 0,rawInt 0,rawInt 0,.bool false,l,.bool false],[]⟩))
   (fun fin s'=>match fin with| .done f=>wants Q E (.ok f) s'| .again c'=>c'.quiet=true∧codeAny L.M A c' (wants Q E) s') (fun e s'=>wants Q E (.error e) s') s:=by
  refine ao (aX (y6 hp hv hk fun T _ _ _ _ _=> ?_))
  refine ao (wpAny_newList ?_)
  refine aA ⟨bz kU _,ba qc (by
   rw[aM kU _]
   rw[erv]
   rw[erv] at hr
   refine Ir (R:=wants Q E) hF hk hv hr ht hp (gY _) (t.size+1) 0 0 [] _ (by omega) (aC _) (iq _ _) ⟨#[],0,aE _ rfl,[],rfl,rfl⟩ ?_ ?_ fun h' j t' qt=> ?_
   ·rw[dk];omega
   ·rw[dk];omega
   ·rw[dk,SF]
    exact hQ h' j t' qt)⟩
 cases hr with
 |str x tk=>
  refine ao (aA ?_)
  show wpAny _ _ (if (!x.cps.contains 92)=true then _ else _) _ _ s
  rw[Pt,if_pos (by decide)]
  exact ao (aA tail)
 |bytes b tk=>
  have hb:b.contains 92=false:=by
   rw[Bool.eq_false_iff] at Pt ⊢
   intro hc
   apply Pt
   rw[Array.contains_iff_mem] at hc ⊢
   exact Array.mem_map.mpr ⟨92,hc,rfl⟩
  refine ao (ao (aA (aA ?_)))
  refine ao (nz ?_)
  show wpAny _ _ (if (!b.contains 92)=true then _ else _) _ _ s
  rw[hb,if_pos (by decide)]
  exact ao (aA tail)
noncomputable def SG:PV→Option Addr
 | .val (.ref b)=>some b
 |_=>none
theorem IC{p:PV}{a:Addr}(h:SG p=some a):p= .val (.ref a):=by
 cases p with
 |val v=>cases v with
  |ref b=>exact congrArg (fun b=>PV.val (.ref b)) (Option.some.inj h)
  |_=>exact g8 h
 |_=>exact g8 h
noncomputable def BE(a:Addr)(g:List PV→Option PV)(p:PV)(ps:List PV):Option PV:=(SG p).bind fun b=>if b=a then g ps else none
noncomputable def BF(rep:List Nat)(F:List Nat→List Nat)(ps:List PV):Option PV:=EU (fun r x=>onStr (fun r=>onStr (fun x=>if r.cps.toList=rep∧x.length≤10000 then some (.str ⟨(F x.cps.toList).toArray⟩) else none) x) r) ps
noncomputable def subB(rep:List Nat)(F:List Nat→List Nat)(ps:List PV):Option PV:=EU (fun r x=>onBytes (fun r=>onBytes (fun x=>if r.toList.map (·.toNat)=rep∧x.size≤10000 then some (.bytes ((F (x.toList.map (·.toNat))).map (·.toUInt8)).toArray) else none) x) r) ps
noncomputable def Dg(L:ic)(a:Addr)(code:Array Nat)(k:Nat):Prop:= ∀h:Heap,(∀a o,L.look a=some o→h.get? a=some o)→wK h a code k
theorem ID{a:Addr}{code:Array Nat}{rep:List Nat}{F:List Nat→List Nat}{k:Nat}{g:PV→PV→Option PV}(hT:y7 code rep.toArray F)(hk:k≤1)(hP:Dg L a code k)(SH:rep.toArray.contains 92=false)
  (H: ∀{h:Heap} {X:List Addr} {q p r:PV} {v u:Value},VR L.prog L.w h X q v→VR L.prog L.w h X p u→g q p=some r→tw v rep.toArray k∧ ∃t:Array Nat,tw u t k∧t.size≤100000∧ ∀h' t',VR L.prog L.w h' X r (vJ k (F t.toList).toArray t')):nM L "sub" (BE a (EU g)):=by
 intro X s p u x I hp hex
 obtain⟨wB,G5,h0⟩:=hex
 obtain⟨b,hb,h0⟩:=Option.bind_eq_some_iff.mp h0
 cases IC hb
 cases(xB h0).1
 cases hp.Rg
 obtain⟨o,fs,tup,o2,xs,n,h1,h2,h3,h4⟩:=hP s.heap I.ir
 refine⟨"re.Pattern","re.Pattern.sub",wJ,oN,zS,⟨o,h1,h2⟩,(fun b hb=>by (first|exact VD hb|cases hb);exact⟨o,h1,h3⟩),?_⟩
 intro A s' ps vs r Q E R d jL hg hQ
 replace hg:=sk (xB hg).2
 obtain⟨q,p,rfl,hg⟩:=hg
 obtain⟨v1,v2,rfl,e1,e2⟩:=gM.two jL
 obtain⟨hr,t,ht,hs,hF⟩:=H e1 e2 hg
 exact IB hT hk (hP s'.heap d.inv.ir) ht hr SH hs fun h' j t' qt=>hQ _ _ (hF _ _) (gI.of_keep d.inv d.xo qt j)
theorem Lh{a:Addr}{code:Array Nat}{rep:List Nat}{F:List Nat→List Nat}(hT:y7 code rep.toArray F)(hP:Dg L a code 0)(SH:rep.toArray.contains 92=false):nM L "sub" (BE a (BF rep F)):=
 ID hT (aC _) hP SH fun e1 e2 hg=>by
  obtain⟨r,h1⟩:=kn hg
  obtain⟨x,h2⟩:=kn h1.2
  have hc:=jU h2.2
  rw[h1.1] at e1
  rw[h2.1] at e2
  rw[hc.2]
  replace hc:=hc.1
  obtain⟨t1,rfl⟩:=e1.ll
  obtain⟨t2,rfl⟩:=e2.ll
  have er:r.cps=rep.toArray:=Array.toList_inj.mp hc.1
  exact⟨er▸ .str r t1,x.cps,.str x t2,Nat.le_trans hc.2 (by decide),fun h' t'=>VR.mkStr _ _⟩
theorem Li{a:Addr}{code:Array Nat}{rep:List Nat}{F:List Nat→List Nat}(hT:y7 code rep.toArray F)(hP:Dg L a code 1)(SH:rep.toArray.contains 92=false):nM L "sub" (BE a (subB rep F)):=
 ID hT (br _) hP SH fun e1 e2 hg=>by
  obtain⟨r,h1⟩:=uo hg
  obtain⟨x,h2⟩:=uo h1.2
  have hc:=jU h2.2
  rw[h1.1] at e1
  rw[h2.1] at e2
  rw[hc.2]
  replace hc:=hc.1
  obtain⟨t1,rfl⟩:=e1.s6
  obtain⟨t2,rfl⟩:=e2.s6
  have er:r.map (·.toNat)=rep.toArray:=Array.toList_inj.mp (Array.toList_map.trans hc.1)
  refine⟨er▸ .bytes r t1,x.map (·.toNat),.bytes x t2,by rw[gr];exact Nat.le_trans hc.2 (by decide),fun h' t'=>⟨t',?_⟩⟩
  show Value.bytes _ _=_
  rw[Array.toList_map,List.map_toArray]
variable {sc:Scope} {σ:gJ} {k:Nat}
theorem SE.congr{e:aN}{f g:List MV→Option PV}(h:SE L sc σ k e f)(hg: ∀ρ p,g ρ=some p→f ρ=some p):SE L sc σ k e g:=
 fun env A X s ρ p Q E R F I hf hQ=>h env A X s ρ p Q E R F I (hg ρ p hf) hQ
theorem SE.Pu{b:List UInt8}{kk:Nat}{pos:cM}:SE L sc σ k (.Constant (.bytes b) kk pos) (fun _=>some (.bytes b.toArray)):=by
 intro env A X s ρ p Q E R F I hf hQ
 skip;(first|exact VD hf|cases hf)
 refine fun Γ p hΓ=> ?_
 exact hQ _ _ (by exact .intro _ rfl) (gI.toks I F.xo _)
end
end
section
open PySem PyProof.Rows
section
variable {L:ic} {sc:Scope} {σ:gJ} {own:List Str} {k:Nat} {K:d9} {C fI:Addr} {nm:Str}
noncomputable def IF(C:Addr)(nm:Str)(p:PV):Option PV:=wo C nm (mN fun l=>some (.list l)) p
theorem Ec{h:Heap}{a dx:Addr}(g1:h.get? a=some {cls:= .ref C,dict:=some dx,data:= .plain}){es:Array DictEntry}{n:Nat}(g2:h.get? dx=some {cls:= .type "dict",data:= .dict es n}):
 PySem.W.InstAt h a ⟨.ref C,some dx,.plain,#[]⟩ C (some {cls:= .type "dict",data:= .dict es n}):=⟨g1,rfl,rfl,g2⟩
theorem SE.attr(D:vI L K C fI nm){x:Str}{xp pos:cM}{i:Nat}(hi:σ.lookup x=some i)(hd:(x==("__debug__":Str))=false)
  (he: ∀env,eval (.Attribute (.Name x xp) nm pos) env=(do let o←eval (.Name x xp) env;standAt pos.atName;let r←holding [o] (getAttr o nm true);letTemporaryGo (.Name x xp) o r;pure r)):
  SE L sc σ k (.Attribute (.Name x xp) nm pos) (fun ρ=>(gX ρ[i]?).bind (IF C nm)):=by
 intro env A X s ρ p Q E R F I SI hQ
 obtain⟨q,hq,hf⟩:=Option.bind_eq_some_iff.mp SI
 clear SI
 have jy:=qq hq
 obtain⟨v,r,m⟩:=F.rd x i hi _ jy (by intro h;(first|exact VD h|cases h))
 have hk:env.scope.kind= .function:=by rw[F.scope];exact F.kind
 refine PyProof.Rows.Attribute_Name_ (r.eval hk ?_ hd) (he env)
 replace hf:=wq hf
 obtain⟨_,rfl,hf⟩:=hf
 replace hf:=js hf
 obtain⟨l,rfl,hf⟩:=hf
 skip;(first|exact VD hf|cases hf)
 obtain⟨a,dx,es,n,J3,t,u,rfl,ha,QS,g1,g2,rfl,hu⟩:=VR.Nu (show VR L.prog L.w s.heap X (.inst C nm (.list l)) v from m)
 have WI:PySem.W.handedIn u=true:=by
  obtain⟨b,_,_,rfl,_⟩:=hu.listE
  rfl
 refine PySem.W.get_value (D.Qy _ I.ir) (Ec g1 g2) (eV D.get).1 (PySem.W.findObj_own D.dict D.attr rfl ?_) WI (hQ u _ hu (gI.toks I F.xo _))
 unfold PySem.W.lookIn
 simp[Value.isStr]
theorem SE.SJ(D:vI L K C fI nm){fM:Addr}{o e:aN}{es:List aN}{name:Str}{apos pos:cM}{f:List MV→Option PV}{h:List MV→Option (List PV)}{g:List PV→Option PV}(hm:PySem.W.findIn K (.ref C) name=some (some (.ref fM)))(hmf:PySem.W.typeIn K (.ref fM)=some (.type "function"))(hnn:(nm==name)=false)(ho:SE L sc σ k o f)(hc:Callee L (.ref fM))(hF:iF L k (.ref fM) g)(ha:LE L sc σ k (e::es) h)
  (hs: ∀env,starEach (e::es) env=(false,eval e env)::starEach es env)(qE: ∀env,(starEach (e::es) env).any (·.1)=false)
  (he: ∀env,∃pl:Sem Bool,eval (.Call (.Attribute o name apos) (e::es) [] pos) env=(do let ov←eval o env;standAt apos.atName;let (f,first)←holding [ov] (getMethod ov name pl);callWith pos f first (backTo pos (starEach (e::es) env)) (backToKw pos (keywordEach [] env)))):
  SE L sc σ k (.Call (.Attribute o name apos) (e::es) [] pos) (fun ρ=>(f ρ).bind (wo C nm fun q=>(h ρ).bind fun ps=>g (.inst C nm q::ps))):=by
 intro env A X s ρ r Q E R F I SI hQ
 obtain⟨p,hp,hf⟩:=Option.bind_eq_some_iff.mp SI
 clear SI
 replace hf:=wq hf
 obtain⟨q,rfl,hf⟩:=hf
 obtain⟨ps,hps,hg⟩:=Option.bind_eq_some_iff.mp hf
 obtain⟨pl,W4⟩:=he env
 refine PySem.W.methodCall_KW (pl:=pl) (ho env A X s ρ _ _ E R F I hp fun v s₁ hv d=> ?_) W4
 obtain⟨a,dx,U9,n,J3,t,u,rfl,xE,QS,g1,g2,rfl,hu⟩:=VR.Nu hv
 refine PySem.W.method_fn (D.Qy _ d.inv.ir) (Ec g1 g2) (eV D.get).1 (eV D.get).2 hm hmf ?_ ?_
 ·unfold PySem.W.shadowIn PySem.W.lookIn
  simp[Value.isStr,hnn,DictEntry.refKey]
 ·refine si hc ha hs qE R (F.done d) d.inv hps fun vs gQ jL gP=>hF A X gQ _ _ r Q E R gP.xo gP.inv (gM.cons (hv.up gP.up) jL) hg fun x s' hx d'=>hQ x s' hx ((d.trans gP).trans d')
end
end
section
open PySem PyProof.Rows
theorem iC.callee{L:ic}{a:Addr}{fd:FuncData}{sc:Scope}{ns:List Str}{body:List Stmt}(D:iC L a fd sc ns body):Callee L (.ref a):=by
 obtain⟨o,h1,h2⟩:=D.obj
 exact .fn h1 h2
theorem iD{x:Str}{l:List Str}(h:l.contains x=true):x∈l:=by simpa using h
theorem kx{l:List Nat}(h:decide l.Nodup=true):l.Nodup:=of_decide_eq_true h
end
section
open PySem PyProof.Rows
noncomputable def wR(n:Nat)(l:List Stmt):List Stmt:=l.take n
noncomputable def Lj:Stmt→List Stmt
 | .Try _ [.ExceptHandler _ _ b _] _ _ _=>b
 |_=>[]
noncomputable def Pw:Stmt→List aN
 | .Return (some (.Call _ es _ _)) _=>es
 |_=>[]
noncomputable def Lk:Stmt→List Stmt
 | .For _ _ b _ _=>b
 |_=>[]
noncomputable def hG(n:Nat)(l:List Stmt):Stmt:=l.getD n (.Pass ⟨0,0,0,0⟩)
theorem zY(env:b9): ∀(l r:List Stmt),execs (l++r) env=(do match←execs l env with| .next=>execs r env|f=>pure f):=by
 intro l
 induction l with
 |nil=>exact @fun r=>by rw[dk,arm_execs_nil];rfl
 |cons s l hV=>
  intro r
  rw[c6,arm_execs_cons,arm_execs_cons,bind_assoc]
  congr 1
  funext f
  cases f with
  |next=>exact hV r
  |brk=>rfl
  |cont=>rfl
  |ret v=>rfl
theorem mS{M:Model}{A:aH}{env:b9}{l r:List Stmt}{Q:Flow→aq→Prop}{E:Value→aq→Prop}{s:aq}(h:wpAny M A (execs l env) (fun f s'=>match f with| .next=>wpAny M A (execs r env) Q E s'|f=>Q f s') E s):wpAny M A (execs (l++r) env) Q E s:=by
 rw[zY]
 refine ao (bI h (fun f s' h'=> ?_) fun _ _ e=>e)
 cases f with
 |next=>exact h'
 |brk=>exact aA h'
 |cont=>exact aA h'
 |ret v=>exact aA h'
theorem wU{L:ic}{e:Addr}{o:Obj}{iS:e≠L.tb}{hl:L.look e=none}{hx: ∃vs,o.data= .fields vs∧vs[2]? =some .none}{a:Addr}(h:(L.ja e o iS hl hx).look a=none):L.look a=none:=by
 cases h':L.look a with
 |none=>rfl
 |some o'=>rw[jt h'] at h;(first|exact VD h|cases h)
section
variable {L:ic} {sc:Scope} {σ:gJ} {own:List Str} {k:Nat}
theorem Ll:ni L (inplaceOp .LShift) vS:=kA fun h x I hQ=>by
 replace h:=jU h
 obtain⟨hc,rfl⟩:=h
 obtain⟨hc,h1⟩:=jz hc
 obtain⟨ha,h0⟩:=jz hc
 have:=of_decide_eq_true ha
 have h0:=of_decide_eq_true h0
 have h1:=of_decide_eq_true h1
 exact PyProof.Rows.ilshift_int_small h0 (by omega) (by omega) (hQ _ _ (VR.mkInt _ _) (gI.toks I x _))
noncomputable def zZ:aN→Option PV
 | .Constant (.int n) _ _=>some (.int n)
 | .Constant (.str x) _ _=>some (.str x)
 | .UnaryOp .USub (.Constant (.int n) _ _) _=>some (.int (-n))
 |_=>none
noncomputable def BG:List aN→Option (List PV)
 |[]=>some []
 |e::es=>(zZ e).bind fun a=>(BG es).map (a:: ·)
theorem LE.const{c:Const}{k':Nat}{p:cM}{es:List aN}{as:List PV}{a:PV}(ih:LE L sc σ k es (fun _=>some as))(ha:zZ (.Constant c k' p)=some a):LE L sc σ k (.Constant c k' p::es) (fun _=>some (a::as)):=by
 cases c with
 |int n=>exact Option.some.inj ha▸LE.cons SE.int ih (fun _=>rfl)
 |str x=>exact Option.some.inj ha▸LE.cons SE.str ih (fun _=>rfl)
 |_=>exact g8 ha
theorem LE.neg{x:aN}{p:cM}{es:List aN}{as:List PV}{a:PV}(ih:LE L sc σ k es (fun _=>some as))(hx:(none:Option PV)=some a→LE L sc σ k (.UnaryOp .USub x p::es) (fun _=>some (a::as)))(ha:zZ (.UnaryOp .USub x p)=some a):LE L sc σ k (.UnaryOp .USub x p::es) (fun _=>some (a::as)):=by
 cases x with
 |Constant c k' q=>
  cases c with
  |int n=>exact Option.some.inj ha▸LE.cons (SE.un SE.int GJ) ih (fun _=>rfl)
  |_=>exact hx ha
 |_=>exact hx ha
theorem LE.consts: ∀{es:List aN} {l:List PV},BG es=some l→LE L sc σ k es (fun _=>some l):=by
 intro es
 induction es with
 |nil=>exact @fun l h=>by (first|exact VD h|cases h);exact LE.nil
 |cons e es hV=>
  intro l h
  replace h:=Option.bind_eq_some_iff.mp h
  obtain⟨a,ha,h⟩:=h
  obtain⟨as,has,rfl⟩:=Option.map_eq_some_iff.mp h
  have ih:=hV has
  cases e with
  |Constant c k p=>exact LE.const ih ha
  |UnaryOp o x p=>
   cases o with
   |USub=>exact LE.neg ih (fun h=>g8 h) ha
   |_=>exact g8 ha
  |_=>exact g8 ha
theorem SS.at{g:Bool}{l l':List Stmt}{f:List MV→Option (Fl×List MV)}(h:l'=l)(x:SS L sc σ own k g l f):SS L sc σ own k g l' f:=h▸x
end
end
section
open PySem PyProof.Rows
noncomputable def Lm:Addr:=93
noncomputable def Ln:Addr:=98
noncomputable def Ft:Addr:=103
noncomputable def tC:Addr:=55
noncomputable def Vx:Nat→Addr:=fun n=>(([(1000,45),(1001,52),(3,66),(4,73),(7,81),(8,88),(14,110),(15,117),(16,124),(18,131),(19,138),(20,145),(21,150),(22,155),(23,160),(24,165),(25,170),(26,175),(27,180)]:List (Nat×Nat)).lookup n).getD 0
noncomputable def SK:List Addr:=[39,40,41,42,43,44,45,46,47,48,49,50,51,52,53,54,55,56,57]
end
section
open PySem PyProof.Rows
noncomputable def y8:PV:= .la [1,2,4,8,16,32,64,128,256,512] [.str (Str.ofString "OPTIMIZED"),.str (Str.ofString "NEWLOCALS"),.str (Str.ofString "VARARGS"),.str (Str.ofString "VARKEYWORDS"),.str (Str.ofString "NESTED"),.str (Str.ofString "GENERATOR"),.str (Str.ofString "NOFREE"),.str (Str.ofString "COROUTINE"),.str (Str.ofString "ITERABLE_COROUTINE"),.str (Str.ofString "ASYNC_GENERATOR")]
set_option genSizeOf false in
set_option genInjectivity false in
structure gF(L:ic) where
 ad:Nat→Addr
 fd:Nat→FuncData
 K:d9
 b_StopIteration:L.gl (Str.ofString "StopIteration")=some (.type "StopIteration")
 b_bytes:L.gl (Str.ofString "bytes")=some (.type "bytes")
 b_dict:L.gl (Str.ofString "dict")=some (.type "dict")
 b_divmod:L.gl (Str.ofString "divmod")=some (.builtin "divmod")
 b_enumerate:L.gl (Str.ofString "enumerate")=some (.type "enumerate")
 b_hex:L.gl (Str.ofString "hex")=some (.builtin "hex")
 b_int:L.gl (Str.ofString "int")=some (.type "int")
 b_isinstance:L.gl (Str.ofString "isinstance")=some (.builtin "isinstance")
 b_iter:L.gl (Str.ofString "iter")=some (.builtin "iter")
 b_len:L.gl (Str.ofString "len")=some (.builtin "len")
 b_list:L.gl (Str.ofString "list")=some (.type "list")
 b_max:L.gl (Str.ofString "max")=some (.builtin "max")
 b_min:L.gl (Str.ofString "min")=some (.builtin "min")
 b_next:L.gl (Str.ofString "next")=some (.builtin "next")
 b_ord:L.gl (Str.ofString "ord")=some (.builtin "ord")
 b_range:L.gl (Str.ofString "range")=some (.type "range")
 b_sorted:L.gl (Str.ofString "sorted")=some (.builtin "sorted")
 b_sum:L.gl (Str.ofString "sum")=some (.builtin "sum")
 b_tuple:L.gl (Str.ofString "tuple")=some (.type "tuple")
 b_zip:L.gl (Str.ofString "zip")=some (.type "zip")
 u_CRLF:Value
 g_CRLF:L.gl (Str.ofString "CRLF")=some u_CRLF
 v_CRLF: ∀(h:Heap) (X:List Addr),(∀a o,L.look a=some o→h.get? a=some o)→(∀a∈X,L.look a=Option.none)→VR L.prog L.w h X (.str (Str.ofString "\r\n")) u_CRLF
 u_flags:Value
 g_flags:L.gl (Str.ofString "COMPILER_FLAG_NAMES")=some u_flags
 v_flags: ∀(h:Heap) (X:List Addr),(∀a o,L.look a=some o→h.get? a=some o)→(∀a∈X,L.look a=Option.none)→VR L.prog L.w h X y8 u_flags
 g_tw1:L.gl (Str.ofString "_twin_re_1")=some (.ref Lm)
 p_tw1:Dg L Lm c1 0
 g_tw2:L.gl (Str.ofString "_twin_re_2")=some (.ref Ln)
 p_tw2:Dg L Ln c1 1
 g_tw3:L.gl (Str.ofString "_twin_re_3")=some (.ref Ft)
 p_tw3:Dg L Ft c3 0
 cd:vI L K tC (ad 1000) (Str.ofString "comp_select_list")
 g_TupleComp:L.gl (Str.ofString "TupleComp")=some (.ref tC)
 m_compare:PySem.W.findIn K (.ref tC) (Str.ofString "compare")=some (some (.ref (ad 1001)))
 t_compare:PySem.W.typeIn K (.ref (ad 1001))=some (.type "function")
 fn_TupleComp_init:iC L (ad 1000) (fd 1000) (hU (jK (jM PySem.Challenge.pw_xc0012_01 2) 0)) [(Str.ofString "self"),(Str.ofString "comp_select_list")] (ij (jK (jM PySem.Challenge.pw_xc0012_01 2) 0))
 fn_TupleComp_compare:iC L (ad 1001) (fd 1001) (hU (jK (jM PySem.Challenge.pw_xc0012_01 2) 1)) [(Str.ofString "self"),(Str.ofString "left"),(Str.ofString "right")] (ij (jK (jM PySem.Challenge.pw_xc0012_01 2) 1))
 g_add_func_stats:L.gl (Str.ofString "add_func_stats")=some (.ref (ad 3))
 fn_add_func_stats:iC L (ad 3) (fd 3) (hU (jM PySem.Challenge.pw_xc0012_01 3)) [(Str.ofString "target"),(Str.ofString "source")] (ij (jM PySem.Challenge.pw_xc0012_01 3))
 g_add_callers:L.gl (Str.ofString "add_callers")=some (.ref (ad 4))
 fn_add_callers:iC L (ad 4) (fd 4) (hU (jM PySem.Challenge.pw_xc0012_01 4)) [(Str.ofString "target"),(Str.ofString "source")] (ij (jM PySem.Challenge.pw_xc0012_01 4))
 g_pretty_flags:L.gl (Str.ofString "pretty_flags")=some (.ref (ad 7))
 fn_pretty_flags:iC L (ad 7) (fd 7) (hU (jM PySem.Challenge.pw_xc0012_01 7)) [(Str.ofString "flags")] (ij (jM PySem.Challenge.pw_xc0012_01 7))
 g__parse_varint:L.gl (Str.ofString "_parse_varint")=some (.ref (ad 8))
 fn__parse_varint:iC L (ad 8) (fd 8) (hU (jM PySem.Challenge.pw_xc0012_01 8)) [(Str.ofString "iterator")] (ij (jM PySem.Challenge.pw_xc0012_01 8))
 g_quotedata:L.gl (Str.ofString "quotedata")=some (.ref (ad 14))
 fn_quotedata:iC L (ad 14) (fd 14) (hU (jM PySem.Challenge.pw_xc0012_01 14)) [(Str.ofString "data")] (ij (jM PySem.Challenge.pw_xc0012_01 14))
 g__quote_periods:L.gl (Str.ofString "_quote_periods")=some (.ref (ad 15))
 fn__quote_periods:iC L (ad 15) (fd 15) (hU (jM PySem.Challenge.pw_xc0012_01 15)) [(Str.ofString "bindata")] (ij (jM PySem.Challenge.pw_xc0012_01 15))
 g__fix_eols:L.gl (Str.ofString "_fix_eols")=some (.ref (ad 16))
 fn__fix_eols:iC L (ad 16) (fd 16) (hU (jM PySem.Challenge.pw_xc0012_01 16)) [(Str.ofString "data")] (ij (jM PySem.Challenge.pw_xc0012_01 16))
 g__law_entry:L.gl (Str.ofString "_law_entry")=some (.ref (ad 18))
 fn__law_entry:iC L (ad 18) (fd 18) (hU (jM PySem.Challenge.pw_xc0012_01 18)) [(Str.ofString "row")] (ij (jM PySem.Challenge.pw_xc0012_01 18))
 g__law_row:L.gl (Str.ofString "_law_row")=some (.ref (ad 19))
 fn__law_row:iC L (ad 19) (fd 19) (hU (jM PySem.Challenge.pw_xc0012_01 19)) [(Str.ofString "entry")] (ij (jM PySem.Challenge.pw_xc0012_01 19))
 g__law_code:L.gl (Str.ofString "_law_code")=some (.ref (ad 20))
 fn__law_code:iC L (ad 20) (fd 20) (hU (jM PySem.Challenge.pw_xc0012_01 20)) [(Str.ofString "one"),(Str.ofString "other")] (ij (jM PySem.Challenge.pw_xc0012_01 20))
 g__law_due:L.gl (Str.ofString "_law_due")=some (.ref (ad 21))
 fn__law_due:iC L (ad 21) (fd 21) (hU (jM PySem.Challenge.pw_xc0012_01 21)) [(Str.ofString "rows"),(Str.ofString "centre"),(Str.ofString "keys"),(Str.ofString "code")] (ij (jM PySem.Challenge.pw_xc0012_01 21))
 g__law_read:L.gl (Str.ofString "_law_read")=some (.ref (ad 22))
 fn__law_read:iC L (ad 22) (fd 22) (hU (jM PySem.Challenge.pw_xc0012_01 22)) [(Str.ofString "dots")] (ij (jM PySem.Challenge.pw_xc0012_01 22))
 g__law_apexes:L.gl (Str.ofString "_law_apexes")=some (.ref (ad 23))
 fn__law_apexes:iC L (ad 23) (fd 23) (hU (jM PySem.Challenge.pw_xc0012_01 23)) [(Str.ofString "found"),(Str.ofString "ends")] (ij (jM PySem.Challenge.pw_xc0012_01 23))
 g__law_mail:L.gl (Str.ofString "_law_mail")=some (.ref (ad 24))
 fn__law_mail:iC L (ad 24) (fd 24) (hU (jM PySem.Challenge.pw_xc0012_01 24)) [(Str.ofString "dots"),(Str.ofString "raised"),(Str.ofString "ends")] (ij (jM PySem.Challenge.pw_xc0012_01 24))
 g__law_octets:L.gl (Str.ofString "_law_octets")=some (.ref (ad 25))
 fn__law_octets:iC L (ad 25) (fd 25) (hU (jM PySem.Challenge.pw_xc0012_01 25)) [(Str.ofString "number"),(Str.ofString "dress")] (ij (jM PySem.Challenge.pw_xc0012_01 25))
 g__law_run:L.gl (Str.ofString "_law_run")=some (.ref (ad 26))
 fn__law_run:iC L (ad 26) (fd 26) (hU (jM PySem.Challenge.pw_xc0012_01 26)) [(Str.ofString "cells"),(Str.ofString "rows"),(Str.ofString "keys")] (ij (jM PySem.Challenge.pw_xc0012_01 26))
 g_law:L.gl (Str.ofString "law")=some (.ref (ad 27))
 fn_law:iC L (ad 27) (fd 27) (hU (jM PySem.Challenge.pw_xc0012_01 27)) [(Str.ofString "script")] (ij (jM PySem.Challenge.pw_xc0012_01 27))
noncomputable def gF.ja{L:ic}(H:gF L)(e:Addr)(o:Obj)(iS:e≠L.tb)(hl:L.look e=none)(hx: ∃vs,o.data= .fields vs∧vs[2]? =some .none):gF (L.ja e o iS hl hx) where
 ad:=H.ad
 fd:=H.fd
 K:=H.K
 b_StopIteration:=H.b_StopIteration
 b_bytes:=H.b_bytes
 b_dict:=H.b_dict
 b_divmod:=H.b_divmod
 b_enumerate:=H.b_enumerate
 b_hex:=H.b_hex
 b_int:=H.b_int
 b_isinstance:=H.b_isinstance
 b_iter:=H.b_iter
 b_len:=H.b_len
 b_list:=H.b_list
 b_max:=H.b_max
 b_min:=H.b_min
 b_next:=H.b_next
 b_ord:=H.b_ord
 b_range:=H.b_range
 b_sorted:=H.b_sorted
 b_sum:=H.b_sum
 b_tuple:=H.b_tuple
 b_zip:=H.b_zip
 u_CRLF:=H.u_CRLF
 g_CRLF:=H.g_CRLF
 v_CRLF:=fun h X a b=>H.v_CRLF h X (fun c o e=>a c o (jt e)) (fun c hc=>wU (b c hc))
 u_flags:=H.u_flags
 g_flags:=H.g_flags
 v_flags:=fun h X a b=>H.v_flags h X (fun c o e=>a c o (jt e)) (fun c hc=>wU (b c hc))
 g_tw1:=H.g_tw1
 p_tw1:=fun h a=>H.p_tw1 h fun c o e=>a c o (jt e)
 g_tw2:=H.g_tw2
 p_tw2:=fun h a=>H.p_tw2 h fun c o e=>a c o (jt e)
 g_tw3:=H.g_tw3
 p_tw3:=fun h a=>H.p_tw3 h fun c o e=>a c o (jt e)
 cd:={H.cd with Qy:=fun h a=>H.cd.Qy h fun c o e=>a c o (jt e)}
 g_TupleComp:=H.g_TupleComp
 m_compare:=H.m_compare
 t_compare:=H.t_compare
 fn_TupleComp_init:=(H.fn_TupleComp_init).ja
 fn_TupleComp_compare:=(H.fn_TupleComp_compare).ja
 g_add_func_stats:=H.g_add_func_stats
 fn_add_func_stats:=(H.fn_add_func_stats).ja
 g_add_callers:=H.g_add_callers
 fn_add_callers:=(H.fn_add_callers).ja
 g_pretty_flags:=H.g_pretty_flags
 fn_pretty_flags:=(H.fn_pretty_flags).ja
 g__parse_varint:=H.g__parse_varint
 fn__parse_varint:=(H.fn__parse_varint).ja
 g_quotedata:=H.g_quotedata
 fn_quotedata:=(H.fn_quotedata).ja
 g__quote_periods:=H.g__quote_periods
 fn__quote_periods:=(H.fn__quote_periods).ja
 g__fix_eols:=H.g__fix_eols
 fn__fix_eols:=(H.fn__fix_eols).ja
 g__law_entry:=H.g__law_entry
 fn__law_entry:=(H.fn__law_entry).ja
 g__law_row:=H.g__law_row
 fn__law_row:=(H.fn__law_row).ja
 g__law_code:=H.g__law_code
 fn__law_code:=(H.fn__law_code).ja
 g__law_due:=H.g__law_due
 fn__law_due:=(H.fn__law_due).ja
 g__law_read:=H.g__law_read
 fn__law_read:=(H.fn__law_read).ja
 g__law_apexes:=H.g__law_apexes
 fn__law_apexes:=(H.fn__law_apexes).ja
 g__law_mail:=H.g__law_mail
 fn__law_mail:=(H.fn__law_mail).ja
 g__law_octets:=H.g__law_octets
 fn__law_octets:=(H.fn__law_octets).ja
 g__law_run:=H.g__law_run
 fn__law_run:=(H.fn__law_run).ja
 g_law:=H.g_law
 fn_law:=(H.fn_law).ja
end
open PySem PyProof.Rows
open Lean in
local macro_rules
 | `(#v[$ks,*])=>do
  let xs:Array Syntax:=ks.getElems.raw
  let k:=xs.getD 0 .missing
  let z:=k.isIdent&&k.getId.eraseMacroScopes== `zz
  let xs:=if z then xs.extract 1 xs.size else xs
  let k:=xs.getD 0 .missing
  let y:=(if z then "#" else "#v")++(if k.isIdent then toString k.getId.eraseMacroScopes else if xs.size==0 then "" else if z then "num" else "~")++toString xs.size++":"
  let some e:=("#num1: gX ρ $0 ? @1 \\ρ|#i2: some .int $1 @1 @1 \\x1|#v0: some List.nil @1 \\x1|#c3: $1 ρ @1 $2 ρ @1 a l1 + \\l1 &map \\a &bind \\ρ|#l2: $1 ρ @1 mL l @1 some .list l @1 @1 none ^ \\l &bind \\ρ|#t2: $1 ρ @1 mL l @1 some .tup l @1 @1 none ^ \\l &bind \\ρ|#q4: iy $1 $2 $3 ρ @4 lg &bind \\ρ|#r5: iy $1 $2 $3 @3 ρ @1 $4 &bind \\ρ|#f3: $1 ρ @1 $2 &bind \\ρ|#n2: some ρ.set $1 .p p @1 @2 @1 \\ρ \\p|#m2: pf p @1 wc $1 l ρ @3 \\l &bind \\ρ \\p|#k1: some .next ρ , @1 \\ρ|#e3: $2 ρ @1 .next ρ.set $1 .p v @1 @2 , \\v &map \\ρ|#y1: some true @1 \\x1|#b4: iy $1 $2 $3 @3|#o4: i9 il $1 $2 $3 @3 @1|#d4: $1 ρ @1 $2 ρ @1 $3 ρ @1 jP a b c @3 \\c &bind \\b &bind \\a &bind \\ρ|#z1: some none @1 \\x1|#u3: $1 ρ @1 b some true @1 $2 ρ @1 ^ \\b &bind \\ρ|#w4: $1 ρ @1 b $2 ρ @1 $3 ρ @1 ^ \\b &bind \\ρ|#x4: $1 ρ @1 x $2 ρ @1 $3 ρ @1 ^ \\x &bind \\ρ|#h2: $1 ρ @1 .ret v @1 ρ , \\v &map \\ρ|#j2: some .bool $1 @1 @1 \\x1|#S2: jM PySem.Challenge.pw_xc0012_01 $1 @2|#C2: hU jM PySem.Challenge.pw_xc0012_01 $1 @2 @1|#B2: ij jM PySem.Challenge.pw_xc0012_01 $1 @2 @1|#F2: Lk $1 @1|#N3: hG $1 $2 @2|#va2: =SE.var _6 $1 ~ ~ @9 !|#vb3: =LE.cons _8 $1 $2 rfl \\x1 @11 !|#vc1: =SE.int _7 @7 !|#vd4: =SE.binop _11 $1 $2 $3 @14 !|#ve1: =LE.nil _4 @4 !|#vf2: =gH _2 $1 ~ =kx _1 ~ @2 @5|#vg1: =kx _1 ~ @2|#vh3: =SS.cons _11 $1 $2 @13|#vi5: =SE.call _12 ~ $1 $2 $3 $4 rfl \\x1 rfl \\x1 ~ @20 !|#vj1: =iD _2 ~ @3|#vk3: =SE.item _9 $1 $2 rfl \\x1 \\x1 @12 !|#vl3: =AS.guard _6 $1 $2 @8|#vm2: =IE.of _6 $1 @7 !|#vo1: =SS.nil _6 @6 !|#vq1: =oJ.of _3 ~ @4|#vr6: =CJ.last _17 rfl rfl $1 $2 $3 $4 $5 @24 !|#vs2: =AS.name _7 =iD _2 ~ @3 $1 @9 !|#vt1: =oI.nil _4 @4 !|#vu4: =SE.comp _11 $1 _3 =oJ.of _3 ~ @4 $2 $3 rfl \\x1 \\x1 @19 !|#vv4: =S1.set _11 $1 =iD _2 ~ @3 $2 $3 @15|#vw3: =SS.at _6 $1 _2 ~ $2 @11|#vx1: =SS.nil _6 @6|#vy2: =SE.list _7 $1 @8 !|#vz3: =AS.tup _9 $1 $2 @11 !|#vA3: =SS.cons _11 $1 $2 @13 !|#vB4: =TE.cmp _11 $1 $2 $3 ~ @15 !|#vC3: =SS.flag _5 $1 _3 $2 rfl @11 !|#vD1: =SE.str _7 @7 !|#vE1: =so.of _4 ~ @5|#vF2: =S1.ret _8 $1 @9|#vG3: =Rn _12 $1 =so.of _4 ~ @5 $2 @15|#vI2: =SE.tup _8 $1 @9 !|#vJ4: =SE.Wb _13 $1 $2 $3 rfl \\x1 rfl \\x1 ~ ~ ~ @21 !|#vK2: =PE.some _6 $1 @7 !|#vM4: =SE.slice _12 $1 $2 $3 @15 !|#vN4: =SE.cmp _11 $1 $2 $3 ~ @15 !|#vO4: =S1.Va _14 $1 $2 $3 @17|#vP2: =S1.ret _8 $1 @9 !|#vQ6: =S1.for _15 $1 $2 $3 $4 $5 rfl \\x1 \\x1 @21|#vR1: =LE.consts _6 ~ @7 !|#vS3: =SE.glob _8 ~ $1 $2 ~ @12 !|#vU5: =S1.V9 _12 $1 $2 $3 $4 @16|#vV1: =PE.none _4 @4 !|#vW6: =S1.setC _14 $1 _5 =oJ.of _3 ~ @4 $2 $3 rfl \\x1 \\x1 =iD _2 ~ @3 $4 $5 @27|#vX1: =SE.bool _7 @7 !|#vY4: =S1.Wl _11 $1 =iD _2 ~ @3 $2 ~ $3 @16|#vZ3: =SE.Kw _8 $1 _1 ~ ~ $2 rfl \\x1 \\x1 @14 !|#vaa2: =oI.one _6 $1 @7 !|#vab4: =SS.freeze _5 * _1 $1 _2 $2 $3 @12|#vac3: =IE.zip _10 ~ $1 $2 rfl \\x1 rfl \\x1 ~ @16 !|#vad4: =IE.enum _4 $1 _5 ~ $2 $3 rfl \\x1 ~ @15 !|#vae3: =zx.or _8 $1 $2 @10 !|#vaf2: =SE.un _9 $1 GJ @11 !|#vag5: =S1.put _14 $1 $2 $3 ~ $4 @19|#vah4: =S1.Va _14 $1 $2 $3 @17 !|#vai2: =TE.val _6 $1 rfl \\x1 \\x1 @8 !|#vaj1: =OE.nil _5 @5 !|#vak3: =Lh _5 $1 $2 % @8|#val5: =OE.call _12 ~ $1 $2 $3 $4 rfl \\x1 rfl \\x1 ~ @20 !|#vam4: =SE.Va _11 $1 $2 $3 @14 !".splitOn "|").find? y.isPrefixOf|Macro.throwUnsupported
  let Q←`((by kernel_rfl) (y,x) (y::x) (y[x]?) (fun w=>x) (if z then y else x) (by exact x) (by decide+kernel) (false||false) .w @w ((y).w x) _)
  let T:=#[Q.raw[0]]++Q.raw[1].getArgs
  let st:=(((e.splitOn ": ").getD 1 "").splitOn " ").foldl (init:=(#[]:Array Syntax)) fun st t=>
   let l:=t.toList
   let c:=l.headD ' '
   let r:=String.ofList (l.drop 1)
   let i:="~,+?\\^!%*.=&_".toList.idxOf c
   let n:=st.size
   if i<13 then
    let m:="0222131000020".toList.getD i '0'|>.toNat
    let m:=m-48
    let q:=(T.getD i k).rewriteBottomUp fun s=>if s.isIdent then (match s.getId.eraseMacroScopes with|`x=>st.getD (n-1) k|`y=>st.getD (n-2) k|`z=>st.getD (n-3) k|`w=>mkIdent r.toName|_=>s) else s
    st.extract 0 (n-m)++Array.replicate (if c=='_' then r.toNat! else 1) q
   else if c=='$' then st.push (xs.getD r.toNat! k)
   else if c=='#' then st.push (Syntax.mkNumLit r)
   else if c=='@' then
    let m:=n-r.toNat!
    (st.extract 0 (m-1)).push (Syntax.mkApp ⟨st.getD (m-1) k⟩ (st.extract m n|>.map (⟨·⟩)))
   else st.push (mkIdent t.toName)
  `(($(⟨st.getD 0 k⟩)))
local macro_rules
 | `(#[$ks,*])=>do
  let xs:=ks.getElems
  let k:=xs.getD 0 ⟨.missing⟩
  if (k.raw.isIdent&&(" num1 i2 c3 l2 t2 q4 r5 f3 n2 m2 k1 e3 y1 b4 o4 d4 z1 u3 w4 x4 h2 j2 S2 C2 B2 F2 N3 ".splitOn (" "++toString k.raw.getId++toString xs.size++" ")).length==2)||(xs.size==1&&k.raw.isNatLit?.isSome) then `(#v[zz,$ks,*]) else Lean.Macro.throwUnsupported
open PySem PyProof.Rows
section
open PySem PyProof.Rows
section
variable {L:ic}
theorem BI(H:gF L):iF L 2 (.ref tC) (zR tC (Str.ofString "comp_select_list")):=(@Pj _ (0) _ _ _ _ H.cd _ _ _ _ _ _ _ _ H.fn_TupleComp_init #v[E] (by kernel_rfl) (by kernel_rfl) (by kernel_rfl) (by kernel_rfl) (fun env h=>by (first|exact VD env|cases env);(first|exact VD h|cases h);kernel_rfl))
noncomputable def ib:List Str:=[(Str.ofString "self"),(Str.ofString "left"),(Str.ofString "right"),(Str.ofString "index"),(Str.ofString "direction"),(Str.ofString "l"),(Str.ofString "r")]
noncomputable def ie:gJ:=[((Str.ofString "self"),0),((Str.ofString "left"),1),((Str.ofString "right"),2),((Str.ofString "index"),3),((Str.ofString "direction"),4),((Str.ofString "l"),5),((Str.ofString "r"),6)]
noncomputable def jC:List MV→Option (Fl×List MV):= #[e,5,iy #[1] #[3] gC]
theorem oi(H:gF L):S1 L (hU (jK #[S,2] 1)) ie ib 0 false #[N,0,#[F,#[N,0,(ij (jK #[S,2] 1))]]] jC:= #v[v,#v[k,#v[a,1],#v[a,3]],#v[f,5],(fun env h=>by (first|exact VD env|cases env);(first|exact VD h|cases h);kernel_rfl)]
noncomputable def jD:List MV→Option (Fl×List MV):= #[e,6,iy #[2] #[3] gC]
theorem oj(H:gF L):S1 L (hU (jK #[S,2] 1)) ie ib 0 false #[N,1,#[F,#[N,0,(ij (jK #[S,2] 1))]]] jD:= #v[v,#v[k,#v[a,2],#v[a,3]],#v[f,6],(fun env h=>by (first|exact VD env|cases env);(first|exact VD h|cases h);kernel_rfl)]
noncomputable def jE:List MV→Option (Fl×List MV):= #[x,#[q,#[5],#[6],GK],(gN #[h,#[f,#[4],vU]] #[k]),#[k]]
theorem oo(H:gF L):S1 L (hU (jK #[S,2] 1)) ie ib 0 ((false||false)||false) #[N,2,#[F,#[N,0,(ij (jK #[S,2] 1))]]] jE:= #v[O,#v[B,#v[a,5],#v[a,6],DI],#v[A,#v[P,#v[af,#v[a,4]]],#v[o]],#v[o]]
noncomputable def kQ:List MV→Option (Fl×List MV):= #[x,#[q,#[5],#[6],J9],(gN #[h,#[4]] #[k]),#[k]]
theorem oq(H:gF L):S1 L (hU (jK #[S,2] 1)) ie ib 0 ((false||false)||false) #[N,3,#[F,#[N,0,(ij (jK #[S,2] 1))]]] kQ:= #v[O,#v[B,#v[a,5],#v[a,6],MJ],#v[A,#v[P,#v[a,4]],#v[o]],#v[o]]
noncomputable def j2:List MV→Option (Fl×List MV):=(gN jC (gN jD (gN jE (gN kQ #[k]))))
theorem pK(H:gF L):SS L (hU (jK #[S,2] 1)) ie ib 0 (false||(false||(((false||false)||false)||(((false||false)||false)||false)))) #[F,#[N,0,(ij (jK #[S,2] 1))]] j2:= #v[w,([hG 0 #[F,#[N,0,(ij (jK #[S,2] 1))]],hG 1 #[F,#[N,0,(ij (jK #[S,2] 1))]],hG 2 #[F,#[N,0,(ij (jK #[S,2] 1))]],hG 3 #[F,#[N,0,(ij (jK #[S,2] 1))]]]),#v[h,(@oi _ H),#v[h,(@oj _ H),#v[h,(@oo _ H),#v[h,(@oq _ H),#v[x]]]]]]
noncomputable def j3:List MV→Option (Fl×List MV):=(fun ρ=>(#[f,(fun ρ=>(gX ρ[0]?).bind (IF tC (Str.ofString "comp_select_list"))),itemsOf] ρ).bind fun ps=>mM #[m,[3,4]] j2 #[k] ρ ps)
theorem pL(H:gF L):S1 L (hU (jK #[S,2] 1)) ie ib 0 false #[N,0,(ij (jK #[S,2] 1))] j3:= #v[Q,#v[m,(by exact @SE.attr _ _ _ _ _ _ _ _ H.cd _ _ _ (0) (by kernel_rfl) (by kernel_rfl) (fun _=>rfl))],#v[z,.cons (.cons gZ.nil),(.cons (@iD _ _ (by kernel_rfl)) (@gH _ _ (3) (by kernel_rfl) (@kx _ (by kernel_rfl))) (.cons (@iD _ _ (by kernel_rfl)) (@gH _ _ (4) (by kernel_rfl) (@kx _ (by kernel_rfl))) i8.nil))],(fun h=>by (first|exact VD h|cases h)),#v[C,(false||(false||(((false||false)||false)||(((false||false)||false)||false)))),(by exact @pK _ H)],#v[C,false,#v[o]]]
noncomputable def lj:List MV→Option (Fl×List MV):= #[h,#[i,0]]
theorem pM(H:gF L):S1 L (hU (jK #[S,2] 1)) ie ib 0 false #[N,1,(ij (jK #[S,2] 1))] lj:= #v[F,#v[c]]
noncomputable def jv:List MV→Option (Fl×List MV):=(gN j3 (gN lj #[k]))
theorem qJ(H:gF L):SS L (hU (jK #[S,2] 1)) ie ib 0 (false||(false||false)) (ij (jK #[S,2] 1)) jv:= #v[w,([hG 0 (ij (jK #[S,2] 1)),hG 1 (ij (jK #[S,2] 1))]),#v[h,(@pL _ H),#v[h,(@pM _ H),#v[x]]]]
noncomputable def jw:List PV→Option PV:=AL 3 4 jv
theorem qK(H:gF L):iF L 1 (.ref (H.ad 1001)) jw:= #v[G,H.fn_TupleComp_compare,(@qJ _ H)]
noncomputable def iE:List Str:=[(Str.ofString "target"),(Str.ofString "source"),(Str.ofString "new_callers"),(Str.ofString "func"),(Str.ofString "caller")]
noncomputable def iJ:gJ:=[((Str.ofString "target"),0),((Str.ofString "source"),1),((Str.ofString "new_callers"),2),((Str.ofString "func"),3),((Str.ofString "caller"),4)]
noncomputable def pj:List MV→Option (Fl×List MV):=(EZ 5 2 (fun _=>some (.zk [] [])))
theorem uW(H:gF L)(hn:L.exc=none):S1 L #[C,4] iJ iE 0 true #[N,0,#[B,4]] pj:= #v[Y,(by exact @OE.iM _ _ _ _ _),#v[f,2],(fun env h=>by (first|exact VD env|cases env);(first|exact VD h|cases h);kernel_rfl)]
noncomputable def nB:List MV→Option (Fl×List MV):=(E3 2 #[3] #[4])
theorem sE(H:gF L)(hn:L.exc=none):S1 L #[C,4] iJ iE 0 false #[N,0,#[F,#[N,1,#[B,4]]]] nB:= #v[ag,#v[a,4],#v[a,3],#v[f,2],(fun env h=>by (first|exact VD env|cases env);(first|exact VD h|cases h);kernel_rfl)]
noncomputable def pk:List MV→Option (Fl×List MV):=(gN nB #[k])
theorem uX(H:gF L)(hn:L.exc=none):SS L #[C,4] iJ iE 0 (false||false) #[F,#[N,1,#[B,4]]] pk:= #v[w,[hG 0 #[F,#[N,1,#[B,4]]]],#v[h,(@sE _ H hn),#v[x]]]
noncomputable def pn:List MV→Option (Fl×List MV):=(fun ρ=>((fun ρ=>(gX ρ[0]?).bind zL) ρ).bind fun ps=>mM #[m,[3,4]] pk #[k] ρ ps)
theorem uY(H:gF L)(hn:L.exc=none):S1 L #[C,4] iJ iE 0 false #[N,1,#[B,4]] pn:= #v[Q,(by exact @IE.items _ _ _ _ hn _ _ _ _ (0) (by kernel_rfl) (by kernel_rfl) (by kernel_rfl)),#v[z,.cons (.cons gZ.nil),(.cons (@iD _ _ (by kernel_rfl)) (@gH _ _ (3) (by kernel_rfl) (@kx _ (by kernel_rfl))) (.cons (@iD _ _ (by kernel_rfl)) (@gH _ _ (4) (by kernel_rfl) (@kx _ (by kernel_rfl))) i8.nil))],(fun _=>rfl),#v[C,(false||false),(by exact @uX _ H hn)],#v[C,false,#v[o]]]
noncomputable def nD:List MV→Option (Fl×List MV):= #[x,(fun ρ=>(Hx 2 #[3] ρ).bind lg),(gN #[x,#[f,#[f,#[c,#[4],#[c,(fun _=>some (.val (.type "tuple"))),#v[]]],DY],lg],(gN (E3 2 #[3] #[f,#[c,#[4],#[c,mO 2 #[3],#v[]]],C3]) #[k]),gN (Bu 2 #[3] #[4]) #[k]] #[k]),gN (E3 2 #[3] #[4]) #[k]]
theorem sF(H:gF L)(hn:L.exc=none):S1 L #[C,4] iJ iE 0 ((((false||false)||(false||false))||false)||(false||false)) #[N,0,#[F,#[N,2,#[B,4]]]] nD:= #v[O,(by exact @TE.Rq _ _ _ _ _ _ _ _ (2) _ #v[a,3] (by kernel_rfl) (by kernel_rfl)),#v[A,#v[ah,#v[ai,#v[i,H.b_isinstance,.builtin _,Hq.less (aC _),#v[b,#v[a,4],#v[b,#v[S,H.b_tuple,(fun _ _ _ _=>rfl)],#v[e]]]]],#v[A,(by exact @S1.put _ _ _ _ _ _ _ _ _ _ _ _ _ _ (by exact @SE.O2 _ _ _ _ hn _ _ _ _ _ _ _ _ _ _ _ _ _ _ _ _ _ _ _ _ (by kernel_rfl) H.b_tuple (by kernel_rfl) H.b_zip ⟨rfl,fun _=>rfl,by decide+kernel,(by kernel_rfl),(by kernel_rfl),(by kernel_rfl),by decide+kernel,rfl,(by kernel_rfl),(by kernel_rfl),(by kernel_rfl)⟩ #v[b,#v[a,4],#v[b,#v[Z,2,#v[a,3]],#v[e]]] (fun _=>rfl) (fun _=>rfl) (fun _ _=>rfl) (by kernel_rfl) (by kernel_rfl)) #v[a,3] #v[f,2] (by kernel_rfl) (fun env h=>by (first|exact VD env|cases env);(first|exact VD h|cases h);kernel_rfl)),#v[o]],#v[A,(by exact @S1.KZ _ _ _ _ _ _ _ _ _ _ _ _ _ _ #v[a,4] #v[a,3] #v[f,2] (by kernel_rfl) (fun _ _ _=>rfl)),#v[o]]],#v[o]],#v[A,(by exact @S1.put _ _ _ _ _ _ _ _ _ _ _ _ _ _ #v[a,4] #v[a,3] #v[f,2] (by kernel_rfl) (fun env h=>by (first|exact VD env|cases env);(first|exact VD h|cases h);kernel_rfl)),#v[o]]]
noncomputable def pq:List MV→Option (Fl×List MV):=(gN nD #[k])
theorem uZ(H:gF L)(hn:L.exc=none):SS L #[C,4] iJ iE 0 (((((false||false)||(false||false))||false)||(false||false))||false) #[F,#[N,2,#[B,4]]] pq:= #v[w,[hG 0 #[F,#[N,2,#[B,4]]]],#v[h,(@sF _ H hn),#v[x]]]
noncomputable def pv:List MV→Option (Fl×List MV):=(fun ρ=>((fun ρ=>(gX ρ[1]?).bind zL) ρ).bind fun ps=>mM #[m,[3,4]] pq #[k] ρ ps)
theorem u0(H:gF L)(hn:L.exc=none):S1 L #[C,4] iJ iE 0 false #[N,2,#[B,4]] pv:= #v[Q,(by exact @IE.items _ _ _ _ hn _ _ _ _ (1) (by kernel_rfl) (by kernel_rfl) (by kernel_rfl)),#v[z,.cons (.cons gZ.nil),(.cons (@iD _ _ (by kernel_rfl)) (@gH _ _ (3) (by kernel_rfl) (@kx _ (by kernel_rfl))) (.cons (@iD _ _ (by kernel_rfl)) (@gH _ _ (4) (by kernel_rfl) (@kx _ (by kernel_rfl))) i8.nil))],(fun _=>rfl),#v[C,(((((false||false)||(false||false))||false)||(false||false))||false),(by exact @uZ _ H hn)],#v[C,false,#v[o]]]
noncomputable def pw:List MV→Option (Fl×List MV):= #[h,#[2]]
theorem u3(H:gF L)(hn:L.exc=none):S1 L #[C,4] iJ iE 0 false #[N,3,#[B,4]] pw:= #v[F,#v[a,2]]
noncomputable def qV:List MV→Option (Fl×List MV):=(gN pj (gN pn (gN pv (oM 2 (gN pw #[k])))))
theorem ya(H:gF L)(hn:L.exc=none):SS L #[C,4] iJ iE 0 (true||(false||(false||true))) #[B,4] qV:= #v[w,([hG 0 #[B,4],hG 1 #[B,4],hG 2 #[B,4],hG 3 #[B,4]]),#v[h,(@uW _ H hn),#v[h,(@uY _ H hn),#v[h,(@u0 _ H hn),#v[ab,(Str.ofString "new_callers"),#v[h,(@u3 _ H hn),#v[x]],#v[f,2]]]]]]
noncomputable def qW:List PV→Option PV:=AL 2 3 qV
theorem yb(H:gF L)(hn:L.exc=none):iF L 1 (.ref (H.ad 4)) qW:= #v[G,H.fn_add_callers,(@ya _ H hn)]
noncomputable def jR:List Str:=[(Str.ofString "target"),(Str.ofString "source"),(Str.ofString "cc"),(Str.ofString "nc"),(Str.ofString "tt"),(Str.ofString "ct"),(Str.ofString "callers"),(Str.ofString "t_cc"),(Str.ofString "t_nc"),(Str.ofString "t_tt"),(Str.ofString "t_ct"),(Str.ofString "t_callers")]
noncomputable def j6:gJ:=[((Str.ofString "target"),0),((Str.ofString "source"),1),((Str.ofString "cc"),2),((Str.ofString "nc"),3),((Str.ofString "tt"),4),((Str.ofString "ct"),5),((Str.ofString "callers"),6),((Str.ofString "t_cc"),7),((Str.ofString "t_nc"),8),((Str.ofString "t_tt"),9),((Str.ofString "t_ct"),10),((Str.ofString "t_callers"),11)]
noncomputable def mU:List MV→Option (Fl×List MV):=(fun ρ=>(#[1] ρ).bind fun v=>(#[m,[2,3,4,5,6]] v ρ).map fun ρ'=>(.next,ρ'))
theorem rL(H:gF L)(hn:L.exc=none):S1 L #[C,3] j6 jR 1 false #[N,0,#[B,3]] mU:= #v[U,#v[a,1],#v[z,.cons (.cons (.cons (.cons (.cons gZ.nil)))),(.cons (@iD _ _ (by kernel_rfl)) (@gH _ _ (2) (by kernel_rfl) (@kx _ (by kernel_rfl))) (.cons (@iD _ _ (by kernel_rfl)) (@gH _ _ (3) (by kernel_rfl) (@kx _ (by kernel_rfl))) (.cons (@iD _ _ (by kernel_rfl)) (@gH _ _ (4) (by kernel_rfl) (@kx _ (by kernel_rfl))) (.cons (@iD _ _ (by kernel_rfl)) (@gH _ _ (5) (by kernel_rfl) (@kx _ (by kernel_rfl))) (.cons (@iD _ _ (by kernel_rfl)) (@gH _ _ (6) (by kernel_rfl) (@kx _ (by kernel_rfl))) i8.nil)))))],(fun env h=>by (first|exact VD env|cases env);(first|exact VD h|cases h);kernel_rfl),(fun env h=>by (first|exact VD env|cases env);(first|exact VD h|cases h);kernel_rfl)]
noncomputable def mV:List MV→Option (Fl×List MV):=(fun ρ=>(#[0] ρ).bind fun v=>(#[m,[7,8,9,10,11]] v ρ).map fun ρ'=>(.next,ρ'))
theorem rM(H:gF L)(hn:L.exc=none):S1 L #[C,3] j6 jR 1 false #[N,1,#[B,3]] mV:= #v[U,#v[a,0],#v[z,.cons (.cons (.cons (.cons (.cons gZ.nil)))),(.cons (@iD _ _ (by kernel_rfl)) (@gH _ _ (7) (by kernel_rfl) (@kx _ (by kernel_rfl))) (.cons (@iD _ _ (by kernel_rfl)) (@gH _ _ (8) (by kernel_rfl) (@kx _ (by kernel_rfl))) (.cons (@iD _ _ (by kernel_rfl)) (@gH _ _ (9) (by kernel_rfl) (@kx _ (by kernel_rfl))) (.cons (@iD _ _ (by kernel_rfl)) (@gH _ _ (10) (by kernel_rfl) (@kx _ (by kernel_rfl))) (.cons (@iD _ _ (by kernel_rfl)) (@gH _ _ (11) (by kernel_rfl) (@kx _ (by kernel_rfl))) i8.nil)))))],(fun env h=>by (first|exact VD env|cases env);(first|exact VD h|cases h);kernel_rfl),(fun env h=>by (first|exact VD env|cases env);(first|exact VD h|cases h);kernel_rfl)]
noncomputable def mW:List MV→Option (Fl×List MV):= #[h,#[t,#[c,iy #[2] #[7] gR,#[c,#[b,#[3],#[8],gR],#[c,#[b,#[4],#[9],gR],#[c,#[b,#[5],#[10],gR],#[c,#[f,#[c,#[11],#[c,#[6],#v[]]],qW],#v[]]]]]]]]
theorem rN(H:gF L)(hn:L.exc=none):S1 L #[C,3] j6 jR 1 false #[N,2,#[B,3]] mW:= #v[F,#v[I,#v[b,#v[d,#v[a,2],#v[a,7],gS],#v[b,#v[d,#v[a,3],#v[a,8],gS],#v[b,#v[d,#v[a,4],#v[a,9],gS],#v[b,#v[d,#v[a,5],#v[a,10],gS],#v[b,#v[i,H.g_add_callers,(H.fn_add_callers).callee,((yb H hn).less (by decide)),#v[b,#v[a,11],#v[b,#v[a,6],#v[e]]]],#v[e]]]]]]]]
noncomputable def ot:List MV→Option (Fl×List MV):=(gN mU (gN mV (gN mW #[k])))
theorem tD(H:gF L)(hn:L.exc=none):SS L #[C,3] j6 jR 1 (false||(false||(false||false))) #[B,3] ot:= #v[w,([hG 0 #[B,3],hG 1 #[B,3],hG 2 #[B,3]]),#v[h,(@rL _ H hn),#v[h,(@rM _ H hn),#v[h,(@rN _ H hn),#v[x]]]]]
noncomputable def hO:List PV→Option PV:=AL 2 10 ot
theorem jF(H:gF L)(hn:L.exc=none):iF L 2 (.ref (H.ad 3)) hO:= #v[G,H.fn_add_func_stats,(@tD _ H hn)]
end
end
section
open PySem PyProof.Rows
section
variable {L:ic}
noncomputable def iK:List Str:=[(Str.ofString "flags"),(Str.ofString "names"),(Str.ofString "i"),(Str.ofString "flag")]
noncomputable def iW:gJ:=[((Str.ofString "flags"),0),((Str.ofString "names"),1),((Str.ofString "i"),2),((Str.ofString "flag"),3)]
noncomputable def ou:List MV→Option (Fl×List MV):=(EZ 4 1 (fun _=>some (.ol [])))
theorem tE(H:gF L):S1 L #[C,7] iW iK 0 true #[N,0,#[B,7]] ou:= #v[Y,#v[aj],#v[f,1],(fun env h=>by (first|exact VD env|cases env);(first|exact VD h|cases h);kernel_rfl)]
noncomputable def kH:List MV→Option (Fl×List MV):= #[e,3,#[b,#[i,1],#[2],vS]]
theorem rO(H:gF L):S1 L #[C,7] iW iK 0 false #[N,0,#[F,#[N,1,#[B,7]]]] kH:= #v[v,#v[d,#v[c],#v[a,2],N6],#v[f,3],(fun env h=>by (first|exact VD env|cases env);(first|exact VD h|cases h);kernel_rfl)]
noncomputable def jf:List MV→Option (Fl×List MV):= #[x,#[r,#[0],#[3],ui,lg],(gN (oL 1 (fun ρ=>((fun _=>some y8) ρ).bind fun p=>(#[c,#[3],#[c,#[f,#[c,#[3],#v[]],Bc],#v[]]] ρ).bind fun ps=>CU p ps)) (gN (fun ρ=>(gX ρ[0]?).bind fun a=>(#[3] ρ).bind fun b=>(MI a b).map fun v=>(.next,ρ.set 0 (.p v))) (gN #[x,(fun ρ=>(#[f,#[0],lg] ρ).map not),(gN (fun ρ=>some (.brk,ρ)) #[k]),#[k]] #[k]))),#[k]]
theorem rP(H:gF L):S1 L #[C,7] iW iK 0 ((false||(false||(((false||false)||false)||false)))||false) #[N,1,#[F,#[N,1,#[B,7]]]] jf:= #v[O,#v[ai,#v[d,#v[a,0],#v[a,3],zq]],#v[A,(by exact @S1.append _ _ _ _ _ _ _ _ _ _ _ _ _ #v[J,#v[S,H.g_flags,H.v_flags],#v[b,#v[a,3],#v[b,#v[i,H.b_hex,.builtin _,Hl.less (aC _),#v[b,#v[a,3],#v[e]]],#v[e]]],OP] #v[f,1] (fun _=>rfl) (by kernel_rfl) (by kernel_rfl) (fun env=>by kernel_rfl)),#v[A,(by exact @S1.aug _ _ _ _ _ _ _ _ _ _ _ _ _ #v[a,3] KQ #v[j] #v[f,0]),#v[A,#v[ah,(by exact @TE.not _ _ _ _ _ _ _ #v[ai,#v[a,0]]),#v[A,(by exact @S1.brk _ _ _ _ _ _),#v[o]],#v[o]],#v[o]]]],#v[o]]
noncomputable def lu:List MV→Option (Fl×List MV):=(gN kH (gN jf #[k]))
theorem tF(H:gF L):SS L #[C,7] iW iK 0 (false||(((false||(false||(((false||false)||false)||false)))||false)||false)) #[F,#[N,1,#[B,7]]] lu:= #v[w,([hG 0 #[F,#[N,1,#[B,7]]],hG 1 #[F,#[N,1,#[B,7]]]]),#v[h,(@rO _ H),#v[h,(@rP _ H),#v[x]]]]
noncomputable def oy:List MV→Option (Fl×List MV):=(fun ρ=>(#[f,#[f,#[c,#[i,32],#v[]],i7],itemsOf] ρ).bind fun ps=>mM #[n,2] lu (gN (oL 1 #[f,#[c,#[0],#v[]],Bc]) #[k]) ρ ps)
theorem tG(H:gF L):S1 L #[C,7] iW iK 0 false #[N,1,#[B,7]] oy:= #v[Q,#v[m,#v[i,H.b_range,.type _,je.less (aC _),#v[b,#v[c],#v[e]]]],#v[s,#v[f,2]],(fun h=>by (first|exact VD h|cases h)),#v[C,(false||(((false||(false||(((false||false)||false)||false)))||false)||false)),(by exact @tF _ H)],#v[C,(false||false),#v[A,(by exact @S1.append _ _ _ _ _ _ _ _ _ _ _ _ _ #v[i,H.b_hex,.builtin _,Hl.less (aC _),#v[b,#v[a,0],#v[e]]] #v[f,1] (fun _=>rfl) (by kernel_rfl) (by kernel_rfl) (fun env=>by kernel_rfl)),#v[o]]]]
noncomputable def oz:List MV→Option (Fl×List MV):= #[h,(fun ρ=>((fun _=>some (.str (Str.ofString ", "))) ρ).bind fun p=>(#[c,#[1],#v[]] ρ).bind fun ps=>rF p ps)]
theorem tH(H:gF L):S1 L #[C,7] iW iK 0 false #[N,2,#[B,7]] oz:= #v[F,#v[J,#v[D],#v[b,#v[a,1],#v[e]],zH]]
noncomputable def mY:List MV→Option (Fl×List MV):=(gN ou (gN oy (oM 1 (gN oz #[k]))))
theorem wX(H:gF L):SS L #[C,7] iW iK 0 (true||(false||true)) #[B,7] mY:= #v[w,([hG 0 #[B,7],hG 1 #[B,7],hG 2 #[B,7]]),#v[h,(@tE _ H),#v[h,(@tG _ H),#v[ab,(Str.ofString "names"),#v[h,(@tH _ H),#v[x]],#v[f,1]]]]]
noncomputable def jg:List PV→Option PV:=AL 1 3 mY
theorem mZ(H:gF L):iF L 1 (.ref (H.ad 7)) jg:= #v[G,H.fn_pretty_flags,(@wX _ H)]
noncomputable def sG:List Str:=[(Str.ofString "iterator"),(Str.ofString "b"),(Str.ofString "val")]
noncomputable def tI:gJ:=[((Str.ofString "iterator"),0),((Str.ofString "b"),1),((Str.ofString "val"),2)]
noncomputable def gV:List MV→Option (Option Fl×List MV):=(qb (yZ 0 1) (qb (fun ρ=>(#[e,2,#[b,#[1],#[i,63],ui]] ρ).map fun r=>(some r.1,r.2)) (qb (lZ #[r,#[1],#[i,64],ui,lg] (qb (fun ρ=>((fun ρ=>(gX ρ[2]?).bind fun a=>(#[i,6] ρ).bind fun b=>(vS a b).map fun v=>(.next,ρ.set 2 (.p v))) ρ).map fun r=>(some r.1,r.2)) (qb (yZ 0 1) (qb (fun ρ=>((fun ρ=>(gX ρ[2]?).bind fun a=>(#[b,#[1],#[i,63],ui] ρ).bind fun b=>(N5 a b).map fun v=>(.next,ρ.set 2 (.p v))) ρ).map fun r=>(some r.1,r.2)) (fun ρ=>some (some .next,ρ))))) 40) (qb (fun ρ=>(#[h,#[2]] ρ).map fun r=>(some r.1,r.2)) (fun ρ=>some (some .next,ρ))))))
theorem px(H:gF L)(hn:L.exc=none):K4 L (H.ad 8) (H.fd 8) #[C,8] (Str.ofString "iterator") sG tI #[B,8] 0 2 gV:=⟨H.fn__parse_varint,so.of (by kernel_rfl),by decide+kernel,(by kernel_rfl),(by exact SX.cons (by exact D7.next (i:=0) (j:=1) (by kernel_rfl) H.b_next (gH (i:=0) (by kernel_rfl) (kx (by kernel_rfl))) (iD (by kernel_rfl)) (gH (i:=1) (by kernel_rfl) (kx (by kernel_rfl))) (by kernel_rfl) (by kernel_rfl) (fun env h=>by (first|exact VD env|cases env);(first|exact VD h|cases h);kernel_rfl)) (by exact SX.cons (by exact D7.of (by exact(show S1 L _ _ _ _ false _ _ from(by exact S1.set (by exact SE.binop (by exact SE.var (i:=1) (by kernel_rfl) (by kernel_rfl)) (by exact SE.int) zq) (iD (by kernel_rfl)) (gH (i:=2) (by kernel_rfl) (kx (by kernel_rfl))) (fun env h=>by (first|exact VD env|cases env);(first|exact VD h|cases h);kernel_rfl))))) (by exact SX.cons (by exact D7.while 40 (by exact TE.val (by exact SE.binop (by exact SE.var (i:=1) (by kernel_rfl) (by kernel_rfl)) (by exact SE.int) zq) (fun _ _=>rfl)) (by exact SX.cons (by exact D7.of (by exact(show S1 L _ _ _ _ false _ _ from(by exact S1.aug (by exact SE.int) Ll (iD (by kernel_rfl)) (gH (i:=2) (by kernel_rfl) (kx (by kernel_rfl))))))) (by exact SX.cons (by exact D7.next (i:=0) (j:=1) (by kernel_rfl) H.b_next (gH (i:=0) (by kernel_rfl) (kx (by kernel_rfl))) (iD (by kernel_rfl)) (gH (i:=1) (by kernel_rfl) (kx (by kernel_rfl))) (by kernel_rfl) (by kernel_rfl) (fun env h=>by (first|exact VD env|cases env);(first|exact VD h|cases h);kernel_rfl)) (by exact SX.cons (by exact D7.of (by exact(show S1 L _ _ _ _ false _ _ from(by exact S1.aug (by exact SE.binop (by exact SE.var (i:=1) (by kernel_rfl) (by kernel_rfl)) (by exact SE.int) zq) OY (iD (by kernel_rfl)) (gH (i:=2) (by kernel_rfl) (kx (by kernel_rfl))))))) (by exact SX.nil))))) (by exact SX.cons (by exact D7.of (by exact(show S1 L _ _ _ _ false _ _ from(by exact S1.ret (by exact SE.var (i:=2) (by kernel_rfl) (by kernel_rfl)))))) (by exact SX.nil)))))⟩
noncomputable def qX:List Str:=[(Str.ofString "data")]
noncomputable def sH:gJ:=[((Str.ofString "data"),0)]
noncomputable def nO:List MV→Option (Fl×List MV):= #[h,(fun ρ=>((fun _=>some (.val (.ref Lm))) ρ).bind fun p=>(#[c,(fun _=>some (.str (Str.ofString ".."))),#[c,(fun ρ=>((fun _=>some (.val (.ref Ft))) ρ).bind fun p=>(#[c,(fun _=>some (.str (Str.ofString "\r\n"))),#[c,#[0],#v[]]] ρ).bind fun ps=>BE Ft (BF [13,10] (iZ false)) p ps),#v[]]] ρ).bind fun ps=>BE Lm (BF [46,46] (j5 true)) p ps)]
theorem yc(H:gF L):S1 L #[C,14] sH qX 0 false #[N,0,#[B,14]] nO:= #v[F,#v[J,#v[S,H.g_tw1,(fun _ _ _ _=>rfl)],#v[b,#v[D],#v[b,#v[J,#v[S,H.g_tw3,(fun _ _ _ _=>rfl)],#v[b,#v[S,H.g_CRLF,H.v_CRLF],#v[b,#v[a,0],#v[e]]],#v[ak,IA,H.p_tw3]],#v[e]]],#v[ak,Iz,H.p_tw1]]]
noncomputable def uw:List MV→Option (Fl×List MV):=(gN nO #[k])
theorem BJ(H:gF L):SS L #[C,14] sH qX 0 (false||false) #[B,14] uw:= #v[w,[hG 0 #[B,14]],#v[h,(@yc _ H),#v[x]]]
noncomputable def qf:List PV→Option PV:=AL 1 0 uw
theorem BK(H:gF L):iF L 1 (.ref (H.ad 14)) qf:= #v[G,H.fn_quotedata,(@BJ _ H)]
noncomputable def m4:List Str:=[(Str.ofString "bindata")]
noncomputable def nE:gJ:=[((Str.ofString "bindata"),0)]
noncomputable def kI:List MV→Option (Fl×List MV):= #[h,(fun ρ=>((fun _=>some (.val (.ref Ln))) ρ).bind fun p=>(#[c,(fun _=>some (.bytes ([46,46]:List UInt8).toArray)),#[c,#[0],#v[]]] ρ).bind fun ps=>BE Ln (subB [46,46] (j5 true)) p ps)]
theorem rQ(H:gF L):S1 L #[C,15] nE m4 0 false #[N,0,#[B,15]] kI:= #v[F,#v[J,#v[S,H.g_tw2,(fun _ _ _ _=>rfl)],#v[b,(by exact @SE.Pu _ _ _ _ _ _ _),#v[b,#v[a,0],#v[e]]],(@Li _ _ _ _ _ Iz H.p_tw2 (by decide+kernel))]]
noncomputable def oA:List MV→Option (Fl×List MV):=(gN kI #[k])
theorem tJ(H:gF L):SS L #[C,15] nE m4 0 (false||false) #[B,15] oA:= #v[w,[hG 0 #[B,15]],#v[h,(@rQ _ H),#v[x]]]
noncomputable def lx:List PV→Option PV:=AL 1 0 oA
theorem tK(H:gF L):iF L 1 (.ref (H.ad 15)) lx:= #v[G,H.fn__quote_periods,(@tJ _ H)]
noncomputable def qY:List Str:=[(Str.ofString "data")]
noncomputable def sI:gJ:=[((Str.ofString "data"),0)]
noncomputable def nP:List MV→Option (Fl×List MV):= #[h,(fun ρ=>((fun _=>some (.val (.ref Ft))) ρ).bind fun p=>(#[c,(fun _=>some (.str (Str.ofString "\r\n"))),#[c,#[0],#v[]]] ρ).bind fun ps=>BE Ft (BF [13,10] (iZ false)) p ps)]
theorem yd(H:gF L):S1 L #[C,16] sI qY 0 false #[N,0,#[B,16]] nP:= #v[F,#v[J,#v[S,H.g_tw3,(fun _ _ _ _=>rfl)],#v[b,#v[S,H.g_CRLF,H.v_CRLF],#v[b,#v[a,0],#v[e]]],#v[ak,IA,H.p_tw3]]]
noncomputable def ux:List MV→Option (Fl×List MV):=(gN nP #[k])
theorem BL(H:gF L):SS L #[C,16] sI qY 0 (false||false) #[B,16] ux:= #v[w,[hG 0 #[B,16]],#v[h,(@yd _ H),#v[x]]]
noncomputable def qg:List PV→Option PV:=AL 1 0 ux
theorem BM(H:gF L):iF L 1 (.ref (H.ad 16)) qg:= #v[G,H.fn__fix_eols,(@BL _ H)]
end
end
section
open PySem PyProof.Rows
theorem Dh(q:PV):gX (some (.p q))=some q:=rfl
theorem Lp(g:Int→Int→Option PV)(a b:Int):kM g (.int a) (.int b)=g a b:=rfl
theorem Lq:(∀a b,iA (.int a) (.int b)=if small a||small b then some (.int (a*b)) else none)∧(∀a n,iA (.str a) (.int n)=if decide (-1000≤n)&&decide (n≤1000)&&decide (a.length≤1000)&&decide ((rt a n).length≤100000) then some (.str (rt a n)) else none)∧ ∀a n,iA (.list a) (.int n)=if decide (-1000≤n)&&decide (n≤1000)&&decide (a.length≤1000) then some (.list (List.replicate n.toNat a).flatten) else none:=⟨fun _ _=>rfl,fun _ _=>rfl,fun _ _=>rfl⟩
theorem Fv:(∀n,i7 [.int n]=some (.vN 0 n 1))∧ ∀a b,i7 [.int a,.int b]=some (.vN a b 1):=⟨fun _=>rfl,fun _ _=>rfl⟩
theorem Di{K:Type}[DecidableEq K](k:K)(ks:List K)(v:PV)(vs:List PV)(x:K):jo (k::ks) (v::vs) x=if k=x then some v else jo ks vs x:=rfl
theorem uy{K:Type}[DecidableEq K](k:K)(ks:List K)(v:PV)(vs:List PV)(x:K)(p:PV):iw (k::ks) (v::vs) x p=if k=x then(k::ks,p::vs) else(k::(iw ks vs x p).1,v::(iw ks vs x p).2):=rfl
theorem Dj(a:Addr)(g:List PV→Option PV)(b:Addr)(ps:List PV):BE a g (.val (.ref b)) ps=if b=a then g ps else none:=rfl
theorem Fw(l:List PV):qw [.list l]=(jO l).bind fun ns=>if ns.all (fun n=>decide (0≤n)&&decide (n<256))&&mL l then some (.bytes (byteArr ns)) else none:=rfl
theorem Ed(n:Nat)(a b:Int):qN n (.int a) (.int b)=some (a==b):=by cases n<;>rfl
theorem Lr(n:Nat)(a b:Str):AI n (.str a) (.str b)=some (a==b):=by cases n<;>rfl
theorem MV.DT(q:PV):MV.mJ (.p q)= .p q:=rfl
end
section
open PySem PySem.StrLaws PySem.Builtin PySem.Builtin.Str
noncomputable def ly(sep:List Nat):List (List Nat)→List Nat
 |[]=>[]
 |[w]=>w
 |w::v::ws=>w++sep++ly sep (v::ws)
noncomputable def nF(s sub:Str)(hi limit:Nat)(st:Array Nat×Nat)(i:Nat):Array Nat×Nat:=if ((st.1.size<limit∧st.2≤i)∧i+sub.length≤hi)∧subAt s sub i=true then(st.1.push i,i+sub.length) else(st.1,st.2)
theorem Ls(s sub:Str)(hi limit:Nat): ∀(l:List Nat) (st:Array Nat×Nat),(forIn l st (occBody s sub hi limit)).run=l.foldl (nF s sub hi limit) st:=by
 intro l
 induction l with
 |nil=>exact @fun _=>rfl
 |cons a l hV=>
  intro st
  rw[dN,aL]
  unfold occBody nF
  split
  ·exact hV _
  ·exact hV _
noncomputable def wY:Nat→List (List Nat)→List Nat
 |a,w::v::ws=>(a+w.length)::wY (a+w.length+2) (v::ws)
 |_,_=>[]
theorem mA(s:Str)(i j:Nat):(s.cps.extract i j).toList=(s.cps.toList.drop i).take (j-i):=by
 rw[Array.toList_extract]
theorem Fx(x:Str)(c d i:Nat):subAt x ⟨#[c,d]⟩ i=true↔(x.cps.toList.drop i).take 2=[c,d]:=by
 unfold subAt
 rw[beq_iff_eq]
 constructor
 ·intro h
  have:=congrArg Array.toList h
  rw[mA] at this
  simpa[Str.length] using this
 ·intro h
  apply Array.toList_inj.mp
  rw[mA]
  simpa[Str.length] using h
theorem wZ{x:Str}{c d i:Nat}{l:List Nat}(h:x.cps.toList.drop i=l):subAt x ⟨#[c,d]⟩ i=true↔l.take 2=[c,d]:=h▸Fx x c d i
section
variable {x:Str} {c d limit i k:Nat} {l:List Nat} {f:Array Nat}
theorem IG(h:x.cps.toList.drop i=l)(hc:l.head?≠some c):nF x ⟨#[c,d]⟩ x.length limit (f,k) i=(f,k):=
 if_neg fun n=>hc (by
  have:=(wZ h).mp n.2
  cases l with
  |nil=>(first|exact VD this|cases this)
  |cons a l=>exact congrArg some (List.cons.inj this).1)
theorem IH(h:i<k):nF x ⟨#[c,d]⟩ x.length limit (f,k) i=(f,k):=if_neg fun n=>Nat.not_le.mpr h n.1.1.2
theorem BN(h:x.cps.toList.drop i=l):l.length=x.length-i:=h▸List.length_drop
theorem Fy(h:x.cps.toList.drop i=c::d::l)(hk:k≤i)(hl:f.size<limit):nF x ⟨#[c,d]⟩ x.length limit (f,k) i=(f.push i,i+2):=
 if_pos ⟨⟨⟨hl,hk⟩,by
  have:=BN h
  show i+2≤x.length
  rw[aY,aY] at this
  omega⟩,(wZ h).mpr rfl⟩
theorem oB{a i:Nat}{m l:List Nat}(h:m.drop i=a::l):m.drop (i+1)=l:=by rw[←List.tail_drop,h];rfl
theorem BO{k:Nat}: ∀(w:List Nat) (i:Nat),x.cps.toList.drop i=w++l→c∉w→ ∀n,(bE i (w.length+n)).foldl (nF x ⟨#[c,d]⟩ x.length limit) (f,k)=(bE (i+w.length) n).foldl (nF x ⟨#[c,d]⟩ x.length limit) (f,k):=by
 intro w
 induction w with
 |nil=>exact @fun i _ _ n=>by rw[gj,cN];rfl
 |cons a w hV=>
  intro i h hc n
  rw[aY,dr,cG,aL,IG h fun e=>hc (Option.some.inj e▸az ..),hV (i+1) (oB h) (fun e=>hc (av _ e)),dr i 1]
  rfl
end
theorem w0{m w l:List Nat}{i:Nat}(h:m.drop i=w++l):m.drop (i+w.length)=l:=by rw[←List.drop_drop,h,List.drop_left]
theorem Lu{x:Str}{c d limit:Nat}: ∀(ws:List (List Nat)) (i:Nat) (f:Array Nat),x.cps.toList.drop i=ly [c,d] ws→ws≠[]→(∀w∈ws,c∉w)→f.size+ws.length≤limit→
  ((bE i ((ly [c,d] ws).length+1)).foldl (nF x ⟨#[c,d]⟩ x.length limit) (f,i)).1.toList=f.toList++wY i ws:=by
 intro ws
 induction ws with
 |nil=>
  intro _ _ _ h _ _
  exact absurd rfl h
 |cons w ws ih=>
  cases ws with
  |nil=>
   intro i f hx _ hc _
   have Fd:x.cps.toList.drop i=w++[]:=hx.trans (bB w).symm
   have e:=(BO (limit:=limit) (f:=f) (k:=i) w i Fd (hc w (bK _)) 1).trans (IG (d:=d) (w0 Fd) nofun)
   exact(congrArg (fun p=>p.1.toList) e).trans (bB _).symm
  |cons v ws=>
   intro i f hx _ hc Xy
   have Fd:x.cps.toList.drop i=w++(c::d::ly [c,d] (v::ws)):=hx.trans (bW ..)
   have h1:=w0 Fd
   have hn:(ly [c,d] (w::v::ws)).length+1=w.length+((ly [c,d] (v::ws)).length+1+1+1):=by
    show(w++[c,d]++_).length+1=_
    rw[bW,aP]
    rfl
   rw[aY,aY] at Xy
   rw[hn,BO w i Fd (hc w (az ..)),cG,cG,aL,aL]
   have e:=ih (i+w.length+2) (f.push (i+w.length)) (oB (oB h1)) nofun (fun u hu=>hc u (av _ hu)) (by rw[Array.size_push,aY];omega)
   rw[Fy h1 (c7 _ _) (by omega),IH (dE _)]
   rw[dy,bW] at e
   exact e
theorem Fz{x:Str}{c d:Nat}: ∀(ws:List (List Nat)) (i:Nat),x.cps.toList.drop i=ly [c,d] ws→ws≠[]→partsFrom x 2 i (wY i ws)=ws.map fun w=>⟨w.toArray⟩:=by
 intro ws
 induction ws with
 |nil=>
  intro _ _ h
  exact absurd rfl h
 |cons w ws ih=>
  cases ws with
  |nil=>
   intro i hx _
   exact congrArg (fun p=>[(⟨p⟩:Str)]) (Array.toList_inj.mp (by
    rw[mA,hx]
    exact cK (bt (BN hx))))
  |cons v ws=>
   intro i hx _
   have Fd:x.cps.toList.drop i=w++(c::d::ly [c,d] (v::ws)):=hx.trans (bW ..)
   show strSub x i (i+w.length)::partsFrom x 2 (i+w.length+2) (wY (i+w.length+2) (v::ws))=_
   rw[ih (i+w.length+2) (oB (oB (w0 Fd))) nofun,aQ]
   exact congrArg (· ::_) (congrArg Str.mk (Array.toList_inj.mp (by rw[mA,Fd,dv,List.take_left])))
theorem BP{c d:Nat}(hc:c<256)(hd:d<256)(x:Str): ¬ aD.Str.strKind x<aD.Str.strKind ⟨#[c,d]⟩:=by
 have:aD.Str.strKind ⟨#[c,d]⟩=1:=by
  unfold aD.Str.strKind
  rw[if_pos]
  simp[hc,hd]
 rw[this]
 unfold aD.Str.strKind
 repeat' split
 all_goals omega
theorem Lv(c:Nat)(sep:List Nat): ∀ws:List (List Nat),ws.length≤(ly (c::sep) ws).length+1:=by
 intro ws
 induction ws with
 |nil=>
  exact aC _
 |cons w ws ih=>
  cases ws with
  |nil=>
   exact gn _ _
  |cons v ws=>
   have ih:=ih
   show(v::ws).length+1≤(w++c::sep++ly (c::sep) (v::ws)).length+1
   rw[bW,aP,aP (as:=c::sep),aY]
   rw[aY] at ih ⊢
   omega
theorem Lw{x:Str}{c d:Nat}(hc:c<256)(hd:d<256){ws:List (List Nat)}(hx:x.cps.toList=ly [c,d] ws)(iS:ws≠[])(hw: ∀w∈ws,c∉w)(hJ:ws.length≤x.length+1):Txt.split x ⟨#[c,d]⟩=ws.map fun w=>⟨w.toArray⟩:=by
 have ho:occurrences x ⟨#[c,d]⟩ 0 x.length (x.length+1)=wY 0 ws:=by
  have e:=Lu (limit:=x.length+1) ws 0 #[] hx iS hw (Nat.le_trans (bt (cN _)) hJ)
  rw[←hx,aW] at e
  rw[occ_eq,Ls]
  exact e
 have hp:=Fz ws 0 hx iS
 unfold Txt.split
 rw[ho]
 match ws,iS with
 |[w],_=>
  have e:=(congrArg (fun x=>[x]) (sub_whole x).symm).trans hp
  split
  ·exact e
  ·exact e
 |w::v::ws,_=>
  rw[if_neg,if_neg nofun,partsBetween_eq]
  ·exact hp
  ·rw[eO,decide_eq_true_eq,decide_eq_true_eq]
   refine fun h=>h.elim (fun h=> ?_) (BP hc hd _)
   have e:x.length=(w++[c,d]++ly [c,d] (v::ws)).length:=Array.length_toList.symm.trans (congrArg List.length hx)
   rw[e,aP,aP] at h
   exact Nat.not_lt.mpr (Nat.le_trans (gn 2 _) (c7 _ _)) h
theorem FA{c d:Nat}(hc:c<256)(hd:d<256){ws:List (List Nat)}(iS:ws≠[])(hw: ∀w∈ws,c∉w):Txt.split ⟨(ly [c,d] ws).toArray⟩ ⟨#[c,d]⟩=ws.map fun w=>⟨w.toArray⟩:=
 Lw hc hd rfl iS hw (Lv _ _ ws)
theorem II(sep:Str): ∀ws:List (List Nat),Txt.join sep (ws.map fun w=>⟨w.toArray⟩)=⟨(ly sep.cps.toList ws).toArray⟩:=by
 intro ws
 induction ws with
 |nil=>exact rfl
 |cons w ws hV=>
  unfold Txt.join glued
  congr 1
  show(ws.map fun w=>(⟨w.toArray⟩:Str)).foldl (fun acc p=>acc++sep.cps++p.cps) w.toArray=_
  have key: ∀(ws:List (List Nat)) (w:List Nat),(ws.map fun w=>(⟨w.toArray⟩:Str)).foldl (fun acc p=>acc++sep.cps++p.cps) w.toArray=(ly sep.cps.toList (w::ws)).toArray:=by
   intro ws
   induction ws with
   |nil=>intro w;rfl
   |cons v ws ih=>
    intro w
    rw[aQ,aL]
    have e:w.toArray++sep.cps++v.toArray=(w++sep.cps.toList++v).toArray:=by apply Array.toList_inj.mp;simp
    show(ws.map fun w=>(⟨w.toArray⟩:Str)).foldl _ (w.toArray++sep.cps++v.toArray)=_
    rw[e,ih]
    cases ws with
    |nil=>simp[ly]
    |cons u ws=>simp[ly]
  exact key ws w
end
section
open PySem PyProof.Rows
noncomputable def JZ(i:Nat):PV:=(jo [1,2,4,8,16,32,64,128,256,512] [.str (Str.ofString "OPTIMIZED"),.str (Str.ofString "NEWLOCALS"),.str (Str.ofString "VARARGS"),.str (Str.ofString "VARKEYWORDS"),.str (Str.ofString "NESTED"),.str (Str.ofString "GENERATOR"),.str (Str.ofString "NOFREE"),.str (Str.ofString "COROUTINE"),.str (Str.ofString "ITERABLE_COROUTINE"),.str (Str.ofString "ASYNC_GENERATOR")] ((1:Int)*2^i)).getD (.str (baseText "0x" 16 (1*2^i)))
noncomputable def Lx(m:Int):PV:= .str (baseText "0x" 16 m)
theorem IJ: ∀i<32,(baseText "0x" 16 ((1:Int)*2^i)).length≤100000:=by decide+kernel
theorem z0(i:Nat)(m:Int):aD.bitAnd (2^i*m) (1*2^i)=(m%2)*2^i:=by
 rw[gk,PySem.W.kbt_bit,Int.mul_ediv_cancel_left _ (eJ (Int.pow_pos (by decide)))]
theorem BQ(i:Nat):(0:Int)<2^i:=Int.pow_pos (by decide)
theorem Ly{i:Nat}{m:Int}(h:m%2=1):aD.bitXor (2^i*m) (1*2^i)=2^(i+1)*(m/2):=by
 rw[PyProof.Rows.bitXor_and,z0,h,eI]
 have:m=2*(m/2)+1:=by omega
 generalize m/2=q at this
 subst this
 generalize (2:Int)^i=p
 rw[ff,dI p 2 q]
 omega
theorem IK{i:Nat}{m:Int}(h: ¬ m%2=1):(2:Int)^i*m=2^(i+1)*(m/2):=by
 have:m=2*(m/2):=by omega
 generalize m/2=q at this
 subst this
 rw[eI,dI]
theorem small_one:small 1=true:=by decide
theorem g0{α β:Type}{o:Option α}{a:α}{f:α→β}(h:o=some a):o.map f=some (f a):=h▸rfl
theorem gz{α β:Type}{o:Option α}{a:α}{f:α→Option β}(h:o=some a):o.bind f=f a:=h▸rfl
theorem gy{x:Option PV}{y:Option (List PV)}{a:PV}{l:List PV}(h:x=some a)(h':y=some l):(x.bind fun a=>y.map (a:: ·))=some (a::l):=(gz h).trans (g0 h')
theorem ct{f g:List MV→Option PV}{o:PV→PV→Option PV}{ρ:List MV}{a b:PV}{r:Option PV}(hf:f ρ=some a)(hg:g ρ=some b)(h:o a b=r):iy f g o ρ=r:=(gz hf).trans ((gz hg).trans h)
theorem ip{n:Nat}{f₀:List MV→Option (List PV)}{f₁:List MV→List PV→Option (List PV)}{ρ:List MV}{ps out:List PV}(h:f₀ ρ=some ps)(h1:f₁ (List.replicate n .un++ρ.map MV.mJ) ps=some out)(hf:mL out=true):iB n f₀ f₁ ρ=some (.list out):=(gz h).trans ((gz h1).trans (if_pos hf))
theorem j4{α β:Type}{f g:α→β}{l:List α}(h:l.map f=l.map g){a:α}(ha:a∈l):f a=g a:=List.map_inj_left.mp h a ha
theorem Ee{α β γ:Type}{f g:α→β→γ}{l:List α}{l':List β}(h:l.map (fun a=>l'.map (f a))=l.map fun a=>l'.map (g a)){a:α}(ha:a∈l){b:β}(hb:b∈l'):f a b=g a b:=j4 (j4 h ha) hb
theorem iG{u:PV→List MV→Option (List MV)}{t:List MV→Option Bool}{e:List MV→Option PV}{ρ gK:List MV}{p v:PV}(hu:u p ρ=some gK)(ht:t gK=some true)(he:e gK=some v):il u t e ρ p=some [v]:=(gz hu).trans ((gz ht).trans (g0 he))
theorem uz{u:PV→List MV→Option (List MV)}{t:List MV→Option Bool}{e:List MV→Option PV}{ρ gK:List MV}{p:PV}(hu:u p ρ=some gK)(ht:t gK=some false):il u t e ρ p=some []:=(gz hu).trans (gz ht)
theorem jh{α:Type}{step:List MV→PV→Option (List PV)}{ρ:List MV}{c g:α→PV}: ∀{l:List α},(∀a∈l,step ρ (c a)=some [g a])→i9 step ρ (l.map c)=some (l.map g):=by
 intro l
 induction l with
 |nil=>exact @fun _=>rfl
 |cons a l hV=>exact @fun h=>(gz (h a (az ..))).trans (g0 (hV fun b hb=>h b (av _ hb)))
theorem sJ{α:Type}{step:List MV→PV→Option (List PV)}{ρ:List MV}{c g:α→PV}{q:α→Bool}: ∀{l:List α},(∀a∈l,step ρ (c a)=some (if q a then[g a] else[]))→i9 step ρ (l.map c)=some ((l.filter q).map g):=by
 intro l
 induction l with
 |nil=>exact @fun _=>rfl
 |cons a l hV=>
  intro h
  have e:i9 step ρ ((a::l).map c)=some ((if q a then[g a] else[])++(l.filter q).map g):=(gz (h a (az ..))).trans (g0 (hV fun b hb=>h b (av _ hb)))
  rw[e,List.filter_cons]
  cases q a<;>rfl
theorem qB{i:Int}{m:Nat}(h:i.natAbs<m)(hm:Nat.ble m (2^63)=true):small i=true:=decide_eq_true (bq h (cx hm))
theorem ji{o:Option PV}{c b:Bool}(h:o=some (.bool c))(e:c=b):o.bind lg=some b:=e▸gz h
theorem qh{x:Option (List PV)}{l:List PV}(h:x=some l)(hf:mL l=true):(x.bind fun l=>if mL l then some (PV.tup l) else none)=some (.tup l):=(gz h).trans (if_pos hf)
theorem uA{x:Option (List PV)}{l:List PV}(h:x=some l)(hf:mL l=true):(x.bind fun l=>if mL l then some (PV.list l) else none)=some (.list l):=(gz h).trans (if_pos hf)
theorem gA{α β:Type}{o:Option α}{a:α}{f:α→Option β}{r:Option β}(h:o=some a)(h2:f a=r):o.bind f=r:=(gz h).trans h2
theorem oO{step:List MV→PV→Option (List PV)}{ρ:List MV}{p:PV}{ps a b:List PV}(h:step ρ p=some a)(h':i9 step ρ ps=some b):i9 step ρ (p::ps)=some (a++b):=(gz h).trans (g0 h')
theorem kR{u:PV→List MV→Option (List MV)}{B fo:List MV→Option (Fl×List MV)}{ρ gK jV:List MV}{p:PV}{ps:List PV}(h:u p ρ=some gK)(hB:B gK=some (.next,jV)):mM u B fo ρ (p::ps)=mM u B fo jV ps:=(gz (o:=u p ρ) h).trans (gz (o:=B gK) hB)
theorem IL{u:PV→List MV→Option (List MV)}{B fo:List MV→Option (Fl×List MV)}{ρ gK jV:List MV}{p:PV}{ps:List PV}(h:u p ρ=some gK)(hB:B gK=some (.brk,jV)):mM u B fo ρ (p::ps)=some (.next,jV):=(gz (o:=u p ρ) h).trans (gz (o:=B gK) hB)
theorem BR{u:PV→List MV→Option (List MV)}{B fo:List MV→Option (Fl×List MV)}{ρ gK jV:List MV}{p v:PV}{ps:List PV}(h:u p ρ=some gK)(hB:B gK=some (.ret v,jV)):mM u B fo ρ (p::ps)=some (.ret v,jV):=(gz (o:=u p ρ) h).trans (gz (o:=B gK) hB)
theorem gB{f g:List MV→Option (Fl×List MV)}{ρ ρ':List MV}(h:f ρ=some (.next,ρ')):gN f g ρ=g ρ':=gz (o:=f ρ) h
theorem jG{f g:List MV→Option (Fl×List MV)}{ρ ρ':List MV}{v:PV}(h:f ρ=some (.ret v,ρ')):gN f g ρ=some (.ret v,ρ'):=gz (o:=f ρ) h
theorem w3{i:Nat}{f:List MV→Option (Fl×List MV)}{ρ:List MV}{m:MV}{q:PV}(h:ρ[i]? =some m)(hq:m.yR=some q):oM i f ρ=f (ρ.set i (.p q)):=gz ((gz h).trans hq)
theorem nG{n m:Nat}{f:List MV→Option (Fl×List MV)}{ps:List PV}{ρ ρ':List MV}{v:PV}(hl:ps.length=n)(VU:ps.map .p++List.replicate m .un=ρ)(h:f ρ=some (.ret v,ρ')):AL n m f ps=some v:=by
 unfold AL
 rw[if_pos hl,VU,h]
 rfl
theorem append_at{i:Nat}{f:List MV→Option PV}{ρ:List MV}{l:List PV}{v:PV}(h:Ku ρ i=some l)(hl:l.length≤100000)(hv:f ρ=some v):oL i f ρ=some (.next,ρ.set i (.ol (l++[v]))):=(gz h).trans ((if_pos hl).trans (g0 hv))
section
variable {i:Nat} {m:Int} {l:List PV} {b:MV}
noncomputable def Px(f:Int)(l:List PV)(i:Int)(b:MV):List MV:=[.p (.int f),.ol l,.p (.int i),b]
theorem Lz(hi:i<32):kH (Px m l i b)=some (.next,Px m l i (.p (.int (1*2^i)))):=
 g0 (o:=vS (.int 1) (.int (i:Int))) (if_pos (by rw[small_one,Bool.true_and,dK,decide_eq_true_eq,decide_eq_true_eq];omega))
theorem LA(h: ¬ m%2=1):jf (Px (2^i*m) l i (.p (.int (1*2^i))))=some (.next,Px (2^(i+1)*(m/2)) l i (.p (.int (1*2^i)))):=by
 have e:(aD.bitAnd (2^i*m) (1*2^i)!=0)=false:=by rw[z0,(eS m).resolve_right h,fP];rfl
 exact(gz (o:=some (aD.bitAnd (2^i*m) (1*2^i)!=0)) (congrArg some e)).trans (IK h▸rfl)
theorem Py(hi:i<32)(hl:l.length≤100)(h:m%2=1):jf (Px (2^i*m) l i (.p (.int (1*2^i))))=some (if m/2=0 then .brk else .next,Px (2^(i+1)*(m/2)) (l++[JZ i]) i (.p (.int (1*2^i)))):=by
 have e:(aD.bitAnd (2^i*m) (1*2^i)!=0)=true:=by rw[z0,h,gk,bne_iff_ne];exact eJ (BQ i)
 refine(gz (o:=some (aD.bitAnd (2^i*m) (1*2^i)!=0)) (congrArg some e)).trans ((gB (append_at (v:=JZ i) rfl (Nat.le_trans hl (by decide)) ?_)).trans ((gB (ρ':=Px (2^(i+1)*(m/2)) (l++[JZ i]) i (.p (.int (1*2^i)))) (Ly h▸rfl)).trans ?_))
 ·exact(gz (o:=((Bc [.int (1*2^i)]).bind fun a=>some [a]).map (.int (1*2^i):: ·)) (g0 (gz (if_pos (IJ i hi)))))
 ·by_cases hz:m/2=0
  ·rw[hz,Int.mul_zero];rfl
  ·rw[if_neg hz]
   have e2:(2^(i+1)*(m/2)!=0)=true:=bne_iff_ne.mpr (Int.mul_ne_zero (eJ (BQ _)) hz)
   exact(gB (gz (o:=some (!(2^(i+1)*(m/2)!=0))) (congrArg (fun b=>some (!b)) e2)))
end
noncomputable def w4(i:Nat)(qs:List Nat):Int:=(qs.map fun q=>(2:Int)^(q-i)).sum
noncomputable def u4(i:Nat)(qs:List Nat)(e:Int):Int:=w4 i qs+e*2^(32-i)
theorem BS{i:Nat}: ∀{qs:List Nat},(∀q∈qs,i+1≤q)→w4 i qs=2*w4 (i+1) qs:=by
 intro qs
 induction qs with
 |nil=>exact @fun _=>rfl
 |cons q qs hV=>
  intro h
  have ih:=hV fun q' h'=>h q' (av _ h')
  have hq:=h q (az ..)
  unfold w4 at ih ⊢
  rw[aQ,aQ,List.sum_cons,List.sum_cons,ih,Po hq,eI,ff,fS (2^_)]
theorem uB{i:Nat}{qs:List Nat}{e:Int}(hi:i<32)(h: ∀q∈qs,i+1≤q):u4 i qs e=2*u4 (i+1) qs e:=by
 unfold u4
 rw[BS h,Po hi,eI,ff]
 congr 1
 rw[←dI,fS]
theorem FC{i:Nat}{qs:List Nat}{e:Int}(hi:i<32)(h: ∀q∈qs,i+1≤q):u4 i (i::qs) e=1+2*u4 (i+1) qs e:=by
 rw[←uB hi h]
 unfold u4 w4
 rw[aQ,List.sum_cons,Nat.sub_self,Int.pow_zero]
 omega
noncomputable def rR:Nat→Nat→Int→List Nat×Int
 |0,_,m=>([],m)
 |k+1,i,m=>if m%2=1 then(i::(rR k (i+1) (m/2)).1,(rR k (i+1) (m/2)).2) else rR k (i+1) (m/2)
theorem w5{k i:Nat}{m:Int}(h:m%2=1):rR (k+1) i m=(i::(rR k (i+1) (m/2)).1,(rR k (i+1) (m/2)).2):=if_pos h
theorem tL{k i:Nat}{m:Int}(h: ¬ m%2=1):rR (k+1) i m=rR k (i+1) (m/2):=if_neg h
theorem FD: ∀k i:Nat,rR k i 0=([],0):=by
 intro k
 induction k with
 |zero=>exact @fun _=>rfl
 |succ k hV=>exact @fun i=>hV (i+1)
theorem FE: ∀(k i:Nat) (m:Int),(rR k i m).1=[]→(rR k i m).2=0→m=0:=by
 intro k
 induction k with
 |zero=>exact @fun _ _ _ h=>h
 |succ k hV=>
  intro i m h1 h2
  by_cases h:m%2=1
  ·rw[w5 h] at h1;(first|exact VD h1|cases h1)
  ·rw[tL h] at h1 h2
   exact(Int.mul_ediv_add_emod m 2).symm.trans (by rw[hV (i+1) (m/2) h1 h2,(eS m).resolve_right h];rfl)
theorem IM: ∀(k i:Nat) (qs:List Nat) (e:Int),i+k=32→qs.Pairwise (· < ·)→(∀q∈qs,i≤q∧q<32)→rR k i (u4 i qs e)=(qs,e):=by
 intro k
 induction k with
 |zero=>
  intro i qs e hi _ hb
  cases qs with
  |nil=>(first|exact VD hi|cases hi);exact congrArg (Prod.mk _) ((dW _).trans (gm e))
  |cons q qs=>have:=hb q (az ..);omega
 |succ k ih=>
  intro i qs e hi hp hb
  have HG:i+1+k=32:=by omega
  have SM:(∀q∈qs,i+1≤q)→rR (k+1) i (u4 i qs e)=(qs,e):=fun h=>by
   have ih:=ih (i+1) qs e HG hp fun q hq=>⟨h q hq,(hb q hq).2⟩
   rw[uB (by omega) h,tL (by omega),Int.mul_ediv_cancel_left _ (by decide)]
   exact ih
  cases qs with
  |nil=>exact SM fun q h=>nomatch h
  |cons q qs=>
   have ht:=(List.pairwise_cons.mp hp).1
   by_cases hq:q=i
   ·subst hq
    have ih:=ih (q+1) qs e HG (List.pairwise_cons.mp hp).2 fun q' h'=>⟨ht q' h',(hb q' (av _ h')).2⟩
    rw[FC (by omega) ht,w5 (by omega),show(1+2*u4 (q+1) qs e)/2=u4 (q+1) qs e by omega,ih]
   ·have hl:=fA (hb q (az ..)).1 (Ne.symm hq)
    exact SM fun q' h'=>(List.mem_cons.mp h').elim (fun e=>e▸hl) fun h=>bj hl (ht q' h)
noncomputable def w6(qs:List Nat)(e:Int):List PV:=if qs≠[]∧e=0 then[] else[Lx (2^32*e)]
noncomputable def tM(p:List Nat×Int):List PV:=p.1.map JZ++w6 p.1 p.2
theorem BU{q:Nat}{p:List Nat×Int}(h:p.1=[]→p.2≠0):tM (q::p.1,p.2)=JZ q::tM p:=by
 have:w6 (q::p.1) p.2=w6 p.1 p.2:=by
  unfold w6
  by_cases he:p.2=0
  ·rw[if_pos ⟨bZ _ _,he⟩,if_pos ⟨fun e=>h e he,he⟩]
  ·rw[if_neg fun x=>he x.2,if_neg fun x=>he x.2]
 unfold tM
 rw[this]
 rfl
noncomputable def pfE:List MV→Option (Fl×List MV):=gN (oL 1 #[f,#[c,#[0],#v[]],Bc]) #[k]
theorem LB: ∀(k i:Nat) (m:Int) (l:List PV) (a b:MV),i+k=32→l.length+k≤100→(baseText "0x" 16 ((2:Int)^32*(rR k i m).2)).length≤100000→
  ∃c d x,mM #[n,2] lu pfE [.p (.int (2^i*m)),.ol l,a,b] ((bE i k).map fun j=>PV.int (j:Nat))=some (.next,[c,.ol (l++tM (rR k i m)),d,x]):=by
 intro k
 induction k with
 |zero=>
  intro i m l a b hi hl hx
  skip;(first|exact VD hi|cases hi)
  exact⟨_,a,b,gB (append_at (v:=Lx (2^32*m)) rfl (Nat.le_trans hl (by decide)) (if_pos hx))⟩
 |succ k hV=>
  intro i m l a b hi hl hx
  have HG:i+1+k=32:=by omega
  have Ef:i<32:=by omega
  have h0:=(gB (g:=gN jf #[k]) (Lz (m:=2^i*m) (l:=l) (b:=b) Ef))
  by_cases h:m%2=1
  ·have h1:=Py Ef (by omega:l.length≤100) h
   rw[w5 h] at hx ⊢
   by_cases hz:m/2=0
   ·rw[if_pos hz] at h1
    rw[hz,FD]
    exact⟨_,_,_,IL rfl (h0.trans (gz h1))⟩
   ·rw[if_neg hz] at h1
    obtain⟨c,d,x,ih⟩:=hV (i+1) (m/2) (l++[JZ i]) (.p (.int (i:Int))) (.p (.int (1*2^i))) HG (by rw[aP,eQ];omega) hx
    refine⟨c,d,x,?_⟩
    rw[BU fun h h'=>hz (FE _ _ _ h h'),fX]
    exact(kR rfl (h0.trans (gB h1))).trans ih
  ·rw[tL h] at hx ⊢
   obtain⟨c,d,x,ih⟩:=hV (i+1) (m/2) l (.p (.int (i:Int))) (.p (.int (1*2^i))) HG (by omega) hx
   exact⟨c,d,x,(kR rfl (h0.trans (gB (LA h)))).trans ih⟩
theorem LC:itemsOf (.vN 0 32 1)=some ((bE 0 32).map fun j=>PV.int (j:Nat)):= (by kernel_rfl)
theorem FF{qs:List Nat}{e:Int}{ts:List Str}(hp:qs.Pairwise (· < ·))(hb: ∀q∈qs,q<32)(hx:(baseText "0x" 16 ((2:Int)^32*e)).length≤100000)(Gm:pZ (qs.map JZ++w6 qs e)=some ts)(hj:JoinOk (Str.ofString ", ") ts=true):
  jg [.int (w4 0 qs+e*2^32)]=some (.str (Txt.join (Str.ofString ", ") ts)):=by
 have hv:=IM 32 0 qs e rfl hp fun q h=>⟨aC _,hb q h⟩
 obtain⟨c,d,x,h⟩:=LB 32 0 (u4 0 qs e) [] .un .un rfl (by decide) (by rw[hv];exact hx)
 rw[hv,Int.pow_zero,gk] at h
 have h2:rF (.str (Str.ofString ", ")) [.list ([]++tM (qs,e))]=some (.str (Txt.join (Str.ofString ", ") ts)):=(gz Gm).trans (if_pos hj)
 exact nG (f:=mY) rfl rfl ((gB (ρ':=[.p (.int (u4 0 qs e)),.ol [],.un,.un]) rfl).trans ((gB ((gz (o:=itemsOf (.vN 0 32 1)) LC).trans h)).trans ((w3 rfl rfl).trans (jG (g0 (o:=rF (.str (Str.ofString ", ")) [.list ([]++tM (qs,e))]) h2)))))
end
section
open PySem PyProof.Rows
section
variable {L:ic}
noncomputable def qi:List Str:=[(Str.ofString "row")]
noncomputable def qZ:gJ:=[((Str.ofString "row"),0)]
noncomputable def qj:List MV→Option (Fl×List MV):= #[h,#[t,#[c,#[b,#[0],#[i,0],gC],#[c,#[b,#[0],#[i,1],gC],#[c,#[b,#[0],#[i,2],gC],#[c,#[b,#[0],#[i,3],gC],#[c,(fun ρ=>(#[t,#[c,#[b,#[0],#[i,4],gC],#[c,#[b,#[0],#[i,5],gC],#[c,#[b,#[b,#[0],#[i,0],gC],#[b,#[0],#[i,5],gC],ko],#[c,#[b,#[b,#[0],#[i,1],gC],#[b,#[0],#[i,4],gC],gR],#v[]]]]]] ρ).bind fun a=>(#[b,#[b,#[i,2],#[b,#[0],#[i,4],gC],iA],#[b,#[0],#[i,5],gC],ko] ρ).map fun b=> .iM [(Str.ofString "f"),(Str.ofString "g")] [a,b]),#v[]]]]]]]]
theorem w7(H:gF L):S1 L #[C,18] qZ qi 0 false #[N,0,#[B,18]] qj:= #v[F,#v[I,#v[b,#v[k,#v[a,0],#v[c]],#v[b,#v[k,#v[a,0],#v[c]],#v[b,#v[k,#v[a,0],#v[c]],#v[b,#v[k,#v[a,0],#v[c]],#v[b,(by exact @SE.QO _ _ _ _ _ _ _ _ _ _ _ _ _ _ _ #v[I,#v[b,#v[k,#v[a,0],#v[c]],#v[b,#v[k,#v[a,0],#v[c]],#v[b,#v[d,#v[k,#v[a,0],#v[c]],#v[k,#v[a,0],#v[c]],kp],#v[b,#v[d,#v[k,#v[a,0],#v[c]],#v[k,#v[a,0],#v[c]],gS],#v[e]]]]]] #v[d,#v[d,#v[c],#v[k,#v[a,0],#v[c]],jd],#v[k,#v[a,0],#v[c]],kp] (by decide+kernel)),#v[e]]]]]]]]
noncomputable def sL:List MV→Option (Fl×List MV):=(gN qj #[k])
theorem z5(H:gF L):SS L #[C,18] qZ qi 0 (false||false) #[B,18] sL:= #v[w,[hG 0 #[B,18]],#v[h,(@w7 _ H),#v[x]]]
noncomputable def jS:List PV→Option PV:=AL 1 0 sL
theorem mB(H:gF L):iF L 1 (.ref (H.ad 18)) jS:= #v[G,H.fn__law_entry,(@z5 _ H)]
noncomputable def sM:List Str:=[(Str.ofString "entry")]
noncomputable def uC:gJ:=[((Str.ofString "entry"),0)]
noncomputable def sN:List MV→Option (Fl×List MV):= #[h,#[b,#[d,#[0],#[z],#[f,#[i,4],lb]],#[d,#[b,#[b,#[0],#[i,4],gC],(fun _=>some (.str (Str.ofString "f"))),gC],#[z],#[f,#[i,2],lb]],gR]]
theorem z6(H:gF L):S1 L #[C,19] uC sM 0 false #[N,0,#[B,19]] sN:= #v[F,#v[d,#v[M,#v[a,0],#v[V],#v[K,#v[c]]],#v[M,#v[k,#v[k,#v[a,0],#v[c]],#v[D]],#v[V],#v[K,#v[c]]],gS]]
noncomputable def w8:List MV→Option (Fl×List MV):=(gN sN #[k])
theorem Dk(H:gF L):SS L #[C,19] uC sM 0 (false||false) #[B,19] w8:= #v[w,[hG 0 #[B,19]],#v[h,(@z6 _ H),#v[x]]]
noncomputable def kg:List PV→Option PV:=AL 1 0 w8
theorem m5(H:gF L):iF L 1 (.ref (H.ad 19)) kg:= #v[G,H.fn__law_row,(@Dk _ H)]
noncomputable def ra:List Str:=[(Str.ofString "one"),(Str.ofString "other")]
noncomputable def sO:gJ:=[((Str.ofString "one"),0),((Str.ofString "other"),1)]
noncomputable def rb:List MV→Option (Fl×List MV):= #[h,#[b,#[b,#[i,10],#[f,#[c,#[0],#[c,#[1],#v[]]],M0],iA],#[f,#[c,#[0],#[c,#[1],#v[]]],M1],gR]]
theorem ye(H:gF L)(hn:L.exc=none):S1 L #[C,20] sO ra 0 false #[N,0,#[B,20]] rb:= #v[F,#v[d,#v[d,#v[c],#v[i,H.b_min,.builtin _,(Kq hn).less (aC _),#v[b,#v[a,0],#v[b,#v[a,1],#v[e]]]],jd],#v[i,H.b_max,.builtin _,(Kr hn).less (aC _),#v[b,#v[a,0],#v[b,#v[a,1],#v[e]]]],gS]]
noncomputable def uD:List MV→Option (Fl×List MV):=(gN rb #[k])
theorem BV(H:gF L)(hn:L.exc=none):SS L #[C,20] sO ra 0 (false||false) #[B,20] uD:= #v[w,[hG 0 #[B,20]],#v[h,(@ye _ H hn),#v[x]]]
noncomputable def jr:List PV→Option PV:=AL 2 0 uD
theorem lW(H:gF L)(hn:L.exc=none):iF L 1 (.ref (H.ad 20)) jr:= #v[G,H.fn__law_code,(@BV _ H hn)]
noncomputable def iN:List Str:=[(Str.ofString "rows"),(Str.ofString "centre"),(Str.ofString "keys"),(Str.ofString "code"),(Str.ofString "spokes"),(Str.ofString "low"),(Str.ofString "high"),(Str.ofString "ways"),(Str.ofString "k"),(Str.ofString "way")]
noncomputable def jb:gJ:=[((Str.ofString "rows"),0),((Str.ofString "centre"),1),((Str.ofString "keys"),2),((Str.ofString "code"),3),((Str.ofString "spokes"),4),((Str.ofString "low"),5),((Str.ofString "high"),6),((Str.ofString "ways"),7),((Str.ofString "k"),8),((Str.ofString "way"),9)]
noncomputable def oP:List MV→Option (Fl×List MV):= #[e,4,#[b,#[b,#[l,#[c,iy #[0] #[1] gC,#v[]]],#[d,#[0],#[f,#[i,6],lb],#[z]],gR],#[l,#[c,#[b,#[0],#[b,#[b,#[1],#[i,5],gR],#[i,6],jn],gC],#v[]]],gR]]
theorem z7(H:gF L)(hn:L.exc=none):S1 L #[C,21] jb iN 1 false #[N,0,#[B,21]] oP:= #v[v,#v[d,#v[d,#v[y,#v[b,#v[k,#v[a,0],#v[a,1]],#v[e]]],#v[M,#v[a,0],#v[K,#v[c]],#v[V]],gS],#v[y,#v[b,#v[k,#v[a,0],#v[d,#v[d,#v[a,1],#v[c],gS],#v[c],iV]],#v[e]]],gS],#v[f,4],(fun env h=>by (first|exact VD env|cases env);(first|exact VD h|cases h);kernel_rfl)]
noncomputable def mD:List MV→Option (Fl×List MV):=(fun ρ=>(#[f,#[c,(iB 1 #[f,#[f,#[c,#[3],#[c,#[i,10],#v[]]],j9],itemsOf] #[o,(gL [0] #[n,0]),#[y],#[b,iy #[0] #[2] ko,#[i,6],jn]]),#v[]],kT] ρ).bind fun v=>(#[m,[5,6]] v ρ).map fun ρ'=>(.next,ρ'))
theorem z8(H:gF L)(hn:L.exc=none):S1 L #[C,21] jb iN 1 false #[N,1,#[B,21]] mD:= #v[U,#v[i,H.b_sorted,.builtin _,qx.less (aC _),#v[b,#v[u,[(Str.ofString "corner")],#v[m,#v[i,H.b_divmod,.builtin _,n4.less (aC _),#v[b,#v[a,3],#v[b,#v[c],#v[e]]]]],#v[r,(fun h=>by (first|exact VD h|cases h)),#v[l,[0],#v[s,#v[f,0]]],Keeps.name,#v[t],#v[d,#v[d,#v[a,0],#v[a,2],kp],#v[c],iV]]],#v[e]]],#v[z,.cons (.cons gZ.nil),(.cons (@iD _ _ (by kernel_rfl)) (@gH _ _ (5) (by kernel_rfl) (@kx _ (by kernel_rfl))) (.cons (@iD _ _ (by kernel_rfl)) (@gH _ _ (6) (by kernel_rfl) (@kx _ (by kernel_rfl))) i8.nil))],(fun env h=>by (first|exact VD env|cases env);(first|exact VD h|cases h);kernel_rfl),(fun env h=>by (first|exact VD env|cases env);(first|exact VD h|cases h);kernel_rfl)]
noncomputable def kX:List MV→Option (Fl×List MV):= #[x,#[q,#[5],#[i,0],AY],(gN #[h,#[f,#[c,#[b,#[4],#[b,#[6],#[i,1],ko],gC],#v[]],jS]] #[k]),#[k]]
theorem z9(H:gF L)(hn:L.exc=none):S1 L #[C,21] jb iN 1 ((false||false)||false) #[N,2,#[B,21]] kX:= #v[O,#v[B,#v[a,5],#v[c],AZ],#v[A,#v[P,#v[i,H.g__law_entry,(H.fn__law_entry).callee,((mB H).less (by decide)),#v[b,#v[k,#v[a,4],#v[d,#v[a,6],#v[c],kp]],#v[e]]]],#v[o]],#v[o]]
noncomputable def mE:List MV→Option (Fl×List MV):=(EZ 10 7 (fun _=>some (.ol [])))
theorem Aa(H:gF L)(hn:L.exc=none):S1 L #[C,21] jb iN 1 true #[N,3,#[B,21]] mE:= #v[Y,#v[aj],#v[f,7],(fun env h=>by (first|exact VD env|cases env);(first|exact VD h|cases h);kernel_rfl)]
noncomputable def m6:List MV→Option (Fl×List MV):= #[e,9,(iB 3 #[f,#[c,#[b,#[0],#[b,iy #[1] #[8] gR,#[i,6],jn],gC],#[c,#[b,#[4],#[b,#[8],#[i,1],ko],gC],#[c,#[b,#[4],#[8],gC],#v[]]]],ur] #[o,(gL [0,1,2] #[m,[0,1,2]]),#[y],#[b,iy #[0] #[1] ko,#[2],ko]])]
theorem w9(H:gF L)(hn:L.exc=none):S1 L #[C,21] jb iN 1 false #[N,0,#[F,#[N,4,#[B,21]]]] m6:= #v[v,#v[u,([(Str.ofString "x"),(Str.ofString "y"),(Str.ofString "z")]),#v[ac,H.b_zip,#v[b,#v[k,#v[a,0],#v[d,#v[d,#v[a,1],#v[a,8],gS],#v[c],iV]],#v[b,#v[k,#v[a,4],#v[d,#v[a,8],#v[c],kp]],#v[b,#v[k,#v[a,4],#v[a,8]],#v[e]]]]],#v[r,(fun _=>rfl),#v[l,[0,1,2],#v[z,.cons (.cons (.cons gZ.nil)),(.cons (@iD _ _ (by kernel_rfl)) (@gH _ _ (0) (by kernel_rfl) (@kx _ (by kernel_rfl))) (.cons (@iD _ _ (by kernel_rfl)) (@gH _ _ (1) (by kernel_rfl) (@kx _ (by kernel_rfl))) (.cons (@iD _ _ (by kernel_rfl)) (@gH _ _ (2) (by kernel_rfl) (@kx _ (by kernel_rfl))) i8.nil)))]],Keeps.tup,#v[t],#v[d,#v[d,#v[a,0],#v[a,1],kp],#v[a,2],kp]]],#v[f,9],(fun env h=>by (first|exact VD env|cases env);(first|exact VD h|cases h);kernel_rfl)]
noncomputable def m7:List MV→Option (Fl×List MV):=(oL 7 #[l,#[c,(iB 2 #[f,#[2],itemsOf] #[o,(gL [0,1] #[m,[0,1]]),#[y],#[b,iy #[11] #[0] gC,#[1],iA]]),#[c,#[9],#v[]]]])
theorem xd(H:gF L)(hn:L.exc=none):S1 L #[C,21] jb iN 1 false #[N,1,#[F,#[N,4,#[B,21]]]] m7:=(@S1.append _ _ _ _ _ _ _ _ _ _ _ _ _ #v[y,#v[b,#v[u,([(Str.ofString "index"),(Str.ofString "direction")]),#v[m,#v[a,2]],#v[r,(fun h=>by (first|exact VD h|cases h)),#v[l,[0,1],#v[z,.cons (.cons gZ.nil),(.cons (@iD _ _ (by kernel_rfl)) (@gH _ _ (0) (by kernel_rfl) (@kx _ (by kernel_rfl))) (.cons (@iD _ _ (by kernel_rfl)) (@gH _ _ (1) (by kernel_rfl) (@kx _ (by kernel_rfl))) i8.nil))]],Keeps.tup,#v[t],#v[d,#v[k,#v[a,11],#v[a,0]],#v[a,1],jd]]],#v[b,#v[a,9],#v[e]]]] #v[f,7] (fun _=>rfl) (by kernel_rfl) (by kernel_rfl) (fun env=>by kernel_rfl))
noncomputable def oQ:List MV→Option (Fl×List MV):=(gN m6 (gN m7 #[k]))
theorem Ab(H:gF L)(hn:L.exc=none):SS L #[C,21] jb iN 1 (false||(false||false)) #[F,#[N,4,#[B,21]]] oQ:= #v[w,([hG 0 #[F,#[N,4,#[B,21]]],hG 1 #[F,#[N,4,#[B,21]]]]),#v[h,(@w9 _ H hn),#v[h,(@xd _ H hn),#v[x]]]]
noncomputable def mF:List MV→Option (Fl×List MV):=(fun ρ=>(#[f,#[f,#[c,#[5],#[c,#[6],#v[]]],i7],itemsOf] ρ).bind fun ps=>mM #[n,8] oQ #[k] ρ ps)
theorem Ac(H:gF L)(hn:L.exc=none):S1 L #[C,21] jb iN 1 false #[N,4,#[B,21]] mF:= #v[Q,#v[m,#v[i,H.b_range,.type _,je.less (aC _),#v[b,#v[a,5],#v[b,#v[a,6],#v[e]]]]],#v[s,#v[f,8]],(fun h=>by (first|exact VD h|cases h)),#v[C,(false||(false||false)),(by exact @Ab _ H hn)],#v[C,false,#v[o]]]
noncomputable def mG:List MV→Option (Fl×List MV):= #[h,#[f,#[c,(iB 3 #[f,#[c,#[b,#[f,#[c,#[7],#v[]],zK],#[i,1],gC],#[c,#[b,#[4],#[b,#[5],#[i,1],ko],gC],#[c,#[b,#[4],#[b,#[6],#[i,1],ko],gC],#v[]]]],ur] #[o,(gL [0,1,2] #[m,[0,1,2]]),#[y],#[b,iy #[0] #[1] gR,#[2],gR]]),#v[]],jS]]
theorem Ad(H:gF L)(hn:L.exc=none):S1 L #[C,21] jb iN 1 false #[N,5,#[B,21]] mG:= #v[F,#v[i,H.g__law_entry,(H.fn__law_entry).callee,((mB H).less (by decide)),#v[b,#v[u,([(Str.ofString "x"),(Str.ofString "y"),(Str.ofString "z")]),#v[ac,H.b_zip,#v[b,#v[k,#v[i,H.b_max,.builtin _,(KP hn).less (aC _),#v[b,#v[a,7],#v[e]]],#v[c]],#v[b,#v[k,#v[a,4],#v[d,#v[a,5],#v[c],kp]],#v[b,#v[k,#v[a,4],#v[d,#v[a,6],#v[c],kp]],#v[e]]]]],#v[r,(fun _=>rfl),#v[l,[0,1,2],#v[z,.cons (.cons (.cons gZ.nil)),(.cons (@iD _ _ (by kernel_rfl)) (@gH _ _ (0) (by kernel_rfl) (@kx _ (by kernel_rfl))) (.cons (@iD _ _ (by kernel_rfl)) (@gH _ _ (1) (by kernel_rfl) (@kx _ (by kernel_rfl))) (.cons (@iD _ _ (by kernel_rfl)) (@gH _ _ (2) (by kernel_rfl) (@kx _ (by kernel_rfl))) i8.nil)))]],Keeps.tup,#v[t],#v[d,#v[d,#v[a,0],#v[a,1],gS],#v[a,2],gS]]],#v[e]]]]
noncomputable def rS:List MV→Option (Fl×List MV):=(gN oP (gN mD (gN kX (gN mE (gN mF (oM 7 (gN mG #[k])))))))
theorem Dl(H:gF L)(hn:L.exc=none):SS L #[C,21] jb iN 1 (false||(false||(((false||false)||false)||(true||(false||true))))) #[B,21] rS:= #v[w,([hG 0 #[B,21],hG 1 #[B,21],hG 2 #[B,21],hG 3 #[B,21],hG 4 #[B,21],hG 5 #[B,21]]),#v[h,(@z7 _ H hn),#v[h,(@z8 _ H hn),#v[h,(@z9 _ H hn),#v[h,(@Aa _ H hn),#v[h,(@Ac _ H hn),#v[ab,(Str.ofString "ways"),#v[h,(@Ad _ H hn),#v[x]],#v[f,7]]]]]]]]
noncomputable def lz:List PV→Option PV:=AL 4 6 rS
theorem xe(H:gF L)(hn:L.exc=none):iF L 2 (.ref (H.ad 21)) lz:= #v[G,H.fn__law_due,(@Dl _ H hn)]
end
end
section
open PySem PyProof.Rows
section
variable {L:ic}
noncomputable def iH:List Str:=[(Str.ofString "dots"),(Str.ofString "live"),(Str.ofString "left"),(Str.ofString "found"),(Str.ofString "_"),(Str.ofString "place"),(Str.ofString "ends")]
noncomputable def iO:gJ:=[((Str.ofString "dots"),0),((Str.ofString "live"),1),((Str.ofString "left"),2),((Str.ofString "found"),3),((Str.ofString "_"),4),((Str.ofString "place"),5),((Str.ofString "ends"),6)]
noncomputable def rf:List MV→Option (Fl×List MV):=(HV 7 1 2 3 #[f,#[c,#[f,#[c,#[i,6],#v[]],i7],#v[]],CM] #[f,#[c,#[0],#v[]],(fun ps=>(CM ps).bind MV.yR)] (fun _=>some (.ol [])))
theorem yf(H:gF L)(hn:L.exc=none):S1 L #[C,22] iO iH 1 true #[N,0,#[B,22]] rf:=(@S1.RP _ _ _ _ _ _ _ _ _ _ _ _ _ _ _ _ ((Str.ofString "live")) ((Str.ofString "left")) ((Str.ofString "found")) _ _ _ _ _ _ #v[al,H.b_list,.type _,(Bg hn).less (aC _),#v[b,#v[i,H.b_range,.type _,je.less (aC _),#v[b,#v[c],#v[e]]],#v[e]]] #v[i,H.b_list,.type _,(Bg hn).yR.less (aC _),#v[b,#v[a,0],#v[e]]] #v[aj] #v[j] #v[j] #v[j] #v[f,1] #v[f,2] #v[f,3] (by kernel_rfl) (fun _=>rfl) (fun _=>rfl) (fun _=>rfl) (fun env h=>by (first|exact VD env|cases env);(first|exact VD h|cases h);kernel_rfl) (fun env h=>by (first|exact VD env|cases env);(first|exact VD h|cases h);kernel_rfl))
noncomputable def pz:List MV→Option (Fl×List MV):= #[e,5,(OJ 1 (fun ρ=>((iB 1 #[f,#[1],itemsOf] #[o,(gL [0] #[n,0]),#[y],#[b,#[3],#[0],gC]]) ρ).bind fun p=>(#[c,#[i,1],#v[]] ρ).bind fun ps=>lM p ps))]
theorem u5(H:gF L)(hn:L.exc=none):S1 L #[C,22] iO iH 1 false #[N,0,#[F,#[N,1,#[B,22]]]] pz:= #v[v,(by exact @SE.yR _ _ _ _ _ ((Str.ofString "live")) _ _ #v[J,#v[u,[(Str.ofString "k")],#v[m,#v[a,1]],#v[r,(fun h=>by (first|exact VD h|cases h)),#v[l,[0],#v[s,#v[f,0]]],Keeps.name,#v[t],#v[k,#v[a,3],#v[a,0]]]],#v[b,#v[c],#v[e]],sq] #v[f,1]),#v[f,5],(fun env h=>by (first|exact VD env|cases env);(first|exact VD h|cases h);kernel_rfl)]
noncomputable def pA:List MV→Option (Fl×List MV):= #[e,6,#[l,#[c,(mO 1 #[b,#[5],#[i,1],ko]),#[c,(mO 1 #[b,#[b,#[5],#[i,1],gR],(OJ 1 #[f,#[c,#[1],#v[]],Ba]),jn]),#v[]]]]]
theorem u6(H:gF L)(hn:L.exc=none):S1 L #[C,22] iO iH 1 false #[N,1,#[F,#[N,1,#[B,22]]]] pA:= #v[v,#v[y,#v[b,#v[Z,1,#v[d,#v[a,5],#v[c],kp]],#v[b,#v[Z,1,#v[d,#v[d,#v[a,5],#v[c],gS],(by exact @SE.yR _ _ _ _ _ ((Str.ofString "live")) _ _ #v[i,H.b_len,.builtin _,CH.less (aC _),#v[b,#v[a,1],#v[e]]] #v[f,1]),iV]],#v[e]]]],#v[f,6],(fun env h=>by (first|exact VD env|cases env);(first|exact VD h|cases h);kernel_rfl)]
noncomputable def pB:List MV→Option (Fl×List MV):=(oL 3 #[f,#[c,#[b,#[6],#[i,0],gC],#[c,#[b,#[6],#[i,1],gC],#v[]]],jr])
theorem u7(H:gF L)(hn:L.exc=none):S1 L #[C,22] iO iH 1 false #[N,2,#[F,#[N,1,#[B,22]]]] pB:=(@S1.append _ _ _ _ _ _ _ _ _ _ _ _ _ #v[i,H.g__law_code,(H.fn__law_code).callee,((lW H hn).less (by decide)),#v[b,#v[k,#v[a,6],#v[c]],#v[b,#v[k,#v[a,6],#v[c]],#v[e]]]] #v[f,3] (fun _=>rfl) (by kernel_rfl) (by kernel_rfl) (fun env=>by kernel_rfl))
noncomputable def pC:List MV→Option (Fl×List MV):= #[e,2,(iB 2 #[f,#[2],tj] #[o,(gL [0,1] #[m,[0,1]]),#[y],#[b,#[1],#[f,#[c,iy #[0] #[8] s7,#v[]],ph],ko]])]
theorem u9(H:gF L)(hn:L.exc=none):S1 L #[C,22] iO iH 1 false #[N,3,#[F,#[N,1,#[B,22]]]] pC:= #v[v,#v[u,([(Str.ofString "k"),(Str.ofString "n")]),#v[ad,hn,H.b_enumerate,#v[a,2]],#v[r,(fun _=>rfl),#v[l,[0,1],#v[z,.cons (.cons gZ.nil),(.cons (@iD _ _ (by kernel_rfl)) (@gH _ _ (0) (by kernel_rfl) (@kx _ (by kernel_rfl))) (.cons (@iD _ _ (by kernel_rfl)) (@gH _ _ (1) (by kernel_rfl) (@kx _ (by kernel_rfl))) i8.nil))]],Keeps.tup,#v[t],#v[d,#v[a,1],#v[i,H.b_int,.type _,rE.less (aC _),#v[b,#v[N,#v[a,0],#v[a,8],vZ],#v[e]]],kp]]],#v[f,2],(fun env h=>by (first|exact VD env|cases env);(first|exact VD h|cases h);kernel_rfl)]
noncomputable def pD:List MV→Option (Fl×List MV):=(Rp 1 #[5])
theorem vc(H:gF L)(hn:L.exc=none):S1 L #[C,22] iO iH 1 false #[N,4,#[F,#[N,1,#[B,22]]]] pD:=(@S1.pop _ _ _ _ _ _ _ _ _ _ _ _ _ #v[a,5] #v[f,1] (fun _=>rfl) (by kernel_rfl) (by kernel_rfl) (fun env=>by kernel_rfl))
noncomputable def rg:List MV→Option (Fl×List MV):=(gN pz (gN pA (gN pB (gN pC (gN pD #[k])))))
theorem yg(H:gF L)(hn:L.exc=none):SS L #[C,22] iO iH 1 (false||(false||(false||(false||(false||false))))) #[F,#[N,1,#[B,22]]] rg:= #v[w,([hG 0 #[F,#[N,1,#[B,22]]],hG 1 #[F,#[N,1,#[B,22]]],hG 2 #[F,#[N,1,#[B,22]]],hG 3 #[F,#[N,1,#[B,22]]],hG 4 #[F,#[N,1,#[B,22]]]]),#v[h,(@u5 _ H hn),#v[h,(@u6 _ H hn),#v[h,(@u7 _ H hn),#v[h,(@u9 _ H hn),#v[h,(@vc _ H hn),#v[x]]]]]]]
noncomputable def rh:List MV→Option (Fl×List MV):=(fun ρ=>(#[f,#[f,#[c,#[i,3],#v[]],i7],itemsOf] ρ).bind fun ps=>mM #[n,4] rg #[k] ρ ps)
theorem yh(H:gF L)(hn:L.exc=none):S1 L #[C,22] iO iH 1 false #[N,1,#[B,22]] rh:= #v[Q,#v[m,#v[i,H.b_range,.type _,je.less (aC _),#v[b,#v[c],#v[e]]]],#v[s,#v[f,4]],(fun h=>by (first|exact VD h|cases h)),#v[C,(false||(false||(false||(false||(false||false))))),(by exact @yg _ H hn)],#v[C,false,#v[o]]]
noncomputable def ri:List MV→Option (Fl×List MV):= #[h,#[f,#[c,#[3],#v[]],kT]]
theorem yi(H:gF L)(hn:L.exc=none):S1 L #[C,22] iO iH 1 false #[N,2,#[B,22]] ri:= #v[F,#v[i,H.b_sorted,.builtin _,qx.less (aC _),#v[b,#v[a,3],#v[e]]]]
noncomputable def uE:List MV→Option (Fl×List MV):=(gN rf (gN rh (oM 3 (gN ri #[k]))))
theorem BW(H:gF L)(hn:L.exc=none):SS L #[C,22] iO iH 1 (true||(false||true)) #[B,22] uE:= #v[w,([hG 0 #[B,22],hG 1 #[B,22],hG 2 #[B,22]]),#v[h,(@yf _ H hn),#v[h,(@yh _ H hn),#v[ab,(Str.ofString "found"),#v[h,(@yi _ H hn),#v[x]],#v[f,3]]]]]
noncomputable def qk:List PV→Option PV:=AL 1 6 uE
theorem BX(H:gF L)(hn:L.exc=none):iF L 2 (.ref (H.ad 22)) qk:= #v[G,H.fn__law_read,(@BW _ H hn)]
noncomputable def l9:List Str:=[(Str.ofString "found"),(Str.ofString "ends"),(Str.ofString "edges")]
noncomputable def m8:gJ:=[((Str.ofString "found"),0),((Str.ofString "ends"),1),((Str.ofString "edges"),2)]
noncomputable def pE:List MV→Option (Fl×List MV):= #[e,2,#[b,#[0],#[l,(fun _=>some [.int 1,.int 12,.int 23,.int 34,.int 45,.int 5])],gR]]
theorem vd(H:gF L)(hn:L.exc=none):S1 L #[C,23] m8 l9 1 false #[N,0,#[B,23]] pE:= #v[v,#v[d,#v[a,0],#v[y,#v[R]],gS],#v[f,2],(fun env h=>by (first|exact VD env|cases env);(first|exact VD h|cases h);kernel_rfl)]
noncomputable def pF:List MV→Option (Fl×List MV):= #[h,(iB 1 #[f,#[f,#[c,#[i,6],#v[]],i7],itemsOf] #[o,(gL [0] #[n,0]),#[q,(iB 1 #[f,#[2],itemsOf] #[o,(gL [0] #[n,0]),#[y],(fun ρ=>(#[b,#[1],#[0],lU] ρ).bind fun a=>(lg a).bind fun b=>if b then #[b,#[f,#[c,#[1],#[c,#[0],#v[]]],jr],#[4],s7] ρ else some a)]),#[l,#[c,#[j,true],#[c,#[j,true],#v[]]]],AY],#[0]])]
theorem vf(H:gF L)(hn:L.exc=none):S1 L #[C,23] m8 l9 1 false #[N,1,#[B,23]] pF:= #v[F,#v[u,[(Str.ofString "k")],#v[m,#v[i,H.b_range,.type _,je.less (aC _),#v[b,#v[c],#v[e]]]],#v[r,(fun h=>by (first|exact VD h|cases h)),#v[l,[0],#v[s,#v[f,0]]],Keeps.name,#v[aa,#v[B,#v[u,[(Str.ofString "end")],#v[m,#v[a,2]],#v[r,(fun h=>by (first|exact VD h|cases h)),#v[l,[0],#v[s,#v[f,0]]],Keeps.name,#v[t],(by exact @SE.jz _ _ _ _ _ _ _ _ _ #v[N,#v[a,1],#v[a,0],pe] #v[N,#v[i,H.g__law_code,(H.fn__law_code).callee,((lW H hn).less (by decide)),#v[b,#v[a,1],#v[b,#v[a,0],#v[e]]]],#v[a,4],vZ])]],#v[y,#v[b,#v[X],#v[b,#v[X],#v[e]]]],AZ]],#v[a,0]]]]
noncomputable def rj:List MV→Option (Fl×List MV):=(gN pE (gN pF #[k]))
theorem yj(H:gF L)(hn:L.exc=none):SS L #[C,23] m8 l9 1 (false||(false||false)) #[B,23] rj:= #v[w,([hG 0 #[B,23],hG 1 #[B,23]]),#v[h,(@vd _ H hn),#v[h,(@vf _ H hn),#v[x]]]]
noncomputable def lO:List PV→Option PV:=AL 2 1 rj
theorem yk(H:gF L)(hn:L.exc=none):iF L 2 (.ref (H.ad 23)) lO:= #v[G,H.fn__law_apexes,(@yj _ H hn)]
noncomputable def nQ:List Str:=[(Str.ofString "dots"),(Str.ofString "raised"),(Str.ofString "ends"),(Str.ofString "rows")]
noncomputable def oR:gJ:=[((Str.ofString "dots"),0),((Str.ofString "raised"),1),((Str.ofString "ends"),2),((Str.ofString "rows"),3)]
noncomputable def rk:List MV→Option (Fl×List MV):=(fun ρ=>(iB 1 #[f,#[f,#[c,#[i,6],#v[]],i7],itemsOf] #[o,(gL [0] #[n,0]),#[y],#[t,#[c,iy (fun _=>some (.str (Str.ofString "."))) #[b,#[1],#[0],gC] iA,#[c,#[b,(fun _=>some (.str (Str.ofString "abcdef"))),#[0],gC],#[c,#[b,#[3],#[b,#[0],#[i,3],jn],gC],#v[]]]]]] ρ).map fun v=>(.next,ρ.set 3 (.p v)))
theorem yl(H:gF L)(hn:L.exc=none):S1 L #[C,24] oR nQ 0 false #[N,0,#[B,24]] rk:= #v[W,[(Str.ofString "k")],#v[m,#v[i,H.b_range,.type _,je.less (aC _),#v[b,#v[c],#v[e]]]],#v[r,(fun h=>by (first|exact VD h|cases h)),#v[l,[0],#v[s,#v[f,0]]],Keeps.name,#v[t],#v[I,#v[b,#v[d,#v[D],#v[k,#v[a,1],#v[a,0]],jd],#v[b,#v[k,#v[D],#v[a,0]],#v[b,#v[k,#v[a,3],#v[d,#v[a,0],#v[c],iV]],#v[e]]]]]],#v[f,3],(fun env h=>by (first|exact VD env|cases env);(first|exact VD h|cases h);kernel_rfl)]
noncomputable def rl:List MV→Option (Fl×List MV):= #[h,(fun ρ=>((fun _=>some (.str (Str.ofString ""))) ρ).bind fun p=>(#[c,(iB 2 #[f,#[3],tj] #[o,(gL [0,1] #[m,[0,1]]),#[y],#[b,#[w,#[q,#[0],#[3],s7],#[b,#[b,#[1],#[i,0],gC],#[b,#[1],#[i,1],gC],gR],#[b,#[b,#[1],#[i,1],gC],#[b,#[1],#[i,0],gC],gR]],#[b,#[1],#[i,2],gC],gR]]),#v[]] ρ).bind fun ps=>rF p ps)]
theorem ym(H:gF L)(hn:L.exc=none):S1 L #[C,24] oR nQ 0 false #[N,1,#[B,24]] rl:= #v[F,#v[J,#v[D],#v[b,#v[u,([(Str.ofString "k"),(Str.ofString "row")]),#v[ad,hn,H.b_enumerate,#v[a,3]],#v[r,(fun _=>rfl),#v[l,[0,1],#v[z,.cons (.cons gZ.nil),(.cons (@iD _ _ (by kernel_rfl)) (@gH _ _ (0) (by kernel_rfl) (@kx _ (by kernel_rfl))) (.cons (@iD _ _ (by kernel_rfl)) (@gH _ _ (1) (by kernel_rfl) (@kx _ (by kernel_rfl))) i8.nil))]],Keeps.tup,#v[t],#v[d,#v[am,#v[B,#v[a,0],#v[a,3],vZ],#v[d,#v[k,#v[a,1],#v[c]],#v[k,#v[a,1],#v[c]],gS],#v[d,#v[k,#v[a,1],#v[c]],#v[k,#v[a,1],#v[c]],gS]],#v[k,#v[a,1],#v[c]],gS]]],#v[e]],zH]]
noncomputable def uF:List MV→Option (Fl×List MV):=(gN rk (gN rl #[k]))
theorem BY(H:gF L)(hn:L.exc=none):SS L #[C,24] oR nQ 0 (false||(false||false)) #[B,24] uF:= #v[w,([hG 0 #[B,24],hG 1 #[B,24]]),#v[h,(@yl _ H hn),#v[h,(@ym _ H hn),#v[x]]]]
noncomputable def kh:List PV→Option PV:=AL 3 1 uF
theorem uG(H:gF L)(hn:L.exc=none):iF L 1 (.ref (H.ad 24)) kh:= #v[G,H.fn__law_mail,(@BY _ H hn)]
noncomputable def kD:List Str:=[(Str.ofString "number"),(Str.ofString "dress"),(Str.ofString "row")]
noncomputable def kY:gJ:=[((Str.ofString "number"),0),((Str.ofString "dress"),1),((Str.ofString "row"),2)]
noncomputable def ma:List MV→Option (Fl×List MV):= #[e,2,#[l,#[c,#[b,#[i,64],#[b,#[0],#[i,4096],j0],gR],#[c,#[b,#[i,64],#[b,#[b,#[0],#[i,64],j0],#[i,64],jn],gR],#[c,#[b,#[0],#[i,64],jn],#v[]]]]]]
theorem vg(H:gF L)(hn:L.exc=none):S1 L #[C,25] kY kD 0 false #[N,0,#[B,25]] ma:= #v[v,#v[y,#v[b,#v[d,#v[c],#v[d,#v[a,0],#v[c],jN],gS],#v[b,#v[d,#v[c],#v[d,#v[d,#v[a,0],#v[c],jN],#v[c],iV],gS],#v[b,#v[d,#v[a,0],#v[c],iV],#v[e]]]]],#v[f,2],(fun env h=>by (first|exact VD env|cases env);(first|exact VD h|cases h);kernel_rfl)]
noncomputable def mc:List MV→Option (Fl×List MV):=(fun ρ=>(iB 2 #[f,#[2],tj] #[o,(gL [0,1] #[m,[0,1]]),#[y],#[b,#[1],#[b,#[i,128],#[b,#[b,#[3],#[b,#[i,2],#[0],kS],j0],#[i,2],jn],iA],gR]] ρ).map fun v=>(.next,ρ.set 2 (.p v)))
theorem vi(H:gF L)(hn:L.exc=none):S1 L #[C,25] kY kD 0 false #[N,1,#[B,25]] mc:= #v[W,([(Str.ofString "k"),(Str.ofString "octet")]),#v[ad,hn,H.b_enumerate,#v[a,2]],#v[r,(fun _=>rfl),#v[l,[0,1],#v[z,.cons (.cons gZ.nil),(.cons (@iD _ _ (by kernel_rfl)) (@gH _ _ (0) (by kernel_rfl) (@kx _ (by kernel_rfl))) (.cons (@iD _ _ (by kernel_rfl)) (@gH _ _ (1) (by kernel_rfl) (@kx _ (by kernel_rfl))) i8.nil))]],Keeps.tup,#v[t],#v[d,#v[a,1],#v[d,#v[c],#v[d,#v[d,#v[a,3],#v[d,#v[c],#v[a,0],oF],jN],#v[c],iV],jd],gS]],#v[f,2],(fun env h=>by (first|exact VD env|cases env);(first|exact VD h|cases h);kernel_rfl)]
noncomputable def pG:List MV→Option (Fl×List MV):= #[h,#[d,#[2],#[r,#[b,#[f,#[c,#[b,#[0],#[i,64],GK],#v[]],ph],#[f,#[c,#[b,#[0],#[i,4096],GK],#v[]],ph],gR],#[b,#[b,#[1],#[i,8],j0],#[i,2],jn],iA,lb],#[z]]]
theorem vj(H:gF L)(hn:L.exc=none):S1 L #[C,25] kY kD 0 false #[N,2,#[B,25]] pG:= #v[F,#v[M,#v[a,2],#v[K,#v[d,#v[d,#v[i,H.b_int,.type _,rE.less (aC _),#v[b,#v[N,#v[a,0],#v[c],DI],#v[e]]],#v[i,H.b_int,.type _,rE.less (aC _),#v[b,#v[N,#v[a,0],#v[c],DI],#v[e]]],gS],#v[d,#v[d,#v[a,1],#v[c],jN],#v[c],iV],jd]],#v[V]]]
noncomputable def nR:List MV→Option (Fl×List MV):=(gN ma (gN mc (gN pG #[k])))
theorem yn(H:gF L)(hn:L.exc=none):SS L #[C,25] kY kD 0 (false||(false||(false||false))) #[B,25] nR:= #v[w,([hG 0 #[B,25],hG 1 #[B,25],hG 2 #[B,25]]),#v[h,(@vg _ H hn),#v[h,(@vi _ H hn),#v[h,(@vj _ H hn),#v[x]]]]]
noncomputable def lP:List PV→Option PV:=AL 2 1 nR
theorem yo(H:gF L)(hn:L.exc=none):iF L 1 (.ref (H.ad 25)) lP:= #v[G,H.fn__law_octets,(@yn _ H hn)]
end
end
section
open PySem PyProof.Rows
theorem NC(x:Int):aD.bitAnd x 63=x%64:=bitAnd_m6 x
theorem SN(x:Int):aD.bitAnd x 64=(x/64%2)*64:=PySem.W.kbt_bit x 6
theorem IP(x:Int):aD.bitAnd x 0=0:=by have:=bitAnd_range x (y:=0) (by decide);omega
theorem IQ(x y:Int):aD.bitAnd (2*x) y=2*aD.bitAnd x (y/2):=by
 rw[PySem.W.kbt_halves,if_neg (by omega),show 2*x/2=x by omega];omega
theorem LD(x:Int): ∀(k:Nat) (y:Int),aD.bitAnd (x*2^k) y=aD.bitAnd x (y/2^k)*2^k:=by
 intro k
 induction k with
 |zero=>exact @fun y=>by rw[Int.pow_zero,gm,Int.ediv_one,gm]
 |succ k hV=>exact @fun y=>by rw[eI,←dI,fS _ 2,IQ,hV,fS _ 2,Int.ediv_ediv_of_nonneg (by decide),Int.mul_left_comm]
theorem Xz(v h:Int)(h0:0≤h)(h1:h<64):aD.bitOr (v*64) h=v*64+h:=by
 rw[bitOr_and,show aD.bitAnd (v*64) h=aD.bitAnd v (h/64)*64 from LD v 6 h,eL h0 h1,IP,fP,Int.sub_zero]
noncomputable def vT:List MV→Option Bool:=fun ρ=>(#[b,#[1],#[i,64],ui] ρ).bind lg
noncomputable def vB:List MV→Option (Option Fl×List MV):=(qb (fun ρ=>((fun ρ=>(gX ρ[2]?).bind fun a=>(#[i,6] ρ).bind fun b=>(vS a b).map fun v=>(.next,ρ.set 2 (.p v))) ρ).map fun r=>(some r.1,r.2)) (qb (yZ 0 1) (qb (fun ρ=>((fun ρ=>(gX ρ[2]?).bind fun a=>(#[b,#[1],#[i,63],ui] ρ).bind fun b=>(N5 a b).map fun v=>(.next,ρ.set 2 (.p v))) ρ).map fun r=>(some r.1,r.2)) (fun ρ=>some (some .next,ρ)))))
theorem ND(it:MV)(b v:Int):vT [it,.p (.int b),.p (.int v)]=some (b/64%2*64 !=0):=congrArg (fun x=>some (x !=0)) (SN b)
theorem NF{it:MV}{b v:Int}(h:b/64%2=1):vT [it,.p (.int b),.p (.int v)]=some true:=by rw[ND,h];rfl
theorem SO{v:Int}(hv0:0≤v)(hv:v<1000000):vS (.int v) (.int 6)=some (.int (v*64)):=if_pos (by unfold small;rw[dK,dK,decide_eq_true_eq];exact⟨⟨by omega,rfl⟩,rfl⟩)
theorem LF{b v x:Int}{r:List PV}(hv0:0≤v)(hv:v<1000000):vB [.lR (.int x::r),.p (.int b),.p (.int v)]=some (some .next,[.lR r,.p (.int x),.p (.int (v*64+x%64))]):=by
 refine(gz (g0 (g0 (SO hv0 hv)))).trans ((gz (o:=yZ 0 1 _) rfl).trans ?_)
 exact congrArg (fun z=>some (some Fl.next,[MV.lR r,.p (.int x),.p (.int z)])) ((congrArg _ (NC x)).trans (Xz _ _ (eT _ (by decide)) (fD _ (by decide))))
theorem LG{b v:Int}(hv0:0≤v)(hv:v<1000000):vB [.lR [],.p (.int b),.p (.int v)]=some (none,[.lR [],.p (.int b),.p (.int (v*64))]):=(gz (g0 (g0 (SO hv0 hv)))).trans rfl
theorem vK{n:Nat}{b v x:Int}{r:List PV}(hv0:0≤v)(hv:v<1000000)(hb:b/64%2=1):lZ vT vB (n+1) [.lR (.int x::r),.p (.int b),.p (.int v)]=lZ vT vB n [.lR r,.p (.int x),.p (.int (v*64+x%64))]:=
 (gz (NF hb)).trans (gz (LF hv0 hv))
theorem Dm{n:Nat}{b v:Int}{it:MV}(hb:b/64%2=0):lZ vT vB (n+1) [it,.p (.int b),.p (.int v)]=some (some .next,[it,.p (.int b),.p (.int v)]):=
 gz (a:=false) (by rw[ND,hb];rfl)
theorem Eg{n:Nat}{b v:Int}(hv0:0≤v)(hv:v<1000000)(hb:b/64%2=1):lZ vT vB (n+1) [.lR [],.p (.int b),.p (.int v)]=some (none,[.lR [],.p (.int b),.p (.int (v*64))]):=
 (gz (NF hb)).trans (gz (LG hv0 hv))
theorem XA:gV=qb (yZ 0 1) (qb (fun ρ=>(#[e,2,#[b,#[1],#[i,63],ui]] ρ).map fun r=>(some r.1,r.2)) (qb (lZ vT vB 40) (qb (fun ρ=>(#[h,#[2]] ρ).map fun r=>(some r.1,r.2)) (fun ρ=>some (some .next,ρ))))):=rfl
theorem xf{x:Int}{r:List PV}:gV (.lR (.int x::r)::List.replicate 2 .un)=qb (lZ vT vB 40) (qb (fun ρ=>(#[h,#[2]] ρ).map fun r=>(some r.1,r.2)) (fun ρ=>some (some .next,ρ))) [.lR r,.p (.int x),.p (.int (x%64))]:=by
 rw[XA,←NC x]
 rfl
theorem Dn{x y v:Int}{r r':List PV}(h:lZ vT vB 40 [.lR r,.p (.int x),.p (.int (x%64))]=some (some .next,[.lR r',.p (.int y),.p (.int v)])):Gq 2 gV (.int x::r)=some (v,r'):=
 gz (xf.trans (gz h))
theorem Vy(h c:Int)(h0:0≤h)(h1:h<64):(h+64*c)%64=h∧(h+64*c)/64=c:=
 ⟨(Int.add_mul_emod_self_left ..).trans (fT h0 h1),(Int.add_mul_ediv_left _ _ (by decide)).trans (by rw[eL h0 h1,dW])⟩
theorem Dp(h b:Int)(h0:0≤h)(h1:h<64):(64+h+128*b)%64=h∧(64+h+128*b)/64%2=1:=by
 have e:64+h+128*b=h+64*(1+2*b):=by rw[ff,←dI,←Int.add_assoc,Int.add_comm 64 h];rfl
 rw[e];exact⟨(Vy h _ h0 h1).1,(congrArg (· %2) (Vy h _ h0 h1).2).trans (Int.add_mul_emod_self_left 1 2 b)⟩
theorem FG(h b:Int)(h0:0≤h)(h1:h<64):(h+128*b)%64=h∧(h+128*b)/64%2=0:=by
 have e:h+128*b=h+64*(2*b):=by rw[←dI];rfl
 rw[e];exact⟨(Vy h _ h0 h1).1,(congrArg (· %2) (Vy h _ h0 h1).2).trans (Int.mul_emod_right 2 b)⟩
theorem FH(n:Int):0≤n%64:=eT _ (by decide)
theorem FI(n:Int):n%64<64:=fD _ (by decide)
theorem Eh{v w:Int}{n:Int}(h0:0≤v)(h1:v<n)(h2:0≤w)(h3:w<64):0≤v*64+w∧v*64+w<n*64:=
 ⟨Int.add_nonneg (Int.mul_nonneg h0 (by decide)) h2,Int.lt_of_lt_of_le (Int.add_lt_add_left h3 _) (by have:=Int.mul_le_mul_of_nonneg_right h1 (by decide:(0:Int)≤64);rwa [Int.add_mul] at this)⟩
theorem Pz{h b:Int}{r:List PV}(h0:0≤h)(h1:h<64):Gq 2 gV (.int (h+128*b)::r)=some (h,r):=
 (Dn (Dm (FG h b h0 h1).2)).trans (by rw[(FG h b h0 h1).1])
theorem PA{h k b c:Int}{r:List PV}(h0:0≤h)(h1:h<64)(k0:0≤k)(k1:k<64):Gq 2 gV (.int (64+h+128*b):: .int (k+128*c)::r)=some (h*64+k,r):=
 (Dn ((vK (FH _) (dC (FI _) (by decide)) (Dp h b h0 h1).2).trans (Dm (FG k c k0 k1).2))).trans (by rw[(Dp h b h0 h1).1,(FG k c k0 k1).1])
theorem IS{h k l b c d:Int}{r:List PV}(h0:0≤h)(h1:h<64)(k0:0≤k)(k1:k<64)(l0:0≤l)(l1:l<64):Gq 2 gV (.int (64+h+128*b):: .int (64+k+128*c):: .int (l+128*d)::r)=some ((h*64+k)*64+l,r):=
 have s:=Eh (FH (64+h+128*b)) (FI _) (FH (64+k+128*c)) (FI _)
 (Dn ((vK (FH _) (dC (FI _) (by decide)) (Dp h b h0 h1).2).trans ((vK s.1 (dC s.2 (by decide)) (Dp k c k0 k1).2).trans (Dm (FG l d l0 l1).2)))).trans (by rw[(Dp h b h0 h1).1,(Dp k c k0 k1).1,(FG l d l0 l1).1])
theorem LH{x:Int}(hx:x/64%2=1): ∀m≤2,∃JY,gV (.lR (List.replicate m (.int x))::List.replicate 2 .un)=some (none,JY)
 |0,_=>⟨_,rfl⟩
 |1,_=>⟨_,xf.trans (gz (Eg (FH _) (dC (FI _) (by decide)) hx))⟩
 |2,_=>
  have s:=Eh (FH x) (FI _) (FH x) (FI _)
  ⟨_,xf.trans (gz ((vK (FH _) (dC (FI _) (by decide)) hx).trans (Eg s.1 (dC s.2 (by decide)) hx)))⟩
 |m+3,h=>absurd h (by omega)
noncomputable def tN(n d:Int):List Int:=([64+n.fdiv 4096+128*(d.fdiv (2^0)).fmod 2,64+(n.fdiv 64).fmod 64+128*(d.fdiv (2^1)).fmod 2,n.fmod 64+128*(d.fdiv (2^2)).fmod 2]).drop (((if decide (n<64) then 1 else 0)+(if decide (n<4096) then 1 else 0))*((d.fdiv 8).fmod 2).toNat)
theorem tO{n d:Int}(h0:0≤n)(h1:n<262144)(r:List PV):Gq 2 gV ((tN n d).map .int++r)=some (n,r):=by
 unfold tN
 rw[cw n (by decide),cw n (by decide),cw _ (by decide:(0:Int)≤8),aT n (by decide),aT _ (by decide:(0:Int)≤64),aT (d/8) (by decide)]
 have e:(n/4096*64+n/64%64)*64+n%64=n:=by rw[show n/4096=n/64/64 from(Int.ediv_ediv_of_nonneg (x:=n) (y:=64) (z:=64) (by decide)).symm,Int.ediv_mul_add_emod,Int.ediv_mul_add_emod]
 have h2:0≤n/4096:=Int.ediv_nonneg h0 (by decide)
 have three:=IS (b:=(d.fdiv (2^0)).fmod 2) (c:=(d.fdiv (2^1)).fmod 2) (d:=(d.fdiv (2^2)).fmod 2) (r:=r) h2 (Int.ediv_lt_of_lt_mul (by decide) h1) (FH (n/64)) (FI _) (FH n) (FI _)
 rw[e] at three
 rcases eS (d/8) with h|h<;>rw[h]
 ·exact three
 ·by_cases c1:n<64
  ·rw[if_pos (decide_eq_true c1),if_pos (decide_eq_true (dC c1 (by decide)))]
   exact(Pz (FH n) (FI n)).trans (by rw[fT h0 c1];rfl)
  ·by_cases c2:n<4096
   ·rw[decide_eq_false c1,if_pos (decide_eq_true c2)]
    rw[eL h0 c2,fP,dW] at e
    exact(PA (FH (n/64)) (FI _) (FH n) (FI n)).trans (by rw[e];rfl)
   ·rw[decide_eq_false c1,decide_eq_false c2]
    exact three
end
section
structure V6 where
 a:Int
 b:Int
 c:Int
 d:Int
 e:Int
 f:Int
namespace V6
theorem LI{u v:V6}(h1:u.a=v.a)(h2:u.b=v.b)(h3:u.c=v.c)(h4:u.d=v.d)(h5:u.e=v.e)(h6:u.f=v.f):u=v:=by
 show V6.mk u.a u.b u.c u.d u.e u.f=v
 rw[h1,h2,h3,h4,h5,h6]
theorem BZ(F G:Int→Int→Int)(h: ∀a b,F a b=G a b)(u v:V6):(⟨F u.a v.a,F u.b v.b,F u.c v.c,F u.d v.d,F u.e v.e,F u.f v.f⟩:V6)=⟨G u.a v.a,G u.b v.b,G u.c v.c,G u.d v.d,G u.e v.e,G u.f v.f⟩:=LI (h _ _) (h _ _) (h _ _) (h _ _) (h _ _) (h _ _)
theorem Ei(F G:Int→Int→Int→Int)(h: ∀a b c,F a b c=G a b c)(u v w:V6):(⟨F u.a v.a w.a,F u.b v.b w.b,F u.c v.c w.c,F u.d v.d w.d,F u.e v.e w.e,F u.f v.f w.f⟩:V6)=⟨G u.a v.a w.a,G u.b v.b w.b,G u.c v.c w.c,G u.d v.d w.d,G u.e v.e w.e,G u.f v.f w.f⟩:=LI (h _ _ _) (h _ _ _) (h _ _ _) (h _ _ _) (h _ _ _) (h _ _ _)
noncomputable def add(u v:V6):V6:=⟨u.a+v.a,u.b+v.b,u.c+v.c,u.d+v.d,u.e+v.e,u.f+v.f⟩
noncomputable def sub(u v:V6):V6:=⟨u.a-v.a,u.b-v.b,u.c-v.c,u.d-v.d,u.e-v.e,u.f-v.f⟩
noncomputable def neg(u:V6):V6:=⟨-u.a, -u.b, -u.c, -u.d, -u.e, -u.f⟩
noncomputable def at'(u:V6)(i:Int):Int:=if i=0 then u.a else if i=1 then u.b else if i=2 then u.c else if i=3 then u.d else if i=4 then u.e else u.f
theorem OO{P:Int→Int→Int→Prop}{u v w:V6}(h1:P u.a v.a w.a)(h2:P u.b v.b w.b)(h3:P u.c v.c w.c)(h4:P u.d v.d w.d)(h5:P u.e v.e w.e)(h6:P u.f v.f w.f)(i:Int):P (u.at' i) (v.at' i) (w.at' i):=by
 unfold at'
 repeat' split
 all_goals assumption
theorem PB(u v:V6)(i:Int):(u.add v).at' i=u.at' i+v.at' i:=OO (P:=fun a b c=>c=a+b) rfl rfl rfl rfl rfl rfl i
theorem Ae(u v:V6)(i:Int):(u.sub v).at' i=u.at' i-v.at' i:=OO (P:=fun a b c=>c=a-b) rfl rfl rfl rfl rfl rfl i
theorem PC(u:V6)(i:Int):(u.neg).at' i= -u.at' i:=OO (v:=u) (P:=fun a _ c=>c= -a) rfl rfl rfl rfl rfl rfl i
noncomputable def rT:List (Int×Int)→V6→Int
 |[],_=>0
 |(i,d)::r,u=>if 0<u.at' i*d then 1 else if u.at' i*d<0 then-1 else rT r u
theorem qC(K:List (Int×Int))(u:V6):rT K u=1∨rT K u= -1∨rT K u=0:=by
 induction K with
 |nil=>exact .inr (.inr rfl)
 |cons p r ih=>
  obtain⟨i,d⟩:=p
  unfold rT
  split
  ·exact .inl rfl
  ·split
   ·exact .inr (.inl rfl)
   ·exact ih
theorem Ej(K:List (Int×Int))(u:V6):rT K u.neg= -rT K u:=by
 induction K with
 |nil=>rfl
 |cons p r ih=>
  obtain⟨i,d⟩:=p
  unfold rT
  rw[PC,Int.neg_mul]
  by_cases h1:0<u.at' i*d
  ·rw[if_neg (by omega),if_pos (by omega),if_pos h1]
  ·by_cases h2:u.at' i*d<0
   ·rw[if_pos (by omega),if_neg h1,if_pos h2];rfl
   ·rw[if_neg (by omega),if_neg (by omega),if_neg h1,if_neg h2];exact ih
theorem LJ(K:List (Int×Int))(u v:V6)(hu:rT K u=1)(hv:rT K v=1):rT K (u.add v)=1:=by
 induction K with
 |nil=>(first|exact VD hu|cases hu)
 |cons p r ih=>
  obtain⟨i,d⟩:=p
  unfold rT at hu hv ⊢
  rw[PB,Int.add_mul]
  by_cases h1:0<u.at' i*d
  ·by_cases h2:0<v.at' i*d
   ·rw[if_pos (by omega)]
   ·rw[if_neg h2] at hv
    by_cases h3:v.at' i*d<0
    ·rw[if_pos h3] at hv;(first|exact VD hv|cases hv)
    ·rw[if_pos (by omega)]
  ·rw[if_neg h1] at hu
   by_cases h4:u.at' i*d<0
   ·rw[if_pos h4] at hu;(first|exact VD hu|cases hu)
   ·rw[if_neg h4] at hu
    by_cases h2:0<v.at' i*d
    ·rw[if_pos (by omega)]
    ·rw[if_neg h2] at hv
     by_cases h3:v.at' i*d<0
     ·rw[if_pos h3] at hv;(first|exact VD hv|cases hv)
     ·rw[if_neg h3] at hv
      rw[if_neg (by omega),if_neg (by omega)]
      exact ih hu hv
structure KeysOK(K:List (Int×Int)):Prop where
 len:K.length=6
 idx: ∀p∈K,0≤p.1∧p.1<6
 dir: ∀p∈K,p.2≠0∧ -6≤p.2∧p.2≤6
 all: ∀i:Int,0≤i→i<6→ ∃d,(i,d)∈K
theorem B0(K:List (Int×Int))(u:V6)(h:rT K u=0): ∀p∈K,u.at' p.1*p.2=0:=by
 induction K with
 |nil=>intro p hp;(first|exact VD hp|cases hp)
 |cons q r ih=>
  obtain⟨i,d⟩:=q
  unfold rT at h
  by_cases h1:0<u.at' i*d
  ·rw[if_pos h1] at h;(first|exact VD h|cases h)
  ·rw[if_neg h1] at h
   by_cases h2:u.at' i*d<0
   ·rw[if_pos h2] at h;(first|exact VD h|cases h)
   ·rw[if_neg h2] at h
    intro p hp
    rcases List.mem_cons.mp hp with rfl|hp
    ·show u.at' i*d=0;omega
    ·exact ih h p hp
noncomputable def zero:V6:=⟨0,0,0,0,0,0⟩
theorem sP{K:List (Int×Int)}(hK:KeysOK K){u:V6}(h:rT K u=0):u=zero:=by
 have key: ∀i:Int,0≤i→i<6→u.at' i=0:=fun i h0 h6=>by
  obtain⟨d,hd⟩:=hK.all i h0 h6
  have h1:=B0 K u h _ hd
  have h2:=(hK.dir _ hd).1
  rcases Int.mul_eq_zero.mp h1 with h|h
  ·exact h
  ·exact absurd h h2
 exact LI (key 0 (by decide) (by decide)) (key 1 (by decide) (by decide)) (key 2 (by decide) (by decide)) (key 3 (by decide) (by decide)) (key 4 (by decide) (by decide)) (key 5 (by decide) (by decide))
noncomputable def mx(K:List (Int×Int))(u v:V6):V6:=if rT K (v.sub u)=1 then v else u
section
variable {K:List (Int×Int)}
theorem sQ(u v:V6):(u.sub v).neg=v.sub u:=BZ (fun a b=> -(a-b)) (fun a b=>b-a) Int.neg_sub u v
theorem y9{u v:V6}(h:u.sub v=zero):u=v:=by
 exact LI (cy (congrArg V6.a h)) (cy (congrArg V6.b h)) (cy (congrArg V6.c h)) (cy (congrArg V6.d h)) (cy (congrArg V6.e h)) (cy (congrArg V6.f h))
noncomputable def le(K:List (Int×Int))(u v:V6):Prop:=rT K (v.sub u)≠ -1
theorem le_total(u v:V6):le K u v∨le K v u:=by
 unfold le
 rw[←sQ v u,Ej]
 rcases qC K (v.sub u) with h|h|h<;>rw[h]<;>decide
theorem IT(hK:KeysOK K){u v:V6}(hu:rT K u≠ -1)(hv:rT K v≠ -1):rT K (u.add v)≠ -1:=by
 rcases qC K u with h|h|h
 ·rcases qC K v with h'|h'|h'
  ·rw[LJ K u v h h'];decide
  ·exact absurd h' hv
  ·rw[sP hK h']
   have:u.add zero=u:=BZ (fun a _=>a+0) (fun a _=>a) (fun a _=>Int.add_zero a) u u
   rw[this,h];decide
 ·exact absurd h hu
 ·rw[sP hK h]
  have:zero.add v=v:=BZ (fun a _=>0+a) (fun a _=>a) (fun a _=>dW a) v v
  rw[this];exact hv
theorem le_trans(hK:KeysOK K){u v w:V6}(h1:le K u v)(h2:le K v w):le K u w:=by
 unfold le at*
 have:w.sub u=(v.sub u).add (w.sub v):=Ei (fun a _ c=>c-a) (fun a b c=>b-a+(c-b)) (fun a b c=>by omega) u v w
 rw[this];exact IT hK h1 h2
theorem ql{u v:V6}(w:V6)(h:le K u v):le K (u.add w) (v.add w):=by
 unfold le at*
 have:(v.add w).sub (u.add w)=v.sub u:=Ei (fun a b c=>b+c-(a+c)) (fun a b _=>b-a) (fun a b c=>Int.add_sub_add_right b c a) u v w
 rw[this];exact h
theorem i0(hK:KeysOK K){u v:V6}(h:le K u v):mx K u v=v:=by
 unfold mx
 rcases qC K (v.sub u) with h'|h'|h'
 ·rw[if_pos h']
 ·exact absurd h' h
 ·rw[if_neg (by rw[h'];decide)]
  exact(y9 (sP hK h')).symm
theorem i4{u v:V6}(h:le K v u):mx K u v=u:=by
 unfold mx
 unfold le at h
 rw[←sQ v u,Ej] at h
 rw[if_neg]
 intro h'
 rw[h'] at h
 exact h rfl
theorem Ek(hK:KeysOK K)(u v:V6):mx K u v=mx K v u:=by
 rcases le_total (K:=K) u v with h|h
 ·rw[i0 hK h,i4 h]
 ·rw[i4 h,i0 hK h]
theorem IU(hK:KeysOK K)(u v w:V6):mx K (mx K u v) w=mx K u (mx K v w):=by
 rcases le_total (K:=K) u v with h1|h1
 ·rw[i0 hK h1]
  rcases le_total (K:=K) v w with h2|h2
  ·rw[i0 hK h2,i0 hK (le_trans hK h1 h2)]
  ·rw[i4 h2,i0 hK h1]
 ·rw[i4 h1]
  rcases le_total (K:=K) v w with h2|h2
  ·rw[i0 hK h2]
  ·rw[i4 h2,i4 (le_trans hK h2 h1),i4 h1]
theorem IV(hK:KeysOK K)(u v w:V6):mx K (u.add w) (v.add w)=(mx K u v).add w:=by
 rcases le_total (K:=K) u v with h|h
 ·rw[i0 hK h,i0 hK (ql w h)]
 ·rw[i4 h,i4 (ql w h)]
theorem add_comm(u v:V6):u.add v=v.add u:=BZ (fun a b=>a+b) (fun a b=>b+a) Int.add_comm u v
theorem add_assoc(u v w:V6):(u.add v).add w=u.add (v.add w):=Ei (fun a b c=>a+b+c) (fun a b c=>a+(b+c)) Int.add_assoc u v w
theorem acA:Std.Associative V6.add:=⟨add_assoc⟩
theorem acC:Std.Commutative V6.add:=⟨add_comm⟩
theorem LK(hK:KeysOK K)(a b c:V6):(mx K a b).add (mx K b c)=mx K (a.add c) (b.add (mx K (mx K a b) c)):=by
 rcases le_total (K:=K) a b with h1|h1
 ·rw[i0 hK h1]
  rcases le_total (K:=K) b c with h2|h2
  ·rw[i0 hK h2,i0 hK (ql c h1)]
  ·rw[i4 h2]
   have:le K (a.add c) (b.add b):=le_trans hK (ql c h1) (by rw[add_comm b c];exact ql b h2)
   rw[i0 hK this]
 ·rw[i4 h1]
  rcases le_total (K:=K) b c with h2|h2
  ·rw[i0 hK h2]
   rcases le_total (K:=K) a c with h3|h3
   ·rw[i0 hK h3,i4 (ql c h1)]
   ·rw[i4 h3,i4 (by rw[add_comm a c];exact ql a h2)]
  ·rw[i4 h2,i4 (le_trans hK h2 h1)]
   have:le K (a.add c) (b.add a):=by have:=ql (K:=K) a h2;rw[add_comm c a] at this;exact this
   rw[i0 hK this,add_comm a b]
end
end V6
end
section
open PySem PyProof.Rows
namespace V6
noncomputable def l6(u:V6):List Int:=[u.a,u.b,u.c,u.d,u.e,u.f]
end V6
noncomputable def ju(u:V6):PV:= .list (u.l6.map .int)
noncomputable def vk(u:V6):PV:= .tup (u.l6.map .int)
noncomputable def B1(u:V6):PV:= .iM [Str.ofString "f",Str.ofString "g"] [.tup [.int u.e,.int u.f,.int (u.a-u.f),.int (u.b+u.e)],.int (2*u.e-u.f)]
noncomputable def jl(u:V6):PV:= .tup [.int u.a,.int u.b,.int u.c,.int u.d,B1 u]
noncomputable def qm:PV:= .tup [.int 0,.int 0,.int 0,.int 0,.iM [] []]
theorem sR(u:V6):jS [ju u]=some (jl u):= (by kernel_rfl)
theorem xg(u:V6):kg [jl u]=some (vk u):= (by kernel_rfl)
theorem LL(u v:V6):hO [jl u,jl v]=some (.tup [.int (v.a+u.a),.int (v.b+u.b),.int (v.c+u.c),.int (v.d+u.d),.iM [Str.ofString "f",Str.ofString "g"] [.tup [.int (v.e+u.e),.int (v.f+u.f),.int (v.a-v.f+(u.a-u.f)),.int (v.b+v.e+(u.b+u.e))],.int (2*u.e-u.f+(2*v.e-v.f))]]):= (by kernel_rfl)
theorem PD{u v w z y:Int}{a b c d:Int}{r:V6}(h1:a=r.a)(h2:b=r.b)(h3:c=r.c)(h4:d=r.d)(h5:u=r.e)(h6:v=r.f)(h7:w=r.a-r.f)(h8:z=r.b+r.e)(h9:y=2*r.e-r.f):PV.tup [.int a,.int b,.int c,.int d,.iM [Str.ofString "f",Str.ofString "g"] [.tup [.int u,.int v,.int w,.int z],.int y]]=jl r:=by
 rw[h1,h2,h3,h4,h5,h6,h7,h8,h9]
 rfl
theorem SP(a b c d:Int):c-d+(a-b)=a+c-(b+d):=by rw[fC,fC,fC,Int.neg_add];ac_rfl
theorem XB(a b c d:Int):c+d+(a+b)=a+c+(b+d):=by ac_rfl
theorem XC(a b c d:Int):2*a-b+(2*c-d)=2*(a+c)-(b+d):=by rw[Int.add_comm,SP,ff]
theorem Dq(u v:V6):hO [jl u,jl v]=some (jl (u.add v)):=
 (LL u v).trans (congrArg some (PD (r:=u.add v) (Int.add_comm _ _) (Int.add_comm _ _) (Int.add_comm _ _) (Int.add_comm _ _) (Int.add_comm _ _) (Int.add_comm _ _) (SP _ _ _ _) (XB _ _ _ _) (XC _ _ _ _)))
theorem B2(u:V6):hO [qm,jl u]=some (.tup [.int (u.a+0),.int (u.b+0),.int (u.c+0),.int (u.d+0),B1 u]):= (by kernel_rfl)
theorem LM(u:V6):hO [qm,jl u]=some (jl u):=by
 rw[B2];simp only[Int.add_zero];rfl
theorem yq(u:V6):hO [jl u,qm]=some (.tup [.int (0+u.a),.int (0+u.b),.int (0+u.c),.int (0+u.d),B1 u]):= (by kernel_rfl)
theorem FJ(u:V6):hO [jl u,qm]=some (jl u):=by
 rw[yq];simp only[dW];rfl
noncomputable def B3(k:Int×Int):PV:= .tup [.int k.1,.int k.2]
noncomputable def PF(K:List (Int×Int)):PV:= .inst tC (Str.ofString "comp_select_list") (.list (K.map B3))
theorem SQ{i:Int}(h0:0≤i)(h6:i<6): ∃n,n∈[0,1,2,3,4,5]∧i=((n:Nat):Int):=by
 obtain⟨n,rfl⟩:=bS h0
 exact⟨n,(show ∀n∈List.range 6,n∈[0,1,2,3,4,5] from fun _ h=>h) n (List.mem_range.mpr (Int.ofNat_lt.mp h6)),rfl⟩
theorem NG(u:V6): ∀n∈[0,1,2,3,4,5],∀t:Bool,gC (if t then vk u else ju u) (.int ((n:Nat):Int))=some (.int (u.at' ((n:Nat):Int))):=fun n h t=>by
 skip;(first|exact VD t|cases t)
 ·exact j4 (f:=fun n:Nat=>gC (ju u) (.int (n:Int))) (g:=fun n:Nat=>some (.int (u.at' n))) (by kernel_rfl) h
 ·exact j4 (f:=fun n:Nat=>gC (vk u) (.int (n:Int))) (g:=fun n:Nat=>some (.int (u.at' n))) (by kernel_rfl) h
theorem NH{i:Int}(h0:0≤i)(h6:i<6)(u:V6):gC (vk u) (.int i)=some (.int (u.at' i)):=(SQ h0 h6).elim fun n h=>h.2▸NG u n h.1 true
theorem IW{i:Int}(h0:0≤i)(h6:i<6)(u:V6):gC (ju u) (.int i)=some (.int (u.at' i)):=(SQ h0 h6).elim fun n h=>h.2▸NG u n h.1 false
noncomputable def m9:List (Int×Int)→V6→V6→Int
 |[],_,_=>0
 |(i,d)::K,u,v=>if u.at' i<v.at' i then-d else if v.at' i<u.at' i then d else m9 K u v
theorem El{i d:Int}{K:List (Int×Int)}{u v:V6}(h:u.at' i<v.at' i):m9 ((i,d)::K) u v= -d:=if_pos h
theorem Em{i d:Int}{K:List (Int×Int)}{u v:V6}(h: ¬ u.at' i<v.at' i)(h2:v.at' i<u.at' i):m9 ((i,d)::K) u v=d:=(if_neg h).trans (if_pos h2)
theorem En{i d:Int}{K:List (Int×Int)}{u v:V6}(h: ¬ u.at' i<v.at' i)(h2: ¬ v.at' i<u.at' i):m9 ((i,d)::K) u v=m9 K u v:=(if_neg h).trans (if_neg h2)
noncomputable def PG(self:MV)(u v:V6)(a b c d:MV):List MV:=[self,.p (vk u),.p (vk v),a,b,c,d]
theorem IX{u v:V6}{self:MV}: ∀(K:List (Int×Int)) (a b c d:MV),(∀p∈K,0≤p.1∧p.1<6)→ ∃fl ρ',mM #[m,[3,4]] j2 #[k] (PG self u v a b c d) (K.map B3)=some (fl,ρ')∧(fl= .ret (.int (m9 K u v))∨fl= .next∧m9 K u v=0):=by
 intro K
 induction K with
 |nil=>exact @fun a b c d _=>⟨_,_,rfl,.inr ⟨rfl,rfl⟩⟩
 |cons q0 K hV=>
  obtain⟨i,w⟩:=q0
  intro a b c d h
  have h':=h (i,w) (az ..)
  have b0 (g):gN jC (gN jD g) (PG self u v (.p (.int i)) (.p (.int w)) c d)=g (PG self u v (.p (.int i)) (.p (.int w)) (.p (.int (u.at' i))) (.p (.int (v.at' i)))):=
   (gB (ρ':=PG self u v (.p (.int i)) (.p (.int w)) (.p (.int (u.at' i))) d) (g0 (ct rfl rfl (NH h'.1 h'.2 u)))).trans (gB (g0 (ct rfl rfl (NH h'.1 h'.2 v))))
  by_cases c1:u.at' i<v.at' i
  ·exact⟨_,_,BR rfl ((b0 _).trans (jG (gz (o:=some (decide (u.at' i<v.at' i))) (congrArg some (decide_eq_true c1))))),.inl (by rw[El c1])⟩
  ·have b1 (g):gN jE g (PG self u v (.p (.int i)) (.p (.int w)) (.p (.int (u.at' i))) (.p (.int (v.at' i))))=g (PG self u v (.p (.int i)) (.p (.int w)) (.p (.int (u.at' i))) (.p (.int (v.at' i)))):=
    gB (gz (o:=some (decide (u.at' i<v.at' i))) (congrArg some (decide_eq_false c1)))
   by_cases c2:v.at' i<u.at' i
   ·exact⟨_,_,BR rfl ((b0 _).trans ((b1 _).trans (jG (gz (o:=some (decide (v.at' i<u.at' i))) (congrArg some (decide_eq_true c2)))))),.inl (by rw[Em c1 c2])⟩
   ·exact(hV (.p (.int i)) (.p (.int w)) (.p (.int (u.at' i))) (.p (.int (v.at' i))) fun p hp=>h p (av _ hp)).imp fun fl x=>x.imp fun ρ' x=>
     ⟨(kR rfl ((b0 _).trans ((b1 _).trans (gB (gz (o:=some (decide (v.at' i<u.at' i))) (congrArg some (decide_eq_false c2))))))).trans x.1,by rw[En c1 c2];exact x.2⟩
theorem Dr{K:List (Int×Int)}(hK: ∀p∈K,0≤p.1∧p.1<6)(u v:V6):jw [PF K,vk u,vk v]=some (.int (m9 K u v)):=by
 obtain⟨fl,ρ',e,h⟩:=IX (u:=u) (v:=v) (self:= .p (PF K)) K .un .un .un .un hK
 have h1:j3 (PG (.p (PF K)) u v .un .un .un .un)=some (fl,ρ'):=(gz (o:=some (K.map B3)) rfl).trans e
 rcases h with rfl|⟨rfl,h⟩
 ·exact nG (f:=jv) rfl rfl (jG h1)
 ·rw[h]
  exact nG (f:=jv) rfl rfl ((gB h1).trans (jG rfl))
end
section
open PySem PyProof.Rows
open V6
theorem PH{i n:Nat}(h:i<n):seqIndex? (i:Int) n=some i:=by
 have e: ¬ ((i:Int)<0):=Int.not_lt.mpr (bA i)
 unfold seqIndex?
 rw[if_neg e]
 exact if_pos (by rw[dK,decide_eq_true_eq,decide_eq_true_eq];exact⟨bA i,Int.ofNat_lt.mpr h⟩)
theorem item_list{α:Type}{f:α→PV}{l:List α}{i:Nat}{a:α}(h:l[i]? =some a)(hs:i<1000):gC (.list (l.map f)) (.int i)=some (f a):=
 (if_pos (qB (i:=(i:Int)) (m:=1000) hs rfl)).trans ((gz (PH (by rw[aF];exact(List.getElem?_eq_some_iff.mp h).1))).trans (by rw[aJ,h];rfl))
section
variable {K:List (Int×Int)}
noncomputable def lX(K:List (Int×Int))(u:V6):List PV:=K.map fun p=> .int (u.at' p.1*p.2)
noncomputable def pN(K:List (Int×Int))(u:V6):PV:= .list [.list (lX K u),ju u]
theorem IY(n:Nat)(u v:V6): ∀K:List (Int×Int),pR (qN n) (lX K u) (lX K v)=some (K.all fun p=>u.at' p.1*p.2==v.at' p.1*p.2):=by
 intro K
 induction K with
 |nil=>exact rfl
 |cons q0 K hV=>
  obtain⟨i,d⟩:=q0
  have e:qN n (.int (u.at' i*d)) (.int (v.at' i*d))=some (u.at' i*d==v.at' i*d):=by cases n<;>rfl
  show(qN n (.int (u.at' i*d)) (.int (v.at' i*d))).bind _=_
  rw[e]
  show Option.map _ (pR (qN n) (lX K u) (lX K v))=_
  rw[hV]
  rfl
theorem XD(x y t:Int):(if 0<x-y then 1 else if x-y<0 then-1 else t)=if x=y then t else if y<x then 1 else-1:=by
 rcases dB x y with h|h|h
 ·rw[if_neg (by omega),if_pos (by omega),if_neg (Int.ne_of_lt h),if_neg (eK h)]
 ·rw[if_pos h,h,Int.sub_self];rfl
 ·rw[if_pos (by omega),if_neg (eJ h),if_pos h]
theorem IZ(u v:V6)(i d:Int)(K:List (Int×Int)):rT ((i,d)::K) (u.sub v)=if u.at' i*d=v.at' i*d then rT K (u.sub v) else if v.at' i*d<u.at' i*d then 1 else-1:=by
 rw[←XD,←Int.sub_mul,←Ae]
 rfl
theorem FK(u v:V6): ∀K:List (Int×Int),E7 (qN 1) (zI 1 true) true (lX K u) (lX K v)=some (decide (rT K (u.sub v)=1)):=by
 intro K
 induction K with
 |nil=>exact rfl
 |cons q0 K hV=>
  obtain⟨i,d⟩:=q0
  rw[IZ]
  by_cases h1:u.at' i*d=v.at' i*d
  ·rw[if_pos h1]
   exact(gz (o:=some (u.at' i*d==v.at' i*d)) (congrArg some (beq_iff_eq.mpr h1))).trans (hV)
  ·rw[if_neg h1]
   refine(gz (o:=some (u.at' i*d==v.at' i*d)) (congrArg some (beq_eq_false_iff_ne.mpr h1))).trans ?_
   show some (decide (v.at' i*d<u.at' i*d))=_
   by_cases h2:v.at' i*d<u.at' i*d
   ·rw[if_pos h2,decide_eq_true h2];rfl
   ·rw[if_neg h2,decide_eq_false h2];rfl
theorem B4(u:V6): ∀K:List (Int×Int),(∀p∈K,u.at' p.1*p.2=0)→rT K u=0:=by
 intro K
 induction K with
 |nil=>exact @fun _=>rfl
 |cons q0 K hV=>
  obtain⟨i,d⟩:=q0
  intro h
  have h0:=h (i,d) (az ..)
  have h0':u.at' i*d=0:=h0
  simp only[rT,h0']
  exact hV fun p hp=>h p (av _ hp)
theorem B5(n:Nat)(u:V6):qN (n+1) (ju u) (ju u)=some true:=by
 show pR (qN n) (u.l6.map .int) (u.l6.map .int)=_
 have: ∀l:List Int,pR (qN n) (l.map .int) (l.map .int)=some true:=by
  intro l
  induction l with
  |nil=>rfl
  |cons a l ih=>
   show(qN n (.int a) (.int a)).bind _=_
   have e:qN n (.int a) (.int a)=some true:=by rw[Ed,beq_self_eq_true]
   rw[e]
   show Option.map _ (pR (qN n) (l.map .int) (l.map .int))=_
   rw[ih];rfl
 exact this _
theorem LN(hK:KeysOK K)(u v:V6):zI 3 true (pN K u) (pN K v)=some (decide (rT K (u.sub v)=1)):=by
 show((qN 2 (.list (lX K u)) (.list (lX K v))).bind fun b=>if b then E7 (qN 2) (zI 2 true) true [ju u] [ju v] else zI 2 true (.list (lX K u)) (.list (lX K v)))=_
 have e1:qN 2 (.list (lX K u)) (.list (lX K v))=some (K.all fun p=>u.at' p.1*p.2==v.at' p.1*p.2):=IY 1 u v K
 have e2:zI 2 true (.list (lX K u)) (.list (lX K v))=some (decide (rT K (u.sub v)=1)):=FK u v K
 rw[e1,e2]
 simp only[d5]
 by_cases h:(K.all fun p=>u.at' p.1*p.2==v.at' p.1*p.2)=true
 ·rw[if_pos h]
  have h0:rT K (u.sub v)=0:=B4 _ K fun p hp=>by
   have:=List.all_eq_true.mp h p hp
   rw[Ae,Int.sub_mul]
   have:=beq_iff_eq.mp this
   omega
  have huv:=y9 (sP hK h0)
  subst huv
  show((qN 2 (ju u) (ju u)).bind _)=_
  rw[B5 1 u,h0]
  rfl
 ·rw[if_neg h]
theorem FL(hK:KeysOK K): ∀(ws:List V6) (b:V6),qT true (ws.map (pN K)) (pN K b)=some (pN K (ws.foldl (mx K) b)):=by
 intro ws
 induction ws with
 |nil=>exact @fun _=>rfl
 |cons w ws hV=>
  intro b
  show(zI 3 true (pN K w) (pN K b)).bind _=_
  rw[LN hK]
  show(if decide (rT K (w.sub b)=1)=true then qT true (ws.map (pN K)) (pN K w) else qT true (ws.map (pN K)) (pN K b))=_
  rw[hV w,hV b,aL]
  unfold mx
  by_cases h:rT K (w.sub b)=1
  ·rw[if_pos (by simpa using h),if_pos h]
  ·rw[if_neg (by simpa using h),if_neg h]
theorem I0(t:List MV)(s x y:V6):i9 (il (gL [0,1,2] #[m,[0,1,2]]) #[y] #[b,iy #[0] #[1] ko,#[2],ko]) (.un:: .un:: .un::t) (uS (s.l6.map .int) (x.l6.map .int) (y.l6.map .int))=some (((s.sub x).sub y).l6.map .int):= (by kernel_rfl)
theorem I1(t:List MV)(s x y:V6):i9 (il (gL [0,1,2] #[m,[0,1,2]]) #[y] #[b,iy #[0] #[1] gR,#[2],gR]) (.un:: .un:: .un::t) (uS (s.l6.map .int) (x.l6.map .int) (y.l6.map .int))=some (((s.add x).add y).l6.map .int):= (by kernel_rfl)
theorem I2{t:List MV}{u:V6}(PI:t[9]? =some (.p (ju u))){K:List (Int×Int)}(hK: ∀p∈K,(0≤p.1∧p.1<6)∧ -6≤p.2∧p.2≤6):i9 (il (gL [0,1] #[m,[0,1]]) #[y] #[b,iy #[11] #[0] gC,#[1],iA]) (.un:: .un::t) (K.map B3)=some (lX K u):=
 jh fun p hp=>iG (gK:= .p (.int p.1):: .p (.int p.2)::t) rfl rfl (ct (ct (congrArg gX PI) rfl (IW (hK p hp).1.1 (hK p hp).1.2 u)) rfl (if_pos (by rw[qB (i:=p.2) (m:=7) (by have:=(hK p hp).2;omega) rfl,eE])))
end
end
section
open PySem PyProof.Rows
open V6
noncomputable def nf(rs:List V6):PV:= .list (rs.map ju)
noncomputable def jH(K:List (Int×Int)):PV:= .list (K.map B3)
noncomputable def FN(rs:List V6)(c:Nat):List V6:=[rs.getD c zero,rs.getD 6 zero,rs.getD 7 zero,rs.getD 8 zero,rs.getD ((c+5)%6) zero]
noncomputable def lh(c code:Nat):Nat×Nat:=(min ((code/10+6-c)%6) ((code%10+6-c)%6),max ((code/10+6-c)%6) ((code%10+6-c)%6))
noncomputable def j7:List Nat:=[2,3,4,13,14,15,24,25,35]
theorem XE: ∀(r0 r1 r2 r3 r4 r5 r6 r7 r8:V6) (k d e f g h m n o:MV),[0,1,2,3,4,5].map (fun c:Nat=>oP [.p (nf [r0,r1,r2,r3,r4,r5,r6,r7,r8]),.p (.int c),k,d,e,f,g,h,m,n])=[0,1,2,3,4,5].map (fun c:Nat=>some (Fl.next,[.p (nf [r0,r1,r2,r3,r4,r5,r6,r7,r8]),.p (.int c),k,d,.p (.list ((FN [r0,r1,r2,r3,r4,r5,r6,r7,r8] c).map ju)),f,g,h,m,n])):=by
 intro r0 r1 r2 r3 r4 r5 r6 r7 r8 k d e f g h m n o
 kernel_rfl
theorem XF(a b d e f g h k:MV)(c:Nat)(hc:c∈[0,1,2,3,4,5])(code:Nat)(hd:code∈j7):mD [a,.p (.int (c:Nat)),b,.p (.int (code:Nat)),d,e,f,g,h,k]=some (Fl.next,[a,.p (.int (c:Nat)),b,.p (.int (code:Nat)),d,.p (.int (lh c code).1),.p (.int (lh c code).2),g,h,k]):=
 Ee (f:=fun c code:Nat=>mD [a,.p (.int (c:Nat)),b,.p (.int (code:Nat)),d,e,f,g,h,k]) (g:=fun c code:Nat=>some (Fl.next,[a,.p (.int (c:Nat)),b,.p (.int (code:Nat)),d,.p (.int (lh c code).1),.p (.int (lh c code).2),g,h,k])) (by kernel_rfl) hc hd
theorem zip_rows(s x y:V6):ur [ju s,ju x,ju y]=some (uS (s.l6.map .int) (x.l6.map .int) (y.l6.map .int)):=rfl
noncomputable def lhs:List (Nat×Nat):=[(1,2),(1,3),(1,4),(1,5),(2,3),(2,4),(2,5),(3,4),(3,5),(4,5)]
theorem LO: ∀i∈List.range 5,∀j∈List.range 6,1≤i→i<j→(i,j)∈lhs:=by decide
theorem yr{α:Type}{P:α→Prop}{x:α}{l:List α}(hx:P x)(hl: ∀a∈l,P a): ∀a∈x::l,P a:=List.forall_mem_cons.mpr ⟨hx,hl⟩
theorem FO: ∀p∈lhs,itemsOf (.vN (p.1:Nat) (p.2:Nat) 1)=some ((bE p.1 (p.2-p.1)).map fun k=>PV.int (k:Nat)):=
 yr (by kernel_rfl) (yr (by kernel_rfl) (yr (by kernel_rfl) (yr (by kernel_rfl) (yr (by kernel_rfl) (yr (by kernel_rfl) (yr (by kernel_rfl) (yr (by kernel_rfl) (yr (by kernel_rfl) (yr (by kernel_rfl) fun _ h=>nomatch h)))))))))
theorem PJ{i j:Nat}(h1:1≤i)(h2:i<j)(h5:j≤5):itemsOf (.vN i j 1)=some ((bE i (j-i)).map fun k=>PV.int (k:Nat)):=
 FO (i,j) (LO i (List.mem_range.mpr (bq h2 h5)) j (List.mem_range.mpr (Nat.lt_succ_of_le h5)) h1 h2)
theorem SR(a b:Nat):((a:Int)+(b:Int)).fmod 6=(((a+b)%6:Nat):Int):=aT _ (by decide)
section
variable {K:List (Int×Int)} {rs:List V6} {c:Nat}
noncomputable def xv(rs:List V6)(c k:Nat):V6:=(FN rs c).getD (k-1) zero
noncomputable def wv(rs:List V6)(c k:Nat):V6:=((rs.getD ((c+k)%6) zero).sub (xv rs c k)).sub (xv rs c (k+1))
noncomputable def FP(K:List (Int×Int))(w:Nat→V6)(i j:Nat):V6:=(bE (i+1) (j-i-1)).foldl (fun b k=>mx K b (w k)) (w i)
noncomputable def tP(K:List (Int×Int))(rs:List V6)(c i j:Nat):V6:=if i=0 then xv rs c j else((FP K (wv rs c) i j).add (xv rs c i)).add (xv rs c j)
structure Gs(K:List (Int×Int)):Prop extends KeysOK K where
 both: ∀p∈K,(0≤p.1∧p.1<6)∧ -6≤p.2∧p.2≤6
theorem I3{k:Nat}(h1:1≤k)(h5:k≤5):(FN rs c)[k-1]? =some (xv rs c k):=by
 unfold xv
 rw[aS,aG (by show k-1<5;omega)]
 rfl
noncomputable def NI(K:List (Int×Int))(rs:List V6)(c:Nat)(d f g:MV)(l:List PV)(k n:MV):List MV:=[.p (nf rs),.p (.int c),.p (jH K),d,.p (.list ((FN rs c).map ju)),f,g,.ol l,k,n]
theorem LP(hr:rs.length=9){k:Nat}(h1:1≤k)(h4:k≤4){l:List PV}{d f g n:MV}:m6 (NI K rs c d f g l (.p (.int (k:Nat))) n)=some (.next,NI K rs c d f g l (.p (.int (k:Nat))) (.p (ju (wv rs c k)))):=by
 have e1:gC (nf rs) (.int (((c+k)%6:Nat):Int))=some (ju (rs.getD ((c+k)%6) zero)):=by
  have h6:=Nat.mod_lt (c+k) (by decide:6>0)
  refine item_list ?_ (bj h6 (by decide))
  rw[aS,aG (hr▸bj h6 (by decide))]
  rfl
 have e2:gC (.list ((FN rs c).map ju)) (.int ((k:Int)-1))=some (ju (xv rs c k)):=by
  rw[show(k:Int)-1=((k-1:Nat):Int) by omega]
  exact item_list (I3 h1 (fL h4)) (by omega)
 have e3:gC (.list ((FN rs c).map ju)) (.int (k:Nat))=some (ju (xv rs c (k+1))):=item_list (I3 (k:=k+1) (fL h1) (cI h4)) (by omega)
 exact g0 (ip ((gz (gy (ct rfl (ct (ct rfl rfl rfl) rfl (congrArg (fun x=>some (PV.int x)) (SR c k))) e1) (gy (ct rfl (ct rfl rfl rfl) e2) (gy (ct rfl rfl e3) rfl)))).trans (zip_rows _ _ _)) (I0 _ _ _ _) rfl)
theorem LQ(hK:Gs K){u:V6}{k d f g:MV}{l:List PV}(hl:l.length≤100):m7 (NI K rs c d f g l k (.p (ju u)))=some (.next,NI K rs c d f g (l++[pN K u]) k (.p (ju u))):=
 append_at rfl (Nat.le_trans hl (by decide)) (gz (gy (ip rfl (I2 rfl hK.both) (by unfold mL lX;rw[aF,hK.len];rfl)) (gy rfl rfl)))
theorem I4(hK:Gs K)(hr:rs.length=9){d f g:MV}: ∀(m k:Nat) (l:List PV) (a n:MV),1≤k→k+m≤5→l.length+m≤100→ ∃a' n',mM #[n,8] oQ #[k] (NI K rs c d f g l a n) ((bE k m).map fun k=>PV.int (k:Nat))=some (.next,NI K rs c d f g (l++(bE k m).map fun k=>pN K (wv rs c k)) a' n'):=by
 intro m
 induction m with
 |zero=>exact @fun k l a n _ _ _=>⟨a,n,by rw[List.range'_zero,List.map_nil,List.map_nil,bB];rfl⟩
 |succ m hV=>
  intro k l a n h1 h5 hl
  rw[cG,aQ,aQ,fX]
  exact(hV (k+1) (l++[pN K (wv rs c k)]) (.p (.int (k:Nat))) (.p (ju (wv rs c k))) (fL h1) (by omega) (by rw[aP,eQ];omega)).imp fun a' h=>h.imp fun n' ih=>(kR rfl ((gB (LP hr h1 (by omega))).trans (gB (LQ hK (by omega))))).trans ih
end
end
section
open PySem PyProof.Rows
open V6
theorem SU: ∀c∈[0,1,2,3,4,5],∀code∈j7,(lh c code).1<(lh c code).2∧(lh c code).2≤5:=by decide
theorem LR(K:List (Int×Int))(u:V6):gC (pN K u) (.int 1)=some (ju u):= (by kernel_rfl)
section
variable {K:List (Int×Int)} {rs:List V6} {c i j:Nat}
noncomputable def B6(K:List (Int×Int))(rs:List V6)(c i j:Nat):List PV:=(bE i (j-i)).map fun k=>pN K (wv rs c k)
theorem PK(hK:Gs K)(hr:rs.length=9){d:MV}(hi:1≤i)(FQ:i<j)(hj:j≤5): ∃a' n',mF (NI K rs c d (.p (.int i)) (.p (.int j)) [] .un .un)=some (.next,NI K rs c d (.p (.int i)) (.p (.int j)) (B6 K rs c i j) a' n'):=
 (I4 (c:=c) hK hr (d:=d) (f:= .p (.int i)) (g:= .p (.int j)) (j-i) i [] .un .un hi (by omega) (Nat.le_trans (bt (cN _)) (Nat.le_trans (Nat.sub_le _ _) (Nat.le_trans hj (by decide))))).imp fun a' h=>h.imp fun n' hl=>by
  have h1:i7 [.int i,.int j]=some (.vN i j 1):=Fv.2 _ _
  have h2:=PJ hi FQ hj
  generalize PV.vN (i:Int) (j:Int) 1=r at h1 h2
  exact gA (gA (gA (gy rfl (gy rfl rfl)) h1) h2) hl
theorem I5(hK:Gs K)(FQ:i<j):zK [.list (B6 K rs c i j)]=some (pN K (FP K (wv rs c) i j)):=by
 unfold B6 FP
 obtain⟨n,hn⟩:=eA FQ
 rw[hn,show i+n+1-i=n+1 by rw[Nat.add_assoc,dv],Nat.add_sub_cancel,cG,aQ,←List.foldl_map (f:=wv rs c) (g:=mx K),←FL hK.toKeysOK,bh]
 rfl
theorem Af(h1:1≤j)(h5:j≤5):gC (.list ((FN rs c).map ju)) (.int ((j:Int)-1))=some (ju (xv rs c j)):=
 have e:(j:Int)-1=((j-1:Nat):Int):=(Int.natCast_sub h1).symm
 e▸item_list (I3 h1 h5) (bR (Nat.sub_le _ _) (bR h5 (by decide)))
theorem PL{a b e d k n:MV}{L:List PV}{m:V6}(hb:zK [.list L]=some (pN K m))(hi:1≤i)(FQ:i<j)(hj:j≤5):mG [a,b,e,d,.p (.list ((FN rs c).map ju)),.p (.int i),.p (.int j),.p (.list L),k,n]=some (.ret (jl ((m.add (xv rs c i)).add (xv rs c j))),[a,b,e,d,.p (.list ((FN rs c).map ju)),.p (.int i),.p (.int j),.p (.list L),k,n]):=
 g0 (gA (gy (ip (gA (gy (ct (gA (gy rfl rfl) hb) rfl (LR K m)) (gy (ct rfl (ct rfl rfl rfl) (Af hi (Nat.le_trans (cD FQ) hj))) (gy (ct rfl (ct rfl rfl rfl) (Af (Nat.le_trans hi (cD FQ)) hj)) rfl))) (zip_rows _ _ _)) (I1 _ _ _ _) rfl) rfl) (sR _))
theorem LS{a b e d h k n:MV}(hj1:1≤j)(hj:j≤5):kX [a,b,e,d,.p (.list ((FN rs c).map ju)),.p (.int (0:Nat)),.p (.int j),h,k,n]=some (.ret (jl (xv rs c j)),[a,b,e,d,.p (.list ((FN rs c).map ju)),.p (.int (0:Nat)),.p (.int j),h,k,n]):=
 gA (a:=true) rfl ((if_pos rfl).trans (jG (g0 (gA (gy (ct rfl (ct rfl rfl rfl) (Af hj1 hj)) rfl) (sR _)))))
theorem LU{a b e d f g h k n:MV}(hi:1≤i):kX [a,b,e,d,f,.p (.int i),g,h,k,n]=some (.next,[a,b,e,d,f,.p (.int i),g,h,k,n]):=
 gA (a:=false) (ji (ct rfl rfl rfl) (beq_eq_false_iff_ne.mpr (eJ (Int.ofNat_lt.mpr hi)))) rfl
theorem PM{a b c d e f g h k n:MV}:mE [a,b,c,d,e,f,g,h,k,n]=some (.next,[a,b,c,d,e,f,g,.ol [],k,n]):=rfl
theorem I6(hK:Gs K)(r0 r1 r2 r3 r4 r5 r6 r7 r8:V6){c code:Nat}(hc:c∈[0,1,2,3,4,5])(hd:code∈j7):
  lz [nf [r0,r1,r2,r3,r4,r5,r6,r7,r8],.int c,jH K,.int code]=some (jl (tP K [r0,r1,r2,r3,r4,r5,r6,r7,r8] c (lh c code).1 (lh c code).2)):=by
 obtain⟨FQ,hj⟩:=SU c hc code hd
 have h0:=j4 (XE r0 r1 r2 r3 r4 r5 r6 r7 r8 (.p (jH K)) (.p (.int code)) .un .un .un .un .un .un .un) hc
 have h1:=XF (.p (nf [r0,r1,r2,r3,r4,r5,r6,r7,r8])) (.p (jH K)) (.p (.list ((FN [r0,r1,r2,r3,r4,r5,r6,r7,r8] c).map ju))) .un .un .un .un .un c hc code hd
 generalize hrs:[r0,r1,r2,r3,r4,r5,r6,r7,r8]=rs at h0 h1 ⊢
 have hr:rs.length=9:=by rw[←hrs];rfl
 generalize (lh c code).1=i at FQ hj h1 ⊢
 generalize (lh c code).2=j at FQ hj h1 ⊢
 have F {v:PV} {ρ':List MV} (h:gN kX (gN mE (gN mF (oM 7 (gN mG #[k])))) [.p (nf rs),.p (.int c),.p (jH K),.p (.int code),.p (.list ((FN rs c).map ju)),.p (.int i),.p (.int j),.un,.un,.un]=some (.ret v,ρ')):lz [nf rs,.int c,jH K,.int code]=some v:=
  nG (f:=rS) rfl rfl ((gB h0).trans ((gB h1).trans h))
 by_cases hi:i=0
 ·(first|exact VD hi|cases hi)
  exact F (jG (LS FQ hj))
 ·obtain⟨a',n',h4⟩:=PK (c:=c) hK hr (d:= .p (.int code)) (fz hi) FQ hj
  have h5:=PL (rs:=rs) (c:=c) (i:=i) (j:=j) (a:= .p (nf rs)) (b:= .p (.int c)) (e:= .p (jH K)) (d:= .p (.int code)) (k:=a') (n:=n') (I5 (rs:=rs) (c:=c) hK FQ) (fz hi) FQ hj
  rw[tP,if_neg hi]
  exact F ((gB (LU (i:=i) (fz hi))).trans ((gB PM).trans ((gB h4).trans ((w3 (m:= .ol (B6 K rs c i j)) (q:= .list (B6 K rs c i j)) rfl rfl).trans (jG h5)))))
end
end
section
open PySem PyProof.Rows
noncomputable def iP(l:List Nat):PV:= .str ⟨l.toArray⟩
theorem Ag{rep:List Nat}{F:List Nat→List Nat}{r:Str}{l:List Nat}(hr:r.cps.toList=rep)(hl:l.length≤10000):BF rep F [.str r,iP l]=some (iP (F l)):=by
 show(if r.cps.toList=rep∧l.toArray.size≤10000 then some (PV.str ⟨(F l.toArray.toList).toArray⟩) else none)=_
 rw[if_pos ⟨hr,by simpa using hl⟩,bM]
 rfl
theorem I7{l:List Nat}(hl:l.length≤4000):qf [iP l]=some (iP (j5 true (iZ false l))):=by
 have h1:BF [13,10] (iZ false) [.str (Str.ofString "\r\n"),iP l]=some (iP (iZ false l)):=Ag (by decide+kernel) (by omega)
 have KI:(iZ false l).length≤2*l.length:=tB l false
 have h2:BF [46,46] (j5 true) [.str (Str.ofString ".."),iP (iZ false l)]=some (iP (j5 true (iZ false l))):=Ag (by decide+kernel) (by omega)
 refine nG rfl rfl (ρ:=[.p (iP l)]) (ρ':=[.p (iP l)]) (jG ?_)
 unfold nO
 simp only[ef,Dh,d5,eu,Dj,if_true,h1,h2]
theorem PN{l:List Nat}(hl:l.length≤4000):qg [iP l]=some (iP (iZ false l)):=by
 have h1:BF [13,10] (iZ false) [.str (Str.ofString "\r\n"),iP l]=some (iP (iZ false l)):=Ag (by decide+kernel) (by omega)
 refine nG rfl rfl (ρ:=[.p (iP l)]) (ρ':=[.p (iP l)]) (jG ?_)
 unfold nP
 simp only[ef,Dh,d5,eu,Dj,if_true,h1]
noncomputable def yt(l:List Nat):PV:= .bytes (l.map (·.toUInt8)).toArray
theorem LV{l:List Nat}(hb: ∀c∈l,c<256):(l.map (·.toUInt8)).map (·.toNat)=l:=by
 rw[bh]
 conv=>rhs;rw[←List.map_id l]
 refine fh fun c hc=> ?_
 have:=hb c hc
 simp
 omega
theorem LW{l:List Nat}(hl:l.length≤8000)(hb: ∀c∈l,c<256):lx [yt l]=some (yt (j5 true l)):=by
 have h1:subB [46,46] (j5 true) [.bytes ([46,46]:List UInt8).toArray,yt l]=some (yt (j5 true l)):=by
  show(if (([46,46]:List UInt8).toArray.toList.map (·.toNat))=[46,46]∧(l.map (·.toUInt8)).toArray.size≤10000 then some (PV.bytes ((j5 true (((l.map (·.toUInt8)).toArray.toList).map (·.toNat))).map (·.toUInt8)).toArray) else none)=_
  rw[if_pos ⟨by decide+kernel,by simp;omega⟩,bM,LV hb]
  rfl
 refine nG rfl rfl (ρ:=[.p (yt l)]) (ρ':=[.p (yt l)]) (jG ?_)
 unfold kI
 simp only[ef,Dh,d5,eu,Dj,if_true,h1]
end
section
open PySem PyProof.Rows
noncomputable def g7(l:List Nat):PV:= .list (l.map fun n=> .int (n:Nat))
noncomputable def jT:List (List Nat):=[[2,3,4],[2,3,35],[2,4,24],[2,24,25],[2,25,35],[3,4,13],[3,13,35],[4,13,14],[4,14,24],[13,14,15],[13,15,35],[14,15,24],[15,24,25],[15,25,35]]
noncomputable def I8(t:List Nat)(k:Nat):Nat:=1+(t.filter fun code=>k==code/10||k==code%10).length
noncomputable def ig(t:List Nat):List Nat:=(List.range 6).map (I8 t)
theorem LX: ∀t∈jT,qk [g7 (ig t)]=some (g7 t):=by
 intro t ht
 simp only[jT,fk,bY,or_false] at ht
 rcases ht with rfl|rfl|rfl|rfl|rfl|rfl|rfl|rfl|rfl|rfl|rfl|rfl|rfl|rfl<;>kernel_rfl
end
section
open PySem PyProof.Rows
section
variable {L:ic}
noncomputable def gE:List Str:=[(Str.ofString "cells"),(Str.ofString "rows"),(Str.ofString "keys"),(Str.ofString "names"),(Str.ofString "tops"),(Str.ofString "pairs"),(Str.ofString "sides"),(Str.ofString "plan"),(Str.ofString "centre"),(Str.ofString "shift"),(Str.ofString "extra"),(Str.ofString "asked"),(Str.ofString "numbers"),(Str.ofString "octets"),(Str.ofString "tape"),(Str.ofString "none"),(Str.ofString "plain"),(Str.ofString "table"),(Str.ofString "code"),(Str.ofString "dots"),(Str.ofString "turn"),(Str.ofString "told"),(Str.ofString "old"),(Str.ofString "ends"),(Str.ofString "apexes"),(Str.ofString "edges"),(Str.ofString "kept"),(Str.ofString "first"),(Str.ofString "second"),(Str.ofString "gaps"),(Str.ofString "verdict"),(Str.ofString "some"),(Str.ofString "new"),(Str.ofString "mail"),(Str.ofString "heights"),(Str.ofString "sent"),(Str.ofString "due"),(Str.ofString "words")]
noncomputable def gG:gJ:=[((Str.ofString "cells"),0),((Str.ofString "rows"),1),((Str.ofString "keys"),2),((Str.ofString "names"),3),((Str.ofString "tops"),4),((Str.ofString "pairs"),5),((Str.ofString "sides"),6),((Str.ofString "plan"),7),((Str.ofString "centre"),8),((Str.ofString "shift"),9),((Str.ofString "extra"),10),((Str.ofString "asked"),11),((Str.ofString "numbers"),12),((Str.ofString "octets"),13),((Str.ofString "tape"),14),((Str.ofString "none"),15),((Str.ofString "plain"),16),((Str.ofString "table"),17),((Str.ofString "code"),18),((Str.ofString "dots"),19),((Str.ofString "turn"),20),((Str.ofString "told"),21),((Str.ofString "old"),22),((Str.ofString "ends"),23),((Str.ofString "apexes"),24),((Str.ofString "edges"),25),((Str.ofString "kept"),26),((Str.ofString "first"),27),((Str.ofString "second"),28),((Str.ofString "gaps"),29),((Str.ofString "verdict"),30),((Str.ofString "some"),31),((Str.ofString "new"),32),((Str.ofString "mail"),33),((Str.ofString "heights"),34),((Str.ofString "sent"),35),((Str.ofString "due"),36),((Str.ofString "words"),37)]
noncomputable def oS:List MV→Option (Fl×List MV):= #[e,3,#[l,(fun _=>some [.str (Str.ofString "OPTIMIZED"),.str (Str.ofString "NEWLOCALS"),.str (Str.ofString "VARARGS"),.str (Str.ofString "VARKEYWORDS"),.str (Str.ofString "NESTED"),.str (Str.ofString "GENERATOR"),.str (Str.ofString "NOFREE"),.str (Str.ofString "COROUTINE")])]]
theorem Ah(H:gF L)(hn:L.exc=none):S1 L #[C,26] gG gE 2 false #[N,0,#[B,26]] oS:= #v[v,#v[y,#v[R]],#v[f,3],(fun env h=>by (first|exact VD env|cases env);(first|exact VD h|cases h);kernel_rfl)]
noncomputable def oU:List MV→Option (Fl×List MV):= #[e,3,#[b,#[b,#[3],#[l,#[c,(fun _=>some (.str (Str.ofString "ITERABLE_COROUTINE"))),#[c,(fun _=>some (.str (Str.ofString "ASYNC_GENERATOR"))),#v[]]]],gR],(iB 1 #[f,#[f,#[c,#[i,10],#[c,#[i,32],#v[]]],i7],itemsOf] #[o,(gL [0] #[n,0]),#[y],#[b,#[b,(fun _=>some (.str (Str.ofString "0x"))),#[b,(fun _=>some (.str (Str.ofString "1248"))),#[b,#[0],#[i,4],jn],gC],gR],#[b,(fun _=>some (.str (Str.ofString "0"))),#[b,#[0],#[i,4],j0],iA],gR]]),gR]]
theorem Ai(H:gF L)(hn:L.exc=none):S1 L #[C,26] gG gE 2 false #[N,1,#[B,26]] oU:= #v[v,#v[d,#v[d,#v[a,3],#v[y,#v[b,#v[D],#v[b,#v[D],#v[e]]]],gS],#v[u,[(Str.ofString "k")],#v[m,#v[i,H.b_range,.type _,je.less (aC _),#v[b,#v[c],#v[b,#v[c],#v[e]]]]],#v[r,(fun h=>by (first|exact VD h|cases h)),#v[l,[0],#v[s,#v[f,0]]],Keeps.name,#v[t],#v[d,#v[d,#v[D],#v[k,#v[D],#v[d,#v[a,0],#v[c],iV]],gS],#v[d,#v[D],#v[d,#v[a,0],#v[c],jN],jd],gS]]],gS],#v[f,3],(fun env h=>by (first|exact VD env|cases env);(first|exact VD h|cases h);kernel_rfl)]
noncomputable def oV:List MV→Option (Fl×List MV):= #[e,4,#[l,(fun _=>some [.str (Str.ofString "-0x100000000"),.str (Str.ofString "0x0"),.str (Str.ofString "0x100000000"),.str (Str.ofString "0x200000000")])]]
theorem Aj(H:gF L)(hn:L.exc=none):S1 L #[C,26] gG gE 2 false #[N,2,#[B,26]] oV:= #v[v,#v[y,#v[R]],#v[f,4],(fun env h=>by (first|exact VD env|cases env);(first|exact VD h|cases h);kernel_rfl)]
noncomputable def oW:List MV→Option (Fl×List MV):=(fun ρ=>(#[t,#[c,#[l,(fun _=>some [.int 2,.int 3,.int 4,.int 13,.int 14,.int 15,.int 24,.int 25,.int 35])],#[c,#[l,(fun _=>some [.int 1,.int 12,.int 23,.int 34,.int 45,.int 5])],#[c,#[b,#[0],#[i,1],gC],#v[]]]]] ρ).bind fun v=>(#[m,[5,6,7]] v ρ).map fun ρ'=>(.next,ρ'))
theorem Ak(H:gF L)(hn:L.exc=none):S1 L #[C,26] gG gE 2 false #[N,3,#[B,26]] oW:= #v[U,#v[I,#v[b,#v[y,#v[R]],#v[b,#v[y,#v[R]],#v[b,#v[k,#v[a,0],#v[c]],#v[e]]]]],#v[z,.cons (.cons (.cons gZ.nil)),(.cons (@iD _ _ (by kernel_rfl)) (@gH _ _ (5) (by kernel_rfl) (@kx _ (by kernel_rfl))) (.cons (@iD _ _ (by kernel_rfl)) (@gH _ _ (6) (by kernel_rfl) (@kx _ (by kernel_rfl))) (.cons (@iD _ _ (by kernel_rfl)) (@gH _ _ (7) (by kernel_rfl) (@kx _ (by kernel_rfl))) i8.nil)))],(fun env h=>by (first|exact VD env|cases env);(first|exact VD h|cases h);kernel_rfl),(fun env h=>by (first|exact VD env|cases env);(first|exact VD h|cases h);kernel_rfl)]
noncomputable def oX:List MV→Option (Fl×List MV):=(fun ρ=>(#[t,#[c,#[b,#[7],#[i,6],jn],#[c,#[b,#[b,#[7],#[i,6],j0],#[i,24],jn],#[c,#[i,0],#[c,#[i,0],#v[]]]]]] ρ).bind fun v=>(#[m,[8,9,10,11]] v ρ).map fun ρ'=>(.next,ρ'))
theorem Al(H:gF L)(hn:L.exc=none):S1 L #[C,26] gG gE 2 false #[N,4,#[B,26]] oX:= #v[U,#v[I,#v[b,#v[d,#v[a,7],#v[c],iV],#v[b,#v[d,#v[d,#v[a,7],#v[c],jN],#v[c],iV],#v[b,#v[c],#v[b,#v[c],#v[e]]]]]],#v[z,.cons (.cons (.cons (.cons gZ.nil))),(.cons (@iD _ _ (by kernel_rfl)) (@gH _ _ (8) (by kernel_rfl) (@kx _ (by kernel_rfl))) (.cons (@iD _ _ (by kernel_rfl)) (@gH _ _ (9) (by kernel_rfl) (@kx _ (by kernel_rfl))) (.cons (@iD _ _ (by kernel_rfl)) (@gH _ _ (10) (by kernel_rfl) (@kx _ (by kernel_rfl))) (.cons (@iD _ _ (by kernel_rfl)) (@gH _ _ (11) (by kernel_rfl) (@kx _ (by kernel_rfl))) i8.nil))))],(fun env h=>by (first|exact VD env|cases env);(first|exact VD h|cases h);kernel_rfl),(fun env h=>by (first|exact VD env|cases env);(first|exact VD h|cases h);kernel_rfl)]
noncomputable def oY:List MV→Option (Fl×List MV):= #[e,12,(iB 1 #[f,#[d,#[0],#[f,#[i,2],lb],#[f,#[i,5],lb]],itemsOf] #[o,(gL [0] #[n,0]),#[y],#[b,#[0],#[i,262144],jn]])]
theorem Am(H:gF L)(hn:L.exc=none):S1 L #[C,26] gG gE 2 false #[N,5,#[B,26]] oY:= #v[v,#v[u,[(Str.ofString "cell")],#v[m,#v[M,#v[a,0],#v[K,#v[c]],#v[K,#v[c]]]],#v[r,(fun h=>by (first|exact VD h|cases h)),#v[l,[0],#v[s,#v[f,0]]],Keeps.name,#v[t],#v[d,#v[a,0],#v[c],iV]]],#v[f,12],(fun env h=>by (first|exact VD env|cases env);(first|exact VD h|cases h);kernel_rfl)]
noncomputable def oZ:List MV→Option (Fl×List MV):=(fun ρ=>(iB 2 #[f,#[f,#[c,#[i,3],#v[]],i7],itemsOf] (i9 (nZ (gL [0] #[n,0]) #[y] #[f,#[f,#[c,iy #[14] #[0] gC,#[c,#[b,#[b,#[2],#[i,5],gC],#[b,#[i,16],#[0],kS],j0],#v[]]],lP],itemsOf] #[o,(gL [1] #[n,1]),#[y],#[1]])) ρ).map fun v=>(.next,ρ.set 13 (.p v)))
theorem An(H:gF L)(hn:L.exc=none):S1 L #[C,26] gG gE 2 false #[N,6,#[B,26]] oZ:= #v[W,([(Str.ofString "k"),(Str.ofString "octet")]),#v[m,#v[i,H.b_range,.type _,je.less (aC _),#v[b,#v[c],#v[e]]]],(by exact @CJ.more _ _ _ _ _ _ _ _ _ _ _ _ _ _ _ _ _ _ _ _ _ _ rfl rfl (fun h=>by (first|exact VD h|cases h)) #v[l,[0],#v[s,#v[f,0]]] Keeps.name #v[t] #v[m,#v[i,H.g__law_octets,(H.fn__law_octets).callee,((yo H hn).less (by decide)),#v[b,#v[k,#v[a,14],#v[a,0]],#v[b,#v[d,#v[k,#v[a,2],#v[c]],#v[d,#v[c],#v[a,0],oF],jN],#v[e]]]]] #v[r,(fun h=>by (first|exact VD h|cases h)),#v[l,[1],#v[s,#v[f,1]]],Keeps.name,#v[t],#v[a,1]] (fun _ _=>rfl)),#v[f,13],(fun env h=>by (first|exact VD env|cases env);(first|exact VD h|cases h);kernel_rfl)]
noncomputable def o3:List MV→Option (Fl×List MV):=(EZ 38 14 #[f,#[c,#[b,#[13],#[b,#[l,#[c,#[b,#[i,64],#[b,#[b,#[0],#[i,5],gC],#[i,64],jn],gR],#v[]]],#[b,#[b,#[b,#[0],#[i,5],gC],#[i,4096],j0],#[i,3],jn],iA],gR],#v[]],Ie])
theorem Ao(H:gF L)(hn:L.exc=none):S1 L #[C,26] gG gE 2 true #[N,7,#[B,26]] o3:= #v[Y,#v[al,H.b_iter,.builtin _,Ig.less (aC _),#v[b,#v[d,#v[a,13],#v[d,#v[y,#v[b,#v[d,#v[c],#v[d,#v[k,#v[a,0],#v[c]],#v[c],iV],gS],#v[e]]],#v[d,#v[d,#v[k,#v[a,0],#v[c]],#v[c],jN],#v[c],iV],jd],gS],#v[e]]],#v[f,14],(fun env h=>by (first|exact VD env|cases env);(first|exact VD h|cases h);kernel_rfl)]
noncomputable def o4:List MV→Option (Fl×List MV):=(fun ρ=>(#[t,#[c,#[t,#[c,#[i,0],#[c,#[i,0],#[c,#[i,0],#[c,#[i,0],#[c,(fun _=>some (.iM [] [])),#v[]]]]]]],#[c,#[f,#[c,(iB 1 #[f,#[t,(fun _=>some [.int 2,.int 3,.int 4])],itemsOf] #[o,(gL [0] #[n,0]),#[y],#[f,#[c,#[9],#[c,#[b,iy #[9] #[0] gR,#[i,6],jn],#v[]]],jr]]),#v[]],kT],#v[]]]] ρ).bind fun v=>(#[m,[15,16]] v ρ).map fun ρ'=>(.next,ρ'))
theorem Ap(H:gF L)(hn:L.exc=none):S1 L #[C,26] gG gE 2 false #[N,8,#[B,26]] o4:= #v[U,#v[I,#v[b,#v[I,#v[b,#v[c],#v[b,#v[c],#v[b,#v[c],#v[b,#v[c],#v[b,(by exact @SE.QN _ _ _ _ _),#v[e]]]]]]],#v[b,#v[i,H.b_sorted,.builtin _,qx.less (aC _),#v[b,#v[u,[(Str.ofString "k")],#v[m,#v[I,#v[R]]],#v[r,(fun h=>by (first|exact VD h|cases h)),#v[l,[0],#v[s,#v[f,0]]],Keeps.name,#v[t],#v[i,H.g__law_code,(H.fn__law_code).callee,((lW H hn).less (by decide)),#v[b,#v[a,9],#v[b,#v[d,#v[d,#v[a,9],#v[a,0],gS],#v[c],iV],#v[e]]]]]],#v[e]]],#v[e]]]],#v[z,.cons (.cons gZ.nil),(.cons (@iD _ _ (by kernel_rfl)) (@gH _ _ (15) (by kernel_rfl) (@kx _ (by kernel_rfl))) (.cons (@iD _ _ (by kernel_rfl)) (@gH _ _ (16) (by kernel_rfl) (@kx _ (by kernel_rfl))) i8.nil))],(fun env h=>by (first|exact VD env|cases env);(first|exact VD h|cases h);kernel_rfl),(fun env h=>by (first|exact VD env|cases env);(first|exact VD h|cases h);kernel_rfl)]
noncomputable def o5:List MV→Option (Fl×List MV):=(EZ 38 17 #[f,#[c,(iB 1 #[f,#[f,#[c,#[i,6],#v[]],i7],itemsOf] #[o,(gL [0] #[n,0]),#[y],#[t,#[c,#[b,#[7],#[0],gC],#[c,#[f,#[c,#[b,#[2],#[0],gC],#v[]],jS],#v[]]]]]),#v[]],qa])
theorem Aq(H:gF L)(hn:L.exc=none):S1 L #[C,26] gG gE 2 true #[N,9,#[B,26]] o5:= #v[Y,#v[al,H.b_dict,.type _,(xW hn).less (aC _),#v[b,#v[u,[(Str.ofString "k")],#v[m,#v[i,H.b_range,.type _,je.less (aC _),#v[b,#v[c],#v[e]]]],#v[r,(fun h=>by (first|exact VD h|cases h)),#v[l,[0],#v[s,#v[f,0]]],Keeps.name,#v[t],#v[I,#v[b,#v[k,#v[a,7],#v[a,0]],#v[b,#v[i,H.g__law_entry,(H.fn__law_entry).callee,((mB H).less (by decide)),#v[b,#v[k,#v[a,2],#v[a,0]],#v[e]]],#v[e]]]]]],#v[e]]],#v[f,17],(fun env h=>by (first|exact VD env|cases env);(first|exact VD h|cases h);kernel_rfl)]
noncomputable def pH:List MV→Option (Fl×List MV):=(E3 17 #[18] #[f,#[c,#[1],#[c,#[8],#[c,#[2],#[c,#[18],#v[]]]]],lz])
theorem vm(H:gF L)(hn:L.exc=none):S1 L #[C,26] gG gE 2 false #[N,0,#[F,#[N,10,#[B,26]]]] pH:= #v[ag,#v[i,H.g__law_due,(H.fn__law_due).callee,((xe H hn).less (by decide)),#v[b,#v[a,1],#v[b,#v[a,8],#v[b,#v[a,2],#v[b,#v[a,18],#v[e]]]]]],#v[a,18],#v[f,17],(fun env h=>by (first|exact VD env|cases env);(first|exact VD h|cases h);kernel_rfl)]
noncomputable def lQ:List MV→Option (Fl×List MV):=(gN pH #[k])
theorem yu(H:gF L)(hn:L.exc=none):SS L #[C,26] gG gE 2 (false||false) #[F,#[N,10,#[B,26]]] lQ:= #v[w,[hG 0 #[F,#[N,10,#[B,26]]]],#v[h,(@vm _ H hn),#v[x]]]
noncomputable def nS:List MV→Option (Fl×List MV):=(fun ρ=>(#[f,#[16],itemsOf] ρ).bind fun ps=>mM #[n,18] lQ #[k] ρ ps)
theorem yv(H:gF L)(hn:L.exc=none):S1 L #[C,26] gG gE 2 false #[N,10,#[B,26]] nS:= #v[Q,#v[m,#v[a,16]],#v[s,#v[f,18]],(fun h=>by (first|exact VD h|cases h)),#v[C,(false||false),(by exact @yu _ H hn)],#v[C,false,#v[o]]]
noncomputable def nT:List MV→Option (Fl×List MV):=(fun ρ=>(iB 1 #[f,#[f,#[c,#[i,6],#v[]],i7],itemsOf] #[o,(gL [0] #[n,0]),#[y],#[b,#[i,1],#[f,#[c,(iB 1 #[f,#[17],itemsOf] #[o,(gL [0] #[n,0]),#[q,#[1],#[f,#[c,#[0],#[c,#[i,10],#v[]]],j9],s7],#[0]]),#v[]],Ba],gR]] ρ).map fun v=>(.next,ρ.set 19 (.p v)))
theorem yw(H:gF L)(hn:L.exc=none):S1 L #[C,26] gG gE 2 false #[N,11,#[B,26]] nT:= #v[W,[(Str.ofString "k")],#v[m,#v[i,H.b_range,.type _,je.less (aC _),#v[b,#v[c],#v[e]]]],#v[r,(fun h=>by (first|exact VD h|cases h)),#v[l,[0],#v[s,#v[f,0]]],Keeps.name,#v[t],#v[d,#v[c],#v[i,H.b_len,.builtin _,CH.less (aC _),#v[b,#v[u,[(Str.ofString "code")],#v[m,#v[a,17]],#v[r,(fun h=>by (first|exact VD h|cases h)),#v[l,[0],#v[s,#v[f,0]]],Keeps.name,#v[aa,#v[B,#v[a,1],#v[i,H.b_divmod,.builtin _,n4.less (aC _),#v[b,#v[a,0],#v[b,#v[c],#v[e]]]],vZ]],#v[a,0]]],#v[e]]],gS]],#v[f,19],(fun env h=>by (first|exact VD env|cases env);(first|exact VD h|cases h);kernel_rfl)]
noncomputable def jW:List MV→Option (Fl×List MV):= #[x,#[q,#[b,#[20],#[i,2],jn],#[i,0],AY],(gN (D8 14 11 2 gV) (gN #[x,#[q,#[11],#[b,#[12],#[b,#[20],#[i,2],j0],gC],lU],(gN #[h,#[j,false]] #[k]),#[k]] #[k])),#[k]]
theorem vn(H:gF L)(hn:L.exc=none):S1 L #[C,26] gG gE 2 ((false||(((false||false)||false)||false))||false) #[N,0,#[F,#[N,12,#[B,26]]]] jW:= #v[O,#v[B,#v[d,#v[a,20],#v[c],iV],#v[c],AZ],#v[A,(by exact @S1.O8 _ _ _ _ _ _ (by decide) hn _ _ _ _ _ _ _ _ _ (@px _ H hn) _ _ _ _ _ _ _ _ _ _ (by kernel_rfl) H.g__parse_varint #v[f,14] #v[j] #v[f,11] (by kernel_rfl) (by kernel_rfl) (fun env h=>by (first|exact VD env|cases env);(first|exact VD h|cases h);kernel_rfl)),#v[A,#v[ah,#v[B,#v[a,11],#v[k,#v[a,12],#v[d,#v[a,20],#v[c],jN]],pe],#v[A,#v[P,#v[X]],#v[o]],#v[o]],#v[o]]],#v[o]]
noncomputable def md:List MV→Option (Fl×List MV):= #[e,10,#[b,#[b,#[b,#[b,#[7],#[i,144],j0],#[20],gR],#[i,4],jn],#[i,1],ko]]
theorem vo(H:gF L)(hn:L.exc=none):S1 L #[C,26] gG gE 2 false #[N,1,#[F,#[N,12,#[B,26]]]] md:= #v[v,#v[d,#v[d,#v[d,#v[d,#v[a,7],#v[c],jN],#v[a,20],gS],#v[c],iV],#v[c],kp],#v[f,10],(fun env h=>by (first|exact VD env|cases env);(first|exact VD h|cases h);kernel_rfl)]
noncomputable def me:List MV→Option (Fl×List MV):= #[e,21,(fun ρ=>(#[f,#[c,#[b,#[f,#[c,(iB 1 #[f,#[f,#[c,#[19],#v[]],qk],itemsOf] #[o,(gL [0] #[n,0]),#[y],#[b,#[i,2],iy #[10] (fun ρ=>(#[6] ρ).bind fun p=>(#[c,#[0],#v[]] ρ).bind fun ps=>lM p ps) gR,kS]]),#v[]],CI],#[b,#[10],#[b,#[i,2],#[i,32],kS],iA],gR],#v[]],jg] ρ).bind fun p=>(#[c,(fun _=>some (.str (Str.ofString ", "))),#v[]] ρ).bind fun ps=>qz p ps)]
theorem vp(H:gF L)(hn:L.exc=none):S1 L #[C,26] gG gE 2 false #[N,2,#[F,#[N,12,#[B,26]]]] me:= #v[v,#v[J,#v[i,H.g_pretty_flags,(H.fn_pretty_flags).callee,((mZ H).less (by decide)),#v[b,#v[d,#v[i,H.b_sum,.builtin _,(OD hn).less (aC _),#v[b,#v[u,[(Str.ofString "code")],#v[m,#v[i,H.g__law_read,(H.fn__law_read).callee,((BX H hn).less (by decide)),#v[b,#v[a,19],#v[e]]]],#v[r,(fun h=>by (first|exact VD h|cases h)),#v[l,[0],#v[s,#v[f,0]]],Keeps.name,#v[t],#v[d,#v[c],#v[d,#v[a,10],#v[J,#v[a,6],#v[b,#v[a,0],#v[e]],sq],gS],oF]]],#v[e]]],#v[d,#v[a,10],#v[d,#v[c],#v[c],oF],jd],gS],#v[e]]],#v[b,#v[D],#v[e]],Bm],#v[f,21],(fun env h=>by (first|exact VD env|cases env);(first|exact VD h|cases h);kernel_rfl)]
noncomputable def mf:List MV→Option (Fl×List MV):= #[x,#[q,#[21],#[b,(iB 1 #[f,#[16],itemsOf] #[o,(gL [0] #[n,0]),#[y],#[b,#[4],#[b,#[10],(fun ρ=>(#[6] ρ).bind fun p=>(#[c,#[0],#v[]] ρ).bind fun ps=>lM p ps),gR],gC]]),#[b,#[l,#[c,#[b,#[4],#[b,#[10],#[i,1],gR],gC],#v[]]],#[f,#[c,#[b,#[10],#[i,0],lU],#v[]],ph],iA],gR],lU],(gN #[h,#[j,false]] #[k]),#[k]]
theorem vq(H:gF L)(hn:L.exc=none):S1 L #[C,26] gG gE 2 ((false||false)||false) #[N,3,#[F,#[N,12,#[B,26]]]] mf:= #v[O,#v[B,#v[a,21],#v[d,#v[u,[(Str.ofString "code")],#v[m,#v[a,16]],#v[r,(fun h=>by (first|exact VD h|cases h)),#v[l,[0],#v[s,#v[f,0]]],Keeps.name,#v[t],#v[k,#v[a,4],#v[d,#v[a,10],#v[J,#v[a,6],#v[b,#v[a,0],#v[e]],sq],gS]]]],#v[d,#v[y,#v[b,#v[k,#v[a,4],#v[d,#v[a,10],#v[c],gS]],#v[e]]],#v[i,H.b_int,.type _,rE.less (aC _),#v[b,#v[N,#v[a,10],#v[c],pe],#v[e]]],jd],gS],pe],#v[A,#v[P,#v[X]],#v[o]],#v[o]]
noncomputable def kE:List MV→Option (Fl×List MV):= #[e,22,#[b,#[5],#[b,(fun ρ=>(#[3] ρ).bind fun p=>(#[c,#[b,#[21],#[b,#[b,#[11],#[b,#[i,3],#[b,#[20],#[i,2],jn],kS],j0],#[i,3],jn],gC],#v[]] ρ).bind fun ps=>lM p ps),#[9],ko],gC]]
theorem vt(H:gF L)(hn:L.exc=none):S1 L #[C,26] gG gE 2 false #[N,4,#[F,#[N,12,#[B,26]]]] kE:= #v[v,#v[k,#v[a,5],#v[d,#v[J,#v[a,3],#v[b,#v[k,#v[a,21],#v[d,#v[d,#v[a,11],#v[d,#v[c],#v[d,#v[a,20],#v[c],iV],oF],jN],#v[c],iV]],#v[e]],sq],#v[a,9],kp]],#v[f,22],(fun env h=>by (first|exact VD env|cases env);(first|exact VD h|cases h);kernel_rfl)]
noncomputable def mh:List MV→Option (Fl×List MV):=(fun ρ=>(#[t,#[c,#[f,#[c,#[22],#[c,#[i,10],#v[]]],j9],#[c,#[f,#[c,#[16],#[c,#[f,#[c,#[22],#[c,#[i,10],#v[]]],j9],#v[]]],lO],#v[]]]] ρ).bind fun v=>(#[m,[23,24]] v ρ).map fun ρ'=>(.next,ρ'))
theorem vu(H:gF L)(hn:L.exc=none):S1 L #[C,26] gG gE 2 false #[N,5,#[F,#[N,12,#[B,26]]]] mh:= #v[U,#v[I,#v[b,#v[i,H.b_divmod,.builtin _,n4.less (aC _),#v[b,#v[a,22],#v[b,#v[c],#v[e]]]],#v[b,#v[i,H.g__law_apexes,(H.fn__law_apexes).callee,((yk H hn).less (by decide)),#v[b,#v[a,16],#v[b,#v[i,H.b_divmod,.builtin _,n4.less (aC _),#v[b,#v[a,22],#v[b,#v[c],#v[e]]]],#v[e]]]],#v[e]]]],#v[z,.cons (.cons gZ.nil),(.cons (@iD _ _ (by kernel_rfl)) (@gH _ _ (23) (by kernel_rfl) (@kx _ (by kernel_rfl))) (.cons (@iD _ _ (by kernel_rfl)) (@gH _ _ (24) (by kernel_rfl) (@kx _ (by kernel_rfl))) i8.nil))],(fun env h=>by (first|exact VD env|cases env);(first|exact VD h|cases h);kernel_rfl),(fun env h=>by (first|exact VD env|cases env);(first|exact VD h|cases h);kernel_rfl)]
noncomputable def mj:List MV→Option (Fl×List MV):=(HW 17 25 2 #[f,#[23],itemsOf] (i9 (nZ (gL [0] #[n,0]) #[y] #[f,#[26],itemsOf] #[o,(gL [1] #[n,1]),#[y],#[b,#[19],#[f,#[c,#[0],#[c,#[1],#v[]]],jr],gC]])))
theorem vv(H:gF L)(hn:L.exc=none):S1 L #[C,26] gG gE 2 false #[N,6,#[F,#[N,12,#[B,26]]]] mj:=(@S1.RQ _ _ _ _ _ _ _ _ _ _ _ _ _ _ ([(Str.ofString "end"),(Str.ofString "apex")]) _ _ _ _ ((Str.ofString "table")) _ _ #v[f,17] #v[q] #v[m,#v[a,23]] (by exact @CJ.more _ _ _ _ _ _ _ _ _ _ _ _ _ _ _ _ _ _ _ _ _ _ rfl rfl (fun h=>by (first|exact VD h|cases h)) #v[l,[0],#v[s,#v[f,0]]] Keeps.name #v[t] #v[m,#v[a,26]] #v[r,(fun h=>by (first|exact VD h|cases h)),#v[l,[1],#v[s,#v[f,1]]],Keeps.name,#v[t],#v[k,#v[a,19],#v[i,H.g__law_code,(H.fn__law_code).callee,((lW H hn).less (by decide)),#v[b,#v[a,0],#v[b,#v[a,1],#v[e]]]]]] (fun _ _=>rfl)) (fun _ _=>rfl) #v[j] #v[f,25] (fun env h=>by (first|exact VD env|cases env);(first|exact VD h|cases h);kernel_rfl))
noncomputable def ml:List MV→Option (Fl×List MV):=(fun ρ=>(iB 1 #[r,#[25],#[l,#[c,#[15],#v[]]],gR,itemsOf] #[o,(gL [0] #[n,0]),#[y],#[f,#[c,#[b,#[0],#[i,4],gC],#v[]],(fun ps=>(CN ps).bind MV.yR)]] ρ).map fun v=>(.next,ρ.set 26 (.p v)))
theorem vw(H:gF L)(hn:L.exc=none):S1 L #[C,26] gG gE 2 false #[N,7,#[F,#[N,12,#[B,26]]]] ml:= #v[W,[(Str.ofString "edge")],#v[m,#v[d,#v[a,25],#v[y,#v[b,#v[a,15],#v[e]]],gS]],#v[r,(fun h=>by (first|exact VD h|cases h)),#v[l,[0],#v[s,#v[f,0]]],Keeps.name,#v[t],#v[i,H.b_dict,.type _,Hs.yR.less (aC _),#v[b,#v[k,#v[a,0],#v[c]],#v[e]]]],#v[f,26],(fun env h=>by (first|exact VD env|cases env);(first|exact VD h|cases h);kernel_rfl)]
noncomputable def mn:List MV→Option (Fl×List MV):= #[e,27,#[f,#[c,#[f,#[c,#[15],#[c,#[b,#[25],#[i,0],gC],#v[]]],hO],#[c,#[b,#[25],#[i,3],gC],#v[]]],hO]]
theorem vy(H:gF L)(hn:L.exc=none):S1 L #[C,26] gG gE 2 false #[N,8,#[F,#[N,12,#[B,26]]]] mn:= #v[v,#v[i,H.g_add_func_stats,(H.fn_add_func_stats).callee,((jF H hn).less (by decide)),#v[b,#v[i,H.g_add_func_stats,(H.fn_add_func_stats).callee,((jF H hn).less (by decide)),#v[b,#v[a,15],#v[b,#v[k,#v[a,25],#v[c]],#v[e]]]],#v[b,#v[k,#v[a,25],#v[c]],#v[e]]]],#v[f,27],(fun env h=>by (first|exact VD env|cases env);(first|exact VD h|cases h);kernel_rfl)]
noncomputable def mq:List MV→Option (Fl×List MV):= #[e,28,#[f,#[c,#[f,#[c,#[b,#[25],#[i,1],gC],#[c,#[15],#v[]]],hO],#[c,#[b,#[25],#[i,2],gC],#v[]]],hO]]
theorem vz(H:gF L)(hn:L.exc=none):S1 L #[C,26] gG gE 2 false #[N,9,#[F,#[N,12,#[B,26]]]] mq:= #v[v,#v[i,H.g_add_func_stats,(H.fn_add_func_stats).callee,((jF H hn).less (by decide)),#v[b,#v[i,H.g_add_func_stats,(H.fn_add_func_stats).callee,((jF H hn).less (by decide)),#v[b,#v[k,#v[a,25],#v[c]],#v[b,#v[a,15],#v[e]]]],#v[b,#v[k,#v[a,25],#v[c]],#v[e]]]],#v[f,28],(fun env h=>by (first|exact VD env|cases env);(first|exact VD h|cases h);kernel_rfl)]
noncomputable def lA:List MV→Option (Fl×List MV):=(fun ρ=>(#[t,#[c,(iB 2 #[f,#[c,#[f,#[c,#[27],#v[]],kg],#[c,#[f,#[c,#[28],#v[]],kg],#v[]]],ur] #[o,(gL [0,1] #[m,[0,1]]),#[y],#[b,#[0],#[1],ko]]),#[c,#[i,0],#v[]]]] ρ).bind fun v=>(#[m,[29,30]] v ρ).map fun ρ'=>(.next,ρ'))
theorem tQ(H:gF L)(hn:L.exc=none):S1 L #[C,26] gG gE 2 false #[N,10,#[F,#[N,12,#[B,26]]]] lA:= #v[U,#v[I,#v[b,#v[u,([(Str.ofString "x"),(Str.ofString "y")]),#v[ac,H.b_zip,#v[b,#v[i,H.g__law_row,(H.fn__law_row).callee,((m5 H).less (by decide)),#v[b,#v[a,27],#v[e]]],#v[b,#v[i,H.g__law_row,(H.fn__law_row).callee,((m5 H).less (by decide)),#v[b,#v[a,28],#v[e]]],#v[e]]]],#v[r,(fun _=>rfl),#v[l,[0,1],#v[z,.cons (.cons gZ.nil),(.cons (@iD _ _ (by kernel_rfl)) (@gH _ _ (0) (by kernel_rfl) (@kx _ (by kernel_rfl))) (.cons (@iD _ _ (by kernel_rfl)) (@gH _ _ (1) (by kernel_rfl) (@kx _ (by kernel_rfl))) i8.nil))]],Keeps.tup,#v[t],#v[d,#v[a,0],#v[a,1],kp]]],#v[b,#v[c],#v[e]]]],#v[z,.cons (.cons gZ.nil),(.cons (@iD _ _ (by kernel_rfl)) (@gH _ _ (29) (by kernel_rfl) (@kx _ (by kernel_rfl))) (.cons (@iD _ _ (by kernel_rfl)) (@gH _ _ (30) (by kernel_rfl) (@kx _ (by kernel_rfl))) i8.nil))],(fun env h=>by (first|exact VD env|cases env);(first|exact VD h|cases h);kernel_rfl),(fun env h=>by (first|exact VD env|cases env);(first|exact VD h|cases h);kernel_rfl)]
noncomputable def kJ:List MV→Option (Fl×List MV):= #[e,30,#[f,#[f,#[c,#[31],#v[]],zR tC (Str.ofString "comp_select_list")],(wo tC (Str.ofString "comp_select_list") fun q=>(#[c,#[f,#[c,#[27],#v[]],kg],#[c,#[f,#[c,#[28],#v[]],kg],#v[]]] ρ).bind fun ps=>jw (.inst tC (Str.ofString "comp_select_list") q::ps))]]
theorem rU(H:gF L)(hn:L.exc=none):S1 L #[C,26] gG gE 2 false #[N,0,#[F,#[N,11,#[F,#[N,12,#[B,26]]]]]] kJ:= #v[v,(by exact @SE.SJ _ _ _ _ _ _ _ _ H.cd _ _ _ _ _ _ _ _ _ _ H.m_compare H.t_compare (by decide+kernel) #v[i,H.g_TupleComp,.cls H.cd.Qy H.cd.Ph,((BI H).less (by decide)),#v[b,#v[a,31],#v[e]]] (H.fn_TupleComp_compare).callee ((qK H).less (by decide)) #v[b,#v[i,H.g__law_row,(H.fn__law_row).callee,((m5 H).less (by decide)),#v[b,#v[a,27],#v[e]]],#v[b,#v[i,H.g__law_row,(H.fn__law_row).callee,((m5 H).less (by decide)),#v[b,#v[a,28],#v[e]]],#v[e]]] (fun _=>rfl) (fun _=>rfl) (fun _=>⟨_,rfl⟩)),#v[f,30],(fun env h=>by (first|exact VD env|cases env);(first|exact VD h|cases h);kernel_rfl)]
noncomputable def kK:List MV→Option (Fl×List MV):= #[x,#[q,#[30],#[b,#[b,(iB 2 #[f,#[31],itemsOf] #[o,(gL [0,1] #[m,[0,1]]),#[q,iy #[31] #[0] gC,#[i,0],lU],#[w,#[q,iy #[31] #[0] gC,#[i,0],J9],#[1],#[f,#[1],vU]]]),#[l,#[c,#[i,0],#v[]]],gR],#[i,0],gC],lU],(gN #[h,#[j,false]] #[k]),#[k]]
theorem rV(H:gF L)(hn:L.exc=none):S1 L #[C,26] gG gE 2 ((false||false)||false) #[N,1,#[F,#[N,11,#[F,#[N,12,#[B,26]]]]]] kK:= #v[O,#v[B,#v[a,30],#v[k,#v[d,#v[u,([(Str.ofString "k"),(Str.ofString "way")]),#v[m,#v[a,31]],#v[r,(fun h=>by (first|exact VD h|cases h)),#v[l,[0,1],#v[z,.cons (.cons gZ.nil),(.cons (@iD _ _ (by kernel_rfl)) (@gH _ _ (0) (by kernel_rfl) (@kx _ (by kernel_rfl))) (.cons (@iD _ _ (by kernel_rfl)) (@gH _ _ (1) (by kernel_rfl) (@kx _ (by kernel_rfl))) i8.nil))]],Keeps.tup,#v[aa,#v[B,#v[k,#v[a,31],#v[a,0]],#v[c],pe]],#v[am,#v[B,#v[k,#v[a,31],#v[a,0]],#v[c],MJ],#v[a,1],#v[af,#v[a,1]]]]],#v[y,#v[b,#v[c],#v[e]]],gS],#v[c]],pe],#v[A,#v[P,#v[X]],#v[o]],#v[o]]
noncomputable def lB:List MV→Option (Fl×List MV):=(gN kJ (gN kK #[k]))
theorem tR(H:gF L)(hn:L.exc=none):SS L #[C,26] gG gE 2 (false||(((false||false)||false)||false)) #[F,#[N,11,#[F,#[N,12,#[B,26]]]]] lB:= #v[w,([hG 0 #[F,#[N,11,#[F,#[N,12,#[B,26]]]]],hG 1 #[F,#[N,11,#[F,#[N,12,#[B,26]]]]]]),#v[h,(@rU _ H hn),#v[h,(@rV _ H hn),#v[x]]]]
noncomputable def lC:List MV→Option (Fl×List MV):=(fun ρ=>(#[f,#[t,#[c,#[d,#[2],#[z],#[f,#[20],lb]],#[c,#[2],#v[]]]],itemsOf] ρ).bind fun ps=>mM #[n,31] lB #[k] ρ ps)
theorem tS(H:gF L)(hn:L.exc=none):S1 L #[C,26] gG gE 2 false #[N,11,#[F,#[N,12,#[B,26]]]] lC:= #v[Q,#v[m,#v[I,#v[b,#v[M,#v[a,2],#v[V],#v[K,#v[a,20]]],#v[b,#v[a,2],#v[e]]]]],#v[s,#v[f,31]],(fun h=>by (first|exact VD h|cases h)),#v[C,(false||(((false||false)||false)||false)),(by exact @tR _ H hn)],#v[C,false,#v[o]]]
noncomputable def lD:List MV→Option (Fl×List MV):= #[e,32,#[f,#[c,#[b,#[24],#[i,0],gC],#[c,#[b,#[24],#[i,1],gC],#v[]]],jr]]
theorem tT(H:gF L)(hn:L.exc=none):S1 L #[C,26] gG gE 2 false #[N,12,#[F,#[N,12,#[B,26]]]] lD:= #v[v,#v[i,H.g__law_code,(H.fn__law_code).callee,((lW H hn).less (by decide)),#v[b,#v[k,#v[a,24],#v[c]],#v[b,#v[k,#v[a,24],#v[c]],#v[e]]]],#v[f,32],(fun env h=>by (first|exact VD env|cases env);(first|exact VD h|cases h);kernel_rfl)]
noncomputable def jI:List MV→Option (Fl×List MV):=(E3 17 #[32] #[f,#[c,#[w,#[q,#[30],#[i,0],GK],#[28],#[27]],#[c,#[f,#[c,(iB 1 #[f,#[f,#[c,mO 17 #[22],#v[]],kg],itemsOf] #[o,(gL [0] #[n,0]),#[y],#[f,#[0],vU]]),#v[]],jS],#v[]]],hO])
theorem tU(H:gF L)(hn:L.exc=none):S1 L #[C,26] gG gE 2 false #[N,13,#[F,#[N,12,#[B,26]]]] jI:= #v[ag,#v[i,H.g_add_func_stats,(H.fn_add_func_stats).callee,((jF H hn).less (by decide)),#v[b,#v[am,#v[B,#v[a,30],#v[c],DI],#v[a,28],#v[a,27]],#v[b,#v[i,H.g__law_entry,(H.fn__law_entry).callee,((mB H).less (by decide)),#v[b,#v[u,[(Str.ofString "x")],#v[m,#v[i,H.g__law_row,(H.fn__law_row).callee,((m5 H).less (by decide)),#v[b,#v[Z,17,#v[a,22]],#v[e]]]],#v[r,(fun h=>by (first|exact VD h|cases h)),#v[l,[0],#v[s,#v[f,0]]],Keeps.name,#v[t],#v[af,#v[a,0]]]],#v[e]]],#v[e]]]],#v[a,32],#v[f,17],(fun env h=>by (first|exact VD env|cases env);(first|exact VD h|cases h);kernel_rfl)]
noncomputable def lE:List MV→Option (Fl×List MV):= #[x,#[u,#[q,(iB 1 #[r,#[25],#[l,#[c,#[15],#v[]]],gR,itemsOf] #[o,(gL [0] #[n,0]),#[y],#[b,#[0],#[i,4],gC]]),#[26],lU],#[u,#[q,mO 17 #[32],#[f,#[c,#[1],#[c,#[8],#[c,#[2],#[c,#[32],#v[]]]]],lz],lU],(fun _=>some false)]],(gN #[h,#[j,false]] #[k]),#[k]]
theorem tV(H:gF L)(hn:L.exc=none):S1 L #[C,26] gG gE 2 ((false||false)||false) #[N,14,#[F,#[N,12,#[B,26]]]] lE:= #v[O,(by exact @TE.bool _ _ _ _ _ _ _ _ #v[ae,#v[B,#v[u,[(Str.ofString "edge")],#v[m,#v[d,#v[a,25],#v[y,#v[b,#v[a,15],#v[e]]],gS]],#v[r,(fun h=>by (first|exact VD h|cases h)),#v[l,[0],#v[s,#v[f,0]]],Keeps.name,#v[t],#v[k,#v[a,0],#v[c]]]],#v[a,26],pe],#v[ae,#v[B,#v[Z,17,#v[a,32]],#v[i,H.g__law_due,(H.fn__law_due).callee,((xe H hn).less (by decide)),#v[b,#v[a,1],#v[b,#v[a,8],#v[b,#v[a,2],#v[b,#v[a,32],#v[e]]]]]],pe],(by exact @zx.MM _ _ _ _)]]),#v[A,#v[P,#v[X]],#v[o]],#v[o]]
noncomputable def lF:List MV→Option (Fl×List MV):= #[e,33,#[b,#[f,#[c,#[19],#[c,#[24],#[c,#[d,#[b,#[l,(fun _=>some [.str (Str.ofString "\n"),.str (Str.ofString "\r"),.str (Str.ofString "\r\n")])],#[i,2],iA],#[r,#[b,#[20],#[b,#[7],#[i,576],j0],gR],#[i,3],jn,lb],#[z]],#v[]]]],kh],(fun _=>some (.str (Str.ofString "\r"))),gR]]
theorem tW(H:gF L)(hn:L.exc=none):S1 L #[C,26] gG gE 2 false #[N,15,#[F,#[N,12,#[B,26]]]] lF:= #v[v,#v[d,#v[i,H.g__law_mail,(H.fn__law_mail).callee,((uG H hn).less (by decide)),#v[b,#v[a,19],#v[b,#v[a,24],#v[b,#v[M,#v[d,#v[y,#v[R]],#v[c],jd],#v[K,#v[d,#v[d,#v[a,20],#v[d,#v[a,7],#v[c],jN],gS],#v[c],iV]],#v[V]],#v[e]]]]],#v[D],gS],#v[f,33],(fun env h=>by (first|exact VD env|cases env);(first|exact VD h|cases h);kernel_rfl)]
noncomputable def lG:List MV→Option (Fl×List MV):=(fun ρ=>(iB 1 #[f,#[f,#[c,#[i,6],#v[]],i7],itemsOf] #[o,(gL [0] #[n,0]),#[y],#[b,#[b,#[i,1],#[f,#[c,(iB 1 #[f,#[17],itemsOf] #[o,(gL [0] #[n,0]),#[q,#[1],#[f,#[c,#[0],#[c,#[i,10],#v[]]],j9],s7],#[0]]),#v[]],Ba],gR],#[f,#[c,iy #[0] #[25] s7,#v[]],ph],gR]] ρ).map fun v=>(.next,ρ.set 34 (.p v)))
theorem tX(H:gF L)(hn:L.exc=none):S1 L #[C,26] gG gE 2 false #[N,16,#[F,#[N,12,#[B,26]]]] lG:= #v[W,[(Str.ofString "k")],#v[m,#v[i,H.b_range,.type _,je.less (aC _),#v[b,#v[c],#v[e]]]],#v[r,(fun h=>by (first|exact VD h|cases h)),#v[l,[0],#v[s,#v[f,0]]],Keeps.name,#v[t],#v[d,#v[d,#v[c],#v[i,H.b_len,.builtin _,CH.less (aC _),#v[b,#v[u,[(Str.ofString "code")],#v[m,#v[a,17]],#v[r,(fun h=>by (first|exact VD h|cases h)),#v[l,[0],#v[s,#v[f,0]]],Keeps.name,#v[aa,#v[B,#v[a,1],#v[i,H.b_divmod,.builtin _,n4.less (aC _),#v[b,#v[a,0],#v[b,#v[c],#v[e]]]],vZ]],#v[a,0]]],#v[e]]],gS],#v[i,H.b_int,.type _,rE.less (aC _),#v[b,#v[N,#v[a,0],#v[a,25],vZ],#v[e]]],gS]],#v[f,34],(fun env h=>by (first|exact VD env|cases env);(first|exact VD h|cases h);kernel_rfl)]
noncomputable def lH:List MV→Option (Fl×List MV):=(fun ρ=>(#[t,#[c,#[f,#[c,#[33],#v[]],qf],#[c,#[b,#[f,#[c,#[34],#[c,#[24],#[c,#[b,#[l,#[c,(fun _=>some (.str (Str.ofString "\r\n"))),#v[]]],#[i,3],iA],#v[]]]],kh],(fun _=>some (.str (Str.ofString "\r\n"))),gR],#v[]]]] ρ).bind fun v=>(pf v).bind fun l=>(wc [36,35] l.reverse ρ).map fun ρ'=>(.next,ρ'))
theorem tY(H:gF L)(hn:L.exc=none):S1 L #[C,26] gG gE 2 false #[N,17,#[F,#[N,12,#[B,26]]]] lH:=(@S1.Wa _ _ _ _ _ _ _ _ _ _ _ ([(Str.ofString "sent"),(Str.ofString "due")]) _ #v[I,#v[b,#v[i,H.g_quotedata,(H.fn_quotedata).callee,((BK H).less (by decide)),#v[b,#v[a,33],#v[e]]],#v[b,#v[d,#v[i,H.g__law_mail,(H.fn__law_mail).callee,((uG H hn).less (by decide)),#v[b,#v[a,34],#v[b,#v[a,24],#v[b,#v[d,#v[y,#v[b,#v[D],#v[e]]],#v[c],jd],#v[e]]]]],#v[D],gS],#v[e]]]] (.cons (@iD _ _ (by kernel_rfl)) (@gH _ _ (36) (by kernel_rfl) (@kx _ (by kernel_rfl))) (.cons (@iD _ _ (by kernel_rfl)) (@gH _ _ (35) (by kernel_rfl) (@kx _ (by kernel_rfl))) i8.nil)) (fun env h=>by (first|exact VD env|cases env);(first|exact VD h|cases h);kernel_rfl) (fun env h=>by (first|exact VD env|cases env);(first|exact VD h|cases h);kernel_rfl))
noncomputable def lI:List MV→Option (Fl×List MV):= #[x,#[u,#[q,#[35],#[36],lU],#[u,#[q,#[f,#[c,#[f,#[c,(iB 1 #[f,#[f,#[c,#[33],#v[]],qg],itemsOf] #[o,(gL [0] #[n,0]),#[y],#[f,#[c,#[0],#v[]],Bb]]),#v[]],qw],#v[]],lx],#[f,#[c,iB 1 #[f,#[36],itemsOf] #[o,(gL [0] #[n,0]),#[y],#[f,#[c,#[0],#v[]],Bb]],#v[]],qw],lU],(fun _=>some false)]],(gN #[h,#[j,false]] #[k]),#[k]]
theorem tZ(H:gF L)(hn:L.exc=none):S1 L #[C,26] gG gE 2 ((false||false)||false) #[N,18,#[F,#[N,12,#[B,26]]]] lI:= #v[O,(by exact @TE.bool _ _ _ _ _ _ _ _ #v[ae,#v[B,#v[a,35],#v[a,36],pe],#v[ae,#v[B,#v[i,H.g__quote_periods,(H.fn__quote_periods).callee,((tK H).less (by decide)),#v[b,#v[i,H.b_bytes,.type _,(Bd hn).less (aC _),#v[b,#v[u,[(Str.ofString "sign")],#v[m,#v[i,H.g__fix_eols,(H.fn__fix_eols).callee,((BM H).less (by decide)),#v[b,#v[a,33],#v[e]]]],#v[r,(fun h=>by (first|exact VD h|cases h)),#v[l,[0],#v[s,#v[f,0]]],Keeps.name,#v[t],#v[i,H.b_ord,.builtin _,Hk.less (aC _),#v[b,#v[a,0],#v[e]]]]],#v[e]]],#v[e]]],#v[i,H.b_bytes,.type _,(Bd hn).less (aC _),#v[b,#v[u,[(Str.ofString "sign")],#v[m,#v[a,36]],#v[r,(fun h=>by (first|exact VD h|cases h)),#v[l,[0],#v[s,#v[f,0]]],Keeps.name,#v[t],#v[i,H.b_ord,.builtin _,Hk.less (aC _),#v[b,#v[a,0],#v[e]]]]],#v[e]]],pe],(by exact @zx.MM _ _ _ _)]]),#v[A,#v[P,#v[X]],#v[o]],#v[o]]
noncomputable def lJ:List MV→Option (Fl×List MV):=(fun ρ=>(iB 2 #[f,#[d,(fun ρ=>(#[35] ρ).bind fun p=>(#[c,(fun _=>some (.str (Str.ofString "\r\n"))),#v[]] ρ).bind fun ps=>qz p ps),#[z],#[f,#[i,6],lb]],tj] #[o,(gL [0,1] #[m,[0,1]]),#[y],#[b,(fun ρ=>(#[1] ρ).bind fun p=>(#[c,(fun _=>some (.str (Str.ofString "."))),#v[]] ρ).bind fun ps=>vH p ps),#[f,#[c,iy #[0] #[25] s7,#v[]],ph],ko]] ρ).map fun v=>(.next,ρ.set 19 (.p v)))
theorem t4(H:gF L)(hn:L.exc=none):S1 L #[C,26] gG gE 2 false #[N,19,#[F,#[N,12,#[B,26]]]] lJ:= #v[W,([(Str.ofString "k"),(Str.ofString "row")]),#v[ad,hn,H.b_enumerate,#v[M,#v[J,#v[a,35],#v[b,#v[D],#v[e]],Bm],#v[V],#v[K,#v[c]]]],#v[r,(fun _=>rfl),#v[l,[0,1],#v[z,.cons (.cons gZ.nil),(.cons (@iD _ _ (by kernel_rfl)) (@gH _ _ (0) (by kernel_rfl) (@kx _ (by kernel_rfl))) (.cons (@iD _ _ (by kernel_rfl)) (@gH _ _ (1) (by kernel_rfl) (@kx _ (by kernel_rfl))) i8.nil))]],Keeps.tup,#v[t],#v[d,#v[J,#v[a,1],#v[b,#v[D],#v[e]],HA],#v[i,H.b_int,.type _,rE.less (aC _),#v[b,#v[N,#v[a,0],#v[a,25],vZ],#v[e]]],kp]],#v[f,19],(fun env h=>by (first|exact VD env|cases env);(first|exact VD h|cases h);kernel_rfl)]
noncomputable def lK:List MV→Option (Fl×List MV):= #[e,16,#[f,#[c,iy (iB 1 #[f,#[16],itemsOf] #[o,(gL [0] #[n,0]),#[q,#[0],#[23],lU],#[0]]) #[l,#[c,#[32],#v[]]] gR,#v[]],kT]]
theorem t5(H:gF L)(hn:L.exc=none):S1 L #[C,26] gG gE 2 false #[N,20,#[F,#[N,12,#[B,26]]]] lK:= #v[v,#v[i,H.b_sorted,.builtin _,qx.less (aC _),#v[b,#v[d,#v[u,[(Str.ofString "code")],#v[m,#v[a,16]],#v[r,(fun h=>by (first|exact VD h|cases h)),#v[l,[0],#v[s,#v[f,0]]],Keeps.name,#v[aa,#v[B,#v[a,0],#v[a,23],pe]],#v[a,0]]],#v[y,#v[b,#v[a,32],#v[e]]],gS],#v[e]]],#v[f,16],(fun env h=>by (first|exact VD env|cases env);(first|exact VD h|cases h);kernel_rfl)]
noncomputable def ky:List MV→Option (Fl×List MV):=(gN jW (gN md (gN me (gN mf (gN kE (gN mh (gN mj (gN ml (gN mn (gN mq (gN lA (gN lC (gN lD (gN jI (gN lE (gN lF (gN lG (gN lH (gN lI (gN lJ (gN lK #[k])))))))))))))))))))))
theorem yx(H:gF L)(hn:L.exc=none):SS L #[C,26] gG gE 2 (((false||(((false||false)||false)||false))||false)||(false||(false||(((false||false)||false)||(false||(false||(false||(false||(false||(false||(false||(false||(false||(false||(((false||false)||false)||(false||(false||(false||(((false||false)||false)||(false||(false||false))))))))))))))))))))) #[F,#[N,12,#[B,26]]] ky:= #v[w,([hG 0 #[F,#[N,12,#[B,26]]],hG 1 #[F,#[N,12,#[B,26]]],hG 2 #[F,#[N,12,#[B,26]]],hG 3 #[F,#[N,12,#[B,26]]],hG 4 #[F,#[N,12,#[B,26]]],hG 5 #[F,#[N,12,#[B,26]]],hG 6 #[F,#[N,12,#[B,26]]],hG 7 #[F,#[N,12,#[B,26]]],hG 8 #[F,#[N,12,#[B,26]]],hG 9 #[F,#[N,12,#[B,26]]],hG 10 #[F,#[N,12,#[B,26]]],hG 11 #[F,#[N,12,#[B,26]]],hG 12 #[F,#[N,12,#[B,26]]],hG 13 #[F,#[N,12,#[B,26]]],hG 14 #[F,#[N,12,#[B,26]]],hG 15 #[F,#[N,12,#[B,26]]],hG 16 #[F,#[N,12,#[B,26]]],hG 17 #[F,#[N,12,#[B,26]]],hG 18 #[F,#[N,12,#[B,26]]],hG 19 #[F,#[N,12,#[B,26]]],hG 20 #[F,#[N,12,#[B,26]]]]),#v[h,(@vn _ H hn),#v[h,(@vo _ H hn),#v[h,(@vp _ H hn),#v[h,(@vq _ H hn),#v[h,(@vt _ H hn),#v[h,(@vu _ H hn),#v[h,(@vv _ H hn),#v[h,(@vw _ H hn),#v[h,(@vy _ H hn),#v[h,(@vz _ H hn),#v[h,(@tQ _ H hn),#v[h,(@tS _ H hn),#v[h,(@tT _ H hn),#v[h,(@tU _ H hn),#v[h,(@tV _ H hn),#v[h,(@tW _ H hn),#v[h,(@tX _ H hn),#v[h,(@tY _ H hn),#v[h,(@tZ _ H hn),#v[h,(@t4 _ H hn),#v[h,(@t5 _ H hn),#v[x]]]]]]]]]]]]]]]]]]]]]]]
noncomputable def nU:List MV→Option (Fl×List MV):=(fun ρ=>(#[f,#[f,#[c,#[i,6],#v[]],i7],itemsOf] ρ).bind fun ps=>mM #[n,20] ky #[k] ρ ps)
theorem yy(H:gF L)(hn:L.exc=none):S1 L #[C,26] gG gE 2 false #[N,12,#[B,26]] nU:= #v[Q,#v[m,#v[i,H.b_range,.type _,je.less (aC _),#v[b,#v[c],#v[e]]]],#v[s,#v[f,20]],(fun h=>by (first|exact VD h|cases h)),#v[C,(((false||(((false||false)||false)||false))||false)||(false||(false||(((false||false)||false)||(false||(false||(false||(false||(false||(false||(false||(false||(false||(false||(((false||false)||false)||(false||(false||(false||(((false||false)||false)||(false||(false||false))))))))))))))))))))),(by exact @yx _ H hn)],#v[C,false,#v[o]]]
noncomputable def rW:List MV→Option (Fl×List MV):=(gN oS (gN oU (gN oV (gN oW (gN oX (gN oY (gN oZ (gN o3 (gN o4 (gN o5 (gN nS (gN nT (gN nU #[k])))))))))))))
theorem Ds(H:gF L)(hn:L.exc=none):SS L #[C,26] gG gE 2 (false||(false||(false||(false||(false||(false||(false||(true||(false||(true||(false||(false||(false||false))))))))))))) (wR 13 #[B,26]) rW:= #v[w,([hG 0 #[B,26],hG 1 #[B,26],hG 2 #[B,26],hG 3 #[B,26],hG 4 #[B,26],hG 5 #[B,26],hG 6 #[B,26],hG 7 #[B,26],hG 8 #[B,26],hG 9 #[B,26],hG 10 #[B,26],hG 11 #[B,26],hG 12 #[B,26]]),#v[h,(@Ah _ H hn),#v[h,(@Ai _ H hn),#v[h,(@Aj _ H hn),#v[h,(@Ak _ H hn),#v[h,(@Al _ H hn),#v[h,(@Am _ H hn),#v[h,(@An _ H hn),#v[h,(@Ao _ H hn),#v[h,(@Ap _ H hn),#v[h,(@Aq _ H hn),#v[h,(@yv _ H hn),#v[h,(@yw _ H hn),#v[h,(@yy _ H hn),#v[x]]]]]]]]]]]]]]]
noncomputable def ng:List MV→Option (Fl×List MV):=(gN #[e,37,#[b,#[d,#[3],#[f,#[9],lb],#[r,#[9],#[i,9],gR,lb]],#[b,#[l,#[c,#[b,#[4],#[b,#[10],#[i,1],gR],gC],#v[]]],#[f,#[c,#[b,#[10],#[i,0],lU],#v[]],ph],iA],gR]] (gN #[h,(fun ρ=>(#[b,#[f,#[c,#[b,#[b,#[i,511],#[b,#[i,2],#[9],kS],iA],#[b,#[10],#[b,#[i,2],#[i,32],kS],iA],gR],#v[]],jg],(fun ρ=>((fun _=>some (.str (Str.ofString ", "))) ρ).bind fun p=>(#[c,#[37],#v[]] ρ).bind fun ps=>rF p ps),AY] ρ).bind fun a=>(lg a).bind fun b=>if b then #[b,#[f,#[c,#[b,#[10],#[b,#[i,2],#[i,32],kS],iA],#v[]],jg],#[b,#[4],#[b,#[10],#[i,1],gR],gC],AY] ρ else some a)] #[k]))
theorem xh(H:gF L):SS L #[C,26] gG gE 2 (false||(false||false)) (Lj #[N,13,#[B,26]]) ng:= #v[h,(by exact @S1.set _ _ _ _ _ _ _ _ _ _ _ #v[d,#v[M,#v[a,3],#v[K,#v[a,9]],#v[K,#v[d,#v[a,9],#v[c],gS]]],#v[d,#v[y,#v[b,#v[k,#v[a,4],#v[d,#v[a,10],#v[c],gS]],#v[e]]],#v[i,H.b_int,.type _,rE.less (aC _),#v[b,#v[N,#v[a,10],#v[c],pe],#v[e]]],jd],gS] #v[j] #v[f,37] (fun env h=>by (first|exact VD env|cases env);(first|exact VD h|cases h);kernel_rfl)),#v[A,#v[P,(by exact @SE.jz _ _ _ _ _ _ _ _ _ #v[N,#v[i,H.g_pretty_flags,(H.fn_pretty_flags).callee,((mZ H).less (by decide)),#v[b,#v[d,#v[d,#v[c],#v[d,#v[c],#v[a,9],oF],jd],#v[d,#v[a,10],#v[d,#v[c],#v[c],oF],jd],gS],#v[e]]],#v[J,#v[D],#v[b,#v[a,37],#v[e]],zH],AZ] #v[N,#v[i,H.g_pretty_flags,(H.fn_pretty_flags).callee,((mZ H).less (by decide)),#v[b,#v[d,#v[a,10],#v[d,#v[c],#v[c],oF],jd],#v[e]]],#v[k,#v[a,4],#v[d,#v[a,10],#v[c],gS]],AZ])],#v[o]]]
end
end
section
open PySem PyProof.Rows
noncomputable def t6:List Str:=["OPTIMIZED","NEWLOCALS","VARARGS","VARKEYWORDS","NESTED","GENERATOR","NOFREE","COROUTINE","ITERABLE_COROUTINE","ASYNC_GENERATOR","0x400","0x800","0x1000","0x2000","0x4000","0x8000","0x10000","0x20000","0x40000","0x80000","0x100000","0x200000","0x400000","0x800000","0x1000000","0x2000000","0x4000000","0x8000000","0x10000000","0x20000000","0x40000000","0x80000000"].map Str.ofString
noncomputable def NJ:List Str:=["-0x100000000","0x0","0x100000000","0x200000000"].map Str.ofString
noncomputable def nameAt(i:Nat):Str:=t6.getD i Str.empty
noncomputable def qn(e:Int):Str:=NJ.getD (e+1).toNat Str.empty
theorem PO:(List.range 32).map JZ=(List.range 32).map fun i=>PV.str (nameAt i):= (by kernel_rfl)
theorem SV{i:Nat}(h:i<32):JZ i= .str (nameAt i):=List.map_inj_left.mp PO i (List.mem_range.mpr h)
noncomputable def NK(s:Str):Bool:=s.length≤20&&s.cps.toList.all (fun c=>c !=44)
theorem e4{e:Int}(h: -1≤e∧e≤2):e∈([-1,0,1,2]:List Int):=by
 obtain⟨n,hn⟩:=bS (show 0≤e+1 from Int.add_le_add_right h.1 1)
 have k: ∀n:Nat,n<4→(n:Int)-1∈([-1,0,1,2]:List Int):=by decide
 have:=k n (Int.ofNat_lt.mp (hn▸Int.lt_add_one_of_le (Int.add_le_add_right h.2 1)))
 rwa [←hn,Int.add_sub_cancel] at this
theorem za: ∀e∈([-1,0,1,2]:List Int),(baseText "0x" 16 ((2:Int)^32*e)).length≤100000∧NK (qn e)=true:=by decide+kernel
theorem I9{e:Int}(h: -1≤e∧e≤2):Lx (2^32*e)= .str (qn e)∧(baseText "0x" 16 ((2:Int)^32*e)).length≤100000:=
 ⟨j4 (f:=fun e:Int=>Lx (2^32*e)) (g:=fun e=> .str (qn e)) (by kernel_rfl) (e4 h),(za e (e4 h)).1⟩
noncomputable def jX(qs:List Nat)(e:Int):List Str:=qs.map nameAt++(if qs≠[]∧e=0 then[] else[qn e])
theorem uH: ∀l:List Str,pZ (l.map .str)=some l:=by
 intro l
 induction l with
 |nil=>exact rfl
 |cons a l hV=>
  show Option.map _ (pZ (l.map .str))=_
  rw[hV];rfl
theorem FT: ∀i<32,NK (nameAt i)=true:=by decide+kernel
theorem Ja{e:Int}(h: -1≤e∧e≤2):NK (qn e)=true:=(za e (e4 h)).2
theorem t7{qs:List Nat}{e:Int}(hb: ∀q∈qs,q<32)(he: -1≤e∧e≤2): ∀s∈jX qs e,NK s=true:=by
 intro s hs
 unfold jX at hs
 rcases List.mem_append.mp hs with h|h
 ·obtain⟨q,hq,rfl⟩:=List.mem_map.mp h
  exact FT q (hb q hq)
 ·split at h
  ·(first|exact VD h|cases h)
  ·rw[List.mem_singleton.mp h];exact Ja he
theorem XG(a b c d n:Nat)(h1:a≤20)(h:d≤n+a+2+22*b):d≤n+22*(b+1):=Nat.le_trans h (by rw[Nat.mul_add,Nat.add_comm (22*b),←Nat.add_assoc,Nat.add_assoc n];exact bk (fj (bk h1 2) n) _)
theorem Jb: ∀(l:List Str) (n:Nat),(∀s∈l,NK s=true)→l.foldl (fun a s=>a+s.length+2) n≤n+22*l.length:=by
 intro l
 induction l with
 |nil=>exact @fun n _=>br _
 |cons s l hV=>
  intro n h
  have h1:=of_decide_eq_true (Bool.and_eq_true_iff.mp (h s (az ..))).1
  have:=hV (n+s.length+2) fun x hx=>h x (av _ hx)
  rw[aL,aY]
  exact XG _ _ s.length _ n h1 this
theorem joinOk_of{l:List Str}(h: ∀s∈l,NK s=true)(hl:l.length≤100):JoinOk (Str.ofString ", ") l=true:=by
 unfold JoinOk
 rw[ft,show (Str.ofString ", ").length=2 by decide+kernel]
 have h2:l.foldl (fun a s=>a+s.length+2) 0≤2200:=Nat.le_trans (Jb l 0 h) (by rw[cN];exact Nat.mul_le_mul_left 22 hl)
 exact congrArg (fun b=> !b) (decide_eq_false (Nat.not_lt.mpr (Nat.le_trans h2 (by decide))))
theorem t8{qs:List Nat}(hl:qs.length≤90)(e:Int):(jX qs e).length≤100:=by
 unfold jX
 rw[aP,aF]
 refine Nat.le_trans (fe hl (?_:_≤1)) (by decide)
 split
 ·exact aC _
 ·exact br _
theorem Jc{qs:List Nat}{e:Int}(hb: ∀q∈qs,q<32)(he: -1≤e∧e≤2):qs.map JZ++w6 qs e=(jX qs e).map .str:=by
 unfold jX w6
 rw[bO,bh,fh fun q hq=>SV (hb q hq),(I9 he).1]
 split<;>rfl
theorem o6{qs:List Nat}{e:Int}(hp:qs.Pairwise (· < ·))(hb: ∀q∈qs,q<32)(he: -1≤e∧e≤2)(hl:qs.length≤90):jg [.int (w4 0 qs+e*2^32)]=some (.str (Txt.join (Str.ofString ", ") (jX qs e))):=
 FF hp hb (I9 he).2 (Jc hb he▸uH _) (joinOk_of (t7 hb he) (t8 hl e))
theorem FU{qs:List Nat}(iS:qs≠[])(hl:qs.length≤90)(e:Int):gR (.list ((qs.map nameAt).map .str)) (.list (if e=0 then[] else[PV.str (qn e)]))=some (.list ((jX qs e).map .str)):=by
 unfold jX
 by_cases h0:e=0
 ·rw[if_pos h0,if_pos ⟨iS,h0⟩]
  exact(if_pos (by rw[aF,aF];exact Nat.le_trans hl (by decide))).trans (by rw[bO];rfl)
 ·rw[if_neg h0,if_neg fun h=>h0 h.2]
  exact(if_pos (by rw[aF,aF];exact Nat.le_trans (bk hl 1) (by decide))).trans (by rw[bO];rfl)
noncomputable def NL(x:PV)(e:Int):List PV:=if e=0 then[] else[x]
theorem LY{e:Int}(he: -1≤e∧e≤2)(x:PV):((iy #[i,e] #[i,0] lU []).bind fun b=>(ph [b]).bind fun n=>iA (.list [x]) n)=some (.list (NL x e)):=
 j4 (f:=fun e:Int=>(iy #[i,e] #[i,0] lU []).bind fun b=>(ph [b]).bind fun n=>iA (.list [x]) n) (g:=fun e=>some (.list (NL x e))) (by kernel_rfl) (e4 he)
theorem kZ{ρ:List MV}{j:Nat}{q:PV}(h:ρ[j]? =some (.p q)):gX (ρ.map MV.mJ)[j]? =some q:=by rw[aJ,h];rfl
theorem jj{ρ:List MV}{i j:Nat}{v:MV}{x:Option MV}(h:ρ[j]? =x)(hn:(i !=j)=true):(ρ.set i v)[j]? =x:=(eW (bne_iff_ne.mp hn)).trans h
theorem sS{ρ:List MV}{i:Nat}{v:MV}(h:i<ρ.length):(ρ.set i v)[i]? =some v:=List.getElem?_set_self h
end
section
open PySem PyProof.Rows PySem.StrLaws PySem.Builtin.Str
theorem Jd(sep:List Nat): ∀ws:List (List Nat),(∀w∈ws,w.length≤20)→(ly sep ws).length≤(20+sep.length)*ws.length:=by
 intro ws
 induction ws with
 |nil=>
  intro _
  simp[ly]
 |cons w ws ih=>
  cases ws with
  |nil=>
   intro h
   have:=h w (by simp)
   simp only[ly,aY,gj]
   omega
  |cons v ws=>
   intro h
   have h1:=h w (by simp)
   have ih:=ih fun u hu=>h u (av _ hu)
   simp only[ly,aP,aY,Nat.mul_add,Nat.mul_one] at ih ⊢
   omega
theorem uI{c d:Nat}(hc:c<256)(hd:d<256){ws:List (List Nat)}(iS:ws≠[])(hw: ∀w∈ws,c∉w∧w.length≤20)(hl:ws.length≤100):qz (.str ⟨(ly [c,d] ws).toArray⟩) [.str ⟨#[c,d]⟩]=some (.list (ws.map iP)):=by
 have h1:=Jd [c,d] ws fun w h=>(hw w h).2
 have hJ:(⟨(ly [c,d] ws).toArray⟩:Str).length≤3000:=by
  show(ly [c,d] ws).toArray.size≤3000
  simp at h1 ⊢
  omega
 have Hi:=FA hc hd iS fun w h=>(hw w h).1
 generalize (⟨(ly [c,d] ws).toArray⟩:Str)=x at hJ Hi ⊢
 show(if ((⟨#[c,d]⟩:Str).length==0)=false∧x.length≤100000∧(partsBetween x (occurrences x ⟨#[c,d]⟩ 0 x.length (x.length+1)) (⟨#[c,d]⟩:Str).length).length≤100000 then some (PV.list ((Txt.split x ⟨#[c,d]⟩).map .str)) else none)=_
 rw[if_pos,Hi,bh]
 ·rfl
 ·refine⟨rfl,by omega,?_⟩
  rw[PyProof.Rows.len_partsBetween]
  have:=occ_length_le x ⟨#[c,d]⟩ 0 x.length (x.length+1)
  omega
theorem LZ(s:Str):(⟨s.cps.toList.toArray⟩:Str)=s:=by (first|exact VD s|cases s);simp
theorem B7{ts:List Str}(iS:ts≠[])(h: ∀s∈ts,NK s=true)(hl:ts.length≤100):qz (.str (Txt.join (Str.ofString ", ") ts)) [.str (Str.ofString ", ")]=some (.list (ts.map .str)):=by
 have zW:Str.ofString ", "=⟨#[44,32]⟩:=by decide+kernel
 have Gm:ts=(ts.map (·.cps.toList)).map fun w=>⟨w.toArray⟩:=by
  rw[bh]
  conv=>lhs;rw[←List.map_id ts]
  exact fh fun s _=>(LZ s).symm
 have hj:Txt.join (Str.ofString ", ") ts=⟨(ly [44,32] (ts.map (·.cps.toList))).toArray⟩:=by
  conv=>lhs;rw[Gm]
  rw[II,zW]
 rw[hj,zW,uI (by decide) (by decide) (by simpa using iS)]
 ·rw[bh]
  congr 2
 ·intro w hw
  obtain⟨s,hs,rfl⟩:=List.mem_map.mp hw
  have:=h s hs
  unfold NK at this
  rw[cH,decide_eq_true_eq] at this
  refine⟨fun hm=> ?_,by simpa[Str.length] using this.1⟩
  have:=List.all_eq_true.mp this.2 44 hm
  simp at this
 ·simpa using hl
noncomputable def idx(code:Nat):Nat:=j7.findIdx (· ==code)
theorem Je: ∀code∈j7,lM (g7 j7) [.int (code:Nat)]=some (.int (idx code:Nat)):=by
 intro code hd
 simp only[j7,fk,bY,or_false] at hd
 rcases hd with rfl|rfl|rfl|rfl|rfl|rfl|rfl|rfl|rfl<;>kernel_rfl
theorem iX: ∀t∈jT,(∀code∈t,code∈j7)∧t.length=3∧(t.map idx).Pairwise (· < ·):=by decide
theorem Ar: ∀code∈j7,idx code<9:=by decide
noncomputable def mH(t:List Nat)(s:Nat):List Nat:=t.map fun code=>s+idx code
theorem NM{t:List Nat}(ht:t∈jT){s:Nat}(hs:s<24):(mH t s).Pairwise (· < ·)∧(∀q∈mH t s,q<32)∧(mH t s).length=3:=by
 obtain⟨h1,h2,h3⟩:=iX t ht
 refine⟨?_,fun q hq=> ?_,by unfold mH;rw[aF,h2]⟩
 ·have:mH t s=(t.map idx).map (s+ ·):=by unfold mH;rw[bh];rfl
  rw[this,List.pairwise_map]
  exact h3.imp fun h=>by omega
 ·obtain⟨code,hc,rfl⟩:=List.mem_map.mp hq
  have:=Ar code (h1 code hc)
  omega
theorem As{n:Nat}(h:n≤1000):kS (.int 2) (.int (n:Nat))=some (.int (2^n)):=by
 have hs:(small 2&&decide ((0:Int)≤(n:Int))&&decide ((n:Int)≤1000))=true:=by
  rw[show small 2=true by decide];simp;omega
 simp only[kS,hs,if_true,bN,Lp]
end
section
open PySem PyProof.Rows
theorem qo: ∀l:List Int,jO (l.map .int)=some l:=by
 intro l
 induction l with
 |nil=>exact rfl
 |cons a l hV=>exact by show Option.map _ (jO (l.map .int))=_;rw[hV];rfl
theorem kL(t:List Nat):itemsOf (g7 t)=some (t.map fun n=>PV.int (n:Nat)):=rfl
theorem NN:kS (.int 2) (.int 32)=some (.int (2^32)):= (by kernel_rfl)
theorem NO{e:Int}(he: -1≤e∧e≤2):iA (.int e) (.int (2^32))=some (.int (e*2^32)):=if_pos (eE _)
theorem rX(a b:Nat):gR (.int (a:Nat)) (.int (b:Nat))=some (.int ((a+b:Nat):Int)):=rfl
section
variable {ρ:List MV} {t:List Nat} {s:Nat} {e:Int}
theorem FV(ht:t∈jT)(hs:s<24)(h9:ρ[9]? =some (.p (.int (s:Nat))))(h5:ρ[5]? =some (.p (g7 j7))):
  i9 (il (gL [0] #[n,0]) #[y] #[b,#[i,2],#[b,#[10],(fun ρ=>(#[6] ρ).bind fun p=>(#[c,#[0],#v[]] ρ).bind fun ps=>lM p ps),gR],kS]) (.un::ρ.map MV.mJ) (t.map fun n=>PV.int (n:Nat))=some ((mH t s).map fun q=>PV.int (2^q)):=
 (jh (g:=fun n=> .int (2^(s+idx n))) fun n hn=>iG (gK:= .p (.int (n:Nat))::ρ.map MV.mJ) rfl rfl (ct rfl (ct (kZ h9) ((gz (kZ h5)).trans ((gz (gy rfl rfl)).trans (Je n ((iX t ht).1 n hn)))) (rX _ _)) (As (Nat.le_trans (cD (Nat.add_lt_add hs (Ar n ((iX t ht).1 n hn)))) (by decide))))).trans (by unfold mH;rw[bh];rfl)
theorem Jf:CI [.list ((mH t s).map fun q=>PV.int (2^q))]=some (.int (w4 0 (mH t s))):=by
 rw[show(mH t s).map (fun q=>PV.int (2^q))=((mH t s).map fun q=>(2:Int)^q).map .int from List.map_map.symm]
 exact g0 (qo _)
theorem p2(ht:t∈jT)(hs:s<24)(he: -1≤e∧e≤2)(XH:ρ[19]? =some (.p (g7 (ig t))))(h5:ρ[5]? =some (.p (g7 j7)))(h9:ρ[9]? =some (.p (.int (s:Nat))))(tp:ρ[10]? =some (.p (.int e))):
  me ρ=some (.next,ρ.set 21 (.p (.list ((jX (mH t s) e).map .str)))):=by
 obtain⟨q1,q2,q3⟩:=NM ht hs
 have iS:jX (mH t s) e≠[]:=fun h=>by
  have:=congrArg List.length (List.append_eq_nil_iff.mp h).1
  rw[aF,q3] at this
  skip;(first|exact VD this|cases this)
 have Qz:(mH t s).length≤90:=q3▸by decide
 have hf:mL ((mH t s).map fun q=>PV.int (2^q))=true:=by unfold mL;rw[aF,q3];rfl
 exact g0 ((gz ((gz (gy (ct ((gz (gy (ip ((gz ((gz (gy (congrArg gX XH) rfl)).trans (LX t ht))).trans (kL t)) (FV ht hs h9 h5) hf) rfl)).trans Jf) (ct (congrArg gX tp) (ct rfl rfl NN) (NO he)) rfl) rfl)).trans (o6 q1 q2 he Qz))).trans ((gz (gy rfl rfl)).trans (B7 iS (t7 q2 he) (t8 Qz e))))
end
end
section
open PySem PyProof.Rows
open V6
section
variable {K:List (Int×Int)}
theorem Jg(hK:KeysOK K)(w:Nat→V6): ∀(l:List Nat) (a b:V6),l.foldl (fun b k=>mx K b (w k)) (mx K a b)=mx K a (l.foldl (fun b k=>mx K b (w k)) b):=by
 intro l
 induction l with
 |nil=>exact @fun _ _=>rfl
 |cons k l hV=>
  intro a b
  rw[aL,aL,IU hK,hV]
theorem PQ(i n:Nat):i+(n+1)-i-1=n:=by rw[dv];rfl
theorem L0(hK:KeysOK K)(w:Nat→V6)(i a b:Nat):FP K w i (i+a+1+b+1)=mx K (FP K w i (i+a+1)) (FP K w (i+a+1) (i+a+1+b+1)):=by
 unfold FP
 rw[show i+a+1+b+1-i-1=a+(b+1) by rw[show i+a+1+b+1=i+(a+(b+1)+1) by ac_rfl,PQ],show i+a+1-i-1=a from PQ i a,show i+a+1+b+1-(i+a+1)-1=b from PQ _ b,←List.range'_append (s:=i+1),Nat.one_mul,dr i 1 a,cG,List.foldl_append,aL,Jg hK]
theorem t9(hK:KeysOK K)(w:Nat→V6){i j k:Nat}(h1:i<j)(h2:j<k):FP K w i k=mx K (FP K w i j) (FP K w j k):=by
 obtain⟨a,rfl⟩:=eA h1
 obtain⟨b,rfl⟩:=eA h2
 exact L0 hK w i a b
variable {rs:List V6} {c:Nat}
theorem rY{i k:Nat}(h:i≠0):tP K rs c i k=((FP K (wv rs c) i k).add (xv rs c i)).add (xv rs c k):=if_neg h
theorem pt0(hK:KeysOK K)(B C x y z:V6):mx K (x.add ((C.add y).add z)) (((B.add x).add y).add z)=y.add (((mx K B C).add x).add z):=by
 have:=acA;have:=acC
 rw[show x.add ((C.add y).add z)=C.add ((x.add y).add z) by ac_rfl,show((B.add x).add y).add z=B.add ((x.add y).add z) by ac_rfl,IV hK,Ek hK]
 ac_rfl
theorem pt1(hK:KeysOK K)(A B C x y z t:V6):mx K (((A.add x).add y).add ((C.add z).add t)) (((B.add y).add z).add (((mx K (mx K A B) C).add x).add t))=(((mx K A B).add x).add z).add (((mx K B C).add y).add t):=by
 have:=acA;have:=acC
 rw[show((A.add x).add y).add ((C.add z).add t)=(A.add C).add ((x.add y).add (z.add t)) by ac_rfl,show((B.add y).add z).add (((mx K (mx K A B) C).add x).add t)=(B.add (mx K (mx K A B) C)).add ((x.add y).add (z.add t)) by ac_rfl,IV hK,←LK hK]
 ac_rfl
theorem pt(hK:KeysOK K){i j k l:Nat}(h1:i<j)(h2:j<k)(h3:k<l):mx K ((tP K rs c i j).add (tP K rs c k l)) ((tP K rs c j k).add (tP K rs c i l))=(tP K rs c i k).add (tP K rs c j l):=by
 rw[rY (fJ h1),rY (fJ h2),rY (fJ h1),t9 hK _ h2 h3]
 by_cases hi:i=0
 ·(first|exact VD hi|cases hi)
  exact pt0 hK _ _ _ _ _
 ·rw[rY hi,rY hi,rY hi,t9 hK _ (bj h1 h2) h3,t9 hK _ h1 h2]
  exact pt1 hK _ _ _ _ _ _ _
noncomputable def DD(K:List (Int×Int))(rs:List V6)(c p q:Nat):V6:=tP K rs c (min p q) (max p q)
theorem o7(p q:Nat):DD K rs c p q=DD K rs c q p:=by unfold DD;rw[Nat.min_comm,Nat.max_comm]
theorem zb{p q:Nat}(h:p<q):DD K rs c p q=tP K rs c p q:=by unfold DD;rw[eP (cD h),Nat.max_eq_right (cD h)]
noncomputable def o8(i j k l:Nat):Bool:=Nat.blt i j&&Nat.blt j k&&Nat.blt k l
noncomputable def Dt(a b x y:Nat):Bool:=o8 a x b y||o8 b x a y||o8 a y b x||o8 b y a x||o8 x a y b||o8 x b y a||o8 y a x b||o8 y b x a
noncomputable def CP(K:List (Int×Int))(rs:List V6)(c a b x y:Nat):Prop:=mx K ((DD K rs c a x).add (DD K rs c b y)) ((DD K rs c a y).add (DD K rs c b x))=(DD K rs c a b).add (DD K rs c x y)
theorem NP(hK:KeysOK K){a b x y:Nat}(h:o8 a x b y=true):CP K rs c a b x y:=by
 obtain⟨h,h3⟩:=Bool.and_eq_true_iff.mp h
 obtain⟨h1,h2⟩:=Bool.and_eq_true_iff.mp h
 replace h1:=cx h1
 replace h2:=cx h2
 replace h3:=cx h3
 unfold CP
 rw[zb h1,zb h3,o7 b x,zb h2,zb (bj h1 (bj h2 h3)),zb (bj h1 h2),zb (bj h2 h3),V6.add_comm (tP K rs c a y)]
 exact pt hK h1 h2 h3
theorem NQ(hK:KeysOK K){a b x y:Nat}(h:CP K rs c a b x y):CP K rs c b a x y:=by
 unfold CP
 rw[Ek hK,V6.add_comm (DD K rs c b y),V6.add_comm (DD K rs c b x),o7 b a]
 exact h
theorem NR{a b x y:Nat}(h:CP K rs c a b x y):CP K rs c x y a b:=by
 unfold CP
 rw[o7 x a,o7 x b,o7 y a,o7 y b,V6.add_comm (DD K rs c b x),V6.add_comm (DD K rs c x y)]
 exact h
theorem Jh(hK:KeysOK K){a b x y:Nat}(h:Dt a b x y=true):CP K rs c a b x y:=by
 simp only[Dt,eO] at h
 exact h.elim (fun h=>h.elim (fun h=>h.elim (fun h=>h.elim (fun h=>h.elim (fun h=>h.elim (fun h=>h.elim (NP hK) fun h=>NQ hK (NP hK h)) fun h=>NR (NQ hK (NR (NP hK h)))) fun h=>NQ hK (NR (NQ hK (NR (NP hK h))))) fun h=>NR (NP hK h)) fun h=>NQ hK (NR (NP hK h))) fun h=>NR (NQ hK (NP hK h))) fun h=>NQ hK (NR (NQ hK (NP hK h)))
end
end
section
open PySem PyProof.Rows
open V6
noncomputable def ia(a b:Nat):Nat:=10*min a b+max a b
noncomputable def k7:List Nat:=[1,12,23,34,45,5]
noncomputable def Ji(t:List Nat)(old:Nat):List Nat:=(List.range 6).filter fun k=>[old/10,old%10].all fun q=>k !=q&&(t++k7).contains (ia k q)
noncomputable def ax(t:List Nat)(old:Nat):Nat:=(Ji t old).getD 0 0
noncomputable def ay(t:List Nat)(old:Nat):Nat:=(Ji t old).getD 1 0
noncomputable def qL(t:List Nat)(old:Nat):Nat:=ia (ax t old) (ay t old)
noncomputable def L1(a:Nat):List Nat→List Nat
 |[]=>[a]
 |b::l=>if a≤b then a::b::l else b::L1 a l
noncomputable def nextT(t:List Nat)(old:Nat):List Nat:=L1 (qL t old) (t.filter (· !=old))
noncomputable def B8(c k:Nat):Nat:=(k+6-c)%6
theorem L2: ∀t∈jT,∀old∈t,Ji t old=[ax t old,ay t old]∧nextT t old∈jT∧qL t old∈j7∧([ia (old/10) (ax t old),ia (old/10) (ay t old),ia (old%10) (ax t old),ia (old%10) (ay t old)].all (t++k7).contains)=true∧(nextT t old).all (fun q=>q==qL t old||t.contains q)=true:=by decide
theorem FW: ∀c∈[0,1,2,3,4,5],∀t∈jT,∀old∈t,Dt (B8 c (old/10)) (B8 c (old%10)) (B8 c (ax t old)) (B8 c (ay t old))=true:=by decide
theorem Au{β:Type}{f g:List Nat→Nat→β}(h:jT.map (fun t=>t.map (f t))=jT.map fun t=>t.map (g t)): ∀t∈jT,∀old∈t,f t old=g t old:=fun _ ht _ ho=>j4 (j4 h ht) ho
theorem L3: ∀t∈jT,∀old∈t,lO [g7 t,.tup [.int (old/10:Nat),.int (old%10:Nat)]]=some (g7 [ax t old,ay t old]):=
 Au (f:=fun t old=>lO [g7 t,.tup [.int (old/10:Nat),.int (old%10:Nat)]]) (g:=fun t old=>some (g7 [ax t old,ay t old])) (by kernel_rfl)
noncomputable def mr:PV:= .list (t6.map .str)
noncomputable def uJ:PV:= .list (NJ.map .str)
theorem B9{e:Int}(he: -1≤e∧e≤2):gC uJ (.int (e+1))=some (.str (qn e)):=j4 (f:=fun e:Int=>gC uJ (.int (e+1))) (g:=fun e=>some (.str (qn e))) (by kernel_rfl) (e4 he)
theorem Eo{f:List MV→Option PV}{e:Int}{ρ:List MV}(h4:ρ[4]? =some (.p uJ))(tp:ρ[10]? =some (.p (.int e)))(he: -1≤e∧e≤2){qs:List Nat}(hf:f ρ=some (.list ((qs.map nameAt).map .str)))(iS:qs≠[])(hl:qs.length≤90):
  iy f #[b,#[l,#[c,#[b,#[4],#[b,#[10],#[i,1],gR],gC],#v[]]],#[f,#[c,#[b,#[10],#[i,0],lU],#v[]],ph],iA] gR ρ=some (.list ((jX qs e).map .str)):=by
 have h1:iy #[10] #[i,0] lU ρ=some (.bool (e !=0)):=ct (congrArg gX tp) rfl rfl
 exact ct hf (ct (gz (gy (ct (congrArg gX h4) (ct (congrArg gX tp) rfl rfl) (B9 he)) rfl)) (gz (gy h1 rfl)) (LY he (.str (qn e)))) (FU iS hl e)
theorem Jj:(List.range 32).map (fun q=>lM mr [.str (nameAt q)])=(List.range 32).map fun q=>some (PV.int (q:Nat)):= (by kernel_rfl)
theorem FX{q:Nat}(h:q<32):lM mr [.str (nameAt q)]=some (.int (q:Nat)):=List.map_inj_left.mp Jj q (List.mem_range.mpr h)
theorem L4(code:Nat)(hd:code∈j7):gC (g7 j7) (.int (idx code:Nat))=some (.int (code:Nat)):=
 j4 (f:=fun code:Nat=>gC (g7 j7) (.int (idx code:Nat))) (g:=fun code=>some (.int (code:Nat))) (by kernel_rfl) hd
theorem nfd(n m:Nat):((n:Int).fdiv m)=((n/m:Nat):Int):=cw _ (bA m)
theorem XI(n m:Nat):((n:Int).fmod m)=((n%m:Nat):Int):=aT _ (bA m)
theorem Jk(n:Nat):j9 [.int (n:Nat),.int 10]=some (.tup [.int (n/10:Nat),.int (n%10:Nat)]):=by
 rw[←nfd,←XI]
 rfl
section
variable {ρ:List MV} {t:List Nat} {s:Nat} {e:Int}
noncomputable def vA(plan:Int)(turn:Nat):Int:=(plan.fdiv 144+turn).fmod 4-1
theorem xj(plan:Int)(turn:Nat): -1≤vA plan turn∧vA plan turn≤2:=by
 unfold vA
 rw[aT _ (by decide)];omega
theorem p1{plan:Int}{turn:Nat}(h7:ρ[7]? =some (.p (.int plan)))(Av:ρ[20]? =some (.p (.int (turn:Nat)))):md ρ=some (.next,ρ.set 10 (.p (.int (vA plan turn)))):=
 g0 (ct (ct (ct (ct (congrArg gX h7) rfl rfl) (congrArg gX Av) rfl) rfl rfl) rfl rfl)
noncomputable def o9(t:List Nat)(asked:Int)(turn:Nat):Nat:=t.getD ((asked.fdiv (3^(turn%2))).fmod 3).toNat 0
theorem Ep{t:List Nat}(ht:t∈jT)(x:Int):(x.fmod 3).toNat<t.length:=by
 rw[(iX t ht).2.1,aT _ (by decide)]
 omega
theorem xk(ht:t∈jT)(asked:Int)(turn:Nat):o9 t asked turn∈t:=by
 unfold o9
 rw[aS,aG (Ep ht _)]
 exact List.getElem_mem _
theorem SW(n:Nat):kS (.int 3) (.int ((n:Int).fmod 2))=some (.int (3^(n%2)))∧(small (3^(n%2))&&((3:Int)^(n%2)!=0))=true:=by
 rw[show(n:Int).fmod 2=_ from XI n 2]
 rcases Nat.mod_two_eq_zero_or_one n with h|h<;>rw[h]<;>exact⟨rfl,rfl⟩
theorem p4(ht:t∈jT)(hs:s<24){asked:Int}{turn:Nat}(h5:ρ[5]? =some (.p (g7 j7)))(h3:ρ[3]? =some (.p mr))(SY:ρ[21]? =some (.p (.list ((jX (mH t s) e).map .str))))(PI:ρ[11]? =some (.p (.int asked)))(Av:ρ[20]? =some (.p (.int (turn:Nat))))(h9:ρ[9]? =some (.p (.int (s:Nat)))):
  kE ρ=some (.next,ρ.set 22 (.p (.int (o9 t asked turn:Nat)))):=by
 have hd:=(iX t ht).1
 have hm:=xk ht asked turn
 have hi:=Ar _ (hd _ hm)
 have e5:gC (.list ((jX (mH t s) e).map .str)) (.int ((asked.fdiv (3^(turn%2))).fmod 3))=some (.str (nameAt (s+idx (o9 t asked turn)))):=by
  have hl:=Ep ht (asked.fdiv (3^(turn%2)))
  have hg:0≤(asked.fdiv (3^(turn%2))).fmod 3:=by rw[aT _ (by decide)];exact eT _ (by decide)
  unfold o9
  generalize (asked.fdiv (3^(turn%2))).fmod 3=x at hl hg
  obtain⟨j,rfl⟩:=bS hg
  rw[bN] at hl ⊢
  refine item_list ?_ (bq hl ((iX t ht).2.1▸by decide))
  unfold jX mH
  rw[bh,d2 (by rw[aF];exact hl),aJ,aS,aG hl]
  rfl
 have e7:ko (.int ((s+idx (o9 t asked turn):Nat):Int)) (.int (s:Nat))=some (.int (idx (o9 t asked turn):Nat)):=congrArg (fun x=>some (PV.int x)) (by omega)
 exact g0 (ct (congrArg gX h5) (ct ((gz (congrArg gX h3)).trans ((gz (gy (ct (congrArg gX SY) (ct (ct (congrArg gX PI) (ct rfl (ct (congrArg gX Av) rfl rfl) (SW turn).1) (if_pos (SW turn).2)) rfl rfl) e5) rfl)).trans (FX (by omega)))) (congrArg gX h9) e7) (L4 _ (hd _ hm)))
theorem p5(ht:t∈jT){old:Nat}(ho:old∈t)(PR:ρ[22]? =some (.p (.int (old:Nat))))(FY:ρ[16]? =some (.p (g7 t))):
  mh ρ=some (.next,(ρ.set 23 (.p (.tup [.int (old/10:Nat),.int (old%10:Nat)]))).set 24 (.p (g7 [ax t old,ay t old]))):=by
 have hd: ∀σ:List MV,σ=ρ→((#[c,#[22],#[c,#[i,10],#v[]]] σ).bind j9)=some (.tup [.int (old/10:Nat),.int (old%10:Nat)]):=fun σ e=>e▸(gz (gy (congrArg gX PR) (gy rfl rfl))).trans (Jk old)
 exact gz (qh (gy (hd ρ rfl) (gy ((gz (gy (congrArg gX FY) (gy (hd ρ rfl) rfl))).trans (L3 t ht old ho)) rfl)) rfl)
end
end
section
open PySem PyProof.Rows
open V6
theorem Jl(n:Nat): ∀l:List Str,pR (AI n) (l.map .str) (l.map .str)=some true:=by
 intro l
 induction l with
 |nil=>exact rfl
 |cons a l hV=>exact(gz ((Lr n a a).trans (congrArg some (beq_self_eq_true a)))).trans (g0 (f:=(true&& ·)) (hV))
theorem L5(l:List Str):lU (.list (l.map .str)) (.list (l.map .str))=some (.bool false):=g0 (f:=fun b=>PV.bool !b) (Jl 8 l)
section
variable {ρ:List MV} {t:List Nat} {s:Nat} {e:Int}
theorem Jm{ρ:List MV}{turn:Nat}(Av:ρ[20]? =some (.p (.int (turn:Nat)))){b:Bool}(h:(turn%2==0)=b):(iy #[b,#[20],#[i,2],jn] #[i,0] AY ρ).bind lg=some b:=by
 have e:(((turn:Int).fmod 2)==0)=b:=by rw[←h,aT _ (by decide)];exact(decide_eq_decide.mpr (Int.natCast_inj (m:=turn%2) (n:=0)))
 exact ji (ct (ct (congrArg gX Av) rfl rfl) rfl rfl) e
theorem L6{turn:Nat}{n:Int}{r:List PV}{xs:List PV}{nums:List Int}(ht:turn%2=0)(Av:ρ[20]? =some (.p (.int (turn:Nat))))(S0:ρ[14]? =some (.lR xs))(hx:Gq 2 gV xs=some (n,r))(S3:ρ[12]? =some (.p (.list (nums.map .int))))(hn:nums[turn/2]? =some n)(hl:turn<100)(hJ:20<ρ.length):
  jW ρ=some (.next,(ρ.set 14 (.lR r)).set 11 (.p (.int n))):=by
 have e5:gC (.list (nums.map .int)) (.int ((turn:Int).fdiv 2))=some (.int n):=by
  rw[cw _ (by decide)]
  exact item_list hn (bR (Nat.div_le_self _ _) (bj hl (by decide)))
 have g12:=jj (i:=11) (v:= .p (.int n)) (jj (i:=14) (v:= .lR r) S3 rfl) rfl
 have g20:=jj (i:=11) (v:= .p (.int n)) (jj (i:=14) (v:= .lR r) Av rfl) rfl
 have g11:((ρ.set 14 (.lR r)).set 11 (.p (.int n)))[11]? =some (.p (.int n)):=sS (by rw[cP];omega)
 exact(gz (Jm Av (beq_iff_eq.mpr ht))).trans ((gB (ρ':=(ρ.set 14 (.lR r)).set 11 (.p (.int n))) ((gz (show(ρ[14]?).bind MV.Ia=some xs from gz S0)).trans (g0 hx))).trans (gB (gz (a:=false) (ji (ct (congrArg gX g11) (ct (congrArg gX g12) (ct (congrArg gX g20) rfl rfl) e5) rfl) (congrArg (fun b=> !b) (beq_self_eq_true n))))))
theorem PS{turn:Nat}(ht:turn%2=1)(Av:ρ[20]? =some (.p (.int (turn:Nat)))):jW ρ=some (.next,ρ):=
 gz (Jm (b:=false) Av (by rw[ht];rfl))
theorem Du(ht:t∈jT)(hs:s<24)(h9:ρ[9]? =some (.p (.int (s:Nat))))(h5:ρ[5]? =some (.p (g7 j7)))(h3:ρ[3]? =some (.p mr)):
  i9 (il (gL [0] #[n,0]) #[y] #[b,#[4],#[b,#[10],(fun ρ=>(#[6] ρ).bind fun p=>(#[c,#[0],#v[]] ρ).bind fun ps=>lM p ps),gR],gC]) (.un::ρ.map MV.mJ) (t.map fun n=>PV.int (n:Nat))=some (((mH t s).map nameAt).map .str):=
 (jh (g:=fun n=> .str (nameAt (s+idx n))) fun n hn=>by
  have hd:=(iX t ht).1 n hn
  have hl:s+idx n<32:=by have:=Ar n hd;omega
  exact iG (gK:= .p (.int (n:Nat))::ρ.map MV.mJ) rfl rfl (ct (kZ h3) (ct (kZ h9) ((gz (kZ h5)).trans ((gz (gy rfl rfl)).trans (Je n hd))) (rX _ _)) (item_list (by unfold nameAt;rw[aS,aG (show _<t6.length from hl)];rfl) (bj hl (by decide))))).trans (by unfold mH;rw[bh,bh];rfl)
theorem p3(ht:t∈jT)(hs:s<24)(he: -1≤e∧e≤2)(SY:ρ[21]? =some (.p (.list ((jX (mH t s) e).map .str))))(FY:ρ[16]? =some (.p (g7 t)))(h5:ρ[5]? =some (.p (g7 j7)))(h9:ρ[9]? =some (.p (.int (s:Nat))))(h3:ρ[3]? =some (.p mr))(h4:ρ[4]? =some (.p uJ))(tp:ρ[10]? =some (.p (.int e))):
  mf ρ=some (.next,ρ):=by
 obtain⟨q1,q2,q3⟩:=NM ht hs
 have hf:mL (((mH t s).map nameAt).map .str)=true:=by unfold mL;rw[aF,aF,q3];rfl
 exact gz (a:=false) (ji (ct (congrArg gX SY) (Eo h4 tp he (ip ((gz (congrArg gX FY)).trans (kL t)) (Du ht hs h9 h5 h3) hf) (fun h=>nomatch q3.symm.trans (congrArg List.length h)) (q3▸by decide)) (L5 _)) rfl)
end
end
section
open PySem PyProof.Rows
open V6
theorem L7(a b:Nat):10*min (a:Int) b+max (a:Int) b=(ia a b:Nat):=by unfold ia;omega
theorem Aw(a b:Nat):jr [.int (a:Nat),.int (b:Nat)]=some (.int (ia a b:Nat)):=by
 rw[←L7]
 rfl
noncomputable def uK(ks:List Int)(vs:List PV)(T:Nat→V6)(J0:List Nat):Prop:= ∀code∈J0,jo ks vs (code:Int)=some (jl (T code))
noncomputable def Jn(T:Nat→V6)(a b x y:Nat):List PV:=[jl (T (ia a x)),jl (T (ia a y)),jl (T (ia b x)),jl (T (ia b y))]
theorem Dv(tl:List MV)(u v w z:V6):i9 (il (gL [0] #[n,0]) #[y] #[f,#[c,#[b,#[0],#[i,4],gC],#v[]],(fun ps=>(CN ps).bind MV.yR)]) (.un::tl) [jl u,jl v,jl w,jl z,qm]=some [B1 u,B1 v,B1 w,B1 z,.iM [] []]:= (by kernel_rfl)
theorem FZ(tl:List MV)(u v w z:V6):i9 (il (gL [0] #[n,0]) #[y] #[b,#[0],#[i,4],gC]) (.un::tl) [jl u,jl v,jl w,jl z,qm]=some [B1 u,B1 v,B1 w,B1 z,.iM [] []]:= (by kernel_rfl)
theorem Jo(tl:List MV)(u v:V6):i9 (il (gL [0,1] #[m,[0,1]]) #[y] #[b,#[0],#[1],ko]) (.un:: .un::tl) (wD (u.l6.map .int) (v.l6.map .int))=some ((u.sub v).l6.map .int):= (by kernel_rfl)
section
variable {ρ:List MV} {t:List Nat} {s:Nat} {e:Int}
theorem ua{α:Type}{step:List MV→PV→Option (List PV)}{ρ:List MV}{c:α→PV}{p q:α}{l m:List PV}(h:step ρ (c p)=some l)(h':step ρ (c q)=some m):i9 step ρ ([p,q].map c)=some (l++(m++[])):=(gz h).trans (g0 ((gz h').trans rfl))
theorem qp{u:PV→List MV→Option (List MV)}{t:List MV→Option Bool}{e:List MV→Option (List PV)}{f:List MV→List PV→Option (List PV)}{ρ gK:List MV}{p:PV}{ps:List PV}{r:Option (List PV)}(hu:u p ρ=some gK)(ht:t gK=some true)(he:e gK=some ps)(hf:f gK ps=r):nZ u t e f ρ p=r:=(gz hu).trans ((gz ht).trans ((gz he).trans hf))
theorem L8: ∀l:List MV,(l.map MV.mJ).map MV.mJ=l.map MV.mJ:=by
 intro l
 induction l with
 |nil=>exact rfl
 |cons m l hV=>exact by rw[aQ,aQ,hV];cases m<;>rfl
theorem p6{ks:List Int}{vs:List PV}{T:Nat→V6}{J0:List Nat}{a b x y:Nat}(iS:ks≠[])(hT:uK ks vs T J0)(hd:([ia a x,ia a y,ia b x,ia b y].all J0.contains)=true)(hJ:ρ.length=38)(NS:ρ[17]? =some (.ug ks vs))(XJ:ρ[23]? =some (.p (.tup [.int (a:Nat),.int (b:Nat)])))(J1:ρ[24]? =some (.p (g7 [x,y]))):
  mj ρ=some (.next,ρ.set 25 (.p (.list (Jn T a b x y)))):=by
 simp only[dF,List.all_nil,dG,cH,List.contains_iff_mem] at hd
 have hks:ks.isEmpty=false:=by cases ks with|nil=>exact absurd rfl iS|cons _ _=>rfl
 have hc: ∀σ:List MV,σ.map MV.mJ=σ→σ[17]? =some (.p (.la ks vs))→σ[23]? =some (.p (.tup [.int (a:Nat),.int (b:Nat)]))→σ[24]? =some (.p (g7 [x,y]))→iB 2 #[f,#[23],itemsOf] (i9 (nZ (gL [0] #[n,0]) #[y] #[f,#[26],itemsOf] #[o,(gL [1] #[n,1]),#[y],#[b,#[19],#[f,#[c,#[0],#[c,#[1],#v[]]],jr],gC]])) σ=some (.list (Jn T a b x y)):=fun σ hs s17 s23 s24=>by
  have step: ∀q z:Nat,ia q z∈J0→il (gL [1] #[n,1]) #[y] #[b,#[19],#[f,#[c,#[0],#[c,#[1],#v[]]],jr],gC] (.p (.int (q:Nat)):: .un::σ) (.int (z:Nat))=some [jl (T (ia q z))]:=fun q z hm=>
   iG (gK:= .p (.int (q:Nat)):: .p (.int (z:Nat))::σ) rfl rfl (ct (congrArg gX s17) ((gz (gy rfl (gy rfl rfl))).trans (Aw q z)) (hT _ hm))
  refine ip ((gz (congrArg gX s23)).trans rfl) ?_ rfl
  rw[hs]
  exact ua (c:=fun n:Nat=>PV.int (n:Nat)) (p:=a) (q:=b) (qp (gK:= .p (.int (a:Nat)):: .un::σ) rfl rfl ((gz (congrArg gX s24)).trans (kL _)) (ua (step a x hd.1) (step a y hd.2.1))) (qp (gK:= .p (.int (b:Nat)):: .un::σ) rfl rfl ((gz (congrArg gX s24)).trans (kL _)) (ua (step b x hd.2.2.1) (step b y hd.2.2.2)))
 refine(gz (show(ρ[17]?).bind MV.OZ=some (ks,vs) from gz NS)).trans ((if_pos hks).trans ((gz (hc _ ?_ ?_ ?_ ?_)).trans rfl))
 ·rw[List.map_set,L8];rfl
 ·exact sS (by rw[aF,hJ];decide)
 ·exact jj (by rw[aJ,XJ];rfl) rfl
 ·exact jj (by rw[aJ,J1];rfl) rfl
end
end
section
open PySem PyProof.Rows
open V6
noncomputable def yz(u v w z:V6):List PV:=[jl u,jl v,jl w,jl z]
noncomputable def Er(u v w z:V6):PV:= .list [B1 u,B1 v,B1 w,B1 z,.iM [] []]
section
variable {ρ:List MV} {u v w z:V6}
theorem Jp:gR (.list (yz u v w z)) (.list [qm])=some (.list [jl u,jl v,jl w,jl z,qm]):=rfl
theorem Es(Jq:ρ[25]? =some (.p (.list (yz u v w z))))(L9:ρ[15]? =some (.p qm)):(#[b,#[25],#[l,#[c,#[15],#v[]]],gR] ρ).bind itemsOf=some [jl u,jl v,jl w,jl z,qm]:=
 (gz (ct (congrArg gX Jq) (uA (gy (congrArg gX L9) rfl) rfl) Jp)).trans rfl
theorem p7(Jq:ρ[25]? =some (.p (.list (yz u v w z))))(L9:ρ[15]? =some (.p qm)):ml ρ=some (.next,ρ.set 26 (.p (Er u v w z))):=
 g0 (ip (Es Jq L9) (Dv (ρ.map MV.mJ) u v w z) rfl)
theorem Et(u v w z:V6):gC (.list (yz u v w z)) (.int 0)=some (jl u)∧gC (.list (yz u v w z)) (.int 1)=some (jl v)∧gC (.list (yz u v w z)) (.int 2)=some (jl w)∧gC (.list (yz u v w z)) (.int 3)=some (jl z):=⟨(by kernel_rfl),(by kernel_rfl),(by kernel_rfl),(by kernel_rfl)⟩
theorem p8(Jq:ρ[25]? =some (.p (.list (yz u v w z))))(L9:ρ[15]? =some (.p qm)):mn ρ=some (.next,ρ.set 27 (.p (jl (u.add z)))):=
 g0 ((gz (gy ((gz (gy (congrArg gX L9) (gy (ct (congrArg gX Jq) rfl (Et u v w z).1) rfl))).trans (LM u)) (gy (ct (congrArg gX Jq) rfl (Et u v w z).2.2.2) rfl))).trans (Dq u z))
theorem p9(Jq:ρ[25]? =some (.p (.list (yz u v w z))))(L9:ρ[15]? =some (.p qm)):mq ρ=some (.next,ρ.set 28 (.p (jl (v.add w)))):=
 g0 ((gz (gy ((gz (gy (ct (congrArg gX Jq) rfl (Et u v w z).2.1) (gy (congrArg gX L9) rfl))).trans (FJ v)) (gy (ct (congrArg gX Jq) rfl (Et u v w z).2.2.1) rfl))).trans (Dq v w))
variable {a b:V6}
theorem p10(Gu:ρ[27]? =some (.p (jl a)))(Gv:ρ[28]? =some (.p (jl b))):lA ρ=some (.next,(ρ.set 29 (.p (ju (a.sub b)))).set 30 (.p (.int 0))):=
 gz (qh (gy (ip ((gz (gy ((gz (gy (congrArg gX Gu) rfl)).trans (xg a)) (gy ((gz (gy (congrArg gX Gv) rfl)).trans (xg b)) rfl))).trans (show ur [vk a,vk b]=some (wD (a.l6.map .int) (b.l6.map .int)) from rfl)) (Jo (ρ.map MV.mJ) a b) rfl) (gy rfl rfl)) rfl)
noncomputable def mu(K:List (Int×Int))(u v:V6):List Int:=(K.filter fun p=>(u.sub v).at' p.1 !=0).map fun p=>if 0<(u.sub v).at' p.1 then p.2 else-p.2
theorem Ca(u v:V6)(i d:Int)(K:List (Int×Int)):mu ((i,d)::K) u v=if u.at' i<v.at' i then-d::mu K u v else if v.at' i<u.at' i then d::mu K u v else mu K u v:=by
 unfold mu
 have hs:(u.sub v).at' i=u.at' i-v.at' i:=Ae u v i
 rcases dB (u.at' i) (v.at' i) with h|h|h
 ·rw[if_pos h,eg (p:=fun p:Int×Int=>(u.sub v).at' p.1 !=0) (bne_iff_ne.mpr (show(u.sub v).at' i≠0 by omega)),aQ,if_neg (show ¬ 0<(u.sub v).at' i by omega)]
 ·rw[if_neg (by omega),if_neg (by omega),List.filter_cons_of_neg (p:=fun p:Int×Int=>(u.sub v).at' p.1 !=0) (by rw[hs,h,Int.sub_self];decide)]
 ·rw[if_neg (by omega),if_pos h,eg (p:=fun p:Int×Int=>(u.sub v).at' p.1 !=0) (bne_iff_ne.mpr (show(u.sub v).at' i≠0 by omega)),aQ,if_pos (show 0<(u.sub v).at' i by omega)]
theorem Dw(u v:V6): ∀K:List (Int×Int),(mu K u v++[0])[0]? =some (m9 K u v):=by
 intro K
 induction K with
 |nil=>exact rfl
 |cons q0 K hV=>
  obtain⟨i,d⟩:=q0
  rw[Ca]
  by_cases h:u.at' i<v.at' i
  ·rw[if_pos h,El h];rfl
  ·by_cases h2:v.at' i<u.at' i
   ·rw[if_neg h,if_pos h2,Em h h2];rfl
   ·rw[if_neg h,if_neg h2,En h h2];exact hV
theorem Cb{tl:List MV}(NT:tl[29]? =some (.p (ju (a.sub b))))(K:List (Int×Int))(h: ∀p∈K,0≤p.1∧p.1<6):i9 (il (gL [0,1] #[m,[0,1]]) #[q,iy #[31] #[0] gC,#[i,0],lU] #[w,#[q,iy #[31] #[0] gC,#[i,0],J9],#[1],#[f,#[1],vU]]) (.un:: .un::tl) (K.map B3)=some ((mu K a b).map .int):=by
 refine(sJ (c:=B3) (q:=fun p=>(a.sub b).at' p.1 !=0) (g:=fun p=> .int (if 0<(a.sub b).at' p.1 then p.2 else-p.2)) fun p hp=> ?_).trans (congrArg some List.map_map.symm)
 have hi:=IW (h p hp).1 (h p hp).2 (a.sub b)
 have ht: ∀{o:PV→PV→Option PV} {r:Option PV},o (.int ((a.sub b).at' p.1)) (.int 0)=r→iy #[b,#[31],#[0],gC] #[i,0] o (.p (.int p.1):: .p (.int p.2)::tl)=r:=ct (ct (congrArg gX NT) rfl hi) rfl
 by_cases c0:((a.sub b).at' p.1 !=0)=true
 ·rw[if_pos c0]
  refine iG (gK:= .p (.int p.1):: .p (.int p.2)::tl) rfl (ji (ht rfl) c0) ?_
  by_cases c1:0<(a.sub b).at' p.1
  ·rw[if_pos c1];exact gz (ji (ht rfl) (decide_eq_true c1))
  ·rw[if_neg c1];exact gz (ji (ht rfl) (decide_eq_false c1))
 ·rw[if_neg c0]
  exact uz (gK:= .p (.int p.1):: .p (.int p.2)::tl) rfl (ji (ht rfl) (Bool.eq_false_iff.mpr c0))
end
end
section
open PySem PyProof.Rows
open V6
theorem Cc{K:List (Int×Int)}(hK: ∀p∈K,0≤p.1∧p.1<6)(u v:V6):jw (.inst tC (Str.ofString "comp_select_list") (jH K)::[vk u,vk v])=some (.int (m9 K u v)):=Dr hK u v
theorem F0{α:Type}{C:Addr}{nm:Str}{g:PV→Option α}(q:PV):wo C nm g (.inst C nm q)=g q:=if_pos ⟨rfl,rfl⟩
theorem ne_int(n:Int):lU (.int n) (.int n)=some (.bool false):=congrArg (fun b=>some (PV.bool !b)) (beq_self_eq_true n)
section
variable {ρ:List MV} {a b:V6} {K:List (Int×Int)}
theorem pb0(hK: ∀p∈K,0≤p.1∧p.1<6)(NT:ρ[31]? =some (.p (jH K)))(Gu:ρ[27]? =some (.p (jl a)))(Gv:ρ[28]? =some (.p (jl b))):kJ ρ=some (.next,ρ.set 30 (.p (.int (m9 K a b)))):=
 g0 (gA (gA (gy (congrArg gX NT) rfl) (show zR tC (Str.ofString "comp_select_list") [jH K]=some (.inst tC (Str.ofString "comp_select_list") (jH K)) from rfl)) ((F0 _).trans (gA (gy (gA (gy (congrArg gX Gu) rfl) (xg a)) (gy (gA (gy (congrArg gX Gv) rfl) (xg b)) rfl)) (Cc hK a b))))
theorem Dx(u v:V6)(K:List (Int×Int)):(mu K u v).length≤K.length:=by
 unfold mu;rw[aF];exact cQ _ _
theorem pb1(hK: ∀p∈K,0≤p.1∧p.1<6)(QA:K.length≤6)(NT:ρ[31]? =some (.p (jH K)))(QB:ρ[29]? =some (.p (ju (a.sub b))))(S4:ρ[30]? =some (.p (.int (m9 K a b)))):kK ρ=some (.next,ρ):=by
 have hJ:=Nat.le_trans (Dx a b K) QA
 have hf:mL ((mu K a b).map .int)=true:=decide_eq_true (by rw[aF];exact Nat.le_trans hJ (by decide))
 have PT:gR (.list ((mu K a b).map .int)) (.list [.int 0])=some (.list ((mu K a b++[0]).map .int)):=
  (if_pos (by rw[aF];exact Nat.le_trans (bk hJ 1) (by decide))).trans (by rw[bO];rfl)
 exact gz (a:=false) (ji (ct (congrArg gX S4) (ct (ct (ip ((gz (congrArg gX NT)).trans rfl) (Cb (tl:=ρ.map MV.mJ) (a:=a) (b:=b) (by rw[aJ,QB];rfl) K hK) hf) (uA (gy rfl rfl) rfl) PT) rfl (item_list (i:=0) (Dw a b K) (by decide))) (ne_int _)) rfl)
theorem pb(hK: ∀p∈K,0≤p.1∧p.1<6)(QA:K.length≤6)(hJ:ρ.length=38)(NT:ρ[31]? =some (.p (jH K)))(Gu:ρ[27]? =some (.p (jl a)))(Gv:ρ[28]? =some (.p (jl b)))(QB:ρ[29]? =some (.p (ju (a.sub b)))):lB ρ=some (.next,ρ.set 30 (.p (.int (m9 K a b)))):=
 (gB (pb0 hK NT Gu Gv)).trans (gB (pb1 (K:=K) (a:=a) (b:=b) hK QA (jj NT rfl) (jj QB rfl) (sS (hJ▸by decide))))
theorem ub{α:Type}(l:List α)(n:Nat):cut l none (some (n:Int))=l.take n:=by
 have e:(max 0 (min (if (n:Int)<0 then(n:Int)+l.length else n) (l.length:Int))).toNat-0=min n l.length:=by
  rw[if_neg (Int.not_lt.mpr (bA n))]
  rcases Nat.le_total n l.length with h|h
  ·rw[Int.min_eq_left (Int.ofNat_le.mpr h),eP h,gc (bA _)];rfl
  ·rw[Int.min_eq_right (Int.ofNat_le.mpr h),Nat.min_eq_right h,gc (bA _)];rfl
 rw[List.take_eq_take_min]
 exact congrArg l.take e
noncomputable def Ma(ρ:List MV)(K:List (Int×Int))(turn:Nat)(a b:V6):List MV:=(((ρ.set 31 (.p (jH (K.take turn)))).set 30 (.p (.int (m9 (K.take turn) a b)))).set 31 (.p (jH K))).set 30 (.p (.int (m9 K a b)))
theorem p11{turn:Nat}(hK: ∀p∈K,0≤p.1∧p.1<6)(QA:K.length=6)(ht:turn≤6)(hJ:ρ.length=38)(h2:ρ[2]? =some (.p (jH K)))(Av:ρ[20]? =some (.p (.int (turn:Nat))))(Gu:ρ[27]? =some (.p (jl a)))(Gv:ρ[28]? =some (.p (jl b)))(QB:ρ[29]? =some (.p (ju (a.sub b)))):
  lC ρ=some (.next,Ma ρ K turn a b):=by
 have hs:jP (jH K) none (some (turn:Int))=some (jH (K.take turn)):=
  (if_pos (by rw[aF,QA];decide)).trans (by rw[ub,←List.map_take];rfl)
 have b1:=pb (ρ:=ρ.set 31 (.p (jH (K.take turn)))) (K:=K.take turn) (a:=a) (b:=b) (fun p hp=>hK p (List.mem_of_mem_take hp)) (Nat.le_trans (List.length_take_le _ _) (Nat.le_trans ht (br _))) (by rw[cP];exact hJ) (sS (hJ▸by decide)) (jj Gu rfl) (jj Gv rfl) (jj QB rfl)
 have b2:=pb (ρ:=((ρ.set 31 (.p (jH (K.take turn)))).set 30 (.p (.int (m9 (K.take turn) a b)))).set 31 (.p (jH K))) (K:=K) (a:=a) (b:=b) hK (bt QA) (by rw[cP,cP,cP];exact hJ) (sS (by rw[cP,cP,hJ];decide)) (jj (jj (jj Gu rfl) rfl) rfl) (jj (jj (jj Gv rfl) rfl) rfl) (jj (jj (jj QB rfl) rfl) rfl)
 exact gA (gA (qh (gy (gA (congrArg gX h2) (gA rfl (gA (gA (congrArg gX Av) rfl) hs))) (gy (congrArg gX h2) rfl)) rfl) rfl) ((kR rfl b1).trans ((kR rfl b2).trans rfl))
theorem p12{x y:Nat}(J1:ρ[24]? =some (.p (g7 [x,y]))):lD ρ=some (.next,ρ.set 32 (.p (.int (ia x y:Nat)))):=
 g0 ((gz (gy (ct (congrArg gX J1) rfl (show gC (g7 [x,y]) (.int 0)=some (.int (x:Nat)) by kernel_rfl)) (gy (ct (congrArg gX J1) rfl (show gC (g7 [x,y]) (.int 1)=some (.int (y:Nat)) by kernel_rfl)) rfl))).trans (Aw x y))
end
end
section
open PySem PyProof.Rows
open V6
theorem Jr{x y d:Int}(hd:d≠0){c t:Int}(h:c<0↔t=1):(if x<y then-d else if y<x then d else c)<0↔(if 0<(y-x)*d then 1 else if (y-x)*d<0 then-1 else t)=1:=by
 rcases dB x y with g|g|g
 ·rw[if_pos g]
  rcases dB d 0 with e|e|e
  ·rw[if_neg (eK (Int.mul_neg_of_pos_of_neg (fQ g) e)),if_pos (Int.mul_neg_of_pos_of_neg (fQ g) e)]
   exact⟨fun k=>absurd k (by omega),nofun⟩
  ·exact absurd e hd
  ·rw[if_pos (Int.mul_pos (fQ g) e)]
   exact⟨fun _=>rfl,fun _=>Int.neg_neg_of_pos e⟩
 ·rw[g,if_neg (Int.lt_irrefl y),if_neg (Int.lt_irrefl y),Int.sub_self,fP]
  exact h
 ·rw[if_neg (eK g),if_pos g]
  rcases dB d 0 with e|e|e
  ·rw[if_pos (Int.mul_pos_of_neg_of_neg (fR g) e)]
   exact⟨fun _=>rfl,fun _=>e⟩
  ·exact absurd e hd
  ·rw[if_neg (eK (Int.mul_neg_of_neg_of_pos (fR g) e)),if_pos (Int.mul_neg_of_neg_of_pos (fR g) e)]
   exact⟨fun k=>absurd k (eK e),nofun⟩
theorem Eu(u v:V6): ∀K:List (Int×Int),(∀p∈K,p.2≠0)→(m9 K u v<0↔rT K (v.sub u)=1):=by
 intro K
 induction K with
 |nil=>exact @fun _=>⟨nofun,nofun⟩
 |cons q0 K hV=>
  obtain⟨i,d⟩:=q0
  intro h
  have e:=Jr (x:=u.at' i) (y:=v.at' i) (h (i,d) (az ..)) (hV fun p hp=>h p (av _ hp))
  rw[←Ae] at e
  exact e
theorem uL{k k':Int}{v:PV}: ∀{ks:List Int} {vs:List PV},ks.length=vs.length→jo (iw ks vs k v).1 (iw ks vs k v).2 k'=if k=k' then some v else jo ks vs k':=by
 intro ks
 induction ks with
 |nil=>
  intro vs h
  cases vs with
  |nil=>rfl
  |cons _ _=>exact absurd h.symm (aV _)
 |cons a ks ih=>
  intro vs h
  cases vs with
  |nil=>exact absurd h (aV _)
  |cons w vs=>
   have ih:=ih (vs:=vs) (Nat.succ.inj h)
   rw[uy,Di]
   by_cases h1:a=k
   ·rw[if_pos h1,h1]
    show(if k=k' then some v else jo ks vs k')=_
    by_cases h2:k=k'
    ·rw[if_pos h2,if_pos h2]
    ·rw[if_neg h2,if_neg h2,if_neg h2]
   ·rw[if_neg h1]
    show(if a=k' then some w else jo (iw ks vs k v).1 (iw ks vs k v).2 k')=_
    by_cases h2:a=k'
    ·rw[if_pos h2,if_pos h2,if_neg fun e=>h1 (h2.trans e.symm)]
    ·rw[if_neg h2,if_neg h2,ih]
theorem zc{k:Int}{v:PV}: ∀{ks:List Int} {vs:List PV},ks.length=vs.length→(iw ks vs k v).1.length=(iw ks vs k v).2.length∧(iw ks vs k v).1.length≤ks.length+1∧(iw ks vs k v).1≠[]:=by
 intro ks
 induction ks with
 |nil=>
  intro vs h
  cases vs with
  |nil=>exact⟨rfl,br _,bZ _ _⟩
  |cons _ _=>exact absurd h.symm (aV _)
 |cons a ks ih=>
  intro vs h
  cases vs with
  |nil=>exact absurd h (aV _)
  |cons w vs=>
   have ih:=ih (vs:=vs) (Nat.succ.inj h)
   rw[uy]
   split
   ·exact⟨h,dM _,bZ _ _⟩
   ·exact⟨congrArg (· +1) ih.1,cI ih.2.1,bZ _ _⟩
theorem PU{K:List (Int×Int)}(hd: ∀p∈K,p.2≠0)(a b:V6):mx K a b=if m9 K a b<0 then b else a:=by
 unfold mx
 by_cases h:m9 K a b<0
 ·rw[if_pos h,if_pos ((Eu a b K hd).mp h)]
 ·rw[if_neg h,if_neg fun h'=>h ((Eu a b K hd).mpr h')]
theorem Js(tl:List MV)(u:V6):i9 (il (gL [0] #[n,0]) #[y] #[f,#[0],vU]) (.un::tl) (u.l6.map .int)=some (u.neg.l6.map .int):= (by kernel_rfl)
theorem QC(n:Nat)(a:Int):qN n (.int a) (.int a)=some true:=by rw[Ed,beq_self_eq_true]
theorem Vz(n:Nat)(a:Int):AI n (.int a) (.int a)=some true:=by cases n<;>exact QC _ a
theorem jx{f:PV→PV→Option Bool}{p:PV}{l:List PV}(h:f p p=some true)(t:pR f l l=some true):pR f (p::l) (p::l)=some true:=by
 show(f p p).bind _=_
 rw[h]
 show Option.map _ (pR f l l)=_
 rw[t];rfl
theorem xl(n:Nat)(u:V6):AI (n+2) (B1 u) (B1 u)=some true:=
 (if_pos rfl).trans (jx (show pR (qN n) _ _=_ from jx (QC ..) (jx (QC ..) (jx (QC ..) (jx (QC ..) rfl)))) (jx (QC ..) rfl))
theorem PW(n:Nat)(u:V6):AI (n+3) (jl u) (jl u)=some true:=show pR (AI (n+2)) _ _=_ from jx (Vz ..) (jx (Vz ..) (jx (Vz ..) (jx (Vz ..) (jx (xl ..) rfl))))
theorem PX(u:V6):lU (jl u) (jl u)=some (.bool false):=congrArg (Option.map fun b=>PV.bool !b) (PW 6 u)
theorem Mb(u v w z:V6):lU (Er u v w z) (Er u v w z)=some (.bool false):=congrArg (Option.map fun b=>PV.bool !b) (show pR (AI 8) _ _=_ from jx (xl 6 u) (jx (xl 6 v) (jx (xl 6 w) (jx (xl 6 z) (jx (p:= .iM [] []) rfl rfl)))))
section
variable {ρ:List MV} {a b u v w z:V6} {K:List (Int×Int)}
theorem p13{ks:List Int}{vs:List PV}{old new:Nat}{o:V6}(hd: ∀p∈K,p.2≠0)(PY:ks.length≤1000)(hJ:ρ.length=38)(NS:ρ[17]? =some (.ug ks vs))(PR:ρ[22]? =some (.p (.int (old:Nat))))(ho:jo ks vs (old:Int)=some (jl o))(Ef:ρ[32]? =some (.p (.int (new:Nat))))(Gu:ρ[27]? =some (.p (jl a)))(Gv:ρ[28]? =some (.p (jl b)))(S4:ρ[30]? =some (.p (.int (m9 K a b)))):
  jI ρ=some (.next,ρ.set 17 (.ug (iw ks vs (new:Int) (jl ((mx K a b).add o.neg))).1 (iw ks vs (new:Int) (jl ((mx K a b).add o.neg))).2)):=by
 have hc:=ip (n:=1) (f₀:=fun ρ=>(#[f,#[c,mO 17 #[22],#v[]],kg] ρ).bind itemsOf) (f₁:=i9 (il (gL [0] #[n,0]) #[y] #[f,#[0],vU]))
  ((gz ((gz (gy ((gz NS).trans ((gz (congrArg gX PR)).trans ho)) rfl)).trans (xg o))).trans rfl) (Js (ρ.map MV.mJ) o) rfl
 have he: ∀x:V6,((if decide (m9 K a b<0) then gX ρ[28]? else gX ρ[27]?)=some (jl x))→jI ρ=some (.next,ρ.set 17 (.ug (iw ks vs (new:Int) (jl (x.add o.neg))).1 (iw ks vs (new:Int) (jl (x.add o.neg))).2)):=fun x hx=>
  (gz ((gz (gy ((gz (ji (ct (congrArg gX S4) rfl rfl) rfl)).trans hx) (gy ((gz (gy hc rfl)).trans (sR o.neg)) rfl))).trans (Dq x o.neg))).trans ((gz (congrArg gX Ef)).trans (g0 ((gz NS).trans (if_pos (Nat.le_trans PY (by decide))))))
 rw[PU hd]
 by_cases h:m9 K a b<0
 ·rw[if_pos h]
  exact he b ((if_pos (decide_eq_true h)).trans (congrArg gX Gv))
 ·rw[if_neg h]
  exact he a ((if_neg (by rw[decide_eq_false h];decide)).trans (congrArg gX Gu))
theorem p14{ks:List Int}{vs:List PV}{new:Nat}{o:V6}{rows Dy keys:PV}(hJ:ρ.length=38)(Jq:ρ[25]? =some (.p (.list (yz u v w z))))(L9:ρ[15]? =some (.p qm))(h26:ρ[26]? =some (.p (Er u v w z)))(NS:ρ[17]? =some (.ug ks vs))(Ef:ρ[32]? =some (.p (.int (new:Nat))))(hn:jo ks vs (new:Int)=some (jl o))(h1:ρ[1]? =some (.p rows))(h8:ρ[8]? =some (.p Dy))(h2:ρ[2]? =some (.p keys))(XK:lz [rows,Dy,keys,.int (new:Nat)]=some (jl o)):
  lE ρ=some (.next,ρ):=by
 exact gA (a:=false) (gA (ji (ct (ip (Es Jq L9) (FZ (ρ.map MV.mJ) u v w z) rfl) (congrArg gX h26) (Mb u v w z)) rfl) (gA (ji (ct (gA NS (gA (congrArg gX Ef) hn)) (gA (gy (congrArg gX h1) (gy (congrArg gX h8) (gy (congrArg gX h2) (gy (congrArg gX Ef) rfl)))) XK) (PX o)) rfl) rfl)) rfl
end
end
section
open PySem PyProof.Rows
noncomputable def Dz(d:Nat)(k:Nat)(raised:Bool):List Nat:=if raised then List.replicate d 46++[97+k] else(97+k)::List.replicate d 46
noncomputable def Jt(r k:Nat):List Nat:=[[10],[13],[13,10]].getD ((r+k)%3) []
noncomputable def nh(ds xs:List Nat)(r:Nat):List Nat:=(List.range 6).flatMap fun k=>Dz (ds.getD k 0) k (xs.contains k)++Jt r k
noncomputable def vC(hs xs:List Nat):List Nat:=(List.range 6).flatMap fun k=>Dz (hs.getD k 0) k (xs.contains k)++[13,10]
noncomputable def nV(ds xs:List Nat):List Nat:=(List.range 6).map fun k=>ds.getD k 0+if xs.contains k then 1 else 0
noncomputable def Ew(r:Nat):PV:= .list ((List.range (6-r)).map fun k=>iP (Jt r k))
noncomputable def k8(t:List Nat)(old:Nat):List Nat:=[ax t old,ay t old]
noncomputable def Ju:PV:= .list [iP [13,10],iP [13,10],iP [13,10]]
theorem Mc(t:List Nat)(ht:t∈jT)(old:Nat)(ho:old∈t): ∀r∈[0,1,2],kh [g7 (ig t),g7 (k8 t old),Ew r]=some (iP (nh (ig t) (k8 t old) r)):=fun _ hr=>
 j4 (Au (f:=fun t old=>[0,1,2].map fun r=>kh [g7 (ig t),g7 (k8 t old),Ew r]) (g:=fun t old=>[0,1,2].map fun r=>some (iP (nh (ig t) (k8 t old) r))) (by kernel_rfl) t ht old ho) hr
theorem Cd: ∀t∈jT,∀old∈t,kh [g7 (nV (ig t) (k8 t old)),g7 (k8 t old),Ju]=some (iP (vC (nV (ig t) (k8 t old)) (k8 t old))):=
 Au (f:=fun t old=>kh [g7 (nV (ig t) (k8 t old)),g7 (k8 t old),Ju]) (g:=fun t old=>some (iP (vC (nV (ig t) (k8 t old)) (k8 t old)))) (by kernel_rfl)
noncomputable def zd(t:List Nat)(old:Nat):List (List Nat):=(List.range 6).map fun k=>Dz ((nV (ig t) (k8 t old)).getD k 0) k ((k8 t old).contains k)
theorem oC: ∀t∈jT,∀old∈t,(∀r∈[0,1,2],j5 true (iZ false (nh (ig t) (k8 t old) r++[13]))=vC (nV (ig t) (k8 t old)) (k8 t old)++[13,10]∧(nh (ig t) (k8 t old) r).length≤1000∧((nh (ig t) (k8 t old) r++[13]).all (· <128))=true∧((iZ false (nh (ig t) (k8 t old) r++[13])).all (· <128))=true)∧
 (vC (nV (ig t) (k8 t old)) (k8 t old)++[13,10]).all (· <128)=true∧(vC (nV (ig t) (k8 t old)) (k8 t old)).length≤1000∧vC (nV (ig t) (k8 t old)) (k8 t old)++[13,10]=ly [13,10] (zd t old++[[],[]])∧((zd t old++[[],[]]).all fun w=> !w.contains 13&&decide (w.length≤20))=true∧
 ((List.range 6).all fun k=>(nV (ig t) (k8 t old)).getD k 0==(ig (nextT t old)).getD k 0+if k==old/10||k==old%10 then 1 else 0)=true∧((nV (ig t) (k8 t old)).all (· <6))=true:=by decide+kernel
theorem F1:(List.range 6).map (fun d=>(List.range 6).map fun k=>[true,false].map fun b=>vH (iP (Dz d k b)) [.str (Str.ofString ".")])=(List.range 6).map (fun d=>(List.range 6).map fun k=>[true,false].map fun b=>some (PV.int (d:Nat))):= (by kernel_rfl)
end
section
open PySem PyProof.Rows
theorem Ce{a b:List Nat}(h:a.length+b.length≤100000):gR (iP a) (iP b)=some (iP (a++b)):=
 (if_pos h).trans (congrArg (fun x=>some (PV.str ⟨x⟩)) (Array.toList_inj.mp (Array.toList_append ..)))
theorem S5:PV.str (Str.ofString "\r")=iP [13]:= (by kernel_rfl)
theorem Md:PV.str (Str.ofString "\r\n")=iP [13,10]:= (by kernel_rfl)
theorem Jv:iA (.list [.str (Str.ofString "\n"),.str (Str.ofString "\r"),.str (Str.ofString "\r\n")]) (.int 2)=some (.list ((List.range 6).map fun k=>iP (Jt 0 k))):= (by kernel_rfl)
theorem Jw: ∀r∈[0,1,2],jP (.list ((List.range 6).map fun k=>iP (Jt 0 k))) (some (r:Nat)) none=some (Ew r):=fun _ hr=>
 j4 (f:=fun r:Nat=>jP (.list ((List.range 6).map fun k=>iP (Jt 0 k))) (some (r:Nat)) none) (g:=fun r=>some (Ew r)) (by kernel_rfl) hr
theorem DA:iA (.list [.str (Str.ofString "\r\n")]) (.int 3)=some Ju:= (by kernel_rfl)
theorem str_beq(l:List Nat):lU (iP l) (iP l)=some (.bool false):=congrArg (fun b=>some (PV.bool !b)) (beq_self_eq_true (⟨l.toArray⟩:Str))
theorem F2(l:List Nat):lU (yt l) (yt l)=some (.bool false):=by
 show some (PV.bool !(_==_))=_
 rw[beq_self_eq_true]
 rfl
theorem Cf{l:List Nat}(h:l.all (· <128)=true):itemsOf (iP l)=some (l.map fun c=>PV.str ⟨#[c]⟩):=by
 have ha:DR ⟨l.toArray⟩=true:=by
  unfold DR strIterType
  simp only[decide_eq_true_eq]
  rw[if_pos]
  simpa using h
 show(if DR ⟨l.toArray⟩=true then some (signs ⟨l.toArray⟩) else none)=_
 rw[if_pos ha]
 unfold signs
 simp
theorem Jx(tl:List MV)(l:List Nat):i9 (il (gL [0] #[n,0]) #[y] #[f,#[c,#[0],#v[]],Bb]) (.un::tl) (l.map fun c=>PV.str ⟨#[c]⟩)=some (l.map fun c=>PV.int (c:Nat)):=
 jh fun c _=>iG (gK:= .p (.str ⟨#[c]⟩)::tl) rfl rfl (gA (gy rfl rfl) rfl)
theorem NU{l:List Nat}(h:l.all (· <128)=true){c:Nat}(hc:c∈l):c<128:=of_decide_eq_true (List.all_eq_true.mp h c hc)
theorem Jy{l:List Nat}(h:l.all (· <128)=true)(hl:l.length≤10000):qw [.list (l.map fun c=>PV.int (c:Nat))]=some (yt l):=by
 have e:(l.map fun c=>PV.int (c:Nat))=(l.map fun c:Nat=>(c:Int)).map .int:=List.map_map.symm
 have G6:(l.map fun c:Nat=>(c:Int)).all (fun n=>decide (0≤n)&&decide (n<256))=true:=List.all_eq_true.mpr fun n hn=>
  (List.mem_map.mp hn).elim fun c hc=>hc.2▸Bool.and_eq_true_iff.mpr ⟨decide_eq_true (bA c),decide_eq_true (Int.ofNat_lt.mpr (bj (NU h hc.1) (by decide)))⟩
 have hf:mL ((l.map fun c:Nat=>(c:Int)).map .int)=true:=decide_eq_true (by rw[aF,aF];exact Nat.le_trans hl (by decide))
 rw[e,Fw]
 refine gA (qo _) ((if_pos (Bool.and_eq_true_iff.mpr ⟨G6,hf⟩)).trans (congrArg (fun x=>some (PV.bytes x)) ?_))
 unfold byteArr
 rw[bh]
 rfl
section
variable {ρ:List MV} {t:List Nat} {old:Nat}
noncomputable def S6(plan:Int)(turn:Nat):Nat:=((turn:Int)+plan.fdiv 576).fmod 3 |>.toNat
theorem Ex(plan:Int)(turn:Nat):S6 plan turn∈[0,1,2]∧((turn:Int)+plan.fdiv 576).fmod 3=(S6 plan turn:Int):=by
 have h0:0≤((turn:Int)+plan.fdiv 576).fmod 3:=cO _ (by decide)
 have h3:((turn:Int)+plan.fdiv 576).fmod 3<3:=du _ (by decide)
 unfold S6
 obtain⟨n,hn⟩:=bS h0
 rw[hn] at h3 ⊢
 exact⟨(show ∀n∈List.range 3,n∈[0,1,2] from fun _ h=>h) n (List.mem_range.mpr (Int.ofNat_lt.mp h3)),rfl⟩
theorem p15(ht:t∈jT)(ho:old∈t){plan:Int}{turn:Nat}(XH:ρ[19]? =some (.p (g7 (ig t))))(J1:ρ[24]? =some (.p (g7 (k8 t old))))(Av:ρ[20]? =some (.p (.int (turn:Nat))))(h7:ρ[7]? =some (.p (.int plan))):
  lF ρ=some (.next,ρ.set 33 (.p (iP (nh (ig t) (k8 t old) (S6 plan turn)++[13])))):=by
 obtain⟨hr,er⟩:=Ex plan turn
 have hJ:=((oC t ht old ho).1 _ hr).2.1
 refine g0 (ct (gA (gy (congrArg gX XH) (gy (congrArg gX J1) (gy (gA (ct (uA rfl rfl) rfl Jv) (gA (gA (ct (ct (congrArg gX Av) (ct (congrArg gX h7) rfl rfl) rfl) rfl (b:= .int 3) (r:=some (.int (S6 plan turn:Nat))) (congrArg (fun x=>some (PV.int x)) er)) rfl) (gA rfl (Jw _ hr)))) rfl))) (Mc t ht old ho _ hr)) (congrArg some S5) (Ce (Nat.le_trans (bk hJ 1) (by decide))))
theorem p17(ht:t∈jT)(ho:old∈t){r:Nat}(hr:r∈[0,1,2])(XM:ρ[33]? =some (.p (iP (nh (ig t) (k8 t old) r++[13]))))(h34:ρ[34]? =some (.p (g7 (nV (ig t) (k8 t old)))))(J1:ρ[24]? =some (.p (g7 (k8 t old)))):
  lH ρ=some (.next,(ρ.set 36 (.p (iP (vC (nV (ig t) (k8 t old)) (k8 t old)++[13,10])))).set 35 (.p (iP (vC (nV (ig t) (k8 t old)) (k8 t old)++[13,10])))):=by
 obtain⟨f1,f2,f3,f4⟩:=(oC t ht old ho).1 _ hr
 obtain⟨g1,g2,_⟩:=(oC t ht old ho).2
 have hq:=I7 (l:=nh (ig t) (k8 t old) r++[13]) (by rw[aP];exact Nat.le_trans (bk f2 1) (by decide))
 rw[f1] at hq
 exact gA (qh (gy (gA (gy (congrArg gX XM) rfl) hq) (gy (ct (gA (gy (congrArg gX h34) (gy (congrArg gX J1) (gy (ct (uA (gy rfl rfl) rfl) rfl DA) rfl))) (Cd t ht old ho)) (congrArg some Md) (Ce (Nat.le_trans (bk g2 2) (by decide)))) rfl)) rfl) rfl
theorem p18(ht:t∈jT)(ho:old∈t){r:Nat}(hr:r∈[0,1,2])(XM:ρ[33]? =some (.p (iP (nh (ig t) (k8 t old) r++[13]))))(XN:ρ[35]? =some (.p (iP (vC (nV (ig t) (k8 t old)) (k8 t old)++[13,10]))))(h36:ρ[36]? =some (.p (iP (vC (nV (ig t) (k8 t old)) (k8 t old)++[13,10])))):
  lI ρ=some (.next,ρ):=by
 obtain⟨f1,f2,f3,f4⟩:=(oC t ht old ho).1 _ hr
 obtain⟨g1,g2,_⟩:=(oC t ht old ho).2
 have hM:(nh (ig t) (k8 t old) r++[13]).length≤1001:=by rw[aP];exact bk f2 1
 have hx:=PN (l:=nh (ig t) (k8 t old) r++[13]) (Nat.le_trans hM (by decide))
 have hE:(iZ false (nh (ig t) (k8 t old) r++[13])).length≤3000:=by
  have:=tB (nh (ig t) (k8 t old) r++[13]) false
  omega
 have hc: ∀{l:List Nat} {f0:List MV→Option (List PV)},l.all (· <128)=true→l.length≤3000→f0 ρ=itemsOf (iP l)→(((iB 1 f0 #[o,(gL [0] #[n,0]),#[y],#[f,#[c,#[0],#v[]],Bb]] ρ).bind fun a=>(#v[] ρ).map (a:: ·)).bind qw)=some (yt l):=fun{l f0} h1 h2 h3=>
  gA (gy (ip (h3.trans (Cf h1)) (Jx (ρ.map MV.mJ) l) (decide_eq_true (by rw[aF];exact Nat.le_trans h2 (by decide)))) rfl) (Jy h1 (Nat.le_trans h2 (by decide)))
 have hqp:=LW (l:=iZ false (nh (ig t) (k8 t old) r++[13])) (Nat.le_trans hE (by decide)) (fun c h=>bj (NU f4 h) (by decide))
 rw[f1] at hqp
 exact gA (a:=false) (gA (ji (ct (congrArg gX XN) (congrArg gX h36) (str_beq _)) rfl) (gA (ji (ct (gA (gy (hc f4 hE (gA (gA (gy (congrArg gX XM) rfl) hx) rfl)) rfl) hqp) (hc g1 (by rw[aP];exact Nat.le_trans (bk g2 2) (by decide)) (gA (congrArg gX h36) rfl)) (F2 _)) rfl) rfl)) rfl
end
end
section
open PySem PyProof.Rows
noncomputable def Jz(k code:Nat):Bool:=k==code/10||k==code%10
theorem F3(tl:List MV){t:List Nat}(ht:t∈jT){k:Nat}(hk:k<6):i9 (il (gL [0] #[n,0]) #[q,#[1],#[f,#[c,#[0],#[c,#[i,10],#v[]]],j9],s7] #[0]) (.un:: .p (.int (k:Nat))::tl) (t.map fun n=>PV.int (n:Nat))=some ((t.filter (Jz k)).map fun n=>PV.int (n:Nat)):=
 Ee (l:=jT) (l':=List.range 6) (f:=fun t k=>i9 (il (gL [0] #[n,0]) #[q,#[1],#[f,#[c,#[0],#[c,#[i,10],#v[]]],j9],s7] #[0]) (.un:: .p (.int (k:Nat))::tl) (t.map fun n=>PV.int (n:Nat))) (g:=fun t k=>some ((t.filter (Jz k)).map fun n=>PV.int (n:Nat))) (by kernel_rfl) ht (List.mem_range.mpr hk)
theorem vL(a b:Nat):((a:Int)==(b:Int))=(a==b):=Bool.eq_iff_iff.mpr (beq_iff_eq.trans (Int.ofNat_inj.trans beq_iff_eq.symm))
theorem JA(k:Nat): ∀xs:List Nat,((xs.map fun n:Nat=>(n:Int)).any (· ==(k:Int)))=xs.contains k:=by
 intro xs
 induction xs with
 |nil=>exact rfl
 |cons a l hV=>exact by rw[aQ,de,hV,List.contains_cons,vL,BEq.comm]
theorem Me(k:Nat)(xs:List Nat):s7 (.int (k:Nat)) (g7 xs)=some (.bool (xs.contains k)):=by
 have e:g7 xs= .list ((xs.map fun n:Nat=>(n:Int)).map .int):=congrArg PV.list List.map_map.symm
 rw[e,←JA]
 exact g0 (qo _)
theorem sT(b:Bool):ph [.bool b]=some (.int (if b then 1 else 0:Nat)):=by cases b<;>rfl
theorem Mf:itemsOf (.vN 0 6 1)=some ((List.range 6).map fun k=>PV.int (k:Nat)):= (by kernel_rfl)
section
variable {ρ:List MV} {t:List Nat} {old:Nat}
theorem ze(ht:t∈jT){k:Nat}(hk:k<6)(FY:ρ[16]? =some (.p (g7 t))):iB 1 #[f,#[17],itemsOf] #[o,(gL [0] #[n,0]),#[q,#[1],#[f,#[c,#[0],#[c,#[i,10],#v[]]],j9],s7],#[0]] (.p (.int (k:Nat))::ρ.map MV.mJ)=some (.list ((t.filter (Jz k)).map fun n=>PV.int (n:Nat))):=
 ip (gA (kZ FY) (kL t)) (F3 _ ht hk) (decide_eq_true (by rw[aF];exact Nat.le_trans (cQ _ _) ((iX t ht).2.1▸by decide)))
theorem JB{k:Nat}(hk:k<6):(ig t).getD k 0=I8 t k:=by
 unfold ig
 rw[aS,aJ,List.getElem?_range hk];rfl
theorem Cg(l:List Nat)(h:l.length≤3):Ba [g7 l]=some (.int (l.length:Nat)):=
 (if_pos (decide_eq_true (by rw[aF];exact Nat.le_trans h (by decide)))).trans (by rw[aF])
theorem p16(ht:t∈jT)(FY:ρ[16]? =some (.p (g7 t)))(J1:ρ[24]? =some (.p (g7 (k8 t old)))):lG ρ=some (.next,ρ.set 34 (.p (g7 (nV (ig t) (k8 t old))))):=
 g0 (ip (gA (gA (gy rfl rfl) rfl) Mf) ((jh (c:=fun k:Nat=>PV.int (k:Nat)) (g:=fun k=> .int ((ig t).getD k 0+if (k8 t old).contains k then 1 else 0:Nat)) fun k hk=>by
  have hk:=List.mem_range.mp hk
  rw[JB hk]
  exact iG (gK:= .p (.int (k:Nat))::ρ.map MV.mJ) rfl rfl (ct (ct rfl (gA (gy (ze ht hk FY) rfl) (Cg (t.filter (Jz k)) ((iX t ht).2.1▸cQ _ _))) (rX 1 _)) (gA (gy (ct rfl (kZ J1) (Me k _)) rfl) (sT _)) (rX _ _))).trans (congrArg some List.map_map.symm)) rfl)
end
end
section
open PySem PyProof.Rows
theorem count_at{d k:Nat}(hd:d<6)(hk:k<6)(b:Bool):vH (iP (Dz d k b)) [.str (Str.ofString ".")]=some (.int (d:Nat)):=by
 have h1:=List.map_inj_left.mp F1 d (List.mem_range.mpr hd)
 have h2:=List.map_inj_left.mp h1 k (List.mem_range.mpr hk)
 exact List.map_inj_left.mp h2 b (by cases b<;>simp)
theorem Mg(k a b:Nat):s7 (.int (k:Nat)) (.tup [.int (a:Nat),.int (b:Nat)])=some (.bool (k==a||k==b)):=by
 show some (PV.bool (((a:Int)==k)||(((b:Int)==k)||false)))=_
 rw[vL,vL,Bool.or_false,BEq.comm,BEq.comm (a:=b)]
theorem PZ{ds:List Nat}(h:ds.all (· <6)=true)(hl:ds.length=6){k:Nat}(hk:k<6):ds.getD k 0<6:=by
 rw[aS,aG (hl▸hk)]
 exact of_decide_eq_true (List.all_eq_true.mp h _ (List.getElem_mem _))
theorem Mh(a b c:Nat)(h:a=c+b):ko (.int (a:Nat)) (.int (b:Nat))=some (.int (c:Nat)):=by
 rw[h]
 exact congrArg (fun x=>some (PV.int x)) (show((c+b:Nat):Int)-b=c from Int.add_sub_cancel (c:Int) b)
section
variable {ρ:List MV} {t:List Nat} {old:Nat}
theorem p19(ht:t∈jT)(ho:old∈t)(XN:ρ[35]? =some (.p (iP (vC (nV (ig t) (k8 t old)) (k8 t old)++[13,10]))))(XJ:ρ[23]? =some (.p (.tup [.int (old/10:Nat),.int (old%10:Nat)]))):
  lJ ρ=some (.next,ρ.set 19 (.p (g7 (ig (nextT t old))))):=by
 obtain⟨_,g1,g2,g3,g4,g5,g6⟩:=oC t ht old ho
 have Hi:qz (iP (vC (nV (ig t) (k8 t old)) (k8 t old)++[13,10])) [.str (Str.ofString "\r\n")]=some (.list ((zd t old++[[],[]]).map iP)):=by
  rw[g3,show PV.str (Str.ofString "\r\n")= .str ⟨#[13,10]⟩ by kernel_rfl]
  refine uI (by decide) (by decide) (List.append_ne_nil_of_right_ne_nil _ nofun) (fun w hw=> ?_) (show 8≤100 by decide)
  have:=Bool.and_eq_true_iff.mp (List.all_eq_true.mp g4 w hw)
  exact⟨fun h=>by rw[List.contains_iff_mem.mpr h] at this;exact absurd this.1 nofun,of_decide_eq_true this.2⟩
 have P0:jP (.list ((zd t old++[[],[]]).map iP)) none (some 6)=some (.list ((zd t old).map iP)):=
  (if_pos (e:=none) (show 8≤100000 by decide)).trans (congrArg (fun x=>some (PV.list x)) (ub _ 6))
 refine g0 (ip (gA (gA (gA (congrArg gX XN) (gA (gy rfl rfl) Hi)) (gA rfl (gA (gA rfl rfl) P0))) (show tj (.list ((zd t old).map iP))=some ((List.range 6).map fun k=>PV.tup [.int (k:Nat),iP (Dz ((nV (ig t) (k8 t old)).getD k 0) k ((k8 t old).contains k))]) from rfl)) (jh (g:=fun k=> .int ((ig (nextT t old)).getD k 0:Nat)) fun k hk=> ?_) rfl)
 have VA:=List.mem_range.mp hk
 have hdd:=beq_iff_eq.mp (List.all_eq_true.mp g5 k hk)
 exact iG (gK:= .p (.int (k:Nat)):: .p (iP (Dz ((nV (ig t) (k8 t old)).getD k 0) k ((k8 t old).contains k)))::ρ.map MV.mJ) rfl rfl (ct (gA rfl (gA (gy rfl rfl) (count_at (PZ g6 rfl VA) VA _))) (gA (gy (ct rfl (kZ XJ) (Mg k _ _)) rfl) (sT _)) (Mh _ _ _ hdd))
theorem F4{tl:List MV}(h:tl[22]? =some (.p (.int (old:Nat))))(l:List Nat):i9 (il (gL [0] #[n,0]) #[q,#[0],#[23],lU] #[0]) (.un::tl) (l.map fun n=>PV.int (n:Nat))=some ((l.filter (· !=old)).map fun n=>PV.int (n:Nat)):=
 sJ (q:=(· !=old)) fun a _=>by
  have e (b:Bool) (hb:(a !=old)=b):(iy #[0] #[23] lU (.p (.int (a:Nat))::tl)).bind lg=some b:=ji (ct rfl (congrArg gX h) rfl) (by rw[vL];exact hb)
  cases hq:(a !=old) with
  |true=>exact iG (gK:= .p (.int (a:Nat))::tl) rfl (e _ hq) rfl
  |false=>exact uz (gK:= .p (.int (a:Nat))::tl) rfl (e _ hq)
theorem JC: ∀t∈jT,∀old∈t,kT [.list ((t.filter (· !=old)).map (fun n=>PV.int (n:Nat))++[.int (qL t old:Nat)])]=some (g7 (nextT t old)):=
 Au (f:=fun t old=>kT [.list ((t.filter (· !=old)).map (fun n=>PV.int (n:Nat))++[.int (qL t old:Nat)])]) (g:=fun t old=>some (g7 (nextT t old))) (by kernel_rfl)
theorem p20(ht:t∈jT)(ho:old∈t)(FY:ρ[16]? =some (.p (g7 t)))(PR:ρ[22]? =some (.p (.int (old:Nat))))(Ef:ρ[32]? =some (.p (.int (qL t old:Nat)))):lK ρ=some (.next,ρ.set 16 (.p (g7 (nextT t old)))):=by
 have yH:((t.filter (· !=old)).map fun n=>PV.int (n:Nat)).length≤3:=by rw[aF];exact(iX t ht).2.1▸cQ _ _
 exact g0 (gA (gy (ct (ip (gA (congrArg gX FY) (kL t)) (F4 (tl:=ρ.map MV.mJ) (old:=old) (by rw[aJ,PR];rfl) t) (decide_eq_true (Nat.le_trans yH (by decide)))) (uA (gy (congrArg gX Ef) rfl) rfl) (if_pos (Nat.le_trans (bk yH 1) (by decide)))) rfl) (JC t ht old ho))
end
end
section
open PySem PyProof.Rows
open V6
theorem P1{ρ:List MV}{i:Nat}{v:MV}(hl:ρ.length=38)(hi:decide (i<38)=true):(ρ.set i v)[i]? =some v:=by
 rw[List.getElem?_set_self (by rw[hl];exact of_decide_eq_true hi)]
section
variable {K:List (Int×Int)} {rs:List V6} {c:Nat}
noncomputable def DC(K:List (Int×Int))(rs:List V6)(c code:Nat):V6:=tP K rs c (lh c code).1 (lh c code).2
theorem NV(code:Nat):DC K rs c code=DD K rs c (B8 c (code/10)) (B8 c (code%10)):=rfl
theorem sU{p q:Nat}(hp:p<6)(hq:q<6):DC K rs c (ia p q)=DD K rs c (B8 c p) (B8 c q):=by
 have h:max p q<10:=bj (Nat.max_lt.mpr ⟨hp,hq⟩) (by decide)
 rw[NV,show ia p q/10=min p q from(Nat.mul_add_div (by decide) _ _).trans (by rw[Nat.div_eq_of_lt h];rfl),show ia p q%10=max p q from(Nat.mul_add_mod ..).trans (Nat.mod_eq_of_lt h)]
 rcases Nat.le_total p q with h|h
 ·rw[eP h,Nat.max_eq_right h]
 ·rw[Nat.min_eq_right h,Nat.max_eq_left h,o7]
theorem DB: ∀t∈jT,∀old∈t,old/10<6∧old%10<6∧ax t old<6∧ay t old<6:=by decide
theorem Mi{t:List Nat}{old:Nat}(hK:KeysOK K)(hc:c∈[0,1,2,3,4,5])(ht:t∈jT)(ho:old∈t):(mx K ((DC K rs c (ia (old/10) (ax t old))).add (DC K rs c (ia (old%10) (ay t old)))) ((DC K rs c (ia (old/10) (ay t old))).add (DC K rs c (ia (old%10) (ax t old))))).add (DC K rs c old).neg=DC K rs c (qL t old):=by
 obtain⟨h1,h2,h3,h4⟩:=DB t ht old ho
 rw[sU h1 h3,sU h2 h4,sU h1 h4,sU h2 h3,show mx K _ _=_ from Jh hK (FW c hc t ht old ho),←NV]
 unfold qL
 rw[sU h3 h4]
 exact BZ (fun a b=>a+b+ -a) (fun _ b=>b) (fun a b=>by omega) _ _
noncomputable def S7(m:Nat→MV)(K:List (Int×Int))(rs:List V6)(c s:Nat)(plan:Int)(nums:List Int)(XP:List PV)(t:List Nat)(a:Int)(ks:List Int)(vs:List PV):List MV:=
 [m 0,.p (nf rs),.p (jH K),.p mr,.p uJ,.p (g7 j7),m 6,.p (.int plan),.p (.int (c:Nat)),.p (.int (s:Nat)),m 10,.p (.int a),.p (.list (nums.map .int)),m 13,.lR XP,.p qm,.p (g7 t),.ug ks vs,m 18,.p (g7 (ig t)),
  m 20,m 21,m 22,m 23,m 24,m 25,m 26,m 27,m 28,m 29,m 30,m 31,m 32,m 33,m 34,m 35,m 36,m 37]
noncomputable def TI(K:List (Int×Int))(rs:List V6)(c s:Nat)(plan:Int)(nums:List Int)(T:Nat→List PV)(turn:Nat)(t:List Nat)(ρ:List MV):Prop:=
 ∃m a ks vs,ρ=S7 m K rs c s plan nums (T ((turn+1)/2)) t a ks vs∧t∈jT∧ks.length=vs.length∧ks.length≤20+turn∧ks≠[]∧uK ks vs (DC K rs c) (t++k7)
theorem Ci{K:List (Int×Int)}{rs:List V6}{c s:Nat}{plan:Int}{nums:List Int}{T:Nat→List PV}{turn:Nat}{t:List Nat}{ρ:List MV}{a:Int}{ks:List Int}{vs:List PV}(h:ρ=S7 (fun j=>ρ.getD j .un) K rs c s plan nums (T ((turn+1)/2)) t a ks vs)(ht:t∈jT)(h1:ks.length=vs.length)(h2:ks.length≤20+turn)(h3:ks≠[])(h4:uK ks vs (DC K rs c) (t++k7)):TI K rs c s plan nums T turn t ρ:=⟨_,a,ks,vs,h,ht,h1,h2,h3,h4⟩
theorem zf{f:List MV→Option (Fl×List MV)}{ρ ρ':List MV}(h:f ρ=some (.next,ρ')):gN f #[k] ρ=some (.next,ρ'):=gB h
theorem set_same{ρ:List MV}{i:Nat}{v:MV}(h:ρ[i]? =some v):ρ.set i v=ρ:=by
 induction ρ generalizing i with
 |nil=>rfl
 |cons a l ih=>cases i with
  |zero=>exact congrArg (· ::l) (Option.some.inj h).symm
  |succ i=>exact congrArg (a:: ·) (ih (i:=i) h)
theorem P2{ρ:List MV}{turn:Nat}{nums:List Int}{T:Nat→List PV}{a:Int}(h6:turn<6)(hT: ∀j<3,∃n,nums[j]? =some n∧Gq 2 gV (T j)=some (n,T (j+1)))(hl:20<ρ.length)(Av:ρ[20]? =some (.p (.int (turn:Nat))))(S0:ρ[14]? =some (.lR (T ((turn+1)/2))))(S3:ρ[12]? =some (.p (.list (nums.map .int))))(PI:ρ[11]? =some (.p (.int a))):
  ∃a,jW ρ=some (.next,(ρ.set 14 (.lR (T ((turn+1+1)/2)))).set 11 (.p (.int a))):=by
 have e:=Nat.div_add_mod turn 2
 have two (n:Nat):(2*(turn/2)+n)/2=turn/2+n/2:=Nat.mul_add_div (by decide) _ n
 rcases Nat.mod_two_eq_zero_or_one turn with he|he
 ·rw[he] at e
  have e1:(turn+1)/2=turn/2:=(congrArg (fun x=>(x+1)/2) e.symm).trans (two 1)
  have e2:(turn+1+1)/2=turn/2+1:=(congrArg (fun x=>(x+1+1)/2) e.symm).trans (two 2)
  refine(hT (turn/2) (Nat.div_lt_of_lt_mul h6)).elim fun n hn=>⟨n,?_⟩
  rw[e1] at S0
  rw[e2]
  exact L6 he Av S0 hn.2 S3 hn.1 (bj h6 (by decide)) hl
 ·rw[he] at e
  have e1:(turn+1+1)/2=(turn+1)/2:=(congrArg (fun x=>(x+1+1)/2) e.symm).trans ((two 3).trans ((two 2).symm.trans (congrArg (fun x=>(x+1)/2) e)))
  refine⟨a,?_⟩
  rw[e1,set_same S0,set_same PI]
  exact PS he Av
theorem p4o{ρ:List MV}{t:List Nat}{s old:Nat}{e asked:Int}{turn:Nat}(ht:t∈jT)(hs:s<24)(ho:o9 t asked turn=old)(h5:ρ[5]? =some (.p (g7 j7)))(h3:ρ[3]? =some (.p mr))(SY:ρ[21]? =some (.p (.list ((jX (mH t s) e).map .str))))(PI:ρ[11]? =some (.p (.int asked)))(Av:ρ[20]? =some (.p (.int (turn:Nat))))(h9:ρ[9]? =some (.p (.int (s:Nat)))):
 kE ρ=some (.next,ρ.set 22 (.p (.int (old:Nat)))):=ho▸p4 ht hs h5 h3 SY PI Av h9
theorem XQ{ρ:List MV}{a b n:V6}{ks:List Int}{vs:List PV}{old new:Nat}{o:V6}(hd: ∀p∈K,p.2≠0)(PY:ks.length≤1000)(hJ:ρ.length=38)(hn:(mx K a b).add o.neg=n)(NS:ρ[17]? =some (.ug ks vs))(PR:ρ[22]? =some (.p (.int (old:Nat))))(ho:jo ks vs (old:Int)=some (jl o))(Ef:ρ[32]? =some (.p (.int (new:Nat))))(Gu:ρ[27]? =some (.p (jl a)))(Gv:ρ[28]? =some (.p (jl b)))(S4:ρ[30]? =some (.p (.int (m9 K a b)))):
 jI ρ=some (.next,ρ.set 17 (.ug (iw ks vs (new:Int) (jl n)).1 (iw ks vs (new:Int) (jl n)).2)):=hn▸p13 hd PY hJ NS PR ho Ef Gu Gv S4
theorem xm{ks:List Int}{vs:List PV}{T:Nat→V6}{n:Nat}{l t d:List Nat}(h:ks.length=vs.length)(q:(l.all fun q=>q==n||t.contains q)=true)(hl:uK ks vs T (t++d)):uK (iw ks vs (n:Int) (jl (T n))).1 (iw ks vs (n:Int) (jl (T n))).2 T (l++d):=fun code hc=>by
 rw[uL h]
 by_cases hn:(n:Int)=code
 ·rw[if_pos hn,Int.ofNat.inj hn]
 ·rw[if_neg hn]
  refine hl code (List.mem_append.mpr ((List.mem_append.mp hc).imp_left fun h=> ?_))
  have:=List.all_eq_true.mp q code h
  rw[eO,beq_iff_eq,List.contains_iff_mem] at this
  exact this.resolve_left fun h=>hn (congrArg _ h.symm)
theorem Mj{s:Nat}{plan:Int}{nums:List Int}{T:Nat→List PV}{turn:Nat}{t:List Nat}{r0 r1 r2 r3 r4 r5 r6 r7 r8:V6}{NW:List MV}(hK:Gs K)(hc:c∈[0,1,2,3,4,5])(hs:s<24)(hT: ∀j<3,∃n,nums[j]? =some n∧Gq 2 gV (T j)=some (n,T (j+1)))(h6:turn<6)(I:TI K [r0,r1,r2,r3,r4,r5,r6,r7,r8] c s plan nums T turn t NW):
  ∃ρ' t',ky (NW.set 20 (.p (.int (turn:Nat))))=some (.next,ρ')∧ρ'[10]? =some (.p (.int (vA plan turn)))∧TI K [r0,r1,r2,r3,r4,r5,r6,r7,r8] c s plan nums T (turn+1) t' ρ':=by
 obtain⟨m,a,ks,vs,rfl,ht,XR,XS,ine,JD⟩:=I
 have hex:=xj plan turn
 obtain⟨asked,s0⟩:=P2 (ρ:=(S7 m K [r0,r1,r2,r3,r4,r5,r6,r7,r8] c s plan nums (T ((turn+1)/2)) t a ks vs).set 20 (.p (.int (turn:Nat)))) (a:=a) h6 hT (cx rfl) rfl rfl rfl rfl
 obtain⟨old,eo⟩: ∃old,o9 t asked turn=old:=⟨_,rfl⟩
 have ho:old∈t:=eo▸xk ht asked turn
 have q:=L2 t ht old ho
 have hr:=(Ex plan turn).1
 have hl:=uL (k:=(qL t old:Int)) (k':=(qL t old:Int)) (v:=jl (DC K [r0,r1,r2,r3,r4,r5,r6,r7,r8] c (qL t old))) XR
 rw[if_pos rfl] at hl
 have Cp:=zc (k:=(qL t old:Int)) (v:=jl (DC K [r0,r1,r2,r3,r4,r5,r6,r7,r8] c (qL t old))) XR
 have hA:ky ((S7 m K [r0,r1,r2,r3,r4,r5,r6,r7,r8] c s plan nums (T ((turn+1)/2)) t a ks vs).set 20 (.p (.int (turn:Nat))))=some (.next,_):=(gB s0).trans ((gB (p1 (plan:=plan) (turn:=turn) (by kernel_rfl) (by kernel_rfl))).trans ((gB (p2 (s:=s) (e:=vA plan turn) ht hs hex (by kernel_rfl) (by kernel_rfl) (by kernel_rfl) (by kernel_rfl))).trans ((gB (p3 (s:=s) (e:=vA plan turn) ht hs hex (by kernel_rfl) (by kernel_rfl) (by kernel_rfl) (by kernel_rfl) (by kernel_rfl) (by kernel_rfl) (by kernel_rfl))).trans ((gB (p4o (e:=vA plan turn) ht hs eo (by kernel_rfl) (by kernel_rfl) (by kernel_rfl) (by kernel_rfl) (by kernel_rfl) (by kernel_rfl))).trans
  ((gB (p5 ht ho (by kernel_rfl) (by kernel_rfl))).trans ((gB (p6 ine JD q.2.2.2.1 (by kernel_rfl) (by kernel_rfl) (by kernel_rfl) (by kernel_rfl))).trans
  ((gB (p7 (u:=(DC K [r0,r1,r2,r3,r4,r5,r6,r7,r8] c (ia (old/10) (ax t old)))) (v:=(DC K [r0,r1,r2,r3,r4,r5,r6,r7,r8] c (ia (old/10) (ay t old)))) (w:=(DC K [r0,r1,r2,r3,r4,r5,r6,r7,r8] c (ia (old%10) (ax t old)))) (z:=(DC K [r0,r1,r2,r3,r4,r5,r6,r7,r8] c (ia (old%10) (ay t old)))) (by kernel_rfl) (by kernel_rfl))).trans
  ((gB (p8 (u:=(DC K [r0,r1,r2,r3,r4,r5,r6,r7,r8] c (ia (old/10) (ax t old)))) (v:=(DC K [r0,r1,r2,r3,r4,r5,r6,r7,r8] c (ia (old/10) (ay t old)))) (w:=(DC K [r0,r1,r2,r3,r4,r5,r6,r7,r8] c (ia (old%10) (ax t old)))) (z:=(DC K [r0,r1,r2,r3,r4,r5,r6,r7,r8] c (ia (old%10) (ay t old)))) (by kernel_rfl) (by kernel_rfl))).trans
  ((gB (p9 (u:=(DC K [r0,r1,r2,r3,r4,r5,r6,r7,r8] c (ia (old/10) (ax t old)))) (v:=(DC K [r0,r1,r2,r3,r4,r5,r6,r7,r8] c (ia (old/10) (ay t old)))) (w:=(DC K [r0,r1,r2,r3,r4,r5,r6,r7,r8] c (ia (old%10) (ax t old)))) (z:=(DC K [r0,r1,r2,r3,r4,r5,r6,r7,r8] c (ia (old%10) (ay t old)))) (by kernel_rfl) (by kernel_rfl))).trans
  ((gB (p10 (a:=((DC K [r0,r1,r2,r3,r4,r5,r6,r7,r8] c (ia (old/10) (ax t old))).add (DC K [r0,r1,r2,r3,r4,r5,r6,r7,r8] c (ia (old%10) (ay t old))))) (b:=((DC K [r0,r1,r2,r3,r4,r5,r6,r7,r8] c (ia (old/10) (ay t old))).add (DC K [r0,r1,r2,r3,r4,r5,r6,r7,r8] c (ia (old%10) (ax t old))))) (by kernel_rfl) (by kernel_rfl))).trans ((gB (p11 (K:=K) (turn:=turn) (a:=((DC K [r0,r1,r2,r3,r4,r5,r6,r7,r8] c (ia (old/10) (ax t old))).add (DC K [r0,r1,r2,r3,r4,r5,r6,r7,r8] c (ia (old%10) (ay t old))))) (b:=((DC K [r0,r1,r2,r3,r4,r5,r6,r7,r8] c (ia (old/10) (ay t old))).add (DC K [r0,r1,r2,r3,r4,r5,r6,r7,r8] c (ia (old%10) (ax t old))))) (fun p hp=>(hK.both p hp).1) hK.len (by omega) (by kernel_rfl) (by kernel_rfl) (by kernel_rfl) (by kernel_rfl) (by kernel_rfl) (by kernel_rfl))).trans ((gB (p12 (x:=ax t old) (y:=ay t old) (by kernel_rfl))).trans
  ((gB (XQ (o:=DC K [r0,r1,r2,r3,r4,r5,r6,r7,r8] c old) (old:=old) (new:=qL t old) (fun p hp=>(hK.dir p hp).1) (by omega) (by kernel_rfl) (Mi hK.toKeysOK hc ht ho) (by kernel_rfl) (by kernel_rfl) (JD old (aw _ ho)) (by kernel_rfl) (by kernel_rfl) (by kernel_rfl) (by kernel_rfl))).trans
  ((gB (p14 (o:=DC K [r0,r1,r2,r3,r4,r5,r6,r7,r8] c (qL t old)) (rows:=nf [r0,r1,r2,r3,r4,r5,r6,r7,r8]) (Dy:= .int (c:Nat)) (keys:=jH K) (new:=qL t old) (u:=(DC K [r0,r1,r2,r3,r4,r5,r6,r7,r8] c (ia (old/10) (ax t old)))) (v:=(DC K [r0,r1,r2,r3,r4,r5,r6,r7,r8] c (ia (old/10) (ay t old)))) (w:=(DC K [r0,r1,r2,r3,r4,r5,r6,r7,r8] c (ia (old%10) (ax t old)))) (z:=(DC K [r0,r1,r2,r3,r4,r5,r6,r7,r8] c (ia (old%10) (ay t old)))) (by kernel_rfl) (by kernel_rfl) (by kernel_rfl) (by kernel_rfl) (by kernel_rfl) (by kernel_rfl) hl (by kernel_rfl) (by kernel_rfl) (by kernel_rfl) (I6 hK r0 r1 r2 r3 r4 r5 r6 r7 r8 hc q.2.2.1))).trans
  ((gB (p15 (plan:=plan) (turn:=turn) ht ho (by kernel_rfl) (by kernel_rfl) (by kernel_rfl) (by kernel_rfl))).trans ((gB (p16 (old:=old) ht (by kernel_rfl) (by kernel_rfl))).trans ((gB (p17 ht ho hr (by kernel_rfl) (by kernel_rfl) (by kernel_rfl))).trans ((gB (p18 ht ho hr (by kernel_rfl) (by kernel_rfl) (by kernel_rfl))).trans ((gB (p19 ht ho (by kernel_rfl) (by kernel_rfl))).trans (zf (p20 (old:=old) ht ho (by kernel_rfl) (by kernel_rfl) (by kernel_rfl))))))))))))))))))))))
 exact⟨_,nextT t old,hA,(by kernel_rfl),Ci (a:=asked) (by kernel_rfl) q.2.1 Cp.1 (Nat.le_trans Cp.2.1 (cI XS)) Cp.2.2 (xm XR q.2.2.2.2 JD)⟩
end
end
section
open PySem PyProof.Rows
open V6
section
variable {K:List (Int×Int)} {c s:Nat} {plan:Int} {nums:List Int} {T:Nat→List PV} {r0 r1 r2 r3 r4 r5 r6 r7 r8:V6}
theorem Ml(hK:Gs K)(hc:c∈[0,1,2,3,4,5])(hs:s<24)(hT: ∀j<3,∃n,nums[j]? =some n∧Gq 2 gV (T j)=some (n,T (j+1))): ∀(m k:Nat) (t:List Nat) (ρ:List MV),k+m=6→(m=0→ρ[10]? =some (.p (.int (vA plan 5))))→TI K [r0,r1,r2,r3,r4,r5,r6,r7,r8] c s plan nums T k t ρ→
  ∃ρ' t',mM #[n,20] ky #[k] ρ ((bE k m).map fun k=>PV.int (k:Nat))=some (.next,ρ')∧ρ'[10]? =some (.p (.int (vA plan 5)))∧TI K [r0,r1,r2,r3,r4,r5,r6,r7,r8] c s plan nums T 6 t' ρ':=by
 intro m
 induction m with
 |zero=>
  intro k t ρ hk tp I
  skip;(first|exact VD hk|cases hk)
  exact⟨ρ,t,rfl,tp rfl,I⟩
 |succ m hV=>
  intro k t ρ hk _ I
  obtain⟨ρ',t',e1,e2,I'⟩:=Mj hK hc hs hT (hk▸Nat.lt_add_of_pos_right (Nat.succ_pos m)) I
  rw[cG,aQ]
  exact(hV (k+1) t' ρ' ((dr k 1 m).trans hk) (fun hm=>by (first|exact VD hm|cases hm);(first|exact VD hk|cases hk);exact e2) I').imp fun C7 h=>h.imp fun t'' h=>⟨(kR rfl e1).trans h.1,h.2⟩
theorem JE(hK:Gs K)(hc:c∈[0,1,2,3,4,5])(hs:s<24)(hT: ∀j<3,∃n,nums[j]? =some n∧Gq 2 gV (T j)=some (n,T (j+1))){t:List Nat}{ρ:List MV}(I:TI K [r0,r1,r2,r3,r4,r5,r6,r7,r8] c s plan nums T 0 t ρ):
  ∃ρ' t',nU ρ=some (.next,ρ')∧ρ'[10]? =some (.p (.int (vA plan 5)))∧TI K [r0,r1,r2,r3,r4,r5,r6,r7,r8] c s plan nums T 6 t' ρ':=by
 obtain⟨ρ',t',e,tp,I'⟩:=Ml hK hc hs hT 6 0 t ρ rfl (fun h=>by (first|exact VD h|cases h)) I
 exact⟨ρ',t',gA (gA (gA (gy rfl rfl) rfl) (show itemsOf (.vN 0 6 1)=some ((bE 0 6).map fun k=>PV.int (k:Nat)) by kernel_rfl)) e,tp,I'⟩
end
section
variable {ρ:List MV} {cs:List Int}
noncomputable def Ax:PV:= .list ((t6.take 8).map .str)
theorem q0:oS ρ=some (.next,ρ.set 3 (.p Ax)):=rfl
theorem F5(tl:List MV):i9 (il (gL [0] #[n,0]) #[y] #[b,#[b,(fun _=>some (.str (Str.ofString "0x"))),#[b,(fun _=>some (.str (Str.ofString "1248"))),#[b,#[0],#[i,4],jn],gC],gR],#[b,(fun _=>some (.str (Str.ofString "0"))),#[b,#[0],#[i,4],j0],iA],gR]) (.un::tl) ((bE 10 22).map fun k=>PV.int (k:Nat))=some ((t6.drop 10).map .str):= (by kernel_rfl)
theorem q1(h3:ρ[3]? =some (.p Ax)):oU ρ=some (.next,ρ.set 3 (.p mr)):=
 g0 (ct (ct (congrArg gX h3) (uA rfl rfl) (show gR Ax (.list [.str (Str.ofString "ITERABLE_COROUTINE"),.str (Str.ofString "ASYNC_GENERATOR")])=some (.list ((t6.take 10).map .str)) by kernel_rfl)) (ip (gA (gA (gy rfl (gy rfl rfl)) rfl) (show itemsOf (.vN 10 32 1)=some ((bE 10 22).map fun k=>PV.int (k:Nat)) by kernel_rfl)) (F5 (ρ.map MV.mJ)) (by kernel_rfl)) (by kernel_rfl))
theorem q2:oV ρ=some (.next,ρ.set 4 (.p uJ)):=rfl
theorem q3{plan:Int}(h0:ρ[0]? =some (.p (.list (cs.map .int))))(h1:cs[1]? =some plan):oW ρ=some (.next,((ρ.set 5 (.p (g7 j7))).set 6 (.p (g7 k7))).set 7 (.p (.int plan))):=
 gA (qh (gy rfl (gy rfl (gy (ct (congrArg gX h0) rfl (item_list (i:=1) h1 (by decide))) rfl))) rfl) rfl
noncomputable def F6(plan:Int):Nat:=(plan.fmod 6).toNat
noncomputable def QD(plan:Int):Nat:=((plan.fdiv 6).fmod 24).toNat
theorem xn(x:Int)(m:Nat)(hm:0<m):(x.fmod m).toNat<m∧x.fmod m=((x.fmod m).toNat:Int):=
 have h0:=cO x (Int.ofNat_lt.mpr hm)
 ⟨(Int.toNat_lt h0).mpr (du x (Int.ofNat_lt.mpr hm)),(fm h0).symm⟩
theorem NX(plan:Int):F6 plan∈[0,1,2,3,4,5]∧plan.fmod 6=(F6 plan:Int):=
 ⟨(show ∀n∈List.range 6,n∈[0,1,2,3,4,5] from fun _ h=>h) _ (List.mem_range.mpr (xn plan 6 (by decide)).1),(xn plan 6 (by decide)).2⟩
theorem P4(plan:Int):QD plan<24∧(plan.fdiv 6).fmod 24=(QD plan:Int):=xn (plan.fdiv 6) 24 (by decide)
theorem q4{plan:Int}(h7:ρ[7]? =some (.p (.int plan))):oX ρ=some (.next,(((ρ.set 8 (.p (.int (F6 plan:Nat)))).set 9 (.p (.int (QD plan:Nat)))).set 10 (.p (.int 0))).set 11 (.p (.int 0))):=
 gA (qh (gy (ct (congrArg gX h7) rfl (congrArg (fun x=>some (PV.int x)) (NX plan).2)) (gy (ct (ct (congrArg gX h7) rfl rfl) rfl (congrArg (fun x=>some (PV.int x)) (P4 plan).2)) (gy rfl (gy rfl rfl)))) rfl) rfl
end
end
section
open PySem PyProof.Rows
open V6
noncomputable def P5(n d:Int):List Int:=[64+n.fdiv 4096+128*(d.fdiv (2^0)).fmod 2,64+(n.fdiv 64).fmod 64+128*(d.fdiv (2^1)).fmod 2,n.fmod 64+128*(d.fdiv (2^2)).fmod 2]
noncomputable def Ey(n:Int):List Int:=[64+n.fdiv 4096,64+(n.fdiv 64).fmod 64,n.fmod 64]
theorem XT(n d:Int)(x:MV):ma [.p (.int n),.p (.int d),x]=some (.next,[.p (.int n),.p (.int d),.p (.list ((Ey n).map .int))]):= (by kernel_rfl)
theorem XU(n d:Int):mc [.p (.int n),.p (.int d),.p (.list ((Ey n).map .int))]=some (.next,[.p (.int n),.p (.int d),.p (.list ((P5 n d).map .int))]):= (by kernel_rfl)
theorem F7(a b c:PV)(i:Nat)(h:i∈[0,1,2]):jP (.list [a,b,c]) (some i) none=some (.list ([a,b,c].drop i)):=
 j4 (f:=fun i:Nat=>jP (.list [a,b,c]) (some i) none) (g:=fun i=>some (.list ([a,b,c].drop i))) (by kernel_rfl) h
theorem JF: ∀p q:Bool,∀c∈List.range 2,((if p then 1 else 0)+(if q then 1 else 0))*c∈[0,1,2]:=by decide
theorem F8(n d:Int):lP [.int n,.int d]=some (.list ((tN n d).map .int)):=by
 have f:((d.fdiv 8).fmod 2).toNat<2∧(d.fdiv 8).fmod 2=(((d.fdiv 8).fmod 2).toNat:Int):=xn (d.fdiv 8) 2 (by decide)
 have P0:=F7 (.int (64+n.fdiv 4096+128*(d.fdiv (2^0)).fmod 2)) (.int (64+(n.fdiv 64).fmod 64+128*(d.fdiv (2^1)).fmod 2)) (.int (n.fmod 64+128*(d.fdiv (2^2)).fmod 2)) _ (JF (decide (n<64)) (decide (n<4096)) _ (List.mem_range.mpr f.1))
 have hm:iA (.int (((if decide (n<64) then 1 else 0)+(if decide (n<4096) then 1 else 0):Nat):Int)) (.int ((d.fdiv 8).fmod 2))=some (.int ((((if decide (n<64) then 1 else 0)+(if decide (n<4096) then 1 else 0))*((d.fdiv 8).fmod 2).toNat:Nat):Int)):=
  (congrArg (fun x=>iA _ (.int x)) f.2).trans (if_pos (by rw[qB (i:=(((d.fdiv 8).fmod 2).toNat:Int)) (m:=2) f.1 rfl,eE]))
 refine nG (f:=nR) rfl rfl ((gB (XT n d .un)).trans ((gB (XU n d)).trans (jG (g0 (gA rfl (gA (gA (ct (ct (gA (gy rfl rfl) (sT _)) (gA (gy rfl rfl) (sT _)) (rX _ _)) (ct (ct rfl rfl rfl) rfl rfl) hm) rfl) (gA rfl (P0.trans ?_))))))))
 unfold tN
 rw[List.map_drop]
 rfl
section
variable {ρ:List MV} {z plan a0 a1 a2 d:Int} {rest:List Int}
noncomputable def numsOf(a0 a1 a2:Int):List Int:=[a0.fmod 262144,a1.fmod 262144,a2.fmod 262144]
theorem JG(tl:List MV):i9 (il (gL [0] #[n,0]) #[y] #[b,#[0],#[i,262144],jn]) (.un::tl) [.int a0,.int a1,.int a2]=some ((numsOf a0 a1 a2).map .int):= (by kernel_rfl)
theorem F9(hr:rest.length=54):jP (.list ((z::plan::a0::a1::a2::d::rest).map .int)) (some 2) (some 5)=some (.list [.int a0,.int a1,.int a2]):=by
 have hl:((z::plan::a0::a1::a2::d::rest).map PV.int).length=60:=by rw[aF];exact congrArg (· +6) hr
 refine(if_pos (hl▸by decide)).trans ?_
 unfold cut v7
 rw[hl]
 rfl
theorem q5(hr:rest.length=54)(h0:ρ[0]? =some (.p (.list ((z::plan::a0::a1::a2::d::rest).map .int)))):oY ρ=some (.next,ρ.set 12 (.p (.list ((numsOf a0 a1 a2).map .int)))):=
 g0 (ip (gA (gA (congrArg gX h0) (gA (gA rfl rfl) (gA (gA rfl rfl) (F9 hr)))) rfl) (JG (ρ.map MV.mJ)) rfl)
end
end
section
open PySem PyProof.Rows
open V6
theorem Ez(k:PV)(tl:List MV): ∀l:List PV,i9 (il (gL [1] #[n,1]) #[y] #[1]) (.p k:: .un::tl) l=some l
 |[]=>rfl
 |p::l=>oO (a:=[p]) rfl (Ez k tl l)
theorem xq(n d:Int):(tN n d).length≤3:=(List.drop_sublist _ _).length_le
theorem P6(x:PV){m:Nat}(h:m<3):iA (.list [x]) (.int (m:Nat))=some (.list (List.replicate m x)):=
 j4 (l:=List.range 3) (f:=fun m:Nat=>iA (.list [x]) (.int (m:Nat))) (g:=fun m=>some (.list (List.replicate m x))) (by kernel_rfl) (List.mem_range.mpr h)
theorem S8{k:Nat}(h:k<3):kS (.int 16) (.int (k:Nat))=some (.int (16^k)):=
 j4 (l:=List.range 3) (f:=fun k:Nat=>kS (.int 16) (.int (k:Nat))) (g:=fun k=>some (.int (16^k))) (by kernel_rfl) (List.mem_range.mpr h)
theorem Mm: ∀k∈List.range 3,(small (16^k)&&((16:Int)^k !=0))=true:=by decide
section
variable {ρ:List MV} {z plan a0 a1 a2 d:Int} {rest:List Int}
noncomputable def nW(a0 a1 a2 d:Int):List Int:=tN (a0.fmod 262144) (d.fdiv (16^0))++(tN (a1.fmod 262144) (d.fdiv (16^1))++tN (a2.fmod 262144) (d.fdiv (16^2)))
theorem xr:(nW a0 a1 a2 d).length≤9:=by
 unfold nW
 rw[aP,aP]
 exact fe (xq _ _) (fe (xq _ _) (xq _ _))
theorem q6(h0:ρ[0]? =some (.p (.list ((z::plan::a0::a1::a2::d::rest).map .int))))(S3:ρ[12]? =some (.p (.list ((numsOf a0 a1 a2).map .int)))):oZ ρ=some (.next,ρ.set 13 (.p (.list ((nW a0 a1 a2 d).map .int)))):=by
 have step: ∀(k:Nat) (n:Int),k<3→(numsOf a0 a1 a2)[k]? =some n→nZ (gL [0] #[n,0]) #[y] #[f,#[f,#[c,iy #[14] #[0] gC,#[c,#[b,#[b,#[2],#[i,5],gC],#[b,#[i,16],#[0],kS],j0],#v[]]],lP],itemsOf] #[o,(gL [1] #[n,1]),#[y],#[1]] (.un:: .un::ρ.map MV.mJ) (.int (k:Nat))=some ((tN n (d.fdiv (16^k))).map .int):=fun k n hk hn=>
  qp (gK:= .p (.int (k:Nat)):: .un::ρ.map MV.mJ) rfl rfl (gA (gA (gy (ct (kZ S3) rfl (item_list hn (bj hk (by decide)))) (gy (ct (ct (kZ h0) rfl (item_list (f:=PV.int) (l:=z::plan::a0::a1::a2::d::rest) (i:=5) rfl (by decide))) (ct rfl rfl (S8 hk)) (if_pos (Mm k (List.mem_range.mpr hk)))) rfl)) (F8 n _)) rfl) (Ez _ _ _)
 refine g0 (ip (gA (gA (gy rfl rfl) rfl) (show itemsOf (.vN 0 3 1)=some [.int ((0:Nat):Int),.int ((1:Nat):Int),.int ((2:Nat):Int)] by kernel_rfl)) ((oO (step 0 _ (by decide) rfl) (oO (step 1 _ (by decide) rfl) (oO (step 2 _ (by decide) rfl) rfl))).trans (congrArg some ?_)) (decide_eq_true (by rw[aF];exact Nat.le_trans xr (by decide))))
 unfold nW
 rw[bO,bO,bB]
noncomputable def uM(d:Int):Nat:=((d.fdiv 4096).fmod 3).toNat
theorem sV(d:Int):uM d<3∧(d.fdiv 4096).fmod 3=(uM d:Int):=xn (d.fdiv 4096) 3 (by decide)
noncomputable def EA(a0 a1 a2 d:Int):List PV:=(nW a0 a1 a2 d).map .int++List.replicate (uM d) (.int (64+d.fmod 64))
theorem q7(hJ:ρ.length=38)(h0:ρ[0]? =some (.p (.list ((z::plan::a0::a1::a2::d::rest).map .int))))(Ip:ρ[13]? =some (.p (.list ((nW a0 a1 a2 d).map .int)))):o3 ρ=some (.next,ρ.set 14 (.lR (EA a0 a1 a2 d))):=by
 have h5:=(item_list (f:=PV.int) (l:=z::plan::a0::a1::a2::d::rest) (i:=5) rfl (by decide))
 have PT:gR (.list ((nW a0 a1 a2 d).map .int)) (.list (List.replicate (uM d) (.int (64+d.fmod 64))))=some (.list (EA a0 a1 a2 d)):=
  if_pos (by rw[aF,eR];exact Nat.le_trans (fe xr (cD (sV d).1)) (by decide))
 exact(if_pos (bt hJ)).trans (g0 (gA (gy (ct (congrArg gX Ip) (ct (uA (gy (ct rfl (ct (ct (congrArg gX h0) rfl h5) rfl rfl) rfl) rfl) rfl) (ct (ct (ct (congrArg gX h0) rfl h5) rfl rfl) rfl (congrArg (fun x=>some (PV.int x)) (sV d).2)) (P6 _ (sV d).1)) PT) rfl) rfl))
end
noncomputable def t0(c:Nat):List Nat:=L1 (ia c ((c+2)%6)) (L1 (ia c ((c+3)%6)) [ia c ((c+4)%6)])
theorem S9: ∀c∈[0,1,2,3,4,5],t0 c∈jT:=by decide
theorem Mn: ∀c∈[0,1,2,3,4,5],kT [.list ([2,3,4].map fun k:Nat=>PV.int (ia c ((c+k)%6):Nat))]=some (g7 (t0 c)):=fun _ hc=>
 j4 (f:=fun c=>kT [.list ([2,3,4].map fun k:Nat=>PV.int (ia c ((c+k)%6):Nat))]) (g:=fun c=>some (g7 (t0 c))) (by kernel_rfl) hc
section
variable {ρ:List MV} {c:Nat}
theorem q8(hc:c∈[0,1,2,3,4,5])(h8:ρ[8]? =some (.p (.int (c:Nat)))):o4 ρ=some (.next,(ρ.set 15 (.p qm)).set 16 (.p (g7 (t0 c)))):=
 gA (qh (gy (qh rfl rfl) (gy (gA (gy (ip (gA (qh rfl rfl) rfl) (jh (c:=fun k:Nat=>PV.int (k:Nat)) (l:=[2,3,4]) (g:=fun k=> .int (ia c ((c+k)%6):Nat)) fun k _=>iG (gK:= .p (.int (k:Nat))::ρ.map MV.mJ) rfl rfl (gA (gy (kZ h8) (gy (ct (ct (kZ h8) rfl (rX c k)) rfl (congrArg (fun x=>some (PV.int x)) (XI (c+k) 6))) rfl)) (Aw _ _))) rfl) rfl) (Mn c hc)) rfl)) rfl) rfl
end
end
section
open PySem PyProof.Rows
open V6
section
variable {ρ:List MV} {K:List (Int×Int)} {c:Nat} {r0 r1 r2 r3 r4 r5 r6 r7 r8:V6}
noncomputable def uc:List Int:=[1,12,23,34,45,5]
noncomputable def ud(r0 r1 r2 r3 r4 r5:V6):List PV:=[jl r0,jl r1,jl r2,jl r3,jl r4,jl r5]
theorem q9(hJ:ρ.length=38)(h6:ρ[6]? =some (.p (g7 k7)))(h1:ρ[1]? =some (.p (nf [r0,r1,r2,r3,r4,r5,r6,r7,r8]))):o5 ρ=some (.next,ρ.set 17 (.ug uc (ud r0 r1 r2 r3 r4 r5))):=by
 have step: ∀k∈List.range 6,il (gL [0] #[n,0]) #[y] #[t,#[c,iy #[7] #[0] gC,#[c,#[f,#[c,#[b,#[2],#[0],gC],#v[]],jS],#v[]]]] (.un::ρ.map MV.mJ) (.int (k:Nat))=some [.tup [.int (k7.getD k 0:Nat),jl ([r0,r1,r2,r3,r4,r5,r6,r7,r8].getD k zero)]]:=fun k hk=>by
  have hk:=List.mem_range.mp hk
  refine iG (gK:= .p (.int (k:Nat))::ρ.map MV.mJ) rfl rfl (qh (gy (ct (kZ h6) rfl (item_list (f:=fun n:Nat=>PV.int (n:Nat)) ?_ (bj hk (by decide)))) (gy (gA (gy (ct (kZ h1) rfl (item_list (f:=ju) ?_ (bj hk (by decide)))) rfl) (sR _)) rfl)) rfl)
  ·rw[aS,aG (show k<k7.length from hk)];rfl
  ·rw[aS,aG (show k<[r0,r1,r2,r3,r4,r5,r6,r7,r8].length from bj hk (cx rfl))];rfl
 have hd:qa [.list ((List.range 6).map fun k=> .tup [.int (k7.getD k 0:Nat),jl ([r0,r1,r2,r3,r4,r5,r6,r7,r8].getD k zero)])]=some (.ug uc (ud r0 r1 r2 r3 r4 r5)):=by kernel_rfl
 exact(if_pos (bt hJ)).trans (g0 (gA (gy (ip (gA (gA (gy rfl rfl) rfl) Mf) (jh step) rfl) rfl) hd))
theorem Ta(u v w:V6):(((u.sub v).sub w).add v).add w=u:=Ei (fun a b c=>a-b-c+b+c) (fun a _ _=>a) (fun a b c=>by omega) u v w
noncomputable def Cj(code:Nat):Nat:=if code=5 then 5 else code/10
theorem JH: ∀c∈[0,1,2,3,4,5],∀code∈k7,(lh c code=(0,1)∧c=Cj code)∨(lh c code=(0,5)∧(c+5)%6=Cj code)∨((lh c code).1≠0∧(lh c code).2=(lh c code).1+1∧(c+(lh c code).1)%6=Cj code):=by decide
theorem Mo{rs:List V6}(hc:c∈[0,1,2,3,4,5]){code:Nat}(hs:code∈k7):DC K rs c code=rs.getD (Cj code) zero:=by
 unfold DC
 rcases JH c hc code hs with h|h|h
 ·rw[h.1,h.2];rfl
 ·rw[h.1,←h.2];rfl
 ·rw[rY h.1,h.2.1,←h.2.2]
  have e:FP K (wv rs c) (lh c code).1 ((lh c code).1+1)=wv rs c (lh c code).1:=by
   unfold FP
   rw[dv]
   rfl
  rw[e]
  exact Ta _ _ _
theorem Ga(hc:c∈[0,1,2,3,4,5]):uK uc (ud r0 r1 r2 r3 r4 r5) (DC K [r0,r1,r2,r3,r4,r5,r6,r7,r8] c) k7:=fun code hs=>by
 rw[Mo hc hs]
 exact j4 (f:=fun code:Nat=>jo uc (ud r0 r1 r2 r3 r4 r5) (code:Int)) (g:=fun code=>some (jl ([r0,r1,r2,r3,r4,r5,r6,r7,r8].getD (Cj code) zero))) (by kernel_rfl) hs
noncomputable def P7(m:Nat→MV)(K:List (Int×Int))(rs:List V6)(c:Nat)(ks:List Int)(vs:List PV)(x:MV):List MV:=
 [m 0,.p (nf rs),.p (jH K),m 3,m 4,m 5,m 6,m 7,.p (.int (c:Nat)),m 9,m 10,m 11,m 12,m 13,m 14,m 15,m 16,.ug ks vs,x,m 19,
  m 20,m 21,m 22,m 23,m 24,m 25,m 26,m 27,m 28,m 29,m 30,m 31,m 32,m 33,m 34,m 35,m 36,m 37]
theorem Mp(hK:Gs K)(hc:c∈[0,1,2,3,4,5]){m:Nat→MV}{ks:List Int}{vs:List PV}{code:Nat}(hd:code∈j7)(hk:ks.length≤100000):
  lQ (P7 m K [r0,r1,r2,r3,r4,r5,r6,r7,r8] c ks vs (.p (.int (code:Nat))))=some (.next,P7 m K [r0,r1,r2,r3,r4,r5,r6,r7,r8] c (iw ks vs (code:Int) (jl ((DC K [r0,r1,r2,r3,r4,r5,r6,r7,r8] c) code))).1 (iw ks vs (code:Int) (jl ((DC K [r0,r1,r2,r3,r4,r5,r6,r7,r8] c) code))).2 (.p (.int (code:Nat)))):=
 gB (gA (gA (gy rfl (gy rfl (gy rfl (gy rfl rfl)))) (I6 hK r0 r1 r2 r3 r4 r5 r6 r7 r8 hc hd)) (gA rfl (g0 (gA rfl (if_pos hk)))))
theorem JI(hK:Gs K)(hc:c∈[0,1,2,3,4,5]){m:Nat→MV}(l:List Nat)(ks:List Int)(vs:List PV)(x:MV)(J0:List Nat)(hd: ∀code∈l,code∈j7)(PY:ks.length=vs.length)(hk:ks.length+l.length≤20)(iS:ks≠[])(M6:uK ks vs (DC K [r0,r1,r2,r3,r4,r5,r6,r7,r8] c) J0):
  ∃MK JR x',mM #[n,18] lQ #[k] (P7 m K [r0,r1,r2,r3,r4,r5,r6,r7,r8] c ks vs x) (l.map fun n=>PV.int (n:Nat))=some (.next,P7 m K [r0,r1,r2,r3,r4,r5,r6,r7,r8] c MK JR x')∧MK.length=JR.length∧MK.length≤20∧MK≠[]∧uK MK JR (DC K [r0,r1,r2,r3,r4,r5,r6,r7,r8] c) (l++J0):=by
 induction l generalizing ks vs x J0 with
 |nil=>exact⟨ks,vs,x,rfl,PY,hk,iS,M6⟩
 |cons code l ih=>
  have Cp:=zc (k:=(code:Int)) (v:=jl ((DC K [r0,r1,r2,r3,r4,r5,r6,r7,r8] c) code)) PY
  refine(ih _ _ (.p (.int (code:Nat))) (code::J0) (fun x hx=>hd x (av _ hx)) Cp.1 ?_ Cp.2.2 (xm (l:=[code]) (t:=[]) PY ?_ M6)).imp fun MK h=>h.imp fun JR h=>h.imp fun x' h=>⟨?_,h.2.1,h.2.2.1,h.2.2.2.1,fun x hx=>h.2.2.2.2 x (List.perm_middle.mem_iff.mpr hx)⟩
  ·rw[aY] at hk;omega
  ·exact(dG _).trans ((Bool.or_false _).trans (beq_self_eq_true code))
  ·exact(kR rfl (Mp hK hc (hd code (az ..)) (Nat.le_trans (c7 _ _) (Nat.le_trans hk (by decide))))).trans h.1
theorem q11{t:List Nat}(ht:t∈jT)(FY:ρ[16]? =some (.p (g7 t))):nT ρ=some (.next,ρ.set 19 (.p (g7 (ig t)))):=
 g0 (ip (gA (gA (gy rfl rfl) rfl) Mf) ((jh (c:=fun k:Nat=>PV.int (k:Nat)) (g:=fun k=> .int (I8 t k:Nat)) fun k hk=>iG (gK:= .p (.int (k:Nat))::ρ.map MV.mJ) rfl rfl (ct rfl (gA (gy (ze ht (List.mem_range.mp hk) FY) rfl) (Cg (t.filter (Jz k)) ((iX t ht).2.1▸cQ _ _))) (rX 1 _))).trans (congrArg some List.map_map.symm)) rfl)
end
end
section
open PySem PyProof.Rows
open V6
theorem JJ{f g:List MV→Option (Fl×List MV)}{ρ ρ' C7:List MV}(h:f ρ=some (.next,ρ'))(e:ρ'=C7):gN f g ρ=g C7:=e▸gB h
section
variable {K:List (Int×Int)} {r0 r1 r2 r3 r4 r5 r6 r7 r8:V6} {z plan a0 a1 a2 d:Int} {rest:List Int}
noncomputable def xt(a0 a1 a2 d:Int):Nat→List PV
 |0=>EA a0 a1 a2 d
 |1=>(tN (a1.fmod 262144) (d.fdiv (16^1))).map .int++((tN (a2.fmod 262144) (d.fdiv (16^2))).map .int++List.replicate (uM d) (.int (64+d.fmod 64)))
 |2=>(tN (a2.fmod 262144) (d.fdiv (16^2))).map .int++List.replicate (uM d) (.int (64+d.fmod 64))
 |_=>List.replicate (uM d) (.int (64+d.fmod 64))
theorem Mq: ∀j<3,∃n,(numsOf a0 a1 a2)[j]? =some n∧Gq 2 gV (xt a0 a1 a2 d j)=some (n,xt a0 a1 a2 d (j+1)):=by
 have hr: ∀a:Int,0≤a.fmod 262144∧a.fmod 262144<262144:=fun a=>⟨cO a (by decide),du a (by decide)⟩
 intro j hj
 match j,hj with
 |0,_=>
  have e:xt a0 a1 a2 d 0=(tN (a0.fmod 262144) (d.fdiv (16^0))).map .int++xt a0 a1 a2 d 1:=by
   show(nW a0 a1 a2 d).map PV.int++_=_
   unfold nW
   rw[bO,bO,bW,bW]
   rfl
  rw[e]
  exact⟨_,rfl,tO (hr a0).1 (hr a0).2 _⟩
 |1,_=>exact⟨_,rfl,tO (hr a1).1 (hr a1).2 _⟩
 |2,_=>exact⟨_,rfl,tO (hr a2).1 (hr a2).2 _⟩
noncomputable def mR(z plan a0 a1 a2 d:Int)(rest:List Int)(j:Nat):MV:=([.p (.list ((z::plan::a0::a1::a2::d::rest).map .int)),.un,.un,.p mr,.p uJ,.p (g7 j7),.p (g7 k7),.p (.int plan),.un,.p (.int (QD plan:Nat)),.p (.int 0),.p (.int 0),.p (.list ((numsOf a0 a1 a2).map .int)),.p (.list ((nW a0 a1 a2 d).map .int)),.lR (EA a0 a1 a2 d),.p qm,.p (g7 (t0 (F6 plan)))]:List MV).getD j .un
theorem P8(hK:Gs K)(hr:rest.length=54): ∃Cq t',rW ([PV.list ((z::plan::a0::a1::a2::d::rest).map .int),nf [r0,r1,r2,r3,r4,r5,r6,r7,r8],jH K].map .p++List.replicate 35 .un)=some (.next,Cq)∧Cq[10]? =some (.p (.int (vA plan 5)))∧TI K [r0,r1,r2,r3,r4,r5,r6,r7,r8] (F6 plan) (QD plan) plan (numsOf a0 a1 a2) (xt a0 a1 a2 d) 6 t' Cq:=by
 have hc:=(NX plan).1
 have hs:=(P4 plan).1
 have XW:=S9 _ hc
 have hd0:=iX _ XW
 obtain⟨ks,vs,x,s10,h1,h2,h3,h4⟩:=JI (K:=K) (r0:=r0) (r1:=r1) (r2:=r2) (r3:=r3) (r4:=r4) (r5:=r5) (r6:=r6) (r7:=r7) (r8:=r8) hK hc (m:=mR z plan a0 a1 a2 d rest) (t0 (F6 plan)) uc (ud r0 r1 r2 r3 r4 r5) .un k7 hd0.1 rfl (by rw[hd0.2.1];decide) (by decide) (Ga hc)
 obtain⟨Cq,t',s12,tp,I⟩:=JE hK hc hs Mq (Ci (plan:=plan) (T:=xt a0 a1 a2 d) (a:=0) (ρ:=(P7 (mR z plan a0 a1 a2 d rest) K [r0,r1,r2,r3,r4,r5,r6,r7,r8] (F6 plan) ks vs x).set 19 (.p (g7 (ig (t0 (F6 plan)))))) (by kernel_rfl) XW h1 h2 h3 h4)
 have XX:nS (P7 (mR z plan a0 a1 a2 d rest) K [r0,r1,r2,r3,r4,r5,r6,r7,r8] (F6 plan) uc (ud r0 r1 r2 r3 r4 r5) .un)=some (.next,P7 (mR z plan a0 a1 a2 d rest) K [r0,r1,r2,r3,r4,r5,r6,r7,r8] (F6 plan) ks vs x):=by
  refine Eq.trans ?_ s10
  have FY:itemsOf (g7 (t0 (F6 plan)))=some ((t0 (F6 plan)).map fun n=>PV.int (n:Nat)):=kL _
  exact congrArg (fun o=>Option.bind o _) FY
 exact⟨Cq,t',(gB q0).trans ((gB (q1 (by kernel_rfl))).trans ((gB q2).trans ((gB (q3 (plan:=plan) (cs:=z::plan::a0::a1::a2::d::rest) (by kernel_rfl) rfl)).trans ((gB (q4 (plan:=plan) (by kernel_rfl))).trans ((gB (q5 (z:=z) (plan:=plan) (a0:=a0) (a1:=a1) (a2:=a2) (d:=d) hr (by kernel_rfl))).trans ((gB (q6 (z:=z) (plan:=plan) (a0:=a0) (a1:=a1) (a2:=a2) (d:=d) (rest:=rest) (by kernel_rfl) (by kernel_rfl))).trans ((gB (q7 (z:=z) (plan:=plan) (a0:=a0) (a1:=a1) (a2:=a2) (d:=d) (rest:=rest) (by kernel_rfl) (by kernel_rfl) (by kernel_rfl))).trans ((gB (q8 hc (by kernel_rfl))).trans ((JJ (q9 (r0:=r0) (r1:=r1) (r2:=r2) (r3:=r3) (r4:=r4) (r5:=r5) (r6:=r6) (r7:=r7) (r8:=r8) (by kernel_rfl) (by kernel_rfl) (by kernel_rfl)) (by kernel_rfl)).trans ((gB XX).trans ((gB (q11 XW (by kernel_rfl))).trans (zf s12)))))))))))),tp,I⟩
end
end
section
open PySem PyProof.Rows
open V6
noncomputable def Ay(s:Nat):List Nat:=(List.range 9).map (s+ ·)
theorem P9{s:Nat}(hs:s<24):(Ay s).Pairwise (· < ·)∧(∀q∈Ay s,q<32)∧(Ay s).length=9∧w4 0 (Ay s)=511*2^s:=by
 have h:(List.range 24).all (fun s=>decide ((Ay s).Pairwise (· < ·))&&(Ay s).all (fun q=>decide (q<32))&&decide ((Ay s).length=9)&&decide (w4 0 (Ay s)=511*2^s))=true:=by decide+kernel
 have h1:=List.all_eq_true.mp h s (List.mem_range.mpr hs)
 simp only[cH,decide_eq_true_eq,List.all_eq_true] at h1
 exact⟨h1.1.1.1,h1.1.1.2,h1.1.2,h1.2⟩
theorem Gb:(List.range 24).map (fun(s:Nat)=>jP mr (some (s:Int)) (some ((s:Int)+9)))=(List.range 24).map fun(s:Nat)=>some (PV.list (((Ay s).map nameAt).map .str)):= (by kernel_rfl)
theorem JK{s:Nat}(h:s<24):jP mr (some (s:Int)) (some ((s:Int)+9))=some (PV.list (((Ay s).map nameAt).map .str)):=List.map_inj_left.mp Gb s (List.mem_range.mpr h)
theorem Qa{s:Nat}:iA (.int 511) (.int (2^s))=some (.int (511*2^s)):=(Lq.1 _ _).trans (if_pos (by rw[show small 511=true by decide,Bool.true_or]))
theorem eq_str(t:Str):AY (.str t) (.str t)=some (.bool true):=congrArg (fun b=>some (PV.bool b)) (beq_self_eq_true t)
theorem Gd{e:Int}(he: -1≤e∧e≤2):jg [.int (e*2^32)]=some (.str (qn e)):=by
 have h:=o6 (qs:=[]) (e:=e) List.Pairwise.nil (fun _ h=>nomatch h) he (by decide)
 rw[show w4 0 []+e*2^32=e*2^32 from dW _,show jX [] e=[qn e] from congrArg (_++ ·) (if_neg fun h=>h.1 rfl)] at h
 exact h
theorem Mr{ρ:List MV}{s:Nat}{e:Int}(hl:ρ.length=38)(hs:s<24)(he: -1≤e∧e≤2)(h9:ρ[9]? =some (.p (.int (s:Nat))))(h3:ρ[3]? =some (.p mr))(h4:ρ[4]? =some (.p uJ))(tp:ρ[10]? =some (.p (.int e))):
  ∃NY,ng ρ=some (.ret (.bool true),NY):=by
 obtain⟨q1,q2,q3,q4⟩:=P9 hs
 have Qz:(Ay s).length≤90:=q3▸by decide
 have hp:=o6 q1 q2 he Qz
 rw[q4] at hp
 have hj:rF (.str (Str.ofString ", ")) [.list ((jX (Ay s) e).map .str)]=some (.str (Txt.join (Str.ofString ", ") (jX (Ay s) e))):=
  (gz (uH _)).trans (if_pos (joinOk_of (t7 q2 he) (t8 Qz e)))
 have g9:=jj (i:=37) (v:= .p (.list ((jX (Ay s) e).map .str))) h9 rfl
 have g4:=jj (i:=37) (v:= .p (.list ((jX (Ay s) e).map .str))) h4 rfl
 have g10:=jj (i:=37) (v:= .p (.list ((jX (Ay s) e).map .str))) tp rfl
 have g37:=P1 (i:=37) (v:= .p (.list ((jX (Ay s) e).map .str))) hl rfl
 have Ef:iy #[10] #[b,#[i,2],#[i,32],kS] iA (ρ.set 37 (.p (.list ((jX (Ay s) e).map .str))))=some (.int (e*2^32)):=ct (congrArg gX g10) (ct rfl rfl NN) (NO he)
 have Cp:((fun ρ:List MV=>gX ρ[3]?) ρ).bind (fun a=>(#[f,#[9],lb] ρ).bind fun b=>(#[r,#[9],#[i,9],gR,lb] ρ).bind fun c=>jP a b c)=some (.list (((Ay s).map nameAt).map .str)):=by
  refine gA (congrArg gX h3) ?_
  refine gA (a:=some (s:Int)) (gA (congrArg gX h9) rfl) ?_
  refine gA (a:=some ((s:Int)+9)) (gA (ct (congrArg gX h9) rfl rfl) rfl) ?_
  exact JK hs
 exact⟨_,(gB (g0 (Eo h4 tp he Cp (fun h=>nomatch q3.symm.trans (congrArg List.length h)) Qz))).trans (jG (g0 (gA (ct (gA (gy (ct (ct rfl (ct rfl (congrArg gX g9) (As (n:=s) (Nat.le_trans (cD hs) (by decide)))) Qa) Ef rfl) rfl) hp) (gA rfl (gA (gy (congrArg gX g37) rfl) hj)) (eq_str _)) (gA rfl ((if_pos rfl).trans (ct (gA (gy Ef rfl) (Gd he)) (ct (congrArg gX g4) (ct (congrArg gX g10) rfl rfl) (B9 he)) (eq_str _)))))))⟩
end
section
open PySem PyProof.Rows
section
variable {L:ic}
noncomputable def sW:List Str:=[(Str.ofString "script"),(Str.ofString "own"),(Str.ofString "cells"),(Str.ofString "step"),(Str.ofString "keys")]
noncomputable def uf:gJ:=[((Str.ofString "script"),0),((Str.ofString "own"),1),((Str.ofString "cells"),2),((Str.ofString "step"),3),((Str.ofString "keys"),4)]
noncomputable def Az:List MV→Option (Fl×List MV):= #[e,1,#[b,#[l,(fun _=>some [.int 29,.int 31,.int 9361,.int 56,.int 3964,.int 8897])],(iB 1 #[f,#[f,#[c,#[i,54],#v[]],i7],itemsOf] #[o,(gL [0] #[n,0]),#[y],#[b,#[l,(fun _=>some [.int (-1),.int 0,.int 0,.int 1,.int 1,.int 0,.int 0])],#[b,#[0],#[i,7],jn],gC]]),gR]]
theorem Ms(H:gF L):S1 L #[C,27] uf sW 0 false #[N,0,#[B,27]] Az:= #v[v,#v[d,#v[y,#v[R]],#v[u,[(Str.ofString "place")],#v[m,#v[i,H.b_range,.type _,je.less (aC _),#v[b,#v[c],#v[e]]]],#v[r,(fun h=>by (first|exact VD h|cases h)),#v[l,[0],#v[s,#v[f,0]]],Keeps.name,#v[t],#v[k,#v[y,#v[R]],#v[d,#v[a,0],#v[c],iV]]]],gS],#v[f,1],(fun env h=>by (first|exact VD env|cases env);(first|exact VD h|cases h);kernel_rfl)]
noncomputable def AA:List MV→Option (Fl×List MV):= #[e,2,(iB 2 #[f,#[c,#[1],#[c,#[b,#[d,#[0],#[z],#[f,#[i,60],lb]],#[b,#[l,#[c,#[i,0],#v[]]],#[i,60],iA],gR],#v[]]],ur] #[o,(gL [0,1] #[m,[0,1]]),#[y],#[b,#[0],#[1],gR]])]
theorem Mt(H:gF L):S1 L #[C,27] uf sW 0 false #[N,1,#[B,27]] AA:= #v[v,#v[u,([(Str.ofString "mine"),(Str.ofString "number")]),#v[ac,H.b_zip,#v[b,#v[a,1],#v[b,#v[d,#v[M,#v[a,0],#v[V],#v[K,#v[c]]],#v[d,#v[y,#v[b,#v[c],#v[e]]],#v[c],jd],gS],#v[e]]]],#v[r,(fun _=>rfl),#v[l,[0,1],#v[z,.cons (.cons gZ.nil),(.cons (@iD _ _ (by kernel_rfl)) (@gH _ _ (0) (by kernel_rfl) (@kx _ (by kernel_rfl))) (.cons (@iD _ _ (by kernel_rfl)) (@gH _ _ (1) (by kernel_rfl) (@kx _ (by kernel_rfl))) i8.nil))]],Keeps.tup,#v[t],#v[d,#v[a,0],#v[a,1],gS]]],#v[f,2],(fun env h=>by (first|exact VD env|cases env);(first|exact VD h|cases h);kernel_rfl)]
noncomputable def AB:List MV→Option (Fl×List MV):= #[e,3,#[b,#[i,1],#[b,#[i,4],#[b,#[b,#[b,#[2],#[i,0],gC],#[i,6],j0],#[i,2],jn],iA],gR]]
theorem Mu(H:gF L):S1 L #[C,27] uf sW 0 false #[N,2,#[B,27]] AB:= #v[v,#v[d,#v[c],#v[d,#v[c],#v[d,#v[d,#v[k,#v[a,2],#v[c]],#v[c],jN],#v[c],iV],jd],gS],#v[f,3],(fun env h=>by (first|exact VD env|cases env);(first|exact VD h|cases h);kernel_rfl)]
noncomputable def AD:List MV→Option (Fl×List MV):=(fun ρ=>(iB 1 #[f,#[f,#[c,#[i,6],#v[]],i7],itemsOf] #[o,(gL [0] #[n,0]),#[y],#[t,#[c,#[b,#[b,#[b,#[3],#[i,0],gC],iy #[0] #[4] iA,gR],#[i,6],jn],#[c,#[b,#[b,#[0],#[i,1],gR],#[b,#[i,1],#[b,#[i,2],#[b,#[b,#[b,#[b,#[3],#[i,0],gC],#[i,12],j0],#[b,#[i,2],#[0],kS],j0],#[i,2],jn],iA],ko],iA],#v[]]]]] ρ).map fun v=>(.next,ρ.set 4 (.p v)))
theorem Mv(H:gF L):S1 L #[C,27] uf sW 0 false #[N,3,#[B,27]] AD:= #v[W,[(Str.ofString "k")],#v[m,#v[i,H.b_range,.type _,je.less (aC _),#v[b,#v[c],#v[e]]]],#v[r,(fun h=>by (first|exact VD h|cases h)),#v[l,[0],#v[s,#v[f,0]]],Keeps.name,#v[t],#v[I,#v[b,#v[d,#v[d,#v[k,#v[a,3],#v[c]],#v[d,#v[a,0],#v[a,4],jd],gS],#v[c],iV],#v[b,#v[d,#v[d,#v[a,0],#v[c],gS],#v[d,#v[c],#v[d,#v[c],#v[d,#v[d,#v[d,#v[k,#v[a,3],#v[c]],#v[c],jN],#v[d,#v[c],#v[a,0],oF],jN],#v[c],iV],jd],kp],jd],#v[e]]]]],#v[f,4],(fun env h=>by (first|exact VD env|cases env);(first|exact VD h|cases h);kernel_rfl)]
noncomputable def NZ:List MV→Option (Fl×List MV):=(gN Az (gN AA (gN AB (gN AD #[k]))))
theorem Tb(H:gF L):SS L #[C,27] uf sW 0 (false||(false||(false||(false||false)))) (wR 4 #[B,27]) NZ:= #v[w,([hG 0 #[B,27],hG 1 #[B,27],hG 2 #[B,27],hG 3 #[B,27]]),#v[h,(@Ms _ H),#v[h,(@Mt _ H),#v[h,(@Mu _ H),#v[h,(@Mv _ H),#v[x]]]]]]
noncomputable def rZ:List MV→Option (List PV):= #[c,#[2],#[c,(iB 1 #[f,#[f,#[c,#[i,9],#v[]],i7],itemsOf] #[o,(gL [0] #[n,0]),#[y],#[d,#[3],#[r,#[b,#[i,6],#[0],iA],#[i,6],gR,lb],#[r,#[b,#[i,6],#[0],iA],#[i,12],gR,lb]]]),#[c,#[4],#v[]]]]
theorem DE(H:gF L):LE L #[C,27] uf 0 (Pw #[N,4,#[B,27]]) rZ:=(@LE.cons _ _ _ _ _ _ _ _ #v[a,2] #v[b,#v[u,[(Str.ofString "k")],#v[m,#v[i,H.b_range,.type _,je.less (aC _),#v[b,#v[c],#v[e]]]],#v[r,(fun h=>by (first|exact VD h|cases h)),#v[l,[0],#v[s,#v[f,0]]],Keeps.name,#v[t],#v[M,#v[a,3],#v[K,#v[d,#v[d,#v[c],#v[a,0],jd],#v[c],gS]],#v[K,#v[d,#v[d,#v[c],#v[a,0],jd],#v[c],gS]]]]],#v[b,#v[a,4],#v[e]]] (fun _=>rfl))
end
end
section
open PySem PyProof.Rows
open V6
noncomputable def Ck:List Int:=[29,31,9361,56,3964,8897]++(List.range 54).map fun p=>[-1,0,0,1,1,0,0].getD (p%7) 0
noncomputable def Ge(ns:List Int):List Int:=ns.take 60++List.replicate 60 0
noncomputable def EB(ns:List Int):List Int:=(Ck.zip (Ge ns)).map fun p=>p.1+p.2
theorem Mw:Ck.length=60:=by decide
theorem xu(ns:List Int):(EB ns).length=60:=by
 unfold EB Ge
 rw[aF,List.length_zip,Mw,aP,eR]
 exact eP (gn ..)
theorem l0(x:PV):Az [.p x,.un,.un,.un,.un]=some (.next,[.p x,.p (.list (Ck.map .int)),.un,.un,.un]):= (by kernel_rfl)
theorem zg: ∀a b:List Int,wD (a.map .int) (b.map .int)=(a.zip b).map fun p=>PV.tup [.int p.1,.int p.2]
 |[],_=>rfl
 |_::_,[]=>rfl
 |x::a,y::b=>by
  show PV.tup _::wD (a.map .int) (b.map .int)=_
  rw[zg a b];rfl
theorem l1{ns:List Int}(hn:ns.length≤90000):AA [.p (.list (ns.map .int)),.p (.list (Ck.map .int)),.un,.un,.un]=some (.next,[.p (.list (ns.map .int)),.p (.list (Ck.map .int)),.p (.list ((EB ns).map .int)),.un,.un]):=by
 have e1:jP (.list (ns.map .int)) none (some 60)=some (.list ((ns.take 60).map .int)):=
  (if_pos (by rw[aF];exact Nat.le_trans hn (by decide))).trans (by rw[show(60:Int)=((60:Nat):Int) from rfl,ub,List.map_take])
 have e3:gR (.list ((ns.take 60).map .int)) (.list ((List.replicate 60 (0:Int)).map .int))=some (.list ((Ge ns).map .int)):=
  (if_pos (by rw[aF];exact Nat.le_trans (bk (List.length_take_le _ _) _) (by decide))).trans (by unfold Ge;rw[bO])
 have hz:ur [.list (Ck.map .int),.list ((Ge ns).map .int)]=some ((Ck.zip (Ge ns)).map fun p=>PV.tup [.int p.1,.int p.2]):=congrArg some (zg _ _)
 exact g0 (ip (gA (gy rfl (gy (ct (gA rfl (gA rfl (gA (gA rfl rfl) e1))) (ct (uA (gy rfl rfl) rfl) rfl (show iA (.list [.int 0]) (.int 60)=some (.list ((List.replicate 60 (0:Int)).map .int)) by kernel_rfl)) e3) rfl)) hz) ((jh (g:=fun p:Int×Int=> .int (p.1+p.2)) fun p _=>rfl).trans (congrArg some List.map_map.symm)) (decide_eq_true (by rw[aF,xu];decide)))
noncomputable def stepI(z:Int):Int:=1+4*((z.fdiv 6).fmod 2)
theorem l2{a b e:MV}{z:Int}{r:List Int}:AB [a,b,.p (.list ((z::r).map .int)),.un,e]=some (.next,[a,b,.p (.list ((z::r).map .int)),.p (.int (stepI z)),e]):=
 g0 (ct rfl (ct rfl (ct (ct (ct rfl rfl (item_list (f:=PV.int) (l:=z::r) (i:=0) rfl (by decide))) rfl rfl) rfl rfl) rfl) rfl)
end
section
open PySem PyProof.Rows
open V6
noncomputable def AE(z:Int)(k:Nat):Int:=((k:Int)+1)*(1-2*(((z.fdiv 12).fdiv (2^k)).fmod 2))
noncomputable def Qb(z:Int)(k:Nat):Int×Int:=((z+k*stepI z).fmod 6,AE z k)
noncomputable def DF(z:Int):List (Int×Int):=(List.range 6).map (Qb z)
theorem zh(x:Int):x.fmod 2=0∨x.fmod 2=1:=by
 rw[aT _ (by decide)]
 exact eS x
theorem xx(z:Int):stepI z=1∨stepI z=5:=(zh (z.fdiv 6)).imp (fun h=>by unfold stepI;rw[h];rfl) fun h=>by unfold stepI;rw[h];rfl
theorem Gf(z:Int)(k:Nat):AE z k=k+1∨AE z k= -(k+1:Int):=
 (zh _).imp (fun h=>by unfold AE;rw[h];exact gm _) fun h=>by unfold AE;rw[h];exact Int.mul_neg_one _
theorem EC: ∀k:Nat,k<6→((k:Int)+1≠0∧ -6≤(k:Int)+1∧(k:Int)+1≤6)∧(-((k:Int)+1)≠0∧ -6≤ -((k:Int)+1)∧ -((k:Int)+1)≤6):=by decide
theorem Mx: ∀s∈([1,5]:List Int),∀a∈List.range 6,∀b∈List.range 6,∃k∈List.range 6,(((a:Nat):Int)+(k:Nat)*s)%6=(b:Nat):=by decide
theorem AF(x:Int):(x%6).toNat∈List.range 6∧((x%6).toNat:Int)=x%6:=
 have h0:=eT x (b:=6) (by decide)
 ⟨List.mem_range.mpr ((Int.toNat_lt h0).mpr (fD x (by decide))),fm h0⟩
theorem Qc(z i:Int): ∃k:Nat,k<6∧(z+k*stepI z)%6=i%6:=by
 obtain⟨k,hk,e⟩:=Mx (stepI z) ((xx z).elim (fun h=>h▸ .head _) fun h=>h▸ .tail _ (.head _)) _ (AF z).1 _ (AF i).1
 rw[(AF z).2,(AF i).2,Int.emod_add_emod] at e
 exact⟨k,List.mem_range.mp hk,e⟩
theorem My(z:Int):Gs (DF z):=by
 have hm: ∀p∈DF z,(0≤p.1∧p.1<6)∧p.2≠0∧ -6≤p.2∧p.2≤6:=by
  intro p hp
  obtain⟨k,hk,rfl⟩:=List.mem_map.mp hp
  have hk:=List.mem_range.mp hk
  refine⟨⟨cO _ (by decide),du _ (by decide)⟩,?_⟩
  show AE z k≠0∧_≤AE z k∧AE z k≤_
  rcases Gf z k with h|h<;>rw[h]
  ·exact(EC k hk).1
  ·exact(EC k hk).2
 refine{len:=by unfold DF;rw[aF];rfl,idx:=fun p hp=>(hm p hp).1,dir:=fun p hp=>(hm p hp).2,all:= ?_,both:=fun p hp=>⟨(hm p hp).1,(hm p hp).2.2⟩}
 intro i h0 h6
 exact(Qc z i).elim fun k h=>⟨AE z k,List.mem_map.mpr ⟨k,List.mem_range.mpr h.1,by unfold Qb;rw[aT _ (by decide),h.2,fT h0 h6]⟩⟩
theorem DG(z:Int):small (stepI z)=true:=by rcases xx z with h|h<;>rw[h]<;>decide
theorem Tc: ∀k∈List.range 6,(small (2^k)&&((2:Int)^k !=0))=true:=by decide
theorem l3{a b:MV}{z:Int}{r:List Int}:AD [a,b,.p (.list ((z::r).map .int)),.p (.int (stepI z)),.un]=some (.next,[a,b,.p (.list ((z::r).map .int)),.p (.int (stepI z)),.p (jH (DF z))]):=by
 have e1:gC (.list ((z::r).map .int)) (.int 0)=some (.int z):=item_list (f:=PV.int) (l:=z::r) (i:=0) rfl (by decide)
 refine g0 (ip (gA (gA (gy rfl rfl) rfl) Mf) ((jh (c:=fun k:Nat=>PV.int (k:Nat)) (g:=fun k=>B3 (Qb z k)) fun k hk=> ?_).trans (congrArg some List.map_map.symm)) rfl)
 have VA:=List.mem_range.mp hk
 exact iG (gK:= .p (.int (k:Nat))::[a.mJ,b.mJ,.p (.list ((z::r).map .int)),.p (.int (stepI z)),.un]) rfl rfl (qh (gy (ct (ct (ct rfl rfl e1) (ct rfl rfl (if_pos (by rw[DG,eE]))) rfl) rfl rfl) (gy (ct (ct rfl rfl rfl) (ct rfl (ct rfl (ct (ct (ct (ct rfl rfl e1) rfl rfl) (ct rfl rfl (As (n:=k) (Nat.le_trans (cD VA) (by decide)))) (if_pos (Tc k hk))) rfl rfl) rfl) rfl) (if_pos (by rw[qB (i:=(k:Int)+1) (m:=7) (by omega) rfl,Bool.true_or]))) rfl)) rfl)
end
section
open PySem PyProof.Rows
section
variable {L:ic}
theorem FS.Qd{sc:Scope}{σ:gJ}{own:List Str}{env:b9}{Y Z:List Addr}{h:Heap}{ρ:List MV}(F:FS L sc σ own env Y Z h ρ)(hf:env.frame=some env.locals):h.FunFrames E0 [env]:=by
 obtain⟨m,o,es,ep,ho,hd,_⟩:=F.ns
 exact⟨(by rw[F.fr.scope,F.fr.kind];intro h;(first|exact VD h|cases h)),⟨_,o,hf,rfl,ho,fun vs h=>by rw[hd] at h;(first|exact VD h|cases h)⟩,trivial⟩
theorem Mz(hn:L.exc=none)(Gm:sysModules≠L.tb)
  {a1:Addr}{fd1:FuncData}{Qe:Scope}{Td:List Str}{XY:gJ}{N0 Qf:List Stmt}{x1:Str}{g1:Bool}{m1 k1:Nat}{f1:List MV→Option (Fl×List MV)}{fa:List MV→Option (List PV)}
  (D1:iC L a1 fd1 Qe [x1] N0)(S1':so Qe XY Td [x1])(MX:SS L Qe XY Td k1 g1 Qf f1){rn:Str}{np cp rp:cM}{e:aN}{es:List aN}
  (JL:N0=Qf++[.Return (some (.Call (.Name rn np) (e::es) [] cp)) rp])(Te:LE L Qe XY k1 (e::es) fa)
  (he: ∀env,starEach (e::es) env=(false,eval e env)::starEach es env)(qE: ∀env,(starEach (e::es) env).any (·.1)=false)
  {a2:Addr}{fd2:FuncData}{N1:Scope}{Qg XZ:List Str}{VB:gJ}{N2 Qh:List Stmt}{g2 gg:Bool}{m2 k2 kk:Nat}{f2 fs:List MV→Option (Fl×List MV)}
  (D2:iC L a2 fd2 N1 XZ N2)(S2:so N1 VB Qg XZ)(RU:SS L N1 VB Qg k2 g2 Qh f2)
  {a:Addr}{fd:FuncData}{zQ:Scope}{y':Str}{Bw:List Str}{K5:gJ}{body:List Stmt}{m k:Nat}{f:List MV→Option (Option Fl×List MV)}(C:K4 L a fd zQ y' Bw K5 body k m f)
  {y fn sn:Str}{yp np' cp' ep sp hp pos:cM}{i:Nat}{Fn:Stmt}{y5 more:List Stmt}
  (JM:N2=Qh++ .Try [.Expr (.Call (.Name fn np') [.Name y yp] [] cp') ep] [.ExceptHandler (some (.Name sn sp)) none (Fn::y5) hp] [] [] pos::more)
  (W8: ∀e oe iS C9 hx,SS (L.ja e oe iS C9 hx) N1 VB Qg kk gg (Fn::y5) fs)(hkk:kk≤k2)(hk2:k+1≤k2)(hk1:k1≤k2+1)(hk9:k2≤50)
  (hrn:Qe.names.lookup rn=some .globalImplicit)(hrv:L.gl rn=some (.ref a2))(hg:N1.names.lookup fn=some .globalImplicit)(hv:L.gl fn=some (.ref a))(hi:kr VB y i)
  (Vt:N1.names.lookup sn=some .globalImplicit)(hsv:L.gl sn=some (.type "StopIteration"))(Tf:EF Qe=false)(K8:EF N1=false)
  (hd0:(rn==("__debug__":Str))=false)(hd:(fn==("__debug__":Str))=false)(hd2:(y==("__debug__":Str))=false)(Qv:(sn==("__debug__":Str))=false)(hsw: ∀env,swapsWith (.Call (.Name fn np') [.Name y yp] [] cp') none ep.line env=pure false)
  {s:aq}{v:Value}{p:PV}{ps:List PV}{Qi Cq JY NY:List MV}{rest:List PV}{bb:Bool}
  (h1:f1 (.p p::List.replicate m1 .un)=some (.next,Qi))(h2:fa Qi=some ps)(hps:ps.length=XZ.length)(h3:f2 (ps.map .p++List.replicate m2 .un)=some (.next,Cq))(h4:Cq[i]? =some (.lR rest))(h5:f (.lR rest::List.replicate m .un)=some (none,JY))(h6:fs (Cq.map MV.mJ)=some (.ret (.bool bb),NY))
  (I:Inv L s)(x:XO L [L.tb,sysModules] s.heap)(hv0:VR L.prog L.w s.heap [L.tb,sysModules] p v){Q:Value→aq→Prop}{E:Value→aq→Prop}
  (hQ: ∀s',AllBare s'.gens→s'.os=s.os→s'.drawn=s.drawn→(∀a o,L.look a=some o→s'.heap.get? a=some o)→(∃fp,L.tabI s'.heap fp)→(∀o,s.heap.get? sysModules=some o→s'.heap.get? sysModules=some o)→Q (.bool bb) s'):
  wpAny L.M callerA (call (.ref a1) [v]) Q E s:=by
 have R0:iU L (k2+3) callerA:=⟨by rw[hn];rfl,by show 1+300+(k2+3)<900;omega,by show 4+100*(k2+3)<9000;omega⟩
 refine zF (k:=k2+2) (ps:=[p]) (m:=m1) D1 S1' R0 x I (gM.cons hv0 gM.nil) rfl fun yA Y1 s₁ jm uO hY1 X0 X1 Tg Cm=> ?_
 rw[JL]
 have R1:=R0.deeper yA
 refine mS (MX yA _ Y1 [L.tb,sysModules] s₁ _ Qi .next _ _ (R1.less (by omega)) jm uO (by simp) (by simp) h1 fun fv X2 gQ qF jJ acR _ gP=> ?_)
 skip;(first|exact VD qF|cases qF)
 have r9:yA.scope.kind= .function:=by rw[jJ.fr.scope];exact jJ.fr.kind
 refine di (wpAny_Return_some (bT (aO r9 (by unfold b9.kindOf;rw[jJ.fr.scope];exact hrn) (L.rm gQ yA _ rn _ _ _ gP.inv.ir jJ.fr.globals jJ.fr.builtins.1 hrv ?_) hd0)))
 refine si D2.callee Te he qE (R1.less (by omega)) jJ.fr gP.inv h2 fun vs i6 jL i5=> ?_
 have kG:=jJ.done i5
 refine zF (k:=k2+1) (ps:=ps) (m:=m2) (vs:=vs) D2 S2 R1 i5.xo i5.inv jL hps fun Th Y2 s₄ wh OA hY2 Qj X3 Ti aaA=> ?_
 rw[JM]
 have R2:=R1.deeper Th
 have hZt:L.tb∈X2++[L.tb,sysModules]:=by simp
 have VC:sysModules∈X2++[L.tb,sysModules]:=by simp
 refine mS (RU Th _ Y2 _ s₄ _ Cq .next _ _ (R2.less (by omega)) wh OA hZt VC h3 fun fv Y2' rC qF A6 X4 _ td=> ?_)
 skip;(first|exact VD qF|cases qF)
 have JU:yA.locals∈X2++[L.tb,sysModules]:=aw _ kG.ta
 have kl:yA.locals≠L.tb:=kG.fr.locals.1
 have KI:yA.locals∉Y2':=fun h=>by
  rcases X4 _ h with h'|h'
  ·obtain⟨o,ho⟩:=kG.fr.locals.2
   have:=hY2 _ h'
   rw[ho] at this;(first|exact VD this|cases this)
  ·obtain⟨o,ho⟩:=kG.fr.locals.2
   rw[Qj _ _ ho] at h';(first|exact VD h'|cases h')
 have acT:sysModules∉Y2':=fun h=>A6.apart _ h VC
 have MA:sysModules∉Y2:=fun h=>wh.apart _ h VC
 have Qk:yA.locals∉Y2:=fun h=>wh.apart _ h JU
 have X5:sysModules∉Y1:=fun h=>jm.apart _ h (by simp)
 have ff1:rC.heap.FunFrames E0 [yA]:=by
  obtain⟨q1,⟨Lc,o,q2,q3,q4,q5⟩,_⟩:=kG.Qd (L:=L) Cm
  rw[Cm] at q2;(first|exact VD q2|cases q2)
  exact⟨q1,⟨_,o,Cm,q3,td.keep _ o kl Qk (Qj _ _ q4),q5⟩,trivial⟩
 refine di (Il hn C hg hv hi h4 h5 Vt hsv K8 (outer:=[yA]) rfl ff1 ?_ W8 h6 hkk hk2 (R2.less (by omega)) A6 td.inv hZt VC Gm hd hd2 Qv hsw ?_ fun X6 b1 b2 b3 b4 b5 b6=> ?_)
 ·intro b hb
  rw[cg,Cm] at hb
  rcases List.mem_cons.mp hb with rfl|hb
  ·exact⟨au _ JU,kl⟩
  ·(first|exact VD hb|cases hb)
 ·intro hb
  rw[cg,Cm] at hb
  rcases List.mem_cons.mp hb with h|hb
  ·exact kG.apart _ kG.ta (h▸(by simp))
  ·(first|exact VD hb|cases hb)
 ·refine hQ X6 b1 ?_ ?_ b4 b5 fun o ho=>b6 o (td.keep _ o Gm MA (Qj _ _ (i5.keep _ o Gm (gP.keep _ o Gm X5 (X0 _ _ ho)))))
  ·rw[b2,td.os,X3,i5.os,gP.os,X1]
  ·rw[b3,td.drawn,Ti,i5.drawn,gP.drawn,Tg]
theorem xy{l:List Stmt}{n:Nat}(h:decide (n<l.length)=true):l=wR n l++hG n l::l.drop (n+1):=by
 have h:=of_decide_eq_true h
 unfold wR hG
 rw[aS,aG h]
 show l=l.take n++l[n]::l.drop (n+1)
 rw[List.getElem_cons_drop,List.take_append_drop]
theorem Gg{l:List Stmt}{n:Nat}(h:decide (n<l.length)=true)(h':(l.drop (n+1)).isEmpty=true):l=wR n l++[hG n l]:=by
 conv=>lhs;rw[xy h]
 rw[List.isEmpty_iff.mp h']
end
end
section
open PySem PyProof.Rows PySem.W PySem.W.X PySem.Builtin.Re
theorem atM{α β:Type}{f g:α→β}{l:List α}(h:l.map f=l.map g){a:α}(ha:a∈l):f a=g a:=List.map_inj_left.mp h a ha
theorem Gh{a b c:Addr}(h:(decide (a≠b)&&decide (a≠c))=true):a≠b∧a≠c:=(Bool.and_eq_true_iff.mp h).imp of_decide_eq_true of_decide_eq_true
theorem Qo.ns{T:KT}{h:Heap}{a:Addr}(H:KT.Holds h 1 0 T)(x:Qo T a):h.Ns a (nsFind (jY T a)):=⟨_,_,_,eU H x.obj,x.data,fun _ he=>⟨_,_,atM x.keys (Array.mem_toList_iff.mpr he)⟩,fun _=>rfl⟩
section
variable {T:KT} {tb hc:Addr}
noncomputable def zi(h:Heap)(tb:Addr)(a:Addr):Option Obj:=if a=tb∨a=sysModules then none else h.get? a
theorem kz{h:Heap}{a:Addr}{o:Obj}(e:h.get? a=some o)(n:a≠tb∧a≠sysModules):zi h tb a=some o:=(if_neg fun h=>h.elim n.1 n.2).trans e
theorem Gi{h:Heap}{a:Addr}{o:Obj}(e:zi h tb a=some o):h.get? a=some o∧a≠tb∧a≠sysModules:=by
 unfold zi at e
 by_cases hn:a=tb∨a=sysModules
 ·rw[if_pos hn] at e;(first|exact VD e|cases e)
 ·rw[if_neg hn] at e;exact⟨e,fun h=>hn (.inl h),fun h=>hn (.inr h)⟩
theorem Tj{h h':Heap}{a:Addr}{m}(x:h.Ns a m)(hk: ∀o,h.get? a=some o→h'.get? a=some o):h'.Ns a m:=let ⟨o,es,ep,e,r⟩:=x;⟨o,es,ep,hk _ e,r⟩
noncomputable def N3(hc tb:Addr)(h:Heap)(ps:Array Value):Prop:=h.IsCode hc tb ps∧h.TableAt hc tb ps
theorem Cn{h:Heap}(H:KT.Holds h 1 0 T)(C:TopC T tb hc):N3 hc tb h #[]:=
 ⟨⟨_,_,_,_,_,_,_,_,_,_,eU H C.co,C.cc.2.1,C.cc.2.2.2,C.cf.1,C.cf.2.1,C.cf.2.2.1,C.cf.2.2.2,eU H C.tab,rfl,by simp[TriplesOk],C.n1.1⟩,⟨_,_,eU H C.co,C.cc.1,C.cc.2.1,C.cc.2.2.1⟩,eU H C.tab⟩
theorem Ql{h':Heap}{ps:Array Value}{o':Obj}(y:h'.TableAt hc tb ps)(e:h'.get? hc=some o'):o'.cls≠ .type "list"∧o'.cls≠ .type "dict":=
 y.1.elim fun o x=>x.elim fun vs x=>by
  rw[←Option.some.inj (x.1.symm.trans e),x.2.1]
  decide
theorem ED{h h':Heap}{a:Addr}(H:KT.Holds h 1 0 T)(x:Qo T a)(hk: ∀a o,zi h tb a=some o→h'.get? a=some o)(n:a≠tb∧a≠sysModules):h'.Ns a (nsFind (jY T a)):=Tj (x.ns H) fun o e=>hk _ o (kz e n)
theorem MB{prog:Program}{w:cL}{h:Heap}(H:KT.Holds h 1 0 T)(C:TopC T tb hc){s:aq}{env:b9}{A:aH}{x:Str}{v:Value}{Q E:Value→aq→Prop}(hk: ∀a o,zi h tb a=some o→s.heap.get? a=some o)(hg:env.globals=mainGlobals)(hb:env.builtins=builtinsNs)(hv:U8 T x=some v)(hq:Q v s):
  wpAny (model prog w) A (loadGlobal env x) Q E s:=by
 have n1:s.heap.Ns env.globals (nsFind (jY T mainGlobals)):=by rw[hg];exact ED H C.m hk ⟨C.n1.2.2.2.1,by decide⟩
 have n2:s.heap.Ns env.builtins (nsFind (jY T builtinsNs)):=by rw[hb];exact ED H C.b hk ⟨C.n1.2.2.2.2.1,by decide⟩
 unfold U8 at hv
 cases hu:nsFind (jY T mainGlobals) x with
 |some u=>rw[hu] at hv;exact Calls.loadGlobal_global n1 (hu.trans hv) hq
 |none=>rw[hu] at hv;exact Calls.loadGlobal_builtin n1 hu n2 hv hq
noncomputable def pI(prog:Program)(w:cL)(h:Heap)(T:KT)(tb hc:Addr)(H:KT.Holds h 1 0 T)(C:TopC T tb hc):ic where
 prog:=prog
 w:=w
 look:=zi h tb
 tb:=tb
 tabI:=fun h' fp=>fp=[hc]∧ ∃ps,N3 hc tb h' ps
 vO:=fun h' qD fp t hk=>⟨t.1,t.2.imp fun ps t'=>⟨y4 t'.1 (fun o e=>hk _ o (.inr (t.1▸bK _)) e) (fun o e=>hk _ o (.inl rfl) e),wI t'.2 (fun o e=>hk _ o (.inr (t.1▸bK _)) e) (fun o e=>hk _ o (.inl rfl) e)⟩⟩
 AO:=fun h' fp t=>t.2.elim fun ps t'=>⟨⟨_,t'.2.2⟩,fun a ha=>List.mem_singleton.mp (t.1▸ha)▸t'.2.1.imp fun _ h=>h.elim fun _ h=>h.1⟩
 Gz:=fun h' fp t a ha o' e=>t.2.elim fun ps t'=>Ql t'.2 (List.mem_singleton.mp (t.1▸ha)▸e)
 vP:=if_pos (.inl rfl)
 noLimit:=fun h' hk=>⟨_,ED H C.c hk ⟨C.n1.2.2.2.2.2,by decide⟩,C.lim⟩
 gl:=U8 T
 rm:=fun s env A x v Q E hk hg hb hv hq=>MB H C hk hg hb hv hq
 iI:=hc
 vQ:=⟨_,kz (eU H C.co) ⟨C.n1.1,C.n1.2.1⟩⟩
 zl:=fun _=>True
 GA:=fun _ _ _=>trivial
 zm:=fun h' fp t=>t.2.imp fun ps t'=>⟨t'.1,t'.2,trivial⟩
 GB:=fun h' ps t=>⟨[hc],⟨rfl,ps,t.1,t.2.1⟩,fun a ha=>List.mem_singleton.mp ha⟩
 J4:=fun s A Q E hk hq=>wpAny_builtinsFor (ED H C.m hk ⟨C.n1.2.2.2.1,by decide⟩) C.bm C.bn.1 (hk _ _ (kz (eU H C.bo) C.bn.2)) C.bx.1 C.bx.2.1 C.bx.2.2 hq
 exc:=none
 GC:=fun a h=>g8 h
variable {prog:Program} {w:cL} {h:Heap} {H:KT.Holds h 1 0 T} {C:TopC T tb hc}
theorem nX.fn{a:Addr}{st:Stmt}{ns:List Str}(x:nX T tb hc a st ns):iC (pI prog w h T tb hc H C) a (fdOf T a) (hU st) ns (ij st):=
 ⟨⟨_,kz (eU H x.obj) (Gh x.ne),x.data⟩,fun h' hk=>⟨_,_,_,_,x.code,hk _ _ (kz (eU H x.VF) (Gh x.ne')),x.cdata,x.cq⟩,x.body,x.scope,x.globals,x.builtins,x.closure,x.bind,fun hs=>by
  have:=x.host
  rw[hs] at this
  exact x.code.trans (congrArg _ (of_decide_eq_true this))⟩
theorem Gw.pat{a tup:Addr}{code:Array Nat}{k:Nat}(x:Gw T tb a code k tup):Dg (pI prog w h T tb hc H C) a code k:=
 fun h' hk=>⟨_,_,tup,_,_,_,hk _ _ (kz (eU H x.obj) (Gh x.ne)),x.cls,x.dict,x.data,x.f2,x.f5,x.f6,hk _ _ (kz (eU H x.VG) (Gh x.ne')),x.QF,x.QG⟩
theorem xA: ∀{as:List Addr} {a:Addr} {o:Obj},(fragOf T as).lookup a=some o→a∈as∧T.get a=some o:=by
 intro as
 induction as with
 |nil=>exact @fun a o e=>g8 e
 |cons b as hV=>
  intro a o e
  unfold fragOf at e
  rw[cg] at e
  cases hb:T.get b with
  |none=>
   rw[hb] at e
   exact(hV e).imp_left (av _)
  |some o'=>
   rw[hb] at e
   replace e:(match a==b with|true=>some o'|false=>(fragOf T as).lookup a)=some o:=e
   cases heq:a==b with
   |true=>
    rw[heq] at e
    cases beq_iff_eq.mp heq
    exact⟨az ..,hb.trans e⟩
   |false=>
    rw[heq] at e
    exact(hV e).imp_left (av _)
theorem JN{as:List Addr}(iS:(as.all fun a=>decide (a≠tb)&&decide (a≠sysModules))=true): ∀h':Heap,(∀a o,(pI prog w h T tb hc H C).look a=some o→h'.get? a=some o)→Frag.In (fragOf T as) h':=fun h' hk a o e=>
 hk _ _ (kz (eU H (xA e).2) (Gh (List.all_eq_true.mp iS a (xA e).1)))
theorem JO: ∀{es:List DictEntry},(∀e∈es,(e.key,e.val,e.hash)=(.int (vInt e.key) (zj e.key),.str (vStr e.val) (zj e.val),hashInt (vInt e.key)))→
  Pairs (intKind prog w) es (es.map fun e=>(vInt e.key,e.val))∧ ∀h X,gM prog w h X (es.map fun e=> .str (vStr e.val)) (es.map fun e=>e.val):=by
 intro es
 induction es with
 |nil=>exact @fun _=>⟨.nil,fun _ _=>gM.nil⟩
 |cons e es hV=>exact @fun h=>have i:=hV fun e' AK=>h e' (av _ AK)
  have q:=h e (az ..)
  ⟨.cons ((congrArg (fun p:Value×Value×Int=>Value.isInt (vInt e.key) p.1) q).trans (beq_self_eq_true _)) rfl i.1,fun h X=>gM.cons (.intro _ (congrArg (fun p:Value×Value×Int=>p.2.1) q)) (i.2 h X)⟩
theorem N4.vr{a:Addr}{ks:List Int}{vs:List Str}(x:N4 T tb a ks vs): ∀(h':Heap) (X:List Addr),(∀b o,(pI prog w h T tb hc H C).look b=some o→h'.get? b=some o)→(∀b∈X,(pI prog w h T tb hc H C).look b=none)→VR prog w h' X (.la ks (vs.map .str)) (.ref a):=fun h' X hk hX=>by
 have hl:(pI prog w h T tb hc H C).look a=some (iL T a):=kz (eU H x.obj) (Gh x.ne)
 have he:=fun e he=>atM x.all (a:=e) he
 have p:=JO (prog:=prog) (w:=w) he
 have nd:=of_decide_eq_true x.nd
 rw[←x.ks,←x.vs,bh]
 rw[←x.ks] at nd
 refine⟨a,_,rfl,fun hm=>g8 ((hX a hm).symm.trans hl),⟨_,_,_,hk _ _ hl,x.ex,x.data,fun e hm=> ?_,p.1,?_⟩,?_,?_⟩
 ·have q:=he e (Array.mem_toList_iff.mpr hm)
  exact⟨_,(congrArg (fun p:Value×Value×Int=>Value.isInt (vInt e.key) p.1) q).trans (beq_self_eq_true _),congrArg (fun p:Value×Value×Int=>p.2.2) q⟩
 ·rw[bh];exact nd
 ·rw[bh];rfl
 ·rw[bh];exact p.2 h' X
theorem Tn:XO (pI prog w h T tb hc H C) [tb,sysModules] h where
 tb:=az ..
 sm:= .tail _ (.head _)
 there:=fun a ha=>(List.mem_cons.mp ha).elim (fun e=>e▸⟨_,eU H C.tab⟩) fun ha=>List.mem_singleton.mp ha▸⟨_,eU H C.sm⟩
 look:=fun a ha=>if_pos ((List.mem_cons.mp ha).imp_right List.mem_singleton.mp)
 tab:=⟨[hc],⟨rfl,#[],Cn H C⟩,fun a ha hm=>by
  rw[List.mem_singleton.mp ha] at hm
  exact(List.mem_cons.mp hm).elim C.n1.1 fun h=>C.n1.2.1 (List.mem_singleton.mp h)⟩
theorem Qm{s:aq}{H:KT.Holds s.heap 1 0 T}(hg:s.gens= #[]):Inv (pI prog w s.heap T tb hc H C) s:=⟨fun a o e=>(Gi e).1,.of_eq hg⟩
theorem MC{h':Heap}(h1: ∀a o,(pI prog w h T tb hc H C).look a=some o→h'.get? a=some o)(h2: ∃fp,(pI prog w h T tb hc H C).tabI h' fp)(h3: ∀o,h.get? sysModules=some o→h'.get? sysModules=some o):OldK h h':=
 h2.elim fun fp h2=>h2.2.elim fun ps h2=>by
  have h0:=(Cn H C).2
  have k: ∀b o,h.get? b=some o→b=tb∨h'.get? b=some o:=fun b o e=>by
   by_cases hb:b=tb
   ·exact .inl hb
   ·by_cases hs:b=sysModules
    ·(first|exact VD hs|cases hs);exact .inr (h3 o e)
    ·exact .inr (h1 b o (kz e ⟨hb,hs⟩))
  refine⟨fun b o e=>(k b o e).elim (fun hb=> .inr (.inl ?_)) .inl,fun b o e=>(k b o e).elim (fun hb=>hb▸⟨_,h2.2.2⟩) fun e'=>⟨o,e'⟩⟩
  skip;(first|exact VD hb|cases hb)
  cases Option.some.inj (e.symm.trans h0.2)
  exact⟨h0.isCodeTable,rfl,#[],ps,rfl,by rw[h2.2.2,fq]⟩
end
end
section
open PySem PyProof.Rows PySem.W PySem.W.X
noncomputable def JP(ns:List Int):Prop:= ∃Qi ps Cq rest JY NY,NZ (.p (.list (ns.map .int))::List.replicate 4 .un)=some (.next,Qi)∧rZ Qi=some ps∧ps.length=3∧rW (ps.map .p++List.replicate 35 .un)=some (.next,Cq)∧Cq[14]? =some (.lR rest)∧gV (.lR rest::List.replicate 2 .un)=some (none,JY)∧ng (Cq.map MV.mJ)=some (.ret (.bool true),NY)
theorem MD{h:Heap}{T:KT}(_:KT.Holds h 1 0 T)(C:TopC T 68 72):TopC T 68 72:=C
noncomputable abbrev Qn{h:Heap}{T:KT}(_:KT.Holds h 1 0 T):KT:=T
theorem core{prog:Program}{w:cL}{s₁:aq}{T:KT}(H:KT.Holds s₁.heap 1 0 T)(C:TopC T 68 72)(H':gF (pI prog w s₁.heap T 68 72 H C))(hd:H'.ad 27=Vx 27)(hg:s₁.gens= #[]){vs:List Value}{ns:List Int}(hl:s₁.heap.get? 181=some {cls:= .type "list",data:= .seq vs.toArray})(hi:IntsAre vs ns)(hp:JP ns){Q:Value→aq→Prop}{E:Value→aq→Prop}
  (hQ: ∀s',OldK s₁.heap s'.heap→s'.os=s₁.os→AllBare s'.gens→Q (.bool true) s'):wpAny (model prog w) callerA (call (.ref (Vx 27)) [.ref 181]) Q E s₁:=by
 rw[←hd]
 obtain⟨Qi,ps,Cq,rest,JY,NY,p1,p2,p3,p4,p5,p6,p7⟩:=hp
 let L:=pI prog w s₁.heap T 68 72 H C
 have hn:L.exc=none:=rfl
 refine Mz (L:=L) hn (by show sysModules≠68;decide) (fd1:=H'.fd 27) (Qe:=hU #[S,27]) (Qf:=wR 4 #[B,27]) H'.fn_law (so.of (by kernel_rfl)) (Tb H') (JL:=Gg (n:=4) (by kernel_rfl) (by kernel_rfl)) (DE H') (fun _=>rfl) (fun _=>rfl)
  (fd2:=H'.fd 26) (N1:=hU #[S,26]) (Qh:=wR 13 #[B,26]) H'.fn__law_run (so.of (by kernel_rfl)) (Ds H' hn) (px H' hn) (JM:=xy (n:=13) (by kernel_rfl)) (fun e oe iS C9 hx=>xh (H'.ja e oe iS C9 hx)) (hkk:= ?_) (hk2:= ?_) (hk1:= ?_) (hk9:= ?_) (hrn:=by kernel_rfl) (hrv:=H'.g__law_run) (hg:=by kernel_rfl) (hv:=H'.g__parse_varint) (hi:=gH (i:=14) (by kernel_rfl) (kx (by kernel_rfl))) (Vt:=by kernel_rfl) (hsv:=H'.b_StopIteration)
  (Tf:=by kernel_rfl) (K8:=by kernel_rfl) (hd0:=by kernel_rfl) (hd:=by kernel_rfl) (hd2:=by kernel_rfl) (Qv:=by kernel_rfl) (hsw:=fun env=>by (first|exact VD env|cases env);kernel_rfl) (h1:=p1) (h2:=p2) (hps:=p3) (h3:=p4) (h4:=p5) (h5:=p6) (h6:=p7) (I:=Qm hg) (x:=Tn) (hv0:= ?_) ?_
 ·decide
 ·decide
 ·decide
 ·decide
 ·exact .intro _ ⟨_,_,rfl,by show 181∉[68,sysModules];decide,hl,gM.ofInts (L:=L) hi⟩
 ·intro s' b1 b2 b3 b4 b5 b6
  exact hQ s' (MC b4 b5 b6) b2 b1
end
section
open PySem PyProof.Rows
open V6
theorem yB{n:Nat}{l:List Int}(h:l.length=n+6): ∃(r:V6) (l':List Int),l=r.l6++l'∧l'.length=n:=
 (iY h).elim fun a h=>h.elim fun _ h=>(iY h.2).elim fun b h1=>h1.elim fun _ h1=>(iY h1.2).elim fun c h2=>h2.elim fun _ h2=>(iY h2.2).elim fun d h3=>h3.elim fun _ h3=>(iY h3.2).elim fun e h4=>h4.elim fun _ h4=>(iY h4.2).elim fun f h5=>h5.elim fun l' h5=>
  ⟨⟨a,b,c,d,e,f⟩,l',by rw[h.1,h1.1,h2.1,h3.1,h4.1,h5.1];rfl,h5.2⟩
theorem ME{A B S k:PV}{h:V6}{r0 r1 r2 r3 r4 r5 r6 r7 r8:V6}:rZ [.p A,.p B,.p (.list ((h.l6++(r0.l6++(r1.l6++(r2.l6++(r3.l6++(r4.l6++(r5.l6++(r6.l6++(r7.l6++r8.l6))))))))).map .int)),.p S,.p k]=some [.list ((h.l6++(r0.l6++(r1.l6++(r2.l6++(r3.l6++(r4.l6++(r5.l6++(r6.l6++(r7.l6++r8.l6))))))))).map .int),nf [r0,r1,r2,r3,r4,r5,r6,r7,r8],k]:= (by kernel_rfl)
theorem X7{l:List MV}{j:Nat}{p:PV}(h:l[j]? =some (MV.p p)):(l.map MV.mJ)[j]? =some (MV.p p):=by rw[aJ,h];rfl
theorem JQ{ns:List Int}(hn:ns.length≤90000){z plan a0 a1 a2 d:Int}{rest:List Int}{r0 r1 r2 r3 r4 r5 r6 r7 r8:V6}(er:r0.l6++(r1.l6++(r2.l6++(r3.l6++(r4.l6++(r5.l6++(r6.l6++(r7.l6++r8.l6)))))))=rest)(e:EB ns=z::plan::a0::a1::a2::d::rest):JP ns:=by
 have vV:rest.length=54:=Nat.add_right_cancel (m:=6) ((congrArg List.length e).symm.trans (xu ns))
 have hc1:=l1 hn
 have ha:=ME (A:= .list (ns.map .int)) (B:= .list (Ck.map .int)) (S:= .int (stepI z)) (k:=jH (DF z)) (h:=⟨z,plan,a0,a1,a2,d⟩) (r0:=r0) (r1:=r1) (r2:=r2) (r3:=r3) (r4:=r4) (r5:=r5) (r6:=r6) (r7:=r7) (r8:=r8)
 rw[e] at hc1
 rw[er] at ha
 obtain⟨Cq,t',X8,tp,m,a,ks,vs,rfl, -⟩:=P8 (K:=DF z) (r0:=r0) (r1:=r1) (r2:=r2) (r3:=r3) (r4:=r4) (r5:=r5) (r6:=r6) (r7:=r7) (r8:=r8) (z:=z) (plan:=plan) (a0:=a0) (a1:=a1) (a2:=a2) (d:=d) (My z) vV
 obtain⟨JY,hv⟩:=LH (x:=64+d.fmod 64) (by have h:=(Dp (d.fmod 64) 0 (cO _ (by decide)) (du _ (by decide))).2;rwa [Int.mul_zero,Int.add_zero] at h) (uM d) (fO (sV d).1)
 exact(Mr (ρ:=(S7 m (DF z) [r0,r1,r2,r3,r4,r5,r6,r7,r8] (F6 plan) (QD plan) plan (numsOf a0 a1 a2) (xt a0 a1 a2 d ((6+1)/2)) t' a ks vs).map MV.mJ) rfl (P4 plan).1 (xj plan 5) rfl rfl rfl (X7 tp)).elim fun NY X9=>
  ⟨_,_,_,_,JY,NY,(gB (l0 (.list (ns.map .int)))).trans ((gB hc1).trans ((gB l2).trans ((gB l3).trans rfl))),ha,rfl,X8,rfl,hv,X9⟩
theorem plain{ns:List Int}(hn:ns.length≤90000):JP ns:=by
 obtain⟨h,l,e,hl⟩:=yB (n:=54) (xu ns)
 obtain⟨r0,l0,e0,hl⟩:=yB (n:=48) hl
 obtain⟨r1,l1,e1,hl⟩:=yB (n:=42) hl
 obtain⟨r2,l2,e2,hl⟩:=yB (n:=36) hl
 obtain⟨r3,l3,e3,hl⟩:=yB (n:=30) hl
 obtain⟨r4,l4,e4,hl⟩:=yB (n:=24) hl
 obtain⟨r5,l5,e5,hl⟩:=yB (n:=18) hl
 obtain⟨r6,l6,e6,hl⟩:=yB (n:=12) hl
 obtain⟨r7,l7,e7,hl⟩:=yB (n:=6) hl
 obtain⟨r8,l8,e8,hl⟩:=yB (n:=0) hl
 rw[e7,e8,bw hl,bB] at e6
 rw[e0,e1,e2,e3,e4,e5,e6] at e
 exact JQ hn rfl e
end
section
open PySem PySem.W PyProof.Rows
open PySem.W.X PySem.W.ZRun
noncomputable def dg:Nat→Nat→List Nat→List Nat
 |0,_,a=>a
 |f+1,n,a=>cond (Nat.beq n 0) a (dg f (n/256) (n%256::a))
noncomputable def dc(n:Nat):Str:=⟨⟨dg 40 n []⟩⟩
theorem sl0:Str.ofString "_sre"=dc 1601401445:=rfl
theorem sl1:Str.ofString "__name__"=dc 6872332921116909407:=rfl
theorem sl2:Str.ofString "cpy313.pstats"=dc 7878396931784602534337879045235:=rfl
theorem sl3:Str.ofString "TupleComp"=dc 1557988885073610370416:=rfl
theorem sl4:Str.ofString "__init__"=dc 6872327479327219551:=rfl
theorem sl5:Str.ofString "self"=dc 1936026726:=rfl
theorem sl6:Str.ofString "comp_select_list"=dc 132172136219745618274778209440068367220:=rfl
theorem sl7:Str.ofString "compare"=dc 27988538521907813:=rfl
theorem sl8:Str.ofString "left"=dc 1818584692:=rfl
theorem sl9:Str.ofString "right"=dc 491394656372:=rfl
theorem Ya:Str.ofString "index"=dc 452823639416:=rfl
theorem Yb:Str.ofString "direction"=dc 1852272654370111844206:=rfl
theorem Yc:Str.ofString "l"=dc 108:=rfl
theorem Yd:Str.ofString "r"=dc 114:=rfl
theorem Ye:Str.ofString "add_func_stats"=dc 1975347611638421067394526019155059:=rfl
theorem Yf:Str.ofString "target"=dc 127961880028532:=rfl
theorem Yg:Str.ofString "source"=dc 126922548994917:=rfl
theorem Yh:Str.ofString "cc"=dc 25443:=rfl
theorem Yi:Str.ofString "nc"=dc 28259:=rfl
theorem Yj:Str.ofString "tt"=dc 29812:=rfl
theorem Yk:Str.ofString "ct"=dc 25460:=rfl
theorem Yl:Str.ofString "callers"=dc 27973140997304947:=rfl
theorem Ym:Str.ofString "t_cc"=dc 1952408419:=rfl
theorem Yn:Str.ofString "t_nc"=dc 1952411235:=rfl
theorem Yo:Str.ofString "t_tt"=dc 1952412788:=rfl
theorem Yp:Str.ofString "t_ct"=dc 1952408436:=rfl
theorem Yq:Str.ofString "t_callers"=dc 2146695757124908446323:=rfl
theorem Yr:Str.ofString "add_callers"=dc 117739892698757940023489139:=rfl
theorem Ys:Str.ofString "new_callers"=dc 133461001208368389421363827:=rfl
theorem Yt:Str.ofString "func"=dc 1718972003:=rfl
theorem Yu:Str.ofString "caller"=dc 109270082020722:=rfl
theorem Yv:Str.ofString "items"=dc 452924370291:=rfl
theorem Yw:Str.ofString "isinstance"=dc 497977453406354454504293:=rfl
theorem Yx:Str.ofString "tuple"=dc 500186508389:=rfl
theorem Yy:Str.ofString "i"=dc 105:=rfl
theorem Yz:Str.ofString "j"=dc 106:=rfl
theorem YA:Str.ofString "zip"=dc 8022384:=rfl
theorem YB:Str.ofString ".0"=dc 11824:=rfl
theorem YC:Str.ofString "cpy313.dis"=dc 469589050518548638886259:=rfl
theorem YD:Str.ofString "COMPILER_FLAG_NAMES"=dc 1501058107351238011062017083075586557091857747:=rfl
theorem YE:Str.ofString "OPTIMIZED"=dc 1463081113840424469828:=rfl
theorem YF:Str.ofString "NEWLOCALS"=dc 1443842583964250360915:=rfl
theorem YG:Str.ofString "VARARGS"=dc 24278669536151379:=rfl
theorem YH:Str.ofString "VARKEYWORDS"=dc 104276092365098237912302675:=rfl
theorem YI:Str.ofString "NESTED"=dc 86059657741636:=rfl
theorem YJ:Str.ofString "GENERATOR"=dc 1314712834489764302674:=rfl
theorem YK:Str.ofString "NOFREE"=dc 86102389179717:=rfl
theorem YL:Str.ofString "COROUTINE"=dc 1241647571043531443781:=rfl
theorem YM:Str.ofString "ITERABLE_COROUTINE"=dc 6387872735663517682875358495813052404420165:=rfl
theorem YN:Str.ofString "ASYNC_GENERATOR"=dc 339189811329609389533518329965465426:=rfl
theorem YO:Str.ofString "pretty_flags"=dc 34800617750656642081657808755:=rfl
theorem YP:Str.ofString "flags"=dc 439904986995:=rfl
theorem YQ:Str.ofString "names"=dc 474080961907:=rfl
theorem YR:Str.ofString "range"=dc 491260897125:=rfl
theorem YS:Str.ofString "flag"=dc 1718378855:=rfl
theorem YT:Str.ofString "append"=dc 107135549927012:=rfl
theorem YU:Str.ofString "get"=dc 6776180:=rfl
theorem YV:Str.ofString "hex"=dc 6841720:=rfl
theorem YW:Str.ofString ", "=dc 11296:=rfl
theorem YX:Str.ofString "join"=dc 1785686382:=rfl
theorem YY:Str.ofString "_parse_varint"=dc 7561455566238064641011471707764:=rfl
theorem YZ:Str.ofString "iterator"=dc 7598810013216567154:=rfl
theorem Y0:Str.ofString "b"=dc 98:=rfl
theorem Y3:Str.ofString "next"=dc 1852143732:=rfl
theorem Y4:Str.ofString "val"=dc 7758188:=rfl
theorem Y5:Str.ofString "cpy313.smtplib"=dc 2016869614536858249628325147076962:=rfl
theorem Y6:Str.ofString "_twin_re_1"=dc 450773242715085891526449:=rfl
theorem Y7:Str.ofString "compile"=dc 27988538522430565:=rfl
theorem Y8:Str.ofString "(?m)^\\."=dc 11328737146461230:=rfl
theorem Y9:Str.ofString "_twin_re_2"=dc 450773242715085891526450:=rfl
theorem Za:Str.ofString "_twin_re_3"=dc 450773242715085891526451:=rfl
theorem Zb:Str.ofString "(?:\\r\\n|\\n|\\r(?!\\n))"=dc 229769661751034732796307005307605985825626401065:=rfl
theorem Zc:Str.ofString "CRLF"=dc 1129466950:=rfl
theorem Zd:Str.ofString "\u000d\n"=dc 3338:=rfl
theorem Ze:Str.ofString "quotedata"=dc 2092944190532856411233:=rfl
theorem Zf:Str.ofString "data"=dc 1684108385:=rfl
theorem Zg:Str.ofString "sub"=dc 7566690:=rfl
theorem Zh:Str.ofString ".."=dc 11822:=rfl
theorem Zi:Str.ofString "_quote_periods"=dc 1935818039197600145292435104162931:=rfl
theorem Zj:Str.ofString "bindata"=dc 27700470569071713:=rfl
theorem Zk:Str.ofString "_fix_eols"=dc 1759820248817949699187:=rfl
theorem Zl:Str.ofString "law_xc0012_01"=dc 8586805910511325499698775535665:=rfl
theorem Zm:Str.ofString "_law_entry"=dc 450624087419610083914361:=rfl
theorem Zn:Str.ofString "row"=dc 7499639:=rfl
theorem Zo:Str.ofString "f"=dc 102:=rfl
theorem Zp:Str.ofString "g"=dc 103:=rfl
theorem Zq:Str.ofString "_law_row"=dc 6875977896418242423:=rfl
theorem Zr:Str.ofString "entry"=dc 435644822137:=rfl
theorem Zs:Str.ofString "_law_code"=dc 1760250341482818397285:=rfl
theorem Zt:Str.ofString "one"=dc 7302757:=rfl
theorem Zu:Str.ofString "other"=dc 478694368626:=rfl
theorem Zv:Str.ofString "min"=dc 7170414:=rfl
theorem Zw:Str.ofString "max"=dc 7168376:=rfl
theorem Zx:Str.ofString "_law_due"=dc 6875977896417326437:=rfl
theorem Zy:Str.ofString "rows"=dc 1919907699:=rfl
theorem Zz:Str.ofString "centre"=dc 109287295971941:=rfl
theorem ZA:Str.ofString "keys"=dc 1801812339:=rfl
theorem ZC:Str.ofString "code"=dc 1668244581:=rfl
theorem ZD:Str.ofString "spokes"=dc 126926742840691:=rfl
theorem ZE:Str.ofString "low"=dc 7106423:=rfl
theorem Tp:Str.ofString "high"=dc 1751738216:=rfl
theorem Tq:Str.ofString "sorted"=dc 126922498794852:=rfl
theorem Tr:Str.ofString "corner"=dc 109330312357234:=rfl
theorem Tt:Str.ofString "divmod"=dc 110404121227108:=rfl
theorem Tu:Str.ofString "ways"=dc 2002876787:=rfl
theorem Tv:Str.ofString "k"=dc 107:=rfl
theorem Tw:Str.ofString "way"=dc 7823737:=rfl
theorem Tx:Str.ofString "x"=dc 120:=rfl
theorem Tz:Str.ofString "y"=dc 121:=rfl
theorem TA:Str.ofString "z"=dc 122:=rfl
theorem TB:Str.ofString "fast"=dc 1717662580:=rfl
theorem TC:Str.ofString "_law_read"=dc 1760250341483069399396:=rfl
theorem TF:Str.ofString "dots"=dc 1685025907:=rfl
theorem TG:Str.ofString "live"=dc 1818850917:=rfl
theorem TH:Str.ofString "found"=dc 439956631140:=rfl
theorem TJ:Str.ofString "list"=dc 1818850164:=rfl
theorem TK:Str.ofString "_"=dc 95:=rfl
theorem TL:Str.ofString "place"=dc 482854658917:=rfl
theorem TM:Str.ofString "ends"=dc 1701733491:=rfl
theorem TN:Str.ofString "len"=dc 7103854:=rfl
theorem TP:Str.ofString "n"=dc 110:=rfl
theorem TQ:Str.ofString "int"=dc 6909556:=rfl
theorem TR:Str.ofString "enumerate"=dc 1871080539643590046821:=rfl
theorem TS:Str.ofString "pop"=dc 7368560:=rfl
theorem TU:Str.ofString "_law_apexes"=dc 115359766379415791774229875:=rfl
theorem TV:Str.ofString "edges"=dc 435476194675:=rfl
theorem TX:Str.ofString "end"=dc 6647396:=rfl
theorem TY:Str.ofString "_law_mail"=dc 1760250341482985253228:=rfl
theorem TZ:Str.ofString "raised"=dc 125762706564452:=rfl
theorem T1:Str.ofString "."=dc 46:=rfl
theorem T2:Str.ofString "abcdef"=dc 107075202213222:=rfl
theorem T3:Str.ofString ""=dc 0:=rfl
theorem T4:Str.ofString "_law_octets"=dc 115359766379431129352860787:=rfl
theorem T5:Str.ofString "number"=dc 121450625394034:=rfl
theorem T6:Str.ofString "dress"=dc 431415980915:=rfl
theorem T7:Str.ofString "octet"=dc 478409942388:=rfl
theorem T8:Str.ofString "_law_run"=dc 6875977896418243950:=rfl
theorem T9:Str.ofString "cells"=dc 426903366771:=rfl
theorem Ua:Str.ofString "0x"=dc 12408:=rfl
theorem Ub:Str.ofString "1248"=dc 825373752:=rfl
theorem Uc:Str.ofString "0"=dc 48:=rfl
theorem Ud:Str.ofString "tops"=dc 1953460339:=rfl
theorem Ue:Str.ofString "-0x100000000"=dc 13985421472642762558422396976:=rfl
theorem Ug:Str.ofString "0x0"=dc 3176496:=rfl
theorem Uh:Str.ofString "0x100000000"=dc 58596030682234465807249456:=rfl
theorem Ui:Str.ofString "0x200000000"=dc 58596049128978539516801072:=rfl
theorem Uj:Str.ofString "pairs"=dc 482670637683:=rfl
theorem Uk:Str.ofString "sides"=dc 495689426291:=rfl
theorem Ul:Str.ofString "plan"=dc 1886151022:=rfl
theorem Um:Str.ofString "shift"=dc 495672977012:=rfl
theorem Un:Str.ofString "extra"=dc 435812594273:=rfl
theorem Uo:Str.ofString "asked"=dc 418548245860:=rfl
theorem Uq:Str.ofString "numbers"=dc 31091360100872819:=rfl
theorem Ur:Str.ofString "cell"=dc 1667591276:=rfl
theorem Us:Str.ofString "octets"=dc 122472945251443:=rfl
theorem Ut:Str.ofString "tape"=dc 1952542821:=rfl
theorem Uu:Str.ofString "iter"=dc 1769235826:=rfl
theorem Uv:Str.ofString "none"=dc 1852796517:=rfl
theorem Uw:Str.ofString "plain"=dc 482854660462:=rfl
theorem Ux:Str.ofString "table"=dc 499850046565:=rfl
theorem Uy:Str.ofString "dict"=dc 1684628340:=rfl
theorem Uz:Str.ofString "turn"=dc 1953854062:=rfl
theorem UA:Str.ofString "told"=dc 1953459300:=rfl
theorem UB:Str.ofString "sum"=dc 7566701:=rfl
theorem UC:Str.ofString "split"=dc 495807392116:=rfl
theorem UD:Str.ofString "old"=dc 7302244:=rfl
theorem UE:Str.ofString "apexes"=dc 107135366620531:=rfl
theorem UG:Str.ofString "apex"=dc 1634755960:=rfl
theorem UH:Str.ofString "kept"=dc 1801810036:=rfl
theorem UI:Str.ofString "edge"=dc 1701078885:=rfl
theorem UJ:Str.ofString "first"=dc 439855772532:=rfl
theorem UK:Str.ofString "second"=dc 126879297138276:=rfl
theorem UL:Str.ofString "gaps"=dc 1734439027:=rfl
theorem UM:Str.ofString "verdict"=dc 33325589237162868:=rfl
theorem UN:Str.ofString "some"=dc 1936682341:=rfl
theorem UO:Str.ofString "new"=dc 7234935:=rfl
theorem UP:Str.ofString "mail"=dc 1835100524:=rfl
theorem UQ:Str.ofString "\n"=dc 10:=rfl
theorem UR:Str.ofString "\u000d"=dc 13:=rfl
theorem US:Str.ofString "heights"=dc 29384900958778483:=rfl
theorem UT:Str.ofString "sent"=dc 1936027252:=rfl
theorem UU:Str.ofString "due"=dc 6583653:=rfl
theorem UW:Str.ofString "bytes"=dc 422944466291:=rfl
theorem UX:Str.ofString "ord"=dc 7303780:=rfl
theorem UY:Str.ofString "sign"=dc 1936287598:=rfl
theorem UZ:Str.ofString "count"=dc 427071729268:=rfl
theorem U0:Str.ofString "StopIteration"=dc 6611972470849238906499613945710:=rfl
theorem U1:Str.ofString "words"=dc 512970876019:=rfl
theorem U2:Str.ofString "law"=dc 7102839:=rfl
theorem U3:Str.ofString "script"=dc 126870958469236:=rfl
theorem U4:Str.ofString "own"=dc 7305070:=rfl
theorem U5:Str.ofString "mine"=dc 1835626085:=rfl
theorem U6:Str.ofString "step"=dc 1937007984:=rfl
theorem U7:Str.ofString "/claim/cut.py"=dc 3754493678145579991176426975353:=rfl
noncomputable def Ho(_:Program):Type:=Unit
noncomputable def Ho.get{p:Program}(_:Ho p):Program:=p
noncomputable def hd.tw3817257399755936193:Program:=by
 have h:Ho PySem.Challenge.pw_xc0012_01:=()
 delta PySem.Challenge.pw_xc0012_01 at h
 dsimp only[sl0,sl1,sl2,sl3,sl4,sl5,sl6,sl7,sl8,sl9,Ya,Yb,Yc,Yd,Ye,Yf,Yg,Yh,Yi,Yj,Yk,Yl,Ym,Yn,Yo,Yp,Yq,Yr,Ys,Yt,Yu,Yv,Yw,Yx,Yy,Yz,YA,YB,YC,YD,YE,YF,YG,YH,YI,YJ,YK,YL,YM,YN,YO,YP,YQ,YR,YS,YT,YU,YV,YW,YX,YY,YZ,Y0,Y3,Y4,Y5,Y6,Y7,Y8,Y9,Za,Zb,Zc,Zd,Ze,Zf,Zg,Zh,Zi,Zj,Zk,Zl,Zm,Zn,Zo,Zp,Zq,Zr,Zs,Zt,Zu,Zv,Zw,Zx,Zy,Zz,ZA,ZC,ZD,ZE,Tp,Tq,Tr,Tt,Tu,Tv,Tw,Tx,Tz,TA,TB,TC,TF,TG,TH,TJ,TK,TL,TM,TN,TP,TQ,TR,TS,TU,TV,TX,TY,TZ,T1,T2,T3,T4,T5,T6,T7,T8,T9,Ua,Ub,Uc,Ud,Ue,Ug,Uh,Ui,Uj,Uk,Ul,Um,Un,Uo,Uq,Ur,Us,Ut,Uu,Uv,Uw,Ux,Uy,Uz,UA,UB,UC,UD,UE,UG,UH,UI,UJ,UK,UL,UM,UN,UO,UP,UQ,UR,US,UT,UU,UW,UX,UY,UZ,U0,U1,U2,U3,U4,U5,U6,U7] at h
 exact h.get
theorem hd.te3817257399755936193:PySem.Challenge.pw_xc0012_01=hd.tw3817257399755936193:= (by kernel_rfl)
end
section
open PySem PyProof.Rows PySem.W PySem.W.X PySem.Builtin.Re
noncomputable def fnL(T:KT)(tb hc a:Addr)(st:Stmt):=(T.get a,(iL T a).data,decide (a≠tb)&&decide (a≠sysModules),decide (iR (fdOf T a)≠tb)&&decide (iR (fdOf T a)≠sysModules),(fdOf T a).code,T.get (iR (fdOf T a)),(iL T (iR (fdOf T a))).data,
 (ik T (iR (fdOf T a)))[1]?,(fdOf T a).body,(fdOf T a).scope,(fdOf T a).globals,(fdOf T a).builtins,(fdOf T a).closure,!vM (hU st)||decide (iR (fdOf T a)=hc))
noncomputable def fnR(T:KT)(a:Addr)(st:Stmt):=(some (iL T a),Data.func (fdOf T a),true,true,Value.ref (iR (fdOf T a)),some (iL T (iR (fdOf T a))),Data.fields (ik T (iR (fdOf T a))),
 some (Value.str (fdOf T a).qualname (Cr (ik T (iR (fdOf T a)))[1]?)),FuncBody.stmts (ij st),hU st,mainGlobals,builtinsNs,(fdOf T a).closure.take 0,true)
theorem nX.of{T:KT}{tb hc a:Addr}{st:Stmt}{ns:List Str}(e:fnL T tb hc a st=fnR T a st)(b: ∀vs:List Value,vs.length=ns.length→bindArgs (fdOf T a) ⟨vs,[]⟩=pure (ns.zip vs)):nX T tb hc a st ns:=
 ⟨congrArg (·.1) e,congrArg (·.2.1) e,congrArg (·.2.2.1) e,congrArg (·.2.2.2.1) e,congrArg (·.2.2.2.2.1) e,congrArg (·.2.2.2.2.2.1) e,congrArg (·.2.2.2.2.2.2.1) e,congrArg (·.2.2.2.2.2.2.2.1) e,congrArg (·.2.2.2.2.2.2.2.2.1) e,congrArg (·.2.2.2.2.2.2.2.2.2.1) e,
  congrArg (·.2.2.2.2.2.2.2.2.2.2.1) e,congrArg (·.2.2.2.2.2.2.2.2.2.2.2.1) e,congrArg (·.2.2.2.2.2.2.2.2.2.2.2.2.1) e,b,congrArg (·.2.2.2.2.2.2.2.2.2.2.2.2.2) e⟩
end
end Mine.Internal
open PySem PySem.W PyProof.Rows
open PySem.W.X PySem.W.ZRun
set_option Elab.async true in
theorem Mine.Internal.hd:PySem.Challenge.rw_xc0012_01.Holds:=by
 w_on;o_law;refine Mine.Internal.qq9 ?_
 k_fill
 intro w s₀ s₁ mg mb G y fa o pm cd doc dV kV ho hd hcd hD hmg hg args vals as L hpre hlay hrd hwl hlo
 z_open y L KX ZH ZN ZT
 refine Ground.open G ?_
 intro T B D TE TW
 wrow_args hpre hlay hrd hwl hlo
 obtain⟨hat,hsz⟩:=script_at L
 have htk:=script_toks L ZT
 rw[ZN] at hat hsz
 subst hat
 x_fa T KX hmg
 have C:=Mine.Internal.MD ZH (open Mine.Internal in ⟨⟨by kernel_rfl,by kernel_rfl,by kernel_rfl⟩,⟨by kernel_rfl,by kernel_rfl,by kernel_rfl⟩,⟨by kernel_rfl,by kernel_rfl,by kernel_rfl⟩,by kernel_rfl,by kernel_rfl,by kernel_rfl,⟨of_decide_eq_true (by kernel_rfl),of_decide_eq_true (by kernel_rfl),of_decide_eq_true (by kernel_rfl)⟩,by kernel_rfl,⟨by kernel_rfl,by kernel_rfl,by kernel_rfl⟩,by kernel_rfl,by kernel_rfl,⟨by kernel_rfl,by kernel_rfl,by kernel_rfl,by kernel_rfl⟩,⟨by kernel_rfl,by kernel_rfl,by kernel_rfl,by kernel_rfl⟩,by decide⟩)
 rename_i hI hr2 hc1 hc2 hL w1 r0
 exact Mine.Internal.core ZH C (open Mine.Internal in {ad:=Vx,fd:=fun i=>fdOf (Qn ZH) (Vx i),b_StopIteration:=by kernel_rfl,b_bytes:=by kernel_rfl,b_dict:=by kernel_rfl,b_divmod:=by kernel_rfl,b_enumerate:=by kernel_rfl,b_hex:=by kernel_rfl,b_int:=by kernel_rfl,b_isinstance:=by kernel_rfl,b_iter:=by kernel_rfl,b_len:=by kernel_rfl,b_list:=by kernel_rfl,b_max:=by kernel_rfl,b_min:=by kernel_rfl,b_next:=by kernel_rfl,b_ord:=by kernel_rfl,b_range:=by kernel_rfl,b_sorted:=by kernel_rfl,b_sum:=by kernel_rfl,b_tuple:=by kernel_rfl,b_zip:=by kernel_rfl,g_CRLF:=by kernel_rfl,u_CRLF:=(.str (Str.ofString "\r\n") (Cr (U8 (Qn ZH) (Str.ofString "CRLF")))),v_CRLF:=fun _ _ _ _=> .intro _ rfl,g_flags:=by kernel_rfl,u_flags:= .ref 74,v_flags:=N4.vr (ks:=[1,2,4,8,16,32,64,128,256,512]) (vs:=[(Str.ofString "OPTIMIZED"),(Str.ofString "NEWLOCALS"),(Str.ofString "VARARGS"),(Str.ofString "VARKEYWORDS"),(Str.ofString "NESTED"),(Str.ofString "GENERATOR"),(Str.ofString "NOFREE"),(Str.ofString "COROUTINE"),(Str.ofString "ITERABLE_COROUTINE"),(Str.ofString "ASYNC_GENERATOR")]) ⟨by kernel_rfl,by kernel_rfl,⟨by kernel_rfl,by kernel_rfl,by kernel_rfl⟩,by kernel_rfl,by kernel_rfl,by kernel_rfl,by kernel_rfl,by kernel_rfl⟩,g_tw1:=by kernel_rfl,p_tw1:=Gw.pat (tup:=92) ⟨by kernel_rfl,by kernel_rfl,by kernel_rfl,by kernel_rfl,by kernel_rfl,by kernel_rfl,by kernel_rfl,by kernel_rfl,by kernel_rfl,by kernel_rfl,by kernel_rfl,by kernel_rfl⟩,g_tw2:=by kernel_rfl,p_tw2:=Gw.pat (tup:=97) ⟨by kernel_rfl,by kernel_rfl,by kernel_rfl,by kernel_rfl,by kernel_rfl,by kernel_rfl,by kernel_rfl,by kernel_rfl,by kernel_rfl,by kernel_rfl,by kernel_rfl,by kernel_rfl⟩,g_tw3:=by kernel_rfl,p_tw3:=Gw.pat (tup:=102) ⟨by kernel_rfl,by kernel_rfl,by kernel_rfl,by kernel_rfl,by kernel_rfl,by kernel_rfl,by kernel_rfl,by kernel_rfl,by kernel_rfl,by kernel_rfl,by kernel_rfl,by kernel_rfl⟩,K:=(fragOf (Qn ZH) SK),cd:=⟨JN (by kernel_rfl),(by kernel_rfl),(by kernel_rfl),(by kernel_rfl),(by kernel_rfl),(by kernel_rfl),(by kernel_rfl),(by kernel_rfl),(by kernel_rfl),(by kernel_rfl),(by kernel_rfl)⟩,g_TupleComp:=by kernel_rfl,m_compare:=by kernel_rfl,t_compare:=by kernel_rfl,fn_TupleComp_init:=nX.fn (nX.of (by kernel_rfl) (sY (fun v0 v1=>by kernel_rfl))),fn_TupleComp_compare:=nX.fn (nX.of (by kernel_rfl) (Gx (fun v0 v1 v2=>by kernel_rfl))),g_add_func_stats:=by kernel_rfl,fn_add_func_stats:=nX.fn (nX.of (by kernel_rfl) (sY (fun v0 v1=>by kernel_rfl))),g_add_callers:=by kernel_rfl,fn_add_callers:=nX.fn (nX.of (by kernel_rfl) (sY (fun v0 v1=>by kernel_rfl))),g_pretty_flags:=by kernel_rfl,fn_pretty_flags:=nX.fn (nX.of (by kernel_rfl) (sa (fun v0=>by kernel_rfl))),g__parse_varint:=by kernel_rfl,fn__parse_varint:=nX.fn (nX.of (by kernel_rfl) (sa (fun v0=>by kernel_rfl))),g_quotedata:=by kernel_rfl,fn_quotedata:=nX.fn (nX.of (by kernel_rfl) (sa (fun v0=>by kernel_rfl))),g__quote_periods:=by kernel_rfl,fn__quote_periods:=nX.fn (nX.of (by kernel_rfl) (sa (fun v0=>by kernel_rfl))),g__fix_eols:=by kernel_rfl,fn__fix_eols:=nX.fn (nX.of (by kernel_rfl) (sa (fun v0=>by kernel_rfl))),g__law_entry:=by kernel_rfl,fn__law_entry:=nX.fn (nX.of (by kernel_rfl) (sa (fun v0=>by kernel_rfl))),g__law_row:=by kernel_rfl,fn__law_row:=nX.fn (nX.of (by kernel_rfl) (sa (fun v0=>by kernel_rfl))),g__law_code:=by kernel_rfl,fn__law_code:=nX.fn (nX.of (by kernel_rfl) (sY (fun v0 v1=>by kernel_rfl))),g__law_due:=by kernel_rfl,fn__law_due:=nX.fn (nX.of (by kernel_rfl) (QH (fun v0 v1 v2 v3=>by kernel_rfl))),g__law_read:=by kernel_rfl,fn__law_read:=nX.fn (nX.of (by kernel_rfl) (sa (fun v0=>by kernel_rfl))),g__law_apexes:=by kernel_rfl,fn__law_apexes:=nX.fn (nX.of (by kernel_rfl) (sY (fun v0 v1=>by kernel_rfl))),g__law_mail:=by kernel_rfl,fn__law_mail:=nX.fn (nX.of (by kernel_rfl) (Gx (fun v0 v1 v2=>by kernel_rfl))),g__law_octets:=by kernel_rfl,fn__law_octets:=nX.fn (nX.of (by kernel_rfl) (sY (fun v0 v1=>by kernel_rfl))),g__law_run:=by kernel_rfl,fn__law_run:=nX.fn (nX.of (by kernel_rfl) (Gx (fun v0 v1 v2=>by kernel_rfl))),g_law:=by kernel_rfl,fn_law:=nX.fn (nX.of (by kernel_rfl) (sa (fun v0=>by kernel_rfl)))}) rfl hg (script_obj L hL) hI (Mine.Internal.plain (by omega)) fun s' ho hos hb=>Mine.Internal.Gy (by intros;rfl) (by first|rfl|kernel_rfl) ho hos hb
theorem PySem.Challenge.cw_xc0012_01_holds : PySem.Challenge.rw_xc0012_01.Holds :=
 Mine.Internal.hd
