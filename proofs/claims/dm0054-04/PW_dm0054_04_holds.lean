import PyProof.Rows.All
import Wide.All
import OpenK.AllK
import Wide.FinOn
import KE.KSetInts
import PySem.Challenge.RW_dm0054_04
set_option compiler.extract_closed false
set_option maxRecDepth 100000
set_option maxHeartbeats 0
set_option Elab.async false
set_option linter.all false
set_option tactic.hygienic false
set_option bootstrap.genMatcherCode false
set_option genSizeOf false
set_option genInjectivity false
set_option genCtorIdx false
namespace Internal
end Internal
open Internal
section
open And renaming intro→av
open Array renaming getD→o9,any→WX,forIn_toList→YC,size_push→YK
open Array.Perm renaming refl→CM
open Bool renaming false_eq_true→jO,false_ne_true→kI,and_eq_true_iff→oV,or_false→KO,noConfusion→Xi,or_eq_false_iff→X0,not_true→YA,and_true→YF,true_and→YG
open Char renaming toNat→JN
open Classical renaming byContradiction→Co,not_not→KQ
open Eq renaming substr→ae,symm→cB,trans→JT
open Exists renaming intro→gB
open False renaming elim→Xf
open HAdd renaming hAdd→m8
open Int renaming ofNat_lt→de,le_refl→er,le_antisymm→eK,not_lt→gn,le_trans→iT,toNat_of_nonneg→jh,not_le→jI,toNat_natCast→jK,lt_or_gt_of_ne→kC,add_zero→lO,ofNat_le→m9,natCast_nonneg→nf,zero_add→qr,ne_of_gt→qt,le_of_eq→sR,le_of_lt→sT,lt_irrefl→w5,mul_zero→Cb,mul_add→Cc,one_mul→Ce,emod_nonneg→Cf,lt_of_le_of_lt→Cj,emod_lt_of_pos→C4,add_mul→JR,zero_mul→JS,ofNat→JV,add_assoc→W3,mul_assoc→W4,mul_comm→W5,mul_nonpos_of_nonneg_of_nonpos→W6,lt_of_lt_of_le→Xx
open Int.ofNat renaming inj→sV
open List renaming append_assoc→aH,length_append→aJ,append_nil→bt,mem_append_right→bx,map_append→bG,forall_mem_cons→bH,length_map→bK,mem_map→bL,mem_append_left→bO,nodup_cons→cu,mem_append→cF,forall_mem_singleton→cR,mem_cons→cU,perm_append_comm_assoc→cV,replicate→c9,mem_singleton→dk,length_cons→dA,getElem?_eq_getElem→eu,size_toArray→eN,map_cons→eU,getD_eq_getElem?_getD→eX,getElem?_eq_some_iff→fH,nodup_append→fJ,nil_append→gv,nodup_nil→iw,mem_of_getElem?→jQ,range→kA,range'→kB,length_drop→kD,cons→kE,getElem?_map→kF,flatMap_append→lQ,map→lX,sum_cons→nh,perm_middle→nk,cons_ne_nil→nr,flatMap_cons→ny,length_take→oX,length_singleton→oZ,take→o7,getElem?_set_ne→pd,foldl_cons→qx,length_pos_iff→qy,mem_cons_of_mem→qA,drop→qL,getElem?_toArray→qN,all_eq_true→qQ,length_set→qR,map_map→sX,forIn_cons→s8,set_getElem_self→ta,flatMap_singleton→wz,length_nil→wB,getElem?_append_right→wF,getElem?_append_left→wG,replicate_succ→wJ,take_of_length_le→w4,mem_range→xa,pairwise_singleton→Cs,mem_filterMap→Cv,cons_append→Cw,find?_cons→CB,filterMap_cons→CP,getElem?_set_self→CT,length_reverse→CX,map_drop→C2,flatMap_nil→C3,getElem?_eq_none→JW,length→JX,getElem_mem→JY,pairwise_iff_getElem→JZ,perm_append_comm→J1,replicate_succ'→J4,append_eq_nil_iff→J5,any_cons→J9,drop_zero→Ke,toArray→Kn,getElem?_inj→Ko,pairwise_map→Kr,length_range→Ks,flatten_cons→Kx,map_id→KC,reverse_cons→KH,length_eq_zero_iff→KI,range_succ→W8,filter_append→W9,length_filter_le→Xa,map_nil→Xb,range'_succ→Xc,filter_cons→Xe,range_eq_range'→Xg,getElem?_drop→Xk,ext_getElem→Xm,take_append_drop→Xn,getElem_of_mem→Xo,drop_left→Xq,take_left→Xr,filterMap_append→Xs,pairwise_cons→Xu,exists_cons_of_ne_nil→Xv,take_length→Xw,map_eq_append_iff→Xy,map_eq_cons_iff→Xz,drop_eq_getElem_cons→XN,foldl→X1,append_of_mem→X4,singleton_append→X5,zip_eq_zipWith→Yj,drop_eq_nil_of_le→Yo,of_mem_zip→Yv,forIn_nil→YB,take_add_one→YH,map_take→YI,concat_eq_append→YL
open List.Pairwise renaming imp_of_mem→Zk,imp→Zl
open List.Perm renaming append_left→sW
open List.cons renaming inj→wI
open Nat renaming le_trans→az,le_refl→aI,le_of_ble_eq_true→aL,sub_add_cancel→aT,le_add_right→bc,zero_le→bh,le_antisymm→bJ,lt_of_le_of_lt→cb,zero_add→cQ,succ_le_succ→cY,le_of_eq→dH,lt_of_lt_of_le→dT,not_le→ee,ne_of_lt→ef,le_of_lt→et,add_assoc→eV,lt_trans→eY,add_right_comm→gp,le_succ→gq,le_succ_of_le→gw,add_le_add→gy,lt_irrefl→ij,add_comm→iU,add_le_add_left→iV,succ→jj,not_lt→jJ,max_le→jL,lt_succ_self→lP,ne_of_gt→lR,le_max_left→lS,lt_or_gt_of_ne→ng,le_of_lt_succ→ni,lt_or_eq_of_le→nq,le_max_right→nv,le_add_left→oW,min_eq_left→oY,le_of_succ_le_succ→qu,add_sub_cancel_left→qv,add_le_add_right→qw,lt_succ_of_lt→qz,mul_le_mul_left→qC,succ_pos→sS,lt_succ_of_le→sU,not_lt_zero→wx,sub_self→wA,succ_lt_succ→wC,max_eq_left→wH,succ_ne_self→w8,lt_of_succ_lt_succ→w9,beq→B5,le_zero→Ck,add_sub_cancel'→Cm,zero_lt_succ→Cp,add_lt_add_left→Cq,le_of_succ_le→Cr,max_self→Cu,le_of_not_lt→CK,lt_add_of_pos_right→JU,sub_le→J0,max_eq_right→J2,max_assoc→J3,lt_asymm→Kq,min_eq_right→KP,eq_of_beq_eq_true→WY,exists_eq_add_of_le→W7,not_succ_le_zero→Xh,not_le_of_lt→Xj,lt_trichotomy→Xl,sub_zero→Xp,le_mul_of_pos_left→XA,not_lt_of_le→XW,lt_of_succ_lt→XX,div_mul_le_self→XY,lt_of_not_le→Yz,sub_eq_zero_of_le→YJ
open Nat.succ renaming inj→ji
open Ne renaming symm→kK
open Option renaming none→ig,map→B9,map_map→Ca,bind→Ky,some→XB,isSome_none→XF,map_some→XI,map_eq_some_iff→YM,bind_some→YN
open Option.some renaming inj→dC
open Prod renaming fst→gO,snd→jM
open Prod.mk renaming inj→qB
open PyProof.Rows renaming News→aW,seqObj→ew,args_cons→jl,args_nil→lW,Call_→pb,envOf→wO,IsTupIter→wW,slot_tupleiter_next→wX,callWith_method1→xe,bubble→CL,subscriptTail→CO,assignInOrder_cons→CU,Attribute_Name_→CV,Assign_Tuple→CW,bubble_perm→Km,sortedHeap→Kt,get?_update_seq→Ku,assignInOrder_nil→KD,entry_tupleiter_next→XJ,args_tupleiter_next→XK,slot_tuple_iter→XO,callWith_method0→Ys,slot_list_sort→Yw,entry_list_sort→Yx,args_list_sort→Yy,slot_tuple_len→YD,getItem_tuple→Zm,callWith_type1→Zn,slot_list_sort→Zo,ldn→Zp,lt_int→Zq
open PySem renaming Value→af,PyData→ag,Str→ai,Shared→aj,Addr→ao,Heap→ar,Obj→ay,wpAny_bind→aC,Pos→aE,wpAny→aF,Params→aG,model→aO,World→aR,wpAny_pure→bA,Program→bT,Builtin→bZ,Around→cD,sizeLine→cE,Env→cL,Stmt→cP,exec→cZ,eval→dg,OsState→dG,Tok→dS,DictEntry→d4,clipAt→d5,Flow→eE,wpAny_holding→eM,Code→eT,execs→fI,starEach→fK,wpAny_mono→fX,Sem→fY,codeAny→gz,assign→gA,Scope→gN,bindArgs→gP,typeLookup→ik,intKind→ip,assignEach→iq,backTo→iu,isSubtype→iW,Result→iX,wpAny_call→iY,mainGlobals→iZ,typeOf→jk,typeLookup_type→kG,builtinLookup_eq_fast→kH,pyNext→kJ,Operator→kL,CmpOp→kM,seqIndex?→kN,isSubtype_type→lT,codeAny_call_builtin→nA,getAttr→nB,Model→nE,pyIter→nF,argsOk→o4,ExcName→o5,specialOf→o6,cLine→o8,BindsTo→qE,isType→qF,isInstance→qG,wpAny_call_entry→qI,field→qJ,wpAny_field→qK,spliced→qO,compEnvC→qP,recursionLimit→sY,builtinKind→sZ,sysModules→s6,intKind_is→s7,assignInOrder→s9,sliceBounds→td,setItem→th,swappedStores→tn,entryFor→wK,GenState→wM,Fin→wN,checkBoundCall→wQ,newObj→wR,wpAny_seqItems→wY,rawInt→wZ,wpAny_truthy_bool→w6,Reads→xb,storeName→xc,wpAny_updateSeq→xd,wpAny_Expr_any→xf,treeTable→B6,Arguments→B7,FuncData→B8,callAny→Cz,codeAny_builtin→CA,splitId→CD,checkBuiltinCall→CE,bindSpecial→CF,wpAny_attempt→CG,wpAny_callSpecial?_slot→CH,wpAny_newObj_type→CI,wpAny_eqBool_int→CJ,getItem→CN,slicePick→CQ,callWith→CR,behindInMarks→CS,updateSeq→CZ,entryFor_of_tree→J6,plainId_quiet→J7,wpAny_tryCatch→J8,newTuple→Kb,wpAny_of_eq→Kc,wpAny_standAt→Kg,wpAny_ite_split→Kh,sizeLine_eq→Kv,binaryOp→Kw,bootBuiltins→Kz,NameKind→KA,wpAny_Assign_Name→KG,wpAny_Assign_two→KJ,codeAny_call_def→XC,codeAny_of_tree→XD,meets_dict_get_default→XE,wpAny_execs_nil→XG,wpAny_loadPart→XH,wpAny_setField→XM,bindSpecialIfBound?→XQ,firstArgMember→XR,wpAny_isInstance→XS,isSubtype_stop→XT,wpAny_newTuple→XZ,wpAny_isSame_plain→X2,slot_list_getitem→X3,wpAny_Constant_int→X6,evalPart_none_step→X7,foldedSetIterable→X8,closureFor_none→X9,methodCallForm→Yb,wpAny_loadPart'→Yc,getMethod_builtin→Ye,constantsAlone→Yi,letOwnedTupleGo→Yp,wpAny_pyIter_list→Yq,stored_length_le→Yr,wpAny_specialOf→YE
open PySem.Calls renaming Name_function_global→Yu
open PySem.Challenge renaming rw_dm0054_04→qH,pw_dm0054_04→Zi
open PySem.F renaming slot_tuple_lt→XU,slot_list_extend→Yd,plainAttrs_dict→Yg,slot_dict_get→Yh,slot_list_append→Yk,type_list_append→Yl,slot_list_pop→Ym,type_list_pop→Yn,slot_dict_setdefault→Yt
open PySem.W renaming Looks→bz,dictOf→fj,codeIn→fW,instObj→fZ,hideAll→il,Frag→iS,fnOf→jN,looseW→jP,KasT→lU,handedIn→lV,nsIn→lY,boot_heap→m7,kHook→nG,kas_rev→qM,TurnsAt→qS,findIn→qT,topFrame→wu,emptyDict→wU,check_slot→wV,kas_sort→w7,listMethod_K→xg,topStub→xh,topRun→xi,hideAll_get→Cy,looks_findIn→CC,keepIn→CY,boot_drawn→JO,openSeen→JP,openGood→JQ,looks_subIn→Ka,kas_tail3→Ki,kas_count→Kj,kas_place→Kk,plainGet→KN
open PySem.W.Fast renaming tw4202317264376624991→sQ,te14364793385576792824→W2,tw14364793385576792824→Zh,ofString_ofList→Zj
open PySem.W.S renaming eqLit→WZ
section
open PySem PySem.W
namespace Mine
noncomputable def C5 {α:Type}(a:Array α) (p:α→Bool) (start:Nat:=0) (J:Nat:=a.size):Bool:=
 @Bool.rec (λzz=>Bool) (WX a p start J) (R.anyR a.toList p) (B5 start 0 && B5 J a.size)
theorem any_eq:@WX.{0}=@C5:=by
 funext α a p s t;unfold C5;cases h:(B5 s 0 && B5 t a.size) with
 |false=>rfl
 |true=>
  simp only [Bool.and_eq_true] at h;have J:=WY h.1;have V:=WY h.2;subst J V;refine (?_:_=R.anyR a.toList p);refine ae (R.anyR_eq ..).symm ?_;simp
structure Carry (a:bZ):Type where
 u:Unit
noncomputable def Carry.get {a:bZ}(_:Carry a):bZ:=a
noncomputable def xj:bZ:=by
 have c:Carry sQ:=⟨()⟩
 delta sQ at c
 exact (any_eq▸c).get
theorem KR:sQ=xj:=by
 have h:sQ=sQ:=rfl
 conv at h=>
  rhs
  delta sQ
 rw [any_eq] at h;exact h
noncomputable def tb (n:String):Option bZ:=
 @Bool.rec (λzz=>Option bZ) (Zh n) (some xj) (WZ 29827186395103491166823348853 n)
theorem KU:B6=tb:=by
 funext n;have e:(n == "type.__new__")=WZ 29827186395103491166823348853 n:=congrFun (PySem.W.S.eqLit_eq "type.__new__" 29827186395103491166823348853 (by decide +kernel)) n
 unfold tb;refine ae (e ..).symm ?_;cases h:(n == "type.__new__") with
 |false=>exact congrFun W2 n
 |true=>
  have J:n="type.__new__":=beq_iff_eq.mp h;subst J;refine (?_:B6 "type.__new__"=some xj);refine ae (KR ..).symm ?_;exact (congrFun W2 _).trans (by kernel_rfl!)
end Mine
end
section
open PySem PySem.W PyProof.Rows
namespace Mine
noncomputable section
noncomputable def pw:bT:=Zi
noncomputable def gQ:aE:=⟨0,0,0,0⟩
noncomputable def top (i:Nat):cP:=(pw.main.body[i]?).getD (.Pass gQ)
noncomputable def C6:cP→List cP
 |.ClassDef _ _ _ b ..=>b
 |_=>[]
noncomputable def mem (i j:Nat):cP:=((C6 (top i))[j]?).getD (.Pass gQ)
noncomputable def qU:cP→List cP
 |.FunctionDef _ _ b ..=>b
 |_=>[]
noncomputable def pf:cP→gN
 |.FunctionDef _ _ _ _ _ _ s ..=>s
 |_=>default
noncomputable def tq:cP→B7
 |.FunctionDef _ a ..=>a
 |_=>default
noncomputable def fnName:cP→ai
 |.FunctionDef n ..=>n
 |_=>ai.empty
noncomputable def C7:List cP→ai
 |.Expr (.Constant (.str d) _ _) _::_=>d
 |_=>ai.empty
noncomputable def dO (st:cP) (t:dS):af:=.str (C7 (qU st)) t
noncomputable def lZ:ai:=C7 (C6 (top 5))
structure C8 (s:ai):Type where
 l:List Char
 h:s=⟨(l.map JN).toArray⟩
theorem KV (s:String) (l:List Char) (h:String.ofList l=s):ai.ofString s=⟨(l.map JN).toArray⟩:=by subst h;exact Zj l
noncomputable def C9:C8 lZ:=by
 delta lZ
 refine C8.mk ?l ?h
 case h=>
  refine KV ?s ?l ?g
  case g=>exact rfl
noncomputable def f5:ai:=⟨(C9.l.map JN).toArray⟩
theorem KW:lZ=f5:=C9.h
noncomputable def KY (d:ai):cP→cP
 |.ClassDef n bs J (.Expr (.Constant (.str _) k p) V::r) ds tp sc ts bi W pos=>.ClassDef n bs J (.Expr (.Constant (.str d) k p) V::r) ds tp sc ts bi W pos
 |s=>s
noncomputable def xl (d:ai):List cP:=pw.main.body.take 5++KY d (top 5)::pw.main.body.drop 6
noncomputable def tu (d:ai):bT:={pw with main:={pw.main with body:=xl d}}
noncomputable def KZ (d:ai) (i:Nat):cP:=((xl d)[i]?).getD (.Pass gQ)
noncomputable def fdOf (st:cP) (qual:ai) (g:ao) (cl:List (ai×ao)) (dV kV doc pm:af) (an:Option ao) (cd ct:af) (b:ao):B8:=
 {name:=fnName st,qualname:=qual,params:=tq st,body:=.stmts (qU st),scope:=pf st,globals:=g,closure:=cl,defaults:=dV,kwdefaults:=kV,doc:=doc,pyModule:=pm,annotations:=an,code:=cd,closureTuple:=ct,builtins:=b}
noncomputable def K2:ay:={cls:=af.type "tuple",data:=Data.seq #[]}
noncomputable def K3:ay:={cls:=af.none,data:=Data.fields #[]}
noncomputable def K4:ay:={cls:=af.type "code",data:=Data.fields #[af.str "<module>" 182,af.str "<module>" 183,af.str "/claim/cut.py" 184,af.int 1 0,af.int 0 0,af.int 0 0,af.int 0 0,af.int 0 0,af.ref 11,af.bool false,
    af.int 181 0,af.ref 12,af.none,af.none,af.none,af.none,af.int 185 0,af.int 1 0,af.str "/claim/cut.py" 186]}
noncomputable def K5:ay:={cls:=af.type "frame",slots:=#[some (af.ref 13),some (af.ref 3),some (af.ref 3),none,some (af.str "__main__" 164),none,some (af.ref 0)]}
noncomputable def K6 (P:aG):BT:=(BT.node (boot_o_0 P) (BT.node (boot_o_1 P) (BT.node (boot_o_3 P) (BT.node (boot_o_7 P) .nil .nil) (BT.node (K2) .nil .nil)) (BT.node (boot_o_5 P) (BT.node (boot_o_9 P) .nil .nil) (BT.node (K4) .nil .nil))) (BT.node (boot_o_2 P) (BT.node (boot_o_4 P) (BT.node (boot_o_8 P) .nil .nil) (BT.node (K3) .nil .nil)) (BT.node (boot_o_6 P) (BT.node (boot_o_10 P) .nil .nil) (BT.node (K5) .nil .nil))))
noncomputable def qV (w:aR) (os:dG):SharedT:=⟨K6 w.params,15,{},#[],JO,187,os⟩
noncomputable def i4:cL:={scope:=pw.main.scope,locals:=mainNs,globals:=mainNs,cells:=[],code:=.ref 13,frame:=some 14}
noncomputable def fk:eT:=.body pw.main.body i4
noncomputable def q:bT:={pw with main:={pw.main with body:=[0,2,3,4,5,7,8,9,10,11,12].map top}}
noncomputable def qD (d:ai):bT:={pw with main:={pw.main with body:=[0,2,3,4,5,7,8,9,10,11,12].map (KZ d)}}
noncomputable def loose:List ai:=["_tuplegetter","Match","SequenceMatcher"]
noncomputable def xt (s:aj):Bool:=xlAt q [] s && recOk [] s
noncomputable def k2 (P:aG):ay:=⟨.none,none,.dict #[] 0,#[]⟩
noncomputable def k3 (P:aG):ay:=⟨(.type "dict"),none,.dict #[⟨ag.keyHash P "__name__",(.str "__name__" 165),(.str "law_dm0054_04" 583)⟩,⟨ag.keyHash P "__doc__",(.str "__doc__" 166),.none⟩,⟨ag.keyHash P "__package__",(.str "__package__" 167),.none⟩,⟨ag.keyHash P "__loader__",(.str "__loader__" 168),(.builtin "__main__.__loader__#opaque")⟩,⟨ag.keyHash P "__spec__",(.str "__spec__" 169),.none⟩,⟨ag.keyHash P "__annotations__",(.str "__annotations__" 170),(.ref 6)⟩,⟨ag.keyHash P "__builtins__",(.str "__builtins__" 171),(.ref 4)⟩,⟨ag.keyHash P "__file__",(.str "__file__" 173),(.str "/claim/cut.py" 172)⟩,⟨ag.keyHash P "__cached__",(.str "__cached__" 174),.none⟩,⟨ag.keyHash P "_wall",(.str "_wall" 193),(.ref 21)⟩,⟨ag.keyHash P "_tuplegetter",(.str "_tuplegetter" 252),(.ref 60)⟩,⟨ag.keyHash P "Match",(.str "Match" 380),(.ref 135)⟩,⟨ag.keyHash P "_calculate_ratio",(.str "_calculate_ratio" 388),(.ref 145)⟩,⟨ag.keyHash P "SequenceMatcher",(.str "SequenceMatcher" 582),(.ref 242)⟩,⟨ag.keyHash P "_law_cells",(.str "_law_cells" 607),(.ref 253)⟩,⟨ag.keyHash P "_law_settle",(.str "_law_settle" 616),(.ref 260)⟩,⟨ag.keyHash P "_law_walk",(.str "_law_walk" 622),(.ref 265)⟩,⟨ag.keyHash P "_law_changes",(.str "_law_changes" 642),(.ref 272)⟩,⟨ag.keyHash P "_law_merge",(.str "_law_merge" 648),(.ref 277)⟩,⟨ag.keyHash P "law",(.str "law" 654),(.ref 282)⟩] 20,#[]⟩
noncomputable def xm (P:aG):ay:=⟨(.type "code"),none,.fields #[(.str "__new__" 274),(.str "Match.__new__" 275),(.str "/claim/cut.py" 276),(.int (29) 0),(.int (4) 0),(.int (0) 0),(.int (0) 0),(.int (3) 0),(.ref 76),(.bool true),(.int (181) 0),(.ref 77),.none,(.ref 78),(.ref 79),(.ref 80),(.int (281) 0),(.int (29) 0),(.str "/claim/cut.py" 282)],#[]⟩
noncomputable def xo (P:aG):ay:=⟨(.type "function"),none,.func (fdOf (mem 3 4) "Match.__new__" 3 [] .none .none (dO (mem 3 4) 283) (.str "cpy313.difflib" 194) none (.ref 81) .none 0),#[]⟩
noncomputable def xq (P:aG):ay:=⟨(.type "code"),none,.fields #[(.str "_make" 285),(.str "Match._make" 286),(.str "/claim/cut.py" 287),(.int (33) 0),(.int (2) 0),(.int (0) 0),(.int (0) 0),(.int (3) 0),(.ref 83),(.bool true),(.int (181) 0),(.ref 84),.none,(.ref 85),(.ref 86),(.ref 87),(.int (291) 0),(.int (33) 0),(.str "/claim/cut.py" 292)],#[]⟩
noncomputable def xu (P:aG):ay:=⟨(.type "function"),none,.func (fdOf (mem 3 5) "Match._make" 3 [] .none .none (dO (mem 3 5) 293) (.str "cpy313.difflib" 194) (some 92) (.ref 88) .none 0),#[]⟩
noncomputable def xw (P:aG):ay:=⟨(.type "classmethod"),(some 90),.fields #[(.ref 89),(.bool false)],#[]⟩
noncomputable def xx (P:aG):ay:=⟨(.type "dict"),none,.dict #[⟨ag.keyHash P "__module__",(.str "__module__" 260),(.str "cpy313.difflib" 194)⟩,⟨ag.keyHash P "__firstlineno__",(.str "__firstlineno__" 264),(.int (23) 263)⟩,⟨ag.keyHash P "__doc__",(.str "__doc__" 266),(.str "Match(a, b, size)" 265)⟩,⟨ag.keyHash P "__slots__",(.str "__slots__" 268),(.ref 73)⟩,⟨ag.keyHash P "_fields",(.str "_fields" 272),(.ref 74)⟩,⟨ag.keyHash P "_field_defaults",(.str "_field_defaults" 273),(.ref 75)⟩,⟨ag.keyHash P "__new__",(.str "__new__" 284),(.ref 136)⟩,⟨ag.keyHash P "_make",(.str "_make" 306),(.ref 91)⟩,⟨ag.keyHash P "_replace",(.str "_replace" 317),(.ref 100)⟩,⟨ag.keyHash P "__replace__",(.str "__replace__" 318),(.ref 100)⟩,⟨ag.keyHash P "__repr__",(.str "__repr__" 326),(.ref 107)⟩,⟨ag.keyHash P "_asdict",(.str "_asdict" 333),(.ref 114)⟩,⟨ag.keyHash P "__getnewargs__",(.str "__getnewargs__" 341),(.ref 121)⟩,⟨ag.keyHash P "__match_args__",(.str "__match_args__" 345),(.ref 122)⟩,⟨ag.keyHash P "a",(.str "a" 355),(.ref 124)⟩,⟨ag.keyHash P "b",(.str "b" 365),(.ref 127)⟩,⟨ag.keyHash P "size",(.str "size" 375),(.ref 130)⟩,⟨ag.keyHash P "__static_attributes__",(.str "__static_attributes__" 376),(.ref 132)⟩] 2,#[]⟩
noncomputable def tw (P:aG):ay:=⟨(.type "type"),none,.cls {name:="Match",bases:=[(.type "tuple")],mro:=[(.ref 135),(.type "tuple"),(.type "object")],ns:=134,qualname:="Match",hasDict:=false,slotNames:=[],subclasses:=[],abstract:=false,collection:=none,hasDel:=false},#[(some (.ref 65)),none,(some (.str "Match" 253)),(some (.str "Match" 261)),(some .none),(some (.bool false))]⟩
noncomputable def xy (P:aG):ay:=⟨(.type "staticmethod"),none,.fields #[(.ref 82)],#[]⟩
noncomputable def tA (P:aG):ay:=⟨(.type "tuple"),none,.seq #[.none,(.str "" 404),(.str "" 405),(.bool true)] 0,#[]⟩
noncomputable def xA (P:aG):ay:=⟨(.type "code"),none,.fields #[(.str "__init__" 406),(.str "SequenceMatcher.__init__" 407),(.str "/claim/cut.py" 408),(.int (145) 0),(.int (5) 0),(.int (0) 0),(.int (0) 0),(.int (3) 0),(.ref 154),(.bool true),(.int (181) 0),(.ref 155),.none,(.ref 156),(.ref 157),(.ref 158),(.int (414) 0),(.int (145) 0),(.str "/claim/cut.py" 415)],#[]⟩
noncomputable def xB (P:aG):ay:=⟨(.type "function"),none,.func (fdOf (mem 5 1) "SequenceMatcher.__init__" 3 [] (.ref 153) .none (dO (mem 5 1) 416) (.str "cpy313.difflib" 194) none (.ref 159) .none 0),#[]⟩
noncomputable def xC (P:aG):ay:=⟨(.type "code"),none,.fields #[(.str "set_seqs" 418),(.str "SequenceMatcher.set_seqs" 419),(.str "/claim/cut.py" 420),(.int (173) 0),(.int (3) 0),(.int (0) 0),(.int (0) 0),(.int (3) 0),(.ref 161),(.bool true),(.int (181) 0),(.ref 162),.none,(.ref 163),(.ref 164),(.ref 165),(.int (424) 0),(.int (173) 0),(.str "/claim/cut.py" 425)],#[]⟩
noncomputable def xD (P:aG):ay:=⟨(.type "function"),none,.func (fdOf (mem 5 2) "SequenceMatcher.set_seqs" 3 [] .none .none (dO (mem 5 2) 426) (.str "cpy313.difflib" 194) none (.ref 166) .none 0),#[]⟩
noncomputable def xE (P:aG):ay:=⟨(.type "code"),none,.fields #[(.str "set_seq1" 428),(.str "SequenceMatcher.set_seq1" 429),(.str "/claim/cut.py" 430),(.int (184) 0),(.int (2) 0),(.int (0) 0),(.int (0) 0),(.int (3) 0),(.ref 168),(.bool true),(.int (181) 0),(.ref 169),.none,(.ref 170),(.ref 171),(.ref 172),(.int (433) 0),(.int (184) 0),(.str "/claim/cut.py" 434)],#[]⟩
noncomputable def xF (P:aG):ay:=⟨(.type "function"),none,.func (fdOf (mem 5 3) "SequenceMatcher.set_seq1" 3 [] .none .none (dO (mem 5 3) 435) (.str "cpy313.difflib" 194) none (.ref 173) .none 0),#[]⟩
noncomputable def xG (P:aG):ay:=⟨(.type "code"),none,.fields #[(.str "set_seq2" 437),(.str "SequenceMatcher.set_seq2" 438),(.str "/claim/cut.py" 439),(.int (209) 0),(.int (2) 0),(.int (0) 0),(.int (0) 0),(.int (3) 0),(.ref 175),(.bool true),(.int (181) 0),(.ref 176),.none,(.ref 177),(.ref 178),(.ref 179),(.int (442) 0),(.int (209) 0),(.str "/claim/cut.py" 443)],#[]⟩
noncomputable def xH (P:aG):ay:=⟨(.type "function"),none,.func (fdOf (mem 5 4) "SequenceMatcher.set_seq2" 3 [] .none .none (dO (mem 5 4) 444) (.str "cpy313.difflib" 194) none (.ref 180) .none 0),#[]⟩
noncomputable def xI (P:aG):ay:=⟨(.type "code"),none,.fields #[(.str "__chain_b" 446),(.str "SequenceMatcher.__chain_b" 447),(.str "/claim/cut.py" 448),(.int (236) 0),(.int (1) 0),(.int (0) 0),(.int (0) 0),(.int (3) 0),(.ref 182),(.bool true),(.int (181) 0),(.ref 183),.none,(.ref 184),(.ref 185),(.ref 186),(.int (461) 0),(.int (236) 0),(.str "/claim/cut.py" 462)],#[]⟩
noncomputable def xJ (P:aG):ay:=⟨(.type "function"),none,.func (fdOf (mem 5 5) "SequenceMatcher.__chain_b" 3 [] .none .none .none (.str "cpy313.difflib" 194) none (.ref 187) .none 0),#[]⟩
noncomputable def tB (P:aG):ay:=⟨(.type "tuple"),none,.seq #[(.int (0) 464),.none,(.int (0) 465),.none] 0,#[]⟩
noncomputable def xK (P:aG):ay:=⟨(.type "code"),none,.fields #[(.str "find_longest_match" 466),(.str "SequenceMatcher.find_longest_match" 467),(.str "/claim/cut.py" 468),(.int (260) 0),(.int (5) 0),(.int (0) 0),(.int (0) 0),(.int (3) 0),(.ref 190),(.bool true),(.int (181) 0),(.ref 191),.none,(.ref 192),(.ref 193),(.ref 194),(.int (488) 0),(.int (260) 0),(.str "/claim/cut.py" 489)],#[]⟩
noncomputable def xM (P:aG):ay:=⟨(.type "function"),none,.func (fdOf (mem 5 6) "SequenceMatcher.find_longest_match" 3 [] (.ref 189) .none (dO (mem 5 6) 490) (.str "cpy313.difflib" 194) none (.ref 195) .none 0),#[]⟩
noncomputable def xN (P:aG):ay:=⟨(.type "code"),none,.fields #[(.str "get_matching_blocks" 492),(.str "SequenceMatcher.get_matching_blocks" 493),(.str "/claim/cut.py" 494),(.int (335) 0),(.int (1) 0),(.int (0) 0),(.int (0) 0),(.int (3) 0),(.ref 197),(.bool true),(.int (181) 0),(.ref 198),.none,(.ref 199),(.ref 200),(.ref 201),(.int (515) 0),(.int (335) 0),(.str "/claim/cut.py" 516)],#[]⟩
noncomputable def xO (P:aG):ay:=⟨(.type "function"),none,.func (fdOf (mem 5 7) "SequenceMatcher.get_matching_blocks" 3 [] .none .none (dO (mem 5 7) 517) (.str "cpy313.difflib" 194) none (.ref 202) .none 0),#[]⟩
noncomputable def xP (P:aG):ay:=⟨(.type "code"),none,.fields #[(.str "get_opcodes" 519),(.str "SequenceMatcher.get_opcodes" 520),(.str "/claim/cut.py" 521),(.int (383) 0),(.int (1) 0),(.int (0) 0),(.int (0) 0),(.int (3) 0),(.ref 204),(.bool true),(.int (181) 0),(.ref 205),.none,(.ref 206),(.ref 207),(.ref 208),(.int (530) 0),(.int (383) 0),(.str "/claim/cut.py" 531)],#[]⟩
noncomputable def xQ (P:aG):ay:=⟨(.type "function"),none,.func (fdOf (mem 5 8) "SequenceMatcher.get_opcodes" 3 [] .none .none (dO (mem 5 8) 532) (.str "cpy313.difflib" 194) none (.ref 209) .none 0),#[]⟩
noncomputable def Dc (d:ai) (P:aG):ay:=⟨(.type "dict"),none,.dict #[⟨ag.keyHash P "__module__",(.str "__module__" 396),(.str "cpy313.difflib" 194)⟩,⟨ag.keyHash P "__firstlineno__",(.str "__firstlineno__" 400),(.int (70) 399)⟩,⟨ag.keyHash P "__doc__",(.str "__doc__" 402),.str d 401⟩,⟨ag.keyHash P "__init__",(.str "__init__" 417),(.ref 160)⟩,⟨ag.keyHash P "set_seqs",(.str "set_seqs" 427),(.ref 167)⟩,⟨ag.keyHash P "set_seq1",(.str "set_seq1" 436),(.ref 174)⟩,⟨ag.keyHash P "set_seq2",(.str "set_seq2" 445),(.ref 181)⟩,⟨ag.keyHash P "_SequenceMatcher__chain_b",(.str "_SequenceMatcher__chain_b" 463),(.ref 188)⟩,⟨ag.keyHash P "find_longest_match",(.str "find_longest_match" 491),(.ref 196)⟩,⟨ag.keyHash P "get_matching_blocks",(.str "get_matching_blocks" 518),(.ref 203)⟩,⟨ag.keyHash P "get_opcodes",(.str "get_opcodes" 533),(.ref 210)⟩,⟨ag.keyHash P "get_grouped_opcodes",(.str "get_grouped_opcodes" 542),(.ref 218)⟩,⟨ag.keyHash P "ratio",(.str "ratio" 551),(.ref 225)⟩,⟨ag.keyHash P "quick_ratio",(.str "quick_ratio" 558),(.ref 232)⟩,⟨ag.keyHash P "real_quick_ratio",(.str "real_quick_ratio" 565),(.ref 239)⟩,⟨ag.keyHash P "__static_attributes__",(.str "__static_attributes__" 576),(.ref 240)⟩,⟨ag.keyHash P "__dict__",(.str "__dict__" 578),(.ref 243)⟩,⟨ag.keyHash P "__weakref__",(.str "__weakref__" 580),(.ref 244)⟩] 3,#[]⟩
noncomputable def Dd (P:aG):ay:=Dc lZ P
noncomputable def xR (P:aG):ay:=⟨(.type "type"),none,.cls {name:="SequenceMatcher",bases:=[(.type "object")],mro:=[(.ref 242),(.type "object")],ns:=241,qualname:="SequenceMatcher",hasDict:=true,slotNames:=[],subclasses:=[],abstract:=false,collection:=none,hasDel:=false},#[none,none,(some (.str "SequenceMatcher" 389)),(some (.str "SequenceMatcher" 397)),(some (.builtin "object.__new__")),(some (.bool true))]⟩
noncomputable def xS (P:aG):ay:=⟨(.type "code"),none,.fields #[(.str "_law_cells" 585),(.str "_law_cells" 586),(.str "/claim/cut.py" 587),(.int (463) 0),(.int (1) 0),(.int (0) 0),(.int (0) 0),(.int (3) 0),(.ref 247),(.bool true),(.int (181) 0),(.ref 248),.none,(.ref 249),(.ref 250),(.ref 251),(.int (605) 0),(.int (463) 0),(.str "/claim/cut.py" 606)],#[]⟩
noncomputable def xT (P:aG):ay:=⟨(.type "function"),none,.func (fdOf (top 7) "_law_cells" 3 [] .none .none .none (.str "law_dm0054_04" 583) none (.ref 252) .none 0),#[]⟩
noncomputable def xU (P:aG):ay:=⟨(.type "code"),none,.fields #[(.str "_law_settle" 608),(.str "_law_settle" 609),(.str "/claim/cut.py" 610),(.int (477) 0),(.int (3) 0),(.int (0) 0),(.int (0) 0),(.int (3) 0),(.ref 254),(.bool true),(.int (181) 0),(.ref 255),.none,(.ref 256),(.ref 257),(.ref 258),(.int (614) 0),(.int (477) 0),(.str "/claim/cut.py" 615)],#[]⟩
noncomputable def xV (P:aG):ay:=⟨(.type "function"),none,.func (fdOf (top 8) "_law_settle" 3 [] .none .none .none (.str "law_dm0054_04" 583) none (.ref 259) .none 0),#[]⟩
noncomputable def xW (P:aG):ay:=⟨(.type "code"),none,.fields #[(.str "_law_walk" 617),(.str "_law_walk" 618),(.str "/claim/cut.py" 619),(.int (481) 0),(.int (1) 0),(.int (0) 0),(.int (0) 0),(.int (3) 0),(.ref 261),(.bool true),(.int (181) 0),(.ref 262),.none,.none,.none,(.ref 263),(.int (620) 0),(.int (481) 0),(.str "/claim/cut.py" 621)],#[]⟩
noncomputable def xX (P:aG):ay:=⟨(.type "function"),none,.func (fdOf (top 9) "_law_walk" 3 [] .none .none .none (.str "law_dm0054_04" 583) none (.ref 264) .none 0),#[]⟩
noncomputable def xY (P:aG):ay:=⟨(.type "code"),none,.fields #[(.str "_law_changes" 623),(.str "_law_changes" 624),(.str "/claim/cut.py" 625),(.int (505) 0),(.int (4) 0),(.int (0) 0),(.int (0) 0),(.int (3) 0),(.ref 266),(.bool true),(.int (181) 0),(.ref 267),.none,(.ref 268),(.ref 269),(.ref 270),(.int (640) 0),(.int (505) 0),(.str "/claim/cut.py" 641)],#[]⟩
noncomputable def xZ (P:aG):ay:=⟨(.type "function"),none,.func (fdOf (top 10) "_law_changes" 3 [] .none .none .none (.str "law_dm0054_04" 583) none (.ref 271) .none 0),#[]⟩
noncomputable def x5 (P:aG):ay:=⟨(.type "code"),none,.fields #[(.str "_law_merge" 643),(.str "_law_merge" 644),(.str "/claim/cut.py" 645),(.int (515) 0),(.int (3) 0),(.int (0) 0),(.int (0) 0),(.int (3) 0),(.ref 273),(.bool true),(.int (181) 0),(.ref 274),.none,.none,.none,(.ref 275),(.int (646) 0),(.int (515) 0),(.str "/claim/cut.py" 647)],#[]⟩
noncomputable def x6 (P:aG):ay:=⟨(.type "function"),none,.func (fdOf (top 11) "_law_merge" 3 [] .none .none .none (.str "law_dm0054_04" 583) none (.ref 276) .none 0),#[]⟩
noncomputable def x7 (P:aG):ay:=⟨(.type "code"),none,.fields #[(.str "law" 649),(.str "law" 650),(.str "/claim/cut.py" 651),(.int (536) 0),(.int (1) 0),(.int (0) 0),(.int (0) 0),(.int (3) 0),(.ref 278),(.bool true),(.int (181) 0),(.ref 279),.none,.none,.none,(.ref 280),(.int (652) 0),(.int (536) 0),(.str "/claim/cut.py" 653)],#[]⟩
noncomputable def ya (P:aG):ay:=⟨(.type "function"),none,.func (fdOf (top 12) "law" 3 [] .none .none .none (.str "law_dm0054_04" 583) none (.ref 281) .none 0),#[]⟩
noncomputable def K (P:aG):iS:=(nat_lit 2,k2 P)::(nat_lit 3,k3 P)::(nat_lit 81,xm P)::(nat_lit 82,xo P)::(nat_lit 88,xq P)::(nat_lit 89,xu P)::(nat_lit 91,xw P)::(nat_lit 134,xx P)::(nat_lit 135,tw P)::(nat_lit 136,xy P)::(nat_lit 153,tA P)::(nat_lit 159,xA P)::(nat_lit 160,xB P)::(nat_lit 166,xC P)::(nat_lit 167,xD P)::(nat_lit 173,xE P)::(nat_lit 174,xF P)::(nat_lit 180,xG P)::(nat_lit 181,xH P)::(nat_lit 187,xI P)::(nat_lit 188,xJ P)::(nat_lit 189,tB P)::(nat_lit 195,xK P)::(nat_lit 196,xM P)::(nat_lit 202,xN P)::(nat_lit 203,xO P)::(nat_lit 209,xP P)::(nat_lit 210,xQ P)::(nat_lit 241,Dd P)::(nat_lit 242,xR P)::(nat_lit 252,xS P)::(nat_lit 253,xT P)::(nat_lit 259,xU P)::(nat_lit 260,xV P)::(nat_lit 264,xW P)::(nat_lit 265,xX P)::(nat_lit 271,xY P)::(nat_lit 272,xZ P)::(nat_lit 276,x5 P)::(nat_lit 277,x6 P)::(nat_lit 281,x7 P)::(nat_lit 282,ya P)::[]
noncomputable def jm:List ao:=[2,3,81,82,88,89,91,134,135,136,153,159,160,166,167,173,174,180,181,187,188,189,195,196,202,203,209,210,241,242,252,253,259,260,264,265,271,272,276,277,281,282]
noncomputable def tC (h:ar):List (Option ay):=[h.get? 2,h.get? 3,h.get? 81,h.get? 82,h.get? 88,h.get? 89,h.get? 91,h.get? 134,h.get? 135,h.get? 136,h.get? 153,h.get? 159,h.get? 160,h.get? 166,h.get? 167,h.get? 173,h.get? 174,h.get? 180,h.get? 181,h.get? 187,h.get? 188,h.get? 189,h.get? 195,h.get? 196,h.get? 202,h.get? 203,h.get? 209,h.get? 210,h.get? 241,h.get? 242,h.get? 252,h.get? 253,h.get? 259,h.get? 260,h.get? 264,h.get? 265,h.get? 271,h.get? 272,h.get? 276,h.get? 277,h.get? 281,h.get? 282]
noncomputable def qW (P:aG):List (Option ay):=[some (k2 P),some (k3 P),some (xm P),some (xo P),some (xq P),some (xu P),some (xw P),some (xx P),some (tw P),some (xy P),some (tA P),some (xA P),some (xB P),some (xC P),some (xD P),some (xE P),some (xF P),some (xG P),some (xH P),some (xI P),some (xJ P),some (tB P),some (xK P),some (xM P),some (xN P),some (xO P),some (xP P),some (xQ P),some (Dd P),some (xR P),some (xS P),some (xT P),some (xU P),some (xV P),some (xW P),some (xX P),some (xY P),some (xZ P),some (x5 P),some (x6 P),some (x7 P),some (ya P)]
noncomputable def De (p:bT) (P:aG) (s:aj):Bool:=staticsOk [] (m7 P) s.heap && namesBound p s.heap && gensDone s && laidKept (m7 P) s.heap
noncomputable def tD (P:aG) (s:aj):Bool:=De pw P s
noncomputable def RP (p:bT) (J:cL) (V:eT) (w:aR) (os:dG):Option (eE×SharedT×eT×aE):=
 segRunT tb p w 11 (some (.ref 6)) 1 2600 (qV w os) (piecesOf p.main.body J V gQ [wu gQ])
noncomputable def R (w:aR) (os:dG):Option (eE×SharedT×eT×aE):=RP pw i4 fk w os
noncomputable def evG (p q:bT) (J:cL) (V:eT) (w:aR) (os:dG):=(RP p J V w os).map (λr=>((r.1,r.2.2.1),De p w.params r.2.1.abs,JP q loose [] (λs=>xlAt q [] s && recOk [] s) true r.2.1.abs,tC r.2.1.abs.heap))
noncomputable def qX (w:aR) (os:dG):=evG pw q i4 fk w os
noncomputable def yb (d:ai) (P:aG):List (Option ay):=[some (k2 P),some (k3 P),some (xm P),some (xo P),some (xq P),some (xu P),some (xw P),some (xx P),some (tw P),some (xy P),some (tA P),some (xA P),some (xB P),some (xC P),some (xD P),some (xE P),some (xF P),some (xG P),some (xH P),some (xI P),some (xJ P),some (tB P),some (xK P),some (xM P),some (xN P),some (xO P),some (xP P),some (xQ P),some (Dc d P),some (xR P),some (xS P),some (xT P),some (xU P),some (xV P),some (xW P),some (xX P),some (xY P),some (xZ P),some (x5 P),some (x6 P),some (x7 P),some (ya P)]
noncomputable def goodG (q:bT) (J:eT) (l:List (Option ay)):=some ((eE.next,J),true,JQ q loose,l)
noncomputable def qY (w:aR):=goodG q fk (qW w.params)
theorem evG_self:@evG=@evG:=rfl
name_quick mineEvG for Mine.evG by Mine.evG_self
noncomputable def pj (d:ai):eT:=.body (xl d) i4
theorem K7 (w:aR) (os:dG):evG (tu f5) (qD f5) i4 (pj f5) w os=goodG (qD f5) (pj f5) (yb f5 w.params):=
 (congrFun (congrFun (congrFun (congrFun (congrFun (congrFun PySem.W.Fast.mineEvG_eq (tu f5)) (qD f5)) i4) (pj f5)) w) os).trans (by kernel_rfl! : PySem.W.Fast.mineEvG (tu f5) (qD f5) i4 (pj f5) w os=goodG (qD f5) (pj f5) (yb f5 w.params))
theorem K8:tu lZ=pw:=by kernel_rfl!
theorem K9:qD lZ=q:=by kernel_rfl!
theorem La:pj lZ=fk:=by kernel_rfl!
theorem Lb (P:aG):yb lZ P=qW P:=by kernel_rfl!
theorem tE (w:aR) (os:dG):qX w os=qY w:=by
 have h:=K7 w os;rw [←KW,K8,K9,La,Lb] at h;exact h
noncomputable def Le (w:aR) (os:dG):=(R w os).map (λr=>(r.1,r.2.2.1))
noncomputable def Lf (w:aR):=some ((eE.next,fk))
theorem Lg (w:aR) (os:dG):Le w os=Lf w:=by
 have h:=congrArg (B9 λz=>z.1) (tE w os);unfold qX evG qY goodG at h;rw [Ca] at h;exact h
noncomputable def Df (w:aR) (os:dG):=(R w os).map (λr=>tD w.params r.2.1.abs)
noncomputable def Dg (w:aR):=some true
theorem Lh (w:aR) (os:dG):Df w os=Dg w:=by
 have h:=congrArg (B9 λz=>z.2.1) (tE w os);unfold qX evG qY goodG at h;rw [Ca] at h;exact h
noncomputable def Dh (w:aR) (os:dG):=(R w os).map (λr=>JP q loose [] xt true r.2.1.abs)
noncomputable def Di (w:aR):=some (JQ q loose)
theorem Li (w:aR) (os:dG):Dh w os=Di w:=by
 have h:=congrArg (B9 λz=>z.2.2.1) (tE w os);unfold qX evG qY goodG at h;rw [Ca] at h;exact h
noncomputable def Dj (w:aR) (os:dG):=(R w os).map (λr=>tC r.2.1.abs.heap)
noncomputable def Dk (w:aR):=some (qW w.params)
theorem Lj (w:aR) (os:dG):Dj w os=Dk w:=by
 have h:=congrArg (B9 λz=>z.2.2.2) (tE w os);unfold qX evG qY goodG at h;rw [Ca] at h;exact h
end
end Mine
end
section
namespace Internal.Lin
inductive Cn
 |z
 |c (a:Nat) (r:Cn)
inductive Ci
 |z
 |c (a:Int) (r:Ci)
noncomputable def Cn.g:Cn→Nat→Nat:=@λA B=>match A,B with
 |.z,zz=>0
 |.c a r,i=>match i with
  |0=>a
  |i+1=>r.g i
noncomputable def Ci.g:Ci→Nat→Int:=@λA B=>match A,B with
 |.z,zz=>0
 |.c a r,i=>match i with
  |0=>a
  |i+1=>r.g i
inductive N
 |v (i:Nat)
 |n (k:Nat)
 |a (x y:N)
 |m (k:Nat) (x:N)
 |r (x:N) (k:Nat)
inductive Z
 |v (i:Nat)
 |n (k:Int)
 |a (x y:Z)
 |s (x y:Z)
 |g (x:Z)
 |m (k:Int) (x:Z)
 |r (x:Z) (k:Int)
 |o (x:N)
noncomputable def N.e (C:Cn):N→Nat:=@λA=>match A with
 |.v i=>C.g i
 |.n k=>k
 |.a x y=>x.e C+y.e C
 |.m k x=>k*x.e C
 |.r x k=>x.e C*k
noncomputable def Z.e (C:Cn) (D:Ci):Z→Int:=@λA=>match A with
 |.v i=>D.g i
 |.n k=>k
 |.a x y=>x.e C D+y.e C D
 |.s x y=>x.e C D-y.e C D
 |.g x=>-x.e C D
 |.m k x=>k*x.e C D
 |.r x k=>x.e C D*k
 |.o x=>(x.e C:Nat)
inductive H
 |ah (x y:N)
 |ak (x y:N)
 |aw (x y:N)
 |aA (x y:Z)
 |aM (x y:Z)
 |bW (x y:Z)
noncomputable def H.d (C:Cn) (D:Ci):H→Prop:=@λA=>match A with
 |.ah x y=>x.e C≤y.e C
 |.ak x y=>x.e C<y.e C
 |.aw x y=>x.e C=y.e C
 |.aA x y=>x.e C D≤y.e C D
 |.aM x y=>x.e C D<y.e C D
 |.bW x y=>x.e C D=y.e C D
structure P where
 k:Int
 n:List Int
 i:List Int
noncomputable def dn:List Int→Cn→Int:=@λA B=>match A,B with
 |[],zz=>0
 |a::l,C=>match C with
  |.z=>0
  |.c b r=>a*b+dn l r
noncomputable def di:List Int→Ci→Int:=@λA B=>match A,B with
 |[],zz=>0
 |a::l,C=>match C with
  |.z=>0
  |.c b r=>a*b+di l r
noncomputable def P.e (C:Cn) (D:Ci) (p:P):Int:=p.k+(dn p.n C+di p.i D)
noncomputable def ad:List Int→List Int→List Int:=@λA B=>match A,B with
 |[],m=>m
 |a::l,m=>match m with
  |[]=>a::l
  |b::m=>(a+b)::ad l m
noncomputable def sc (k:Int):List Int→List Int:=@λA=>match A with
 |[]=>[]
 |a::l=>k*a::sc k l
noncomputable def un:Nat→List Int:=@λA=>match A with
 |0=>[1]
 |i+1=>0::un i
noncomputable def P.ad (p q:P):P:=⟨p.k+q.k,Lin.ad p.n q.n,Lin.ad p.i q.i⟩
noncomputable def P.sc (k:Int) (p:P):P:=⟨k*p.k,Lin.sc k p.n,Lin.sc k p.i⟩
noncomputable def N.p:N→P:=@λA=>match A with
 |.v i=>⟨0,un i,[]⟩
 |.n k=>⟨k,[],[]⟩
 |.a x y=>x.p.ad y.p
 |.m k x=>x.p.sc k
 |.r x k=>x.p.sc k
noncomputable def Z.p:Z→P:=@λA=>match A with
 |.v i=>⟨0,[],un i⟩
 |.n k=>⟨k,[],[]⟩
 |.a x y=>x.p.ad y.p
 |.s x y=>x.p.ad (y.p.sc (-1))
 |.g x=>x.p.sc (-1)
 |.m k x=>x.p.sc k
 |.r x k=>x.p.sc k
 |.o x=>x.p
noncomputable def H.p:H→P:=@λA=>match A with
 |.ah x y=>x.p.ad (y.p.sc (-1))
 |.ak x y=>(P.mk 1 [] []).ad (x.p.ad (y.p.sc (-1)))
 |.aw x y=>x.p.ad (y.p.sc (-1))
 |.aA x y=>x.p.ad (y.p.sc (-1))
 |.aM x y=>(P.mk 1 [] []).ad (x.p.ad (y.p.sc (-1)))
 |.bW x y=>x.p.ad (y.p.sc (-1))
theorem sw (a b c d:Int):a+b+(c+d)=a+c+(b+d):=by exact ae (W3 ..) (ae (W3 ..) (ae (Int.add_left_comm b ..) rfl))
theorem Dl:∀(l m:List Int) (C:Cn),dn (ad l m) C=dn l C+dn m C:=@λA B D=>match A,B,D with
 |[],zz,J=>(qr _).symm
 |zz::J,[],V=>(lO _).symm
 |zz::J,V::W,.z=>rfl
 |a::l,b::m,.c x r=>(congr (congrArg m8 (JR a b x)) (Dl l m r)).trans (sw _ _ _ _)
theorem Dm:∀(l m:List Int) (C:Ci),di (ad l m) C=di l C+di m C:=@λA B D=>match A,B,D with
 |[],zz,J=>(qr _).symm
 |zz::J,[],V=>(lO _).symm
 |zz::J,V::W,.z=>rfl
 |a::l,b::m,.c x r=>(congr (congrArg m8 (JR a b x)) (Dm l m r)).trans (sw _ _ _ _)
theorem Dn (k:Int):∀(l:List Int) (C:Cn),dn (sc k l) C=k*dn l C:=@λA B=>match A,B with
 |[],zz=>(Cb _).symm
 |zz::J,.z=>(Cb _).symm
 |a::l,.c x r=>(congr (congrArg m8 (W4 k a x)) (Dn k l r)).trans (Cc _ _ _).symm
theorem Dp (k:Int):∀(l:List Int) (C:Ci),di (sc k l) C=k*di l C:=@λA B=>match A,B with
 |[],zz=>(Cb _).symm
 |zz::J,.z=>(Cb _).symm
 |a::l,.c x r=>(congr (congrArg m8 (W4 k a x)) (Dp k l r)).trans (Cc _ _ _).symm
theorem Dq:∀(i:Nat) (C:Cn),dn (un i) C=(C.g i:Nat):=@λA B=>match A,B with
 |0,.z=>rfl
 |0,.c a r=>(lO _).trans (Ce _)
 |zz+1,.z=>rfl
 |i+1,.c a r=>(congr (congrArg m8 (JS _)) (Dq i r)).trans (qr _)
theorem Dr:∀(i:Nat) (C:Ci),di (un i) C=C.g i:=@λA B=>match A,B with
 |0,.z=>rfl
 |0,.c a r=>(lO _).trans (Ce _)
 |zz+1,.z=>rfl
 |i+1,.c a r=>(congr (congrArg m8 (JS _)) (Dr i r)).trans (qr _)
section
variable {C:Cn}{D:Ci}
theorem qZ (p q:P):(p.ad q).e C D=p.e C D+q.e C D:=by
 refine (?_:p.k+q.k+(dn (ad p.n q.n) C+di (ad p.i q.i) D)=_);refine ae (Dl ..) (ae (Dm ..) (ae (sw (dn p.n C) ..) (ae (sw p.k ..) ?_)));rfl
theorem l5 (k:Int) (p:P):(p.sc k).e C D=k*p.e C D:=by
 refine (?_:k*p.k+(dn (sc k p.n) C+di (sc k p.i) D)=_);refine ae (Dn ..) (ae (Dp ..) (ae (Cc ..).symm (ae (Cc ..).symm ?_)));rfl
theorem jn:∀x:N,x.p.e C D=(x.e C:Nat):=@λA=>match A with
 |.v i=>(qr _).trans ((lO _).trans (Dq i C))
 |.n k=>lO _
 |.a x y=>(qZ _ _).trans (congr (congrArg m8 (jn x)) (jn y))
 |.m k x=>(l5 _ _).trans (congrArg _ (jn x))
 |.r x k=>(l5 _ _).trans ((W5 _ _).trans (congrArg (·*(k:Int)) (jn x)))
theorem Ds (a:Int):-1*a = -a:=by exact ae (Int.neg_mul ..) (ae (Ce ..) rfl)
theorem yc (p q:P):(p.ad (q.sc (-1))).e C D=p.e C D-q.e C D:=by refine ae (qZ ..) (ae (l5 ..) (ae (Ds ..) ?_));rfl
theorem iy:∀x:Z,x.p.e C D=x.e C D:=@λA=>match A with
 |.v i=>(qr _).trans ((qr _).trans (Dr i D))
 |.n k=>lO _
 |.a x y=>(qZ _ _).trans (congr (congrArg m8 (iy x)) (iy y))
 |.s x y=>(yc _ _).trans (congr (congrArg HSub.hSub (iy x)) (iy y))
 |.g x=>(l5 _ _).trans ((Ds _).trans (congrArg _ (iy x)))
 |.m k x=>(l5 _ _).trans (congrArg _ (iy x))
 |.r x k=>(l5 _ _).trans ((W5 _ _).trans (congrArg (·*k) (iy x)))
 |.o x=>jn x
theorem tF {p q:P}{a b:Int}(J:p.e C D=a) (V:q.e C D=b) (h:a≤b):(p.ad (q.sc (-1))).e C D≤0:=by
 refine ae (yc ..) (ae (J ..) (ae (V ..) ?_));exact Int.sub_nonpos_of_le h
theorem Dt {p q:P}{a b:Int}(J:p.e C D=a) (V:q.e C D=b) (h:a<b):((P.mk 1 [] []).ad (p.ad (q.sc (-1)))).e C D≤0:=by
 refine ae (qZ ..) (ae (yc ..) (ae (J ..) (ae (V ..) ?_)));exact Int.add_one_le_of_lt (Int.sub_neg_of_lt h) |> (λh=>by rw [Int.add_comm] at h;exact h)
theorem Du:∀x:H,x.d C D→x.p.e C D≤0:=@λA B=>match A,B with
 |.ah x y,h=>tF (jn x) (jn y) (m9.mpr h)
 |.ak x y,h=>Dt (jn x) (jn y) (de.mpr h)
 |.aw x y,h=>tF (jn x) (jn y) (sR (congrArg _ h))
 |.aA x y,h=>tF (iy x) (iy y) h
 |.aM x y,h=>Dt (iy x) (iy y) h
 |.bW x y,h=>tF (iy x) (iy y) (sR h)
end
inductive Ct
 |z
 |c (k:Nat) (h:H) (r:Ct)
noncomputable def Ct.d (C:Cn) (D:Ci) (G:Prop):Ct→Prop:=@λA=>match A with
 |.z=>G
 |.c zz h r=>h.d C D→r.d C D G
noncomputable def Ct.p:Ct→P→P:=@λA B=>match A,B with
 |.z,q=>q
 |.c k h r,q=>r.p ((h.p.sc k).ad q)
noncomputable def nn:List Int→Bool:=@λA=>match A with
 |[]=>true
 |a::l=>match a with
  |.ofNat zz=>nn l
  |.negSucc zz=>false
noncomputable def zz:List Int→Bool:=@λA=>match A with
 |[]=>true
 |a::l=>match a with
  |.ofNat k=>match k with
   |0=>zz l
   |_+1=>false
  |.negSucc zz=>false
noncomputable def P.bad (p:P):Bool:=match p.k with
 |.ofNat k=>match k with
  |0=>false
  |_+1=>(nn p.n && zz p.i)
 |.negSucc zz=>false
section
variable {C:Cn}{D:Ci}
theorem Dv:∀(l:List Int) (C:Cn),nn l=true→0≤dn l C:=@λA B D=>match A,B,D with
 |[],zz,J=>er _
 |.ofNat zz::J,.z,V=>er _
 |.ofNat k::l,.c a r,h=>Int.add_nonneg (Int.mul_nonneg (nf k) (nf a)) (Dv l r h)
 |.negSucc zz::J,V,h=>nomatch h
theorem Dw:∀(l:List Int) (C:Ci),zz l=true→di l C=0:=@λA B D=>match A,B,D with
 |[],zz,J=>rfl
 |.ofNat 0::zz,.z,J=>rfl
 |.ofNat 0::l,.c a r,h=>(congr (congrArg m8 (JS a)) (Dw l r h))
 |.ofNat (zz+1)::J,V,h=>nomatch h
 |.negSucc zz::J,V,h=>nomatch h
theorem Dx:∀{p:P},p.bad=true→p.e C D≤0→False:=@λA B F=>match A,B,F with
 |⟨.ofNat 0,zz,_⟩,h,J=>nomatch h
 |⟨.negSucc zz,J,_⟩,h,Y=>nomatch h
 |⟨.ofNat (k+1),n,i⟩,h,g=>by
  obtain ⟨V,W⟩:=oV.mp (show (nn n && zz i)=true from h);have:(0:Int)<((k+1:Nat):Int)+(dn n C+di i D):=by
   refine ae (Dw i D W ..) (ae (lO ..) ?_);exact Int.add_pos_of_pos_of_nonneg (de.mpr (sS k)) (Dv n C V)
  exact absurd g (jI.mpr this)
theorem Ct.run {G:Prop}:∀(cs:Ct) (q:P),q.e C D≤0→((cs.p q).e C D≤0→G)→cs.d C D G:=@λA B F H=>match A,B,F,H with
 |.z,zz,h,f=>f h
 |.c k x r,q,h,f=>λhx=>Ct.run r _ (by
   refine ae (qZ ..) (ae (l5 ..) ?_);exact Int.add_nonpos (W6 (nf k) (Du x hx)) h) f
theorem Ct.weak {G:Prop}(g:G):∀cs:Ct,cs.d C D G:=@λA=>match A with
 |.z=>g
 |.c zz J r=>λzz=>Ct.weak g r
theorem goal {G:Prop}(n:H) (J:¬G→n.d C D) (m:Nat) (cs:Ct) (h:(cs.p (n.p.sc m)).bad=true):cs.d C D G:=
 (Classical.em G).elim (λg=>cs.weak g) λc=>cs.run _ (by
  refine ae (l5 ..) ?_;exact W6 (nf m) (Du n (J c))) λg=>(Dx h g).elim
end
theorem no (C:Cn) (D:Ci) (cs:Ct) (h:(cs.p ⟨0,[],[]⟩).bad=true):cs.d C D False:=cs.run ⟨0,[],[]⟩ (show (0:Int)+(0+0)≤0 from er _) (Dx h)
theorem ah (C:Cn) (D:Ci) (m:Nat) (cs:Ct) (x y:N) (h:(cs.p ((H.ak y x).p.sc m)).bad=true):cs.d C D (x.e C≤y.e C):=goal (.ak y x) ee.mp m cs h
theorem ak (C:Cn) (D:Ci) (m:Nat) (cs:Ct) (x y:N) (h:(cs.p ((H.ah y x).p.sc m)).bad=true):cs.d C D (x.e C<y.e C):=goal (.ah y x) jJ.mp m cs h
theorem aA (C:Cn) (D:Ci) (m:Nat) (cs:Ct) (x y:Z) (h:(cs.p ((H.aM y x).p.sc m)).bad=true):cs.d C D (x.e C D≤y.e C D):=goal (.aM y x) jI.mp m cs h
theorem aM (C:Cn) (D:Ci) (m:Nat) (cs:Ct) (x y:Z) (h:(cs.p ((H.aA y x).p.sc m)).bad=true):cs.d C D (x.e C D<y.e C D):=goal (.aA y x) gn.mp m cs h
theorem dv (e k:Nat) (h:0<k):e<e / k*k+k:=by
 refine ae (Nat.add_one_mul ..).symm ?_;exact (Nat.div_lt_iff_lt_mul h).mp (lP _)
theorem Dy (e k:Int) (h:0<k):e / k*k≤e:=Int.ediv_mul_le e (qt h)
theorem tG (e k:Int) (h:0<k):0≤e % k:=Cf e (qt h)
theorem Dz (e k:Int) (h:0<k):e<e / k*k+k:=by
 have:=Int.lt_ediv_add_one_mul_self e h
 rwa [JR,Ce] at this
end Internal.Lin
end
section
namespace Internal.El
theorem aa {P:Prop}{Q:Prop}{G:Prop}(h:P∧Q) (k:P→Q→G):G:=by
 obtain ⟨h0,J⟩:=h;exact k h0 J
theorem ea {α:Type}{P:α→Prop}{G:Prop}(h:∃a,P a) (k:∀a,P a→G):G:=by
 obtain ⟨a,J⟩:=h;exact k a J
theorem cH {P:Prop}{Q:Prop}{R:Prop}{G:Prop}(h:P∧Q∧R) (k:P→Q→R→G):G:=by
 obtain ⟨h0,J,V⟩:=h;exact k h0 J V
theorem au {α:Type}{P:α→Prop}{Q:α→Prop}{G:Prop}(h:∃a,P a∧Q a) (k:∀a,P a→Q a→G):G:=by
 obtain ⟨a,J,V⟩:=h;exact k a J V
theorem q9 {α β:Type}{P:α→β→Prop}{G:Prop}(h:∃a,∃b,P a b) (k:∀a,∀b,P a b→G):G:=by
 obtain ⟨a,b,J⟩:=h;exact k a b J
theorem iz {P:Prop}{Q:Prop}{R:Prop}{S:Prop}{G:Prop}(h:P∧Q∧R∧S) (k:P→Q→R→S→G):G:=by
 obtain ⟨h0,J,V,W⟩:=h;exact k h0 J V W
theorem tH {α:Type}{P:Prop}{Q:α→Prop}{R:α→Prop}{G:Prop}(h:P∧∃a,Q a∧R a) (k:P→∀a,Q a→R a→G):G:=by
 obtain ⟨h0,a,J,V⟩:=h;exact k h0 a J V
theorem dI {α:Type}{P:α→Prop}{Q:α→Prop}{R:α→Prop}{G:Prop}(h:∃a,P a∧Q a∧R a) (k:∀a,P a→Q a→R a→G):G:=by
 obtain ⟨a,J,V,W⟩:=h;exact k a J V W
theorem dP {α β:Type}{P:α→β→Prop}{Q:α→β→Prop}{G:Prop}(h:∃a,∃b,P a b∧Q a b) (k:∀a,∀b,P a b→Q a b→G):G:=by
 obtain ⟨a,b,J,V⟩:=h;exact k a b J V
theorem nH {α β J:Type}{P:α→β→J→Prop}{G:Prop}(h:∃a,∃b,∃c,P a b c) (k:∀a,∀b,∀c,P a b c→G):G:=by
 obtain ⟨a,b,c,V⟩:=h;exact k a b c V
theorem nJ {P:Prop}{Q:Prop}{R:Prop}{S:Prop}{T:Prop}{G:Prop}(h:P∧Q∧R∧S∧T) (k:P→Q→R→S→T→G):G:=by
 obtain ⟨h0,J,V,W,Y⟩:=h;exact k h0 J V W Y
theorem gR {α:Type}{P:α→Prop}{Q:α→Prop}{R:α→Prop}{S:α→Prop}{G:Prop}(h:∃a,P a∧Q a∧R a∧S a) (k:∀a,P a→Q a→R a→S a→G):G:=by
 obtain ⟨a,J,V,W,Y⟩:=h;exact k a J V W Y
theorem aP {α β:Type}{P:α→β→Prop}{Q:α→β→Prop}{R:α→β→Prop}{G:Prop}(h:∃a,∃b,P a b∧Q a b∧R a b) (k:∀a,∀b,P a b→Q a b→R a b→G):G:=by
 obtain ⟨a,b,J,V,W⟩:=h;exact k a b J V W
theorem l6 {α β J:Type}{P:α→β→J→Prop}{Q:α→β→J→Prop}{G:Prop}(h:∃a,∃b,∃c,P a b c∧Q a b c) (k:∀a,∀b,∀c,P a b c→Q a b c→G):G:=by
 obtain ⟨a,b,c,V,W⟩:=h;exact k a b c V W
theorem pk {P:Prop}{Q:Prop}{R:Prop}{S:Prop}{T:Prop}{U:Prop}{G:Prop}(h:P∧Q∧R∧S∧T∧U) (k:P→Q→R→S→T→U→G):G:=by
 obtain ⟨h0,J,V,W,Y,Z⟩:=h;exact k h0 J V W Y Z
theorem kO {α:Type}{P:α→Prop}{Q:α→Prop}{R:α→Prop}{S:α→Prop}{T:α→Prop}{G:Prop}(h:∃a,P a∧Q a∧R a∧S a∧T a) (k:∀a,P a→Q a→R a→S a→T a→G):G:=by
 obtain ⟨a,J,V,W,Y,Z⟩:=h;exact k a J V W Y Z
theorem l7 {α β:Type}{P:α→β→Prop}{Q:α→β→Prop}{R:α→β→Prop}{S:α→β→Prop}{G:Prop}(h:∃a,∃b,P a b∧Q a b∧R a b∧S a b) (k:∀a,∀b,P a b→Q a b→R a b→S a b→G):G:=by
 obtain ⟨a,b,J,V,W,Y⟩:=h;exact k a b J V W Y
theorem dh {α β J:Type}{P:α→β→J→Prop}{Q:α→β→J→Prop}{R:α→β→J→Prop}{G:Prop}(h:∃a,∃b,∃c,P a b c∧Q a b c∧R a b c) (k:∀a,∀b,∀c,P a b c→Q a b c→R a b c→G):G:=by
 obtain ⟨a,b,c,V,W,Y⟩:=h;exact k a b c V W Y
theorem ra {α β J:Type}{P:Prop}{Q:Prop}{R:α→β→J→Prop}{S:α→β→J→Prop}{G:Prop}(h:P∧Q∧∃a,∃b,∃c,R a b c∧S a b c) (k:P→Q→∀a,∀b,∀c,R a b c→S a b c→G):G:=by
 obtain ⟨h0,V,a,b,c,W,Y⟩:=h;exact k h0 V a b c W Y
theorem rb {α β:Type}{P:α→β→Prop}{Q:α→β→Prop}{R:α→β→Prop}{S:α→β→Prop}{T:α→β→Prop}{G:Prop}(h:∃a,∃b,P a b∧Q a b∧R a b∧S a b∧T a b) (k:∀a,∀b,P a b→Q a b→R a b→S a b→T a b→G):G:=by
 obtain ⟨a,b,J,V,W,Y,Z⟩:=h;exact k a b J V W Y Z
theorem fo {α β J:Type}{P:α→β→J→Prop}{Q:α→β→J→Prop}{R:α→β→J→Prop}{S:α→β→J→Prop}{G:Prop}(h:∃a,∃b,∃c,P a b c∧Q a b c∧R a b c∧S a b c) (k:∀a,∀b,∀c,P a b c→Q a b c→R a b c→S a b c→G):G:=by
 obtain ⟨a,b,c,V,W,Y,Z⟩:=h;exact k a b c V W Y Z
theorem fL {α β J V:Type}{P:α→β→J→V→Prop}{Q:α→β→J→V→Prop}{R:α→β→J→V→Prop}{G:Prop}(h:∃a,∃b,∃c,∃d,P a b c d∧Q a b c d∧R a b c d) (k:∀a,∀b,∀c,∀d,P a b c d→Q a b c d→R a b c d→G):G:=by
 obtain ⟨a,b,c,d,W,Y,Z⟩:=h;exact k a b c d W Y Z
theorem yf {α β J V W:Type}{P:α→β→J→V→W→Prop}{Q:α→β→J→V→W→Prop}{G:Prop}(h:∃a,∃b,∃c,∃d,∃e,P a b c d e∧Q a b c d e) (k:∀a,∀b,∀c,∀d,∀e,P a b c d e→Q a b c d e→G):G:=by
 obtain ⟨a,b,c,d,e,Y,Z⟩:=h;exact k a b c d e Y Z
theorem tI {α β J:Type}{P:α→β→J→Prop}{Q:α→β→J→Prop}{R:α→β→J→Prop}{S:α→β→J→Prop}{T:α→β→J→Prop}{G:Prop}(h:∃a,∃b,∃c,P a b c∧Q a b c∧R a b c∧S a b c∧T a b c) (k:∀a,∀b,∀c,P a b c→Q a b c→R a b c→S a b c→T a b c→G):G:=by
 obtain ⟨a,b,c,V,W,Y,Z,h7⟩:=h;exact k a b c V W Y Z h7
theorem jR {α β J V:Type}{P:α→β→J→V→Prop}{Q:α→β→J→V→Prop}{R:α→β→J→V→Prop}{S:α→β→J→V→Prop}{G:Prop}(h:∃a,∃b,∃c,∃d,P a b c d∧Q a b c d∧R a b c d∧S a b c d) (k:∀a,∀b,∀c,∀d,P a b c d→Q a b c d→R a b c d→S a b c d→G):G:=by
 obtain ⟨a,b,c,d,W,Y,Z,h7⟩:=h;exact k a b c d W Y Z h7
theorem yg {α β J V:Type}{P:α→Prop}{Q:α→β→J→V→Prop}{R:α→β→J→V→Prop}{S:α→β→J→V→Prop}{T:α→β→J→V→Prop}{G:Prop}(h:∃a,P a∧∃b,∃c,∃d,Q a b c d∧R a b c d∧S a b c d∧T a b c d) (k:∀a,P a→∀b,∀c,∀d,Q a b c d→R a b c d→S a b c d→T a b c d→G):G:=by
 obtain ⟨a,W,b,c,d,Y,Z,h7,h8⟩:=h;exact k a W b c d Y Z h7 h8
theorem tJ {α β J:Type}{P:α→β→J→Prop}{Q:α→β→J→Prop}{R:α→β→J→Prop}{S:α→β→J→Prop}{T:α→β→J→Prop}{U:α→β→J→Prop}{G:Prop}(h:∃a,∃b,∃c,P a b c∧Q a b c∧R a b c∧S a b c∧T a b c∧U a b c) (k:∀a,∀b,∀c,P a b c→Q a b c→R a b c→S a b c→T a b c→U a b c→G):G:=by
 obtain ⟨a,b,c,V,W,Y,Z,h7,h8⟩:=h;exact k a b c V W Y Z h7 h8
theorem yh {α β J V W:Type}{P:α→β→J→V→W→Prop}{Q:α→β→J→V→W→Prop}{R:α→β→J→V→W→Prop}{S:α→β→J→V→W→Prop}{G:Prop}(h:∃a,∃b,∃c,∃d,∃e,P a b c d e∧Q a b c d e∧R a b c d e∧S a b c d e) (k:∀a,∀b,∀c,∀d,∀e,P a b c d e→Q a b c d e→R a b c d e→S a b c d e→G):G:=by
 obtain ⟨a,b,c,d,e,Y,Z,h7,h8⟩:=h;exact k a b c d e Y Z h7 h8
theorem ns {α:Type}{a:α}{G:Prop}(h:ig=some a):G:=nomatch h
theorem sn {α:Type}{a:α}{G:Prop}(h:some a=ig):G:=nomatch h
theorem nm {α:Type}{a:α}{G:Prop}(h:a∈([]:List α)):G:=nomatch h
theorem ft {G:Prop}(h:false=true):G:=nomatch h
theorem tf {G:Prop}(h:true=false):G:=nomatch h
theorem cn {α:Type}{a:α}{l:List α}{G:Prop}(h:a::l=[]):G:=nomatch h
theorem nc {α:Type}{a:α}{l:List α}{G:Prop}(h:[]=a::l):G:=nomatch h
theorem zs {n:Nat}{G:Prop}(h:0=n+1):G:=nomatch h
theorem sz {n:Nat}{G:Prop}(h:n+1=0):G:=nomatch h
theorem aK {P:Prop}{Q:Prop}{R:Prop}(h0:P) (J:Q) (V:R):P∧Q∧R:=⟨h0,J,V⟩
theorem aD {A:Type}{P:A→Prop}{Q:A→Prop}(a:A) (J:P a) (V:Q a):∃a,P a∧Q a:=⟨a,J,V⟩
theorem yi {A B:Type}{P:A→B→Prop}(a:A) (b:B) (J:P a b):∃a,∃b,P a b:=⟨a,b,J⟩
theorem cy {P:Prop}{Q:Prop}{R:Prop}{S:Prop}(h0:P) (J:Q) (V:R) (W:S):P∧Q∧R∧S:=⟨h0,J,V,W⟩
theorem ey {A:Type}{P:A→Prop}{Q:A→Prop}{R:A→Prop}(a:A) (J:P a) (V:Q a) (W:R a):∃a,P a∧Q a∧R a:=⟨a,J,V,W⟩
theorem fM {A B:Type}{P:A→B→Prop}{Q:A→B→Prop}(a:A) (b:B) (J:P a b) (V:Q a b):∃a,∃b,P a b∧Q a b:=⟨a,b,J,V⟩
theorem yj {A B C:Type}{P:A→B→C→Prop}(a:A) (b:B) (c:C) (J:P a b c):∃a,∃b,∃c,P a b c:=⟨a,b,c,J⟩
theorem l8 {P:Prop}{Q:Prop}{R:Prop}{S:Prop}{T:Prop}(h0:P) (J:Q) (V:R) (W:S) (Y:T):P∧Q∧R∧S∧T:=⟨h0,J,V,W,Y⟩
theorem rg {A B:Type}{P:Prop}{Q:A→B→Prop}{R:A→B→Prop}(h0:P) (a:A) (b:B) (J:Q a b) (V:R a b):P∧∃a,∃b,Q a b∧R a b:=⟨h0,a,b,J,V⟩
theorem iA {A:Type}{P:A→Prop}{Q:A→Prop}{R:A→Prop}{S:A→Prop}(a:A) (J:P a) (V:Q a) (W:R a) (Y:S a):∃a,P a∧Q a∧R a∧S a:=⟨a,J,V,W,Y⟩
theorem kP {A B:Type}{P:A→Prop}{Q:A→Prop}{R:A→B→Prop}(a:A) (J:P a) (V:Q a) (b:B) (W:R a b):∃a,P a∧Q a∧∃b,R a b:=⟨a,J,V,b,W⟩
theorem bP {A B:Type}{P:A→B→Prop}{Q:A→B→Prop}{R:A→B→Prop}(a:A) (b:B) (J:P a b) (V:Q a b) (W:R a b):∃a,∃b,P a b∧Q a b∧R a b:=⟨a,b,J,V,W⟩
theorem DA {A B C:Type}{P:A→B→C→Prop}{Q:A→B→C→Prop}(a:A) (b:B) (c:C) (J:P a b c) (V:Q a b c):∃a,∃b,∃c,P a b c∧Q a b c:=⟨a,b,c,J,V⟩
theorem pn {P:Prop}{Q:Prop}{R:Prop}{S:Prop}{T:Prop}{U:Prop}(h0:P) (J:Q) (V:R) (W:S) (Y:T) (Z:U):P∧Q∧R∧S∧T∧U:=⟨h0,J,V,W,Y,Z⟩
theorem kQ {A:Type}{P:A→Prop}{Q:A→Prop}{R:A→Prop}{S:A→Prop}{T:A→Prop}(a:A) (J:P a) (V:Q a) (W:R a) (Y:S a) (Z:T a):∃a,P a∧Q a∧R a∧S a∧T a:=⟨a,J,V,W,Y,Z⟩
theorem iB {A B:Type}{P:A→B→Prop}{Q:A→B→Prop}{R:A→B→Prop}{S:A→B→Prop}(a:A) (b:B) (J:P a b) (V:Q a b) (W:R a b) (Y:S a b):∃a,∃b,P a b∧Q a b∧R a b∧S a b:=⟨a,b,J,V,W,Y⟩
theorem gC {A B C:Type}{P:A→B→C→Prop}{Q:A→B→C→Prop}{R:A→B→C→Prop}(a:A) (b:B) (c:C) (J:P a b c) (V:Q a b c) (W:R a b c):∃a,∃b,∃c,P a b c∧Q a b c∧R a b c:=⟨a,b,c,J,V,W⟩
theorem Lk {A B C D:Type}{P:A→B→C→D→Prop}{Q:A→B→C→D→Prop}(a:A) (b:B) (c:C) (d:D) (J:P a b c d) (V:Q a b c d):∃a,∃b,∃c,∃d,P a b c d∧Q a b c d:=⟨a,b,c,d,J,V⟩
theorem tK {A B C:Type}{P:Prop}{Q:Prop}{R:A→B→C→Prop}{S:A→B→C→Prop}(h0:P) (J:Q) (a:A) (b:B) (c:C) (V:R a b c) (W:S a b c):P∧Q∧∃a,∃b,∃c,R a b c∧S a b c:=⟨h0,J,a,b,c,V,W⟩
theorem rh {A B:Type}{P:A→B→Prop}{Q:A→B→Prop}{R:A→B→Prop}{S:A→B→Prop}{T:A→B→Prop}(a:A) (b:B) (J:P a b) (V:Q a b) (W:R a b) (Y:S a b) (Z:T a b):∃a,∃b,P a b∧Q a b∧R a b∧S a b∧T a b:=⟨a,b,J,V,W,Y,Z⟩
theorem tL {A B C:Type}{P:A→B→C→Prop}{Q:A→B→C→Prop}{R:A→B→C→Prop}{S:A→B→C→Prop}(a:A) (b:B) (c:C) (J:P a b c) (V:Q a b c) (W:R a b c) (Y:S a b c):∃a,∃b,∃c,P a b c∧Q a b c∧R a b c∧S a b c:=⟨a,b,c,J,V,W,Y⟩
theorem jS {A B C D:Type}{P:A→B→C→D→Prop}{Q:A→B→C→D→Prop}{R:A→B→C→D→Prop}(a:A) (b:B) (c:C) (d:D) (J:P a b c d) (V:Q a b c d) (W:R a b c d):∃a,∃b,∃c,∃d,P a b c d∧Q a b c d∧R a b c d:=⟨a,b,c,d,J,V,W⟩
theorem Ll {A B C D E:Type}{P:A→B→C→D→E→Prop}{Q:A→B→C→D→E→Prop}(a:A) (b:B) (c:C) (d:D) (e:E) (J:P a b c d e) (V:Q a b c d e):∃a,∃b,∃c,∃d,∃e,P a b c d e∧Q a b c d e:=⟨a,b,c,d,e,J,V⟩
theorem rj {A B C:Type}{P:A→B→C→Prop}{Q:A→B→C→Prop}{R:A→B→C→Prop}{S:A→B→C→Prop}{T:A→B→C→Prop}(a:A) (b:B) (c:C) (J:P a b c) (V:Q a b c) (W:R a b c) (Y:S a b c) (Z:T a b c):∃a,∃b,∃c,P a b c∧Q a b c∧R a b c∧S a b c∧T a b c:=⟨a,b,c,J,V,W,Y,Z⟩
theorem tM {A B C D:Type}{P:A→B→C→D→Prop}{Q:A→B→C→D→Prop}{R:A→B→C→D→Prop}{S:A→B→C→D→Prop}(a:A) (b:B) (c:C) (d:D) (J:P a b c d) (V:Q a b c d) (W:R a b c d) (Y:S a b c d):∃a,∃b,∃c,∃d,P a b c d∧Q a b c d∧R a b c d∧S a b c d:=⟨a,b,c,d,J,V,W,Y⟩
theorem tN {A B C:Type}{P:A→B→C→Prop}{Q:A→B→C→Prop}{R:A→B→C→Prop}{S:A→B→C→Prop}{T:A→B→C→Prop}{U:A→B→C→Prop}(a:A) (b:B) (c:C) (J:P a b c) (V:Q a b c) (W:R a b c) (Y:S a b c) (Z:T a b c) (h8:U a b c):∃a,∃b,∃c,P a b c∧Q a b c∧R a b c∧S a b c∧T a b c∧U a b c:=⟨a,b,c,J,V,W,Y,Z,h8⟩
theorem yk {A B C D:Type}{P:A→B→C→D→Prop}{Q:A→B→C→D→Prop}{R:A→B→C→D→Prop}{S:A→B→C→D→Prop}{T:A→B→C→D→Prop}{U:A→B→C→D→Prop}(a:A) (b:B) (c:C) (d:D) (J:P a b c d) (V:Q a b c d) (W:R a b c d) (Y:S a b c d) (Z:T a b c d) (h9:U a b c d):∃a,∃b,∃c,∃d,P a b c d∧Q a b c d∧R a b c d∧S a b c d∧T a b c d∧U a b c d:=⟨a,b,c,d,J,V,W,Y,Z,h9⟩
end Internal.El
end
section
namespace Internal.Pure
noncomputable def inner (g:Int→Int) (blo bhi i:Int):List Int→(Int→Int)×(Int×Int×Int)→(Int→Int)×(Int×Int×Int):=@λA B=>match A,B with
 |[],st=>st
 |j::r,st=>if j<blo then inner g blo bhi i r st else if bhi≤j then st else
   inner g blo bhi i r (λx=>if x=j then g (j-1)+1 else st.1 x,if st.2.2.2<g (j-1)+1 then (i-(g (j-1)+1)+1,j-(g (j-1)+1)+1,g (j-1)+1) else st.2)
noncomputable def outer (a:Nat→Int) (idx:Int→List Int) (blo bhi:Int):Nat→Nat→(Int→Int)×(Int×Int×Int)→(Int→Int)×(Int×Int×Int):=@λA B C=>match A,B,C with
 |zz,0,st=>st
 |i,n+1,st=>outer a idx blo bhi (i+1) n (inner st.1 blo bhi i (idx (a i)) (λzz=>0,st.2))
theorem yl (a:Nat→Int) (idx:Int→List Int) (blo bhi:Int):∀(n i:Nat) (st:(Int→Int)×(Int×Int×Int)),
  outer a idx blo bhi i (n+1) st=inner (outer a idx blo bhi i n st).1 blo bhi (i+n:Nat) (idx (a (i+n))) (λzz=>0,(outer a idx blo bhi i n st).2):=@λA B C=>match A,B,C with
 |0,i,st=>rfl
 |n+1,i,st=>by
  refine (yl a idx blo bhi n (i+1) _).trans ?_;have e:i+1+n=i+(n+1):=by exact (bJ (Lin.ah (.c _ (.c _ .z)) .z 1 .z (.a (.a (.v 0) (.n 1)) (.v 1)) (.a (.v 0) (.a (.v 1) (.n 1))) rfl) (Lin.ah (.c _ (.c _ .z)) .z 1 .z (.a (.v 0) (.a (.v 1) (.n 1))) (.a (.a (.v 0) (.n 1)) (.v 1)) rfl))
  rw [e];rfl
theorem ym {g:Int→Int}{blo bhi i j:Int}{r:List Int}{st:(Int→Int)×(Int×Int×Int)}(h:¬j<blo) (J:¬bhi≤j):inner g blo bhi i (j::r) st=inner g blo bhi i r (λx=>if x=j then g (j-1)+1 else st.1 x,if st.2.2.2<g (j-1)+1 then (i-(g (j-1)+1)+1,j-(g (j-1)+1)+1,g (j-1)+1) else st.2):=(if_neg h).trans (if_neg J)
theorem yo {g:Int→Int}{blo bhi i j:Int}{r:List Int}{st:(Int→Int)×(Int×Int×Int)}(h:j<blo):inner g blo bhi i (j::r) st=inner g blo bhi i r st:=if_pos h
theorem DB {g:Int→Int}{blo bhi i j:Int}{r:List Int}{st:(Int→Int)×(Int×Int×Int)}(h:¬j<blo) (J:bhi≤j):inner g blo bhi i (j::r) st=st:=(if_neg h).trans (if_pos J)
theorem Lm {g:Int→Int}{blo bhi i j:Int}{r:List Int}{st:(Int→Int)×(Int×Int×Int)}(h:¬j<blo) (J:¬bhi≤j) (V:st.2.2.2<g (j-1)+1) :
  inner g blo bhi i (j::r) st=inner g blo bhi i r (λx=>if x=j then g (j-1)+1 else st.1 x,(i-(g (j-1)+1)+1,j-(g (j-1)+1)+1,g (j-1)+1)):=by
 refine (ym h J).trans ?_;rw [if_pos V]
theorem Ln {g:Int→Int}{blo bhi i j:Int}{r:List Int}{st:(Int→Int)×(Int×Int×Int)}(h:¬j<blo) (J:¬bhi≤j) (V:¬st.2.2.2<g (j-1)+1) :
  inner g blo bhi i (j::r) st=inner g blo bhi i r (λx=>if x=j then g (j-1)+1 else st.1 x,st.2):=by
 refine (ym h J).trans ?_;rw [if_neg V]
noncomputable def ez (a b:Nat→Int) (ok:Int→Bool) (alo blo:Nat):Nat→Nat→Nat→Nat×Nat×Nat:=@λA B C=>match A,B,C with
 |0,j,k=>(0,j,k)
 |i+1,j,k=>if alo<i+1∧blo<j∧ok (b (j-1))=true∧a i=b (j-1) then ez a b ok alo blo i (j-1) (k+1) else (i+1,j,k)
theorem tO {a b:Nat→Int}{ok:Int→Bool}{alo blo i j k:Nat}(h:¬(alo<i∧blo<j∧ok (b (j-1))=true∧a (i-1)=b (j-1))):ez a b ok alo blo i j k=(i,j,k):=by
 cases i with
 |zero=>rfl
 |succ i=>exact if_neg h
theorem DC {a b:Nat→Int}{ok:Int→Bool}{alo blo i j k:Nat}(h:alo<i∧blo<j∧ok (b (j-1))=true∧a (i-1)=b (j-1)):ez a b ok alo blo i j k=ez a b ok alo blo (i-1) (j-1) (k+1):=by
 cases i with
 |zero=>exact absurd h.1 (wx _)
 |succ i=>exact if_pos h
noncomputable def eF (a b:Nat→Int) (ok:Int→Bool) (ahi bhi i j:Nat):Nat→Nat→Nat:=@λA B=>match A,B with
 |0,k=>k
 |n+1,k=>if i+k<ahi∧j+k<bhi∧ok (b (j+k))=true∧a (i+k)=b (j+k) then eF a b ok ahi bhi i j n (k+1) else k
theorem tP {a b:Nat→Int}{ok:Int→Bool}{ahi bhi i j k:Nat}(h:¬(i+k<ahi∧j+k<bhi∧ok (b (j+k))=true∧a (i+k)=b (j+k))) (n:Nat):eF a b ok ahi bhi i j n k=k:=by
 cases n with
 |zero=>rfl
 |succ n=>exact if_neg h
theorem Lo {a b:Nat→Int}{ok:Int→Bool}{ahi bhi i j k:Nat}(h:i+k<ahi∧j+k<bhi∧ok (b (j+k))=true∧a (i+k)=b (j+k)):eF a b ok ahi bhi i j (ahi-(i+k)) k=eF a b ok ahi bhi i j (ahi-(i+(k+1))) (k+1):=by
 refine El.ea (⟨ahi-(i+k)-1,by exact (bJ (Lin.ah (.c _ (.c _ .z)) .z 1 (.c 1 (.aw (.v 0) (.a (.v 1) (.n 1))) .z) (.v 0) (.a (.v 1) (.n 1)) rfl (aT (Lin.ah (.c _ (.c _ (.c _ (.c _ .z)))) .z 1 (.c 1 (.ak (.a (.v 1) (.v 2)) (.v 3)) (.c 1 (.aw (.v 3) (.a (.v 0) (.a (.v 1) (.v 2)))) .z)) (.n 1) (.v 0) rfl h.1 (aT (Lin.ah (.c _ (.c _ (.c _ .z))) .z 1 (.c 1 (.ak (.a (.v 0) (.v 1)) (.v 2)) .z) (.a (.v 0) (.v 1)) (.v 2) rfl h.1)).symm)).symm) (Lin.ah (.c _ (.c _ .z)) .z 1 (.c 1 (.aw (.a (.v 0) (.n 1)) (.v 1)) .z) (.a (.v 0) (.n 1)) (.v 1) rfl (aT (Lin.ah (.c _ (.c _ (.c _ (.c _ .z)))) .z 1 (.c 1 (.ak (.a (.v 1) (.v 2)) (.v 3)) (.c 1 (.aw (.v 3) (.a (.v 0) (.a (.v 1) (.v 2)))) .z)) (.n 1) (.v 0) rfl h.1 (aT (Lin.ah (.c _ (.c _ (.c _ .z))) .z 1 (.c 1 (.ak (.a (.v 0) (.v 1)) (.v 2)) .z) (.a (.v 0) (.v 1)) (.v 2) rfl h.1)).symm))))⟩:∃n,ahi-(i+k)=n+1) λn J=>?_
 have e:ahi-(i+(k+1))=n:=by exact (bJ (Lin.ah (.c _ (.c _ (.c _ (.c _ (.c _ (.c _ .z)))))) .z 1 (.c 1 (.aw (.v 2) (.a (.v 1) (.n 1))) (.c 1 (.aw (.v 3) (.a (.v 2) (.a (.v 4) (.v 5)))) (.c 1 (.aw (.a (.v 0) (.a (.v 4) (.a (.v 5) (.n 1)))) (.v 3)) .z))) (.v 0) (.v 1) rfl J (aT (Lin.ah (.c _ (.c _ (.c _ .z))) .z 1 (.c 1 (.ak (.a (.v 0) (.v 1)) (.v 2)) .z) (.a (.v 0) (.v 1)) (.v 2) rfl h.1)).symm (aT (Lin.ah (.c _ (.c _ (.c _ .z))) .z 1 (.c 1 (.ak (.a (.v 0) (.v 1)) (.v 2)) .z) (.a (.v 0) (.a (.v 1) (.n 1))) (.v 2) rfl h.1))) (Lin.ah (.c _ (.c _ (.c _ (.c _ (.c _ (.c _ .z)))))) .z 1 (.c 1 (.aw (.a (.v 0) (.n 1)) (.v 2)) (.c 1 (.aw (.a (.v 2) (.a (.v 3) (.v 4))) (.v 5)) (.c 1 (.aw (.v 5) (.a (.v 1) (.a (.v 3) (.a (.v 4) (.n 1))))) .z))) (.v 0) (.v 1) rfl (cB J) (aT (Lin.ah (.c _ (.c _ (.c _ .z))) .z 1 (.c 1 (.ak (.a (.v 0) (.v 1)) (.v 2)) .z) (.a (.v 0) (.v 1)) (.v 2) rfl h.1)) (aT (Lin.ah (.c _ (.c _ (.c _ .z))) .z 1 (.c 1 (.ak (.a (.v 0) (.v 1)) (.v 2)) .z) (.a (.v 0) (.a (.v 1) (.n 1))) (.v 2) rfl h.1)).symm))
 rw [J,e];exact if_pos h
noncomputable def GB (blo bhi:Int) (n:Nat) (g:Int→Int):Prop:=∀j,0≤g j∧g j≤n∧(0<g j→blo≤j∧j<bhi∧g j≤j-blo+1)
noncomputable def BB (alo blo bhi:Int) (n:Nat) (b:Int×Int×Int):Prop:=alo≤b.1∧b.1+b.2.2≤alo+n∧blo≤b.2.1∧b.2.1+b.2.2≤bhi∧0≤b.2.2
theorem yq {g:Int→Int}{alo blo bhi:Int}{n:Nat}(hg:GB blo bhi n g):∀(Y:List Int) (st:(Int→Int)×(Int×Int×Int)),GB blo bhi (n+1) st.1→BB alo blo bhi (n+1) st.2→
  GB blo bhi (n+1) (inner g blo bhi (alo+n) Y st).1∧BB alo blo bhi (n+1) (inner g blo bhi (alo+n) Y st).2:=@λA B C D=>match A,B,C,D with
 |[],st,J,V=>⟨J,V⟩
 |j::r,st,J,V=>by
  rw [inner];by_cases Z:j<blo
  ·rw [if_pos Z];exact yq hg r st J V
  ·rw [if_neg Z];by_cases hh:bhi≤j
   ·refine ae (if_pos hh ..) ?_;exact ⟨J,V⟩
   ·refine ae (if_neg hh ..) ?_;have hk:=hg (j-1);refine yq hg r _ (λx=>?_) ?_
    ·dsimp only;by_cases hx:x=j
     ·refine ae (if_pos hx ..) ?_;subst hx;omega
     ·refine ae (if_neg hx ..) ?_;exact J x
    ·dsimp only;by_cases W:st.2.2.2<g (j-1)+1
     ·refine ae (if_pos W ..) ?_;unfold BB;dsimp only;exact El.l8 (Lin.aA (.c _ .z) (.c _ (.c _ .z)) 1 (.c 1 (.aA (.v 1) (.o (.v 0))) .z) (.v 0) (.a (.s (.a (.v 0) (.o (.v 0))) (.a (.v 1) (.n 1))) (.n 1)) rfl hk.2.1) (Lin.aA (.c _ .z) (.c _ (.c _ .z)) 1 .z (.a (.a (.s (.a (.v 0) (.o (.v 0))) (.a (.v 1) (.n 1))) (.n 1)) (.a (.v 1) (.n 1))) (.a (.v 0) (.o (.a (.v 0) (.n 1)))) rfl) (by (clear W;omega)) (Lin.aA .z (.c _ (.c _ (.c _ .z))) 1 (.c 1 (.aM (.v 0) (.v 2)) .z) (.a (.a (.s (.v 0) (.a (.v 1) (.n 1))) (.n 1)) (.a (.v 1) (.n 1))) (.v 2) rfl (jI.mp hh)) (Lin.aA .z (.c _ .z) 1 (.c 1 (.aA (.n 0) (.v 0)) .z) (.n 0) (.a (.v 0) (.n 1)) rfl hk.1)
     ·refine ae (if_neg W ..) ?_;exact V
theorem DD (a:Nat→Int) (idx:Int→List Int) {alo blo bhi:Nat}(V:blo≤bhi):∀n:Nat,
  GB blo bhi n (outer a idx blo bhi alo n (λzz=>0,((alo:Int),(blo:Int),(0:Int)))).1∧BB alo blo bhi n (outer a idx blo bhi alo n (λzz=>0,((alo:Int),(blo:Int),(0:Int)))).2:=@λA=>match A with
 |0=>by
  refine ⟨λj=>?_,?_⟩
  ·simp [outer]
  ·unfold BB outer;dsimp only;lia
 |n+1=>by
  refine El.aa (DD a idx V n (alo:=alo)) λW J=>?_;refine ae (yl ..) ?_;have e:((alo+n:Nat):Int)=(alo:Int)+n:=by exact (eK (Lin.aA (.c _ (.c _ .z)) .z 1 .z (.o (.a (.v 0) (.v 1))) (.a (.o (.v 0)) (.o (.v 1))) rfl) (Lin.aA (.c _ (.c _ .z)) .z 1 .z (.a (.o (.v 0)) (.o (.v 1))) (.o (.a (.v 0) (.v 1))) rfl))
  refine ae (e ..) ?_;refine yq W _ _ (λj=>?_) ?_
  ·dsimp only;lia
  ·unfold BB at J ⊢;dsimp only;exact El.l8 (Lin.aA (.c _ .z) (.c _ .z) 1 (.c 1 (.aA (.o (.v 0)) (.v 0)) .z) (.o (.v 0)) (.v 0) rfl J.1) (Lin.aA (.c _ (.c _ .z)) (.c _ (.c _ .z)) 1 (.c 1 (.aA (.a (.v 0) (.v 1)) (.a (.o (.v 0)) (.o (.v 1)))) .z) (.a (.v 0) (.v 1)) (.a (.o (.v 0)) (.o (.a (.v 1) (.n 1)))) rfl J.2.1) (Lin.aA (.c _ .z) (.c _ .z) 1 (.c 1 (.aA (.o (.v 0)) (.v 0)) .z) (.o (.v 0)) (.v 0) rfl J.2.2.1) (Lin.aA (.c _ .z) (.c _ (.c _ .z)) 1 (.c 1 (.aA (.a (.v 0) (.v 1)) (.o (.v 0))) .z) (.a (.v 0) (.v 1)) (.o (.v 0)) rfl J.2.2.2.1) (Lin.aA .z (.c _ .z) 1 (.c 1 (.aA (.n 0) (.v 0)) .z) (.n 0) (.v 0) rfl J.2.2.2.2)
theorem DE (a:Nat→Int) (idx:Int→List Int) {alo ahi blo bhi:Nat}(J:blo≤bhi) (V:alo≤ahi):∃i j k:Nat,(outer a idx blo bhi alo (ahi-alo) (λzz=>0,((alo:Int),(blo:Int),(0:Int)))).2=((i:Int),(j:Int),(k:Int))∧alo≤i∧i+k≤ahi∧blo≤j∧j+k≤bhi:=by
 refine El.aa (DD a idx J (ahi-alo) (alo:=alo)) λzz h=>?_;revert h;generalize (outer a idx blo bhi alo (ahi-alo) (λzz=>0,((alo:Int),(blo:Int),(0:Int)))).2=b;obtain ⟨x,y,z⟩:=b;unfold BB;intro h;dsimp only at h;refine El.rj x.toNat y.toNat z.toNat ?_ (by exact (Lin.ah (.c _ (.c _ .z)) (.c _ .z) 1 (.c 1 (.aA (.o (.v 0)) (.v 0)) (.c 1 (.bW (.v 0) (.o (.v 1))) .z)) (.v 0) (.v 1) rfl h.1 (jh (Lin.aA (.c _ .z) (.c _ .z) 1 (.c 1 (.aA (.o (.v 0)) (.v 0)) .z) (.n 0) (.v 0) rfl h.1)).symm)) (by exact (Lin.ah (.c _ (.c _ (.c _ (.c _ (.c _ .z))))) (.c _ (.c _ .z)) 1 (.c 1 (.aA (.a (.v 0) (.v 1)) (.a (.o (.v 3)) (.o (.v 4)))) (.c 1 (.aw (.a (.v 4) (.v 3)) (.v 2)) (.c 1 (.bW (.o (.v 0)) (.v 0)) (.c 1 (.bW (.o (.v 1)) (.v 1)) .z)))) (.a (.v 0) (.v 1)) (.v 2) rfl h.2.1 (aT (Lin.ah (.c _ (.c _ .z)) .z 1 (.c 1 (.ah (.v 0) (.v 1)) .z) (.v 0) (.v 1) rfl V)) (jh (Lin.aA (.c _ .z) (.c _ .z) 1 (.c 1 (.aA (.o (.v 0)) (.v 0)) .z) (.n 0) (.v 0) rfl h.1)) (jh (Lin.aA .z (.c _ .z) 1 (.c 1 (.aA (.n 0) (.v 0)) .z) (.n 0) (.v 0) rfl h.2.2.2.2)))) (by exact (Lin.ah (.c _ (.c _ .z)) (.c _ .z) 1 (.c 1 (.aA (.o (.v 0)) (.v 0)) (.c 1 (.bW (.v 0) (.o (.v 1))) .z)) (.v 0) (.v 1) rfl h.2.2.1 (jh (Lin.aA (.c _ .z) (.c _ .z) 1 (.c 1 (.aA (.o (.v 0)) (.v 0)) .z) (.n 0) (.v 0) rfl h.2.2.1)).symm)) (by exact (Lin.ah (.c _ (.c _ (.c _ .z))) (.c _ (.c _ .z)) 1 (.c 1 (.aA (.a (.v 0) (.v 1)) (.o (.v 2))) (.c 1 (.bW (.o (.v 0)) (.v 0)) (.c 1 (.bW (.o (.v 1)) (.v 1)) .z))) (.a (.v 0) (.v 1)) (.v 2) rfl h.2.2.2.1 (jh (Lin.aA (.c _ .z) (.c _ .z) 1 (.c 1 (.aA (.o (.v 0)) (.v 0)) .z) (.n 0) (.v 0) rfl h.2.2.1)) (jh (Lin.aA .z (.c _ .z) 1 (.c 1 (.aA (.n 0) (.v 0)) .z) (.n 0) (.v 0) rfl h.2.2.2.2))))
 exact ae (jh (by exact (Lin.aA (.c _ .z) (.c _ .z) 1 (.c 1 (.aA (.o (.v 0)) (.v 0)) .z) (.n 0) (.v 0) rfl h.1)) ..) (ae (jh (by exact (Lin.aA (.c _ .z) (.c _ .z) 1 (.c 1 (.aA (.o (.v 0)) (.v 0)) .z) (.n 0) (.v 0) rfl h.2.2.1)) ..) (ae (jh (by exact h.2.2.2.2) ..) rfl))
noncomputable def iC (a b:Nat→Int) (idx:Int→List Int) (S:Int→Bool) (alo ahi blo bhi:Nat):Nat×Nat×Nat:=
 let r:=(outer a idx blo bhi alo (ahi-alo) (λzz=>0,((alo:Int),(blo:Int),(0:Int)))).2
 let r1:=ez a b (λc=>!S c) alo blo r.1.toNat r.2.1.toNat r.2.2.toNat
 let k2:=eF a b (λc=>!S c) ahi bhi r1.1 r1.2.1 (ahi-(r1.1+r1.2.2)) r1.2.2
 let J:=ez a b S alo blo r1.1 r1.2.1 k2
 (J.1,J.2.1,eF a b S ahi bhi J.1 J.2.1 (ahi-(J.1+J.2.2)) J.2.2)
noncomputable abbrev iD:=Nat×Nat×Nat×Nat
noncomputable abbrev aX:=Nat×Nat×Nat
section
variable (f:Nat→Nat→Nat→Nat→aX)
noncomputable def ro:Nat→iD→List aX:=@λA B=>match A,B with
 |0,zz=>[]
 |n+1,(alo,ahi,blo,bhi)=>
  let r:=f alo ahi blo bhi
  if r.2.2=0 then [] else
   (if alo<r.1∧blo<r.2.1 then ro n (alo,r.1,blo,r.2.1) else [])++r::(if r.1+r.2.2<ahi∧r.2.1+r.2.2<bhi then ro n (r.1+r.2.2,ahi,r.2.1+r.2.2,bhi) else [])
noncomputable def jT (f:Nat→Nat→Nat→Nat→aX):Prop:=∀alo ahi blo bhi,alo≤ahi→blo≤bhi→alo≤(f alo ahi blo bhi).1∧(f alo ahi blo bhi).1+(f alo ahi blo bhi).2.2≤ahi∧blo≤(f alo ahi blo bhi).2.1∧(f alo ahi blo bhi).2.1+(f alo ahi blo bhi).2.2≤bhi
noncomputable def dJ (r:iD):List aX:=ro f (r.2.1-r.1) r
variable {f}
theorem tQ (Y:jT f):∀(n m:Nat) (alo ahi blo bhi:Nat),alo≤ahi→blo≤bhi→ahi-alo≤n→n≤m→ro f m (alo,ahi,blo,bhi)=ro f n (alo,ahi,blo,bhi):=@λA B C D F G H J K L=>match A,B,C,D,F,G,H,J,K,L with
 |0,0,zz,zy,zx,zw,zv,zu,zt,zr=>rfl
 |0,m+1,alo,ahi,blo,bhi,Z,h2,h3,zz=>by
  have h:=Y alo ahi blo bhi Z h2;exact if_pos (by exact (bJ (Lin.ah (.c _ (.c _ (.c _ (.c _ (.c _ .z))))) .z 1 (.c 1 (.ah (.v 1) (.n 0)) (.c 1 (.ah (.v 2) (.v 3)) (.c 1 (.ah (.a (.v 3) (.v 0)) (.v 4)) (.c 1 (.aw (.v 4) (.a (.v 1) (.v 2))) .z)))) (.v 0) (.n 0) rfl h3 h.1 h.2.1 (aT (Lin.ah (.c _ (.c _ .z)) .z 1 (.c 1 (.ah (.v 0) (.v 1)) .z) (.v 0) (.v 1) rfl Z)).symm) (Lin.ah (.c _ .z) .z 1 .z (.n 0) (.v 0) rfl)))
 |n+1,m+1,alo,ahi,blo,bhi,Z,h2,h3,h4=>by
  have h:=Y alo ahi blo bhi Z h2;by_cases hk:(f alo ahi blo bhi).2.2=0
  ·exact (if_pos hk).trans (if_pos hk).symm
  ·refine (if_neg hk).trans (JT ?_ (if_neg hk).symm)
   congr 1
   ·by_cases hl:alo<(f alo ahi blo bhi).1∧blo<(f alo ahi blo bhi).2.1
    ·refine ae (if_pos hl ..) (ae (if_pos hl ..) ?_);exact tQ Y n m _ _ _ _ (by exact (et hl.1)) (by exact (et hl.2)) (by exact (Or.elim (ng hk) (λV=>(Lin.ah (.c _ (.c _ (.c _ .z))) .z 0 (.c 1 (.ak (.v 2) (.n 0)) .z) (.v 0) (.v 1) rfl V)) λV=>(Lin.ah (.c _ (.c _ (.c _ (.c _ (.c _ (.c _ (.c _ .z))))))) .z 1 (.c 1 (.ah (.v 2) (.a (.v 1) (.n 1))) (.c 1 (.ah (.a (.v 3) (.v 4)) (.v 5)) (.c 1 (.aw (.v 5) (.a (.v 2) (.v 6))) (.c 1 (.aw (.a (.v 0) (.v 6)) (.v 3)) (.c 1 (.ak (.n 0) (.v 4)) .z))))) (.v 0) (.v 1) rfl h3 h.2.1 (aT (Lin.ah (.c _ (.c _ (.c _ (.c _ .z)))) .z 1 (.c 1 (.ah (.a (.v 2) (.v 3)) (.v 1)) (.c 1 (.ak (.v 0) (.v 2)) .z)) (.v 0) (.v 1) rfl h.2.1 hl.1)).symm (aT (Lin.ah (.c _ (.c _ .z)) .z 1 (.c 1 (.ak (.v 0) (.v 1)) .z) (.v 0) (.v 1) rfl hl.1)) V))) (by exact (qu h4))
    ·exact ae (if_neg hl ..) (ae (if_neg hl ..) rfl)
   ·congr 1
    by_cases W:(f alo ahi blo bhi).1+(f alo ahi blo bhi).2.2<ahi∧(f alo ahi blo bhi).2.1+(f alo ahi blo bhi).2.2<bhi
    ·refine ae (if_pos W ..) (ae (if_pos W ..) ?_);exact tQ Y n m _ _ _ _ (by exact (et W.1)) (by exact (et W.2)) (by exact (Or.elim (ng hk) (λV=>(Lin.ah (.c _ (.c _ (.c _ .z))) .z 0 (.c 1 (.ak (.v 2) (.n 0)) .z) (.v 0) (.v 1) rfl V)) λV=>(Lin.ah (.c _ (.c _ (.c _ (.c _ (.c _ (.c _ (.c _ .z))))))) .z 1 (.c 1 (.ah (.v 2) (.a (.v 1) (.n 1))) (.c 1 (.ah (.v 3) (.v 4)) (.c 1 (.aw (.v 5) (.a (.v 2) (.v 3))) (.c 1 (.aw (.a (.v 0) (.a (.v 4) (.v 6))) (.v 5)) (.c 1 (.ak (.n 0) (.v 6)) .z))))) (.v 0) (.v 1) rfl h3 h.1 (aT (Lin.ah (.c _ (.c _ (.c _ (.c _ .z)))) .z 1 (.c 1 (.ah (.v 0) (.v 2)) (.c 1 (.ak (.a (.v 2) (.v 3)) (.v 1)) .z)) (.v 0) (.v 1) rfl h.1 W.1)).symm (aT (Lin.ah (.c _ (.c _ (.c _ .z))) .z 1 (.c 1 (.ak (.a (.v 0) (.v 1)) (.v 2)) .z) (.a (.v 0) (.v 1)) (.v 2) rfl W.1)) V))) (by exact (qu h4))
    ·exact ae (if_neg W ..) (ae (if_neg W ..) rfl)
theorem DF {alo ahi blo bhi:Nat}(h:(f alo ahi blo bhi).2.2=0):dJ f (alo,ahi,blo,bhi)=[]:=by
 unfold dJ;dsimp only;cases ahi-alo with
 |zero=>rfl
 |succ n=>exact if_pos h
theorem rk (W:jT f) {alo ahi blo bhi i j k:Nat}(Z:alo≤ahi) (h2:blo≤bhi) (e:f alo ahi blo bhi=(i,j,k)) (hk:k≠0) :
  dJ f (alo,ahi,blo,bhi)=(if alo<i∧blo<j then dJ f (alo,i,blo,j) else [])++(i,j,k)::(if i+k<ahi∧j+k<bhi then dJ f (i+k,ahi,j+k,bhi) else []):=by
 have h:=W alo ahi blo bhi Z h2;rw [e] at h;dsimp only at h;unfold dJ;dsimp only;refine El.ea (⟨ahi-alo-1,by lia⟩:∃n,ahi-alo=n+1) λn Y=>?_
 rw [Y];refine (if_neg (c:=(f alo ahi blo bhi).2.2=0) (by rw [e];exact hk)).trans ?_
 rw [e];dsimp only
 congr 1
 ·by_cases hl:alo<i∧blo<j
  ·refine ae (if_pos hl ..) (ae (if_pos hl ..) ?_);exact tQ W _ n _ _ _ _ (by exact (et hl.1)) (by exact (et hl.2)) (aI _) (by exact (Or.elim (ng hk) (λJ=>(Lin.ah (.c _ (.c _ (.c _ .z))) .z 0 (.c 1 (.ak (.v 2) (.n 0)) .z) (.v 0) (.v 1) rfl J)) λJ=>(Lin.ah (.c _ (.c _ (.c _ (.c _ (.c _ (.c _ (.c _ .z))))))) .z 1 (.c 1 (.ah (.a (.v 2) (.v 3)) (.v 4)) (.c 1 (.aw (.v 5) (.a (.v 1) (.n 1))) (.c 1 (.aw (.v 4) (.a (.v 5) (.v 6))) (.c 1 (.aw (.a (.v 0) (.v 6)) (.v 2)) (.c 1 (.ak (.n 0) (.v 3)) .z))))) (.v 0) (.v 1) rfl h.2.1 Y (aT (Lin.ah (.c _ (.c _ (.c _ (.c _ .z)))) .z 1 (.c 1 (.ah (.a (.v 2) (.v 3)) (.v 1)) (.c 1 (.ak (.v 0) (.v 2)) .z)) (.v 0) (.v 1) rfl h.2.1 hl.1)).symm (aT (Lin.ah (.c _ (.c _ .z)) .z 1 (.c 1 (.ak (.v 0) (.v 1)) .z) (.v 0) (.v 1) rfl hl.1)) J)))
  ·exact ae (if_neg hl ..) (ae (if_neg hl ..) rfl)
 ·congr 1
  by_cases V:i+k<ahi∧j+k<bhi
  ·refine ae (if_pos V ..) (ae (if_pos V ..) ?_);exact tQ W _ n _ _ _ _ (by exact (et V.1)) (by exact (et V.2)) (aI _) (by exact (Or.elim (ng hk) (λJ=>(Lin.ah (.c _ (.c _ (.c _ .z))) .z 0 (.c 1 (.ak (.v 2) (.n 0)) .z) (.v 0) (.v 1) rfl J)) λJ=>(Lin.ah (.c _ (.c _ (.c _ (.c _ (.c _ (.c _ (.c _ .z))))))) .z 1 (.c 1 (.ah (.v 2) (.v 3)) (.c 1 (.aw (.v 4) (.a (.v 1) (.n 1))) (.c 1 (.aw (.v 5) (.a (.v 4) (.v 2))) (.c 1 (.aw (.a (.v 0) (.a (.v 3) (.v 6))) (.v 5)) (.c 1 (.ak (.n 0) (.v 6)) .z))))) (.v 0) (.v 1) rfl h.1 Y (aT (Lin.ah (.c _ (.c _ (.c _ (.c _ .z)))) .z 1 (.c 1 (.ah (.v 0) (.v 2)) (.c 1 (.ak (.a (.v 2) (.v 3)) (.v 1)) .z)) (.v 0) (.v 1) rfl h.1 V.1)).symm (aT (Lin.ah (.c _ (.c _ (.c _ .z))) .z 1 (.c 1 (.ak (.a (.v 0) (.v 1)) (.v 2)) .z) (.a (.v 0) (.v 1)) (.v 2) rfl V.1)) J)))
  ·exact ae (if_neg V ..) (ae (if_neg V ..) rfl)
end
noncomputable def fq (qs:List iD):Nat:=(qs.map λr=>2*(r.2.1-r.1)+1).sum
theorem l9 (qs:List iD) (r:iD):fq (qs++[r])=fq qs+(2*(r.2.1-r.1)+1):=by simp [fq]
theorem yt:∀qs:List iD,qs.length≤fq qs:=@λA=>match A with
 |[]=>aI _
 |r::qs=>by
  have:=yt qs;simp only [fq,eU,nh,dA] at this ⊢;exact (Lin.ah (.c _ (.c _ (.c _ .z))) .z 1 (.c 1 (.ah (.v 0) (.v 2)) .z) (.a (.v 0) (.n 1)) (.a (.a (.m 2 (.v 1)) (.n 1)) (.v 2)) rfl this)
theorem cut {x1 x2 i k:Nat}(V:x1≤i) (W:i+k≤x2):(i-x1)+(x2-(i+k))+k=x2-x1:=by
 refine El.ea (W7 V) λa J=>?_;clear V;subst J;refine El.ea (W7 W) λb J=>?_;clear W;subst J;refine ae (qv ..) (ae (qv ..) ?_);exact (qv (n:=x1) (m:=a+b+k)).symm.trans (by exact ae (eV ..).symm (ae (eV ..).symm (ae (gp _ b k ..) rfl)))
section
variable {rs:List iD}{x1 x2 x3 x4 i j k:Nat}
theorem yu (hk:k≠0) (V:x1≤i) (W:i+k≤x2):fq ((rs++[(x1,i,x3,j)])++[(i+k,x2,j+k,x4)])<fq (rs++[(x1,x2,x3,x4)]):=by
 refine ae (l9 ..) (ae (l9 ..) (ae (l9 ..) ?_));dsimp only;refine ae (cut V W ..).symm ?_;generalize i-x1=a;generalize x2-(i+k)=b;generalize fq rs=r;clear V W;exact (Or.elim (ng hk) (λJ=>(Lin.ak (.c _ (.c _ (.c _ (.c _ .z)))) .z 0 (.c 1 (.ak (.v 3) (.n 0)) .z) (.a (.a (.v 0) (.a (.m 2 (.v 1)) (.n 1))) (.a (.m 2 (.v 2)) (.n 1))) (.a (.v 0) (.a (.m 2 (.a (.a (.v 1) (.v 2)) (.v 3))) (.n 1))) rfl J)) λJ=>(Lin.ak (.c _ (.c _ (.c _ (.c _ .z)))) .z 1 (.c 2 (.ak (.n 0) (.v 3)) .z) (.a (.a (.v 0) (.a (.m 2 (.v 1)) (.n 1))) (.a (.m 2 (.v 2)) (.n 1))) (.a (.v 0) (.a (.m 2 (.a (.a (.v 1) (.v 2)) (.v 3))) (.n 1))) rfl J))
theorem Lp (hk:k≠0) (J:x1≤i) (V:i+k≤x2):fq (rs++[(x1,i,x3,j)])<fq (rs++[(x1,x2,x3,x4)]):=by
 refine cb ?_ (yu (j:=j) hk J V);refine ae (l9 (rs++_) ..) ?_;exact bc _ _
theorem Lq (hk:k≠0) (J:x1≤i) (V:i+k≤x2):fq (rs++[(i+k,x2,j+k,x4)])<fq (rs++[(x1,x2,x3,x4)]):=by
 refine cb ?_ (yu (j:=j) hk J V);refine ae (l9 ..) (ae (l9 ..) (ae (l9 ..) ?_));exact qw (bc _ _) _
theorem DG:fq rs<fq (rs++[(x1,x2,x3,x4)]):=by
 refine ae (l9 ..) ?_;exact JU (sS _)
end
theorem yv {a b:Nat→Int}{ok:Int→Bool}{alo blo:Nat}:∀(i j k:Nat),alo≤i→blo≤j→alo≤(ez a b ok alo blo i j k).1∧(ez a b ok alo blo i j k).1+(ez a b ok alo blo i j k).2.2=i+k∧blo≤(ez a b ok alo blo i j k).2.1∧(ez a b ok alo blo i j k).2.1+(ez a b ok alo blo i j k).2.2=j+k:=@λA B C D F=>match A,B,C,D,F with
 |0,j,k,J,V=>by
  exact El.cy J rfl V rfl
 |i+1,j,k,J,V=>by
  by_cases h:alo<i+1∧blo<j∧ok (b (j-1))=true∧a i=b (j-1)
  ·refine ae (DC (i:=i+1) h) ?_;have:=yv (a:=a) (b:=b) (ok:=ok) (alo:=alo) (blo:=blo) i (j-1) (k+1) (by exact (ni h.1)) (by exact (Lin.ah (.c _ (.c _ (.c _ .z))) .z 1 (.c 1 (.ak (.v 0) (.v 2)) (.c 1 (.aw (.v 2) (.a (.v 1) (.n 1))) .z)) (.v 0) (.v 1) rfl h.2.1 (aT (Lin.ah (.c _ (.c _ .z)) .z 1 (.c 1 (.ak (.v 1) (.v 0)) .z) (.n 1) (.v 0) rfl h.2.1)).symm))
   exact El.cy (Lin.ah (.c _ (.c _ .z)) .z 1 (.c 1 (.ah (.v 0) (.v 1)) .z) (.v 0) (.v 1) rfl this.1) (bJ (Lin.ah (.c _ (.c _ (.c _ (.c _ .z)))) .z 1 (.c 1 (.aw (.a (.v 0) (.v 1)) (.a (.v 2) (.a (.v 3) (.n 1)))) .z) (.a (.v 0) (.v 1)) (.a (.a (.v 2) (.n 1)) (.v 3)) rfl this.2.1) (Lin.ah (.c _ (.c _ (.c _ (.c _ .z)))) .z 1 (.c 1 (.aw (.a (.v 0) (.a (.v 1) (.n 1))) (.a (.v 2) (.v 3))) .z) (.a (.a (.v 0) (.n 1)) (.v 1)) (.a (.v 2) (.v 3)) rfl (cB this.2.1))) (Lin.ah (.c _ (.c _ .z)) .z 1 (.c 1 (.ah (.v 0) (.v 1)) .z) (.v 0) (.v 1) rfl this.2.2.1) (bJ (Lin.ah (.c _ (.c _ (.c _ (.c _ (.c _ .z))))) .z 1 (.c 1 (.aw (.a (.v 0) (.v 1)) (.a (.v 4) (.a (.v 3) (.n 1)))) (.c 1 (.aw (.a (.v 4) (.n 1)) (.v 2)) .z)) (.a (.v 0) (.v 1)) (.a (.v 2) (.v 3)) rfl this.2.2.2 (aT (Lin.ah (.c _ (.c _ .z)) .z 1 (.c 1 (.ak (.v 1) (.v 0)) .z) (.n 1) (.v 0) rfl h.2.1))) (Lin.ah (.c _ (.c _ (.c _ (.c _ (.c _ .z))))) .z 1 (.c 1 (.aw (.a (.v 4) (.a (.v 1) (.n 1))) (.a (.v 2) (.v 3))) (.c 1 (.aw (.v 0) (.a (.v 4) (.n 1))) .z)) (.a (.v 0) (.v 1)) (.a (.v 2) (.v 3)) rfl (cB this.2.2.2) (aT (Lin.ah (.c _ (.c _ .z)) .z 1 (.c 1 (.ak (.v 1) (.v 0)) .z) (.n 1) (.v 0) rfl h.2.1)).symm))
  ·refine ae (tO (i:=i+1) h) ?_;dsimp only;lia
theorem yw {a b:Nat→Int}{ok:Int→Bool}{ahi bhi i j:Nat}:∀(n k:Nat),i+k≤ahi→j+k≤bhi→k≤eF a b ok ahi bhi i j n k∧i+eF a b ok ahi bhi i j n k≤ahi∧j+eF a b ok ahi bhi i j n k≤bhi:=@λA B C D=>match A,B,C,D with
 |0,k,J,V=>El.aK (aI _) J V
 |n+1,k,J,V=>by
  by_cases h:i+k<ahi∧j+k<bhi∧ok (b (j+k))=true∧a (i+k)=b (j+k)
  ·have e:eF a b ok ahi bhi i j (n+1) k=eF a b ok ahi bhi i j n (k+1):=if_pos h;refine ae e ?_;have:=yw (a:=a) (b:=b) (ok:=ok) (ahi:=ahi) (bhi:=bhi) (i:=i) (j:=j) n (k+1) (by exact (Lin.ah (.c _ (.c _ (.c _ .z))) .z 1 (.c 1 (.ak (.a (.v 0) (.v 1)) (.v 2)) .z) (.a (.v 0) (.a (.v 1) (.n 1))) (.v 2) rfl h.1)) (by exact (Lin.ah (.c _ (.c _ (.c _ .z))) .z 1 (.c 1 (.ak (.a (.v 0) (.v 1)) (.v 2)) .z) (.a (.v 0) (.a (.v 1) (.n 1))) (.v 2) rfl h.2.1))
   exact El.aK (et this.1) this.2.1 this.2.2
  ·refine ae (tP h (n+1)) ?_;lia
theorem DH (a b:Nat→Int) (idx:Int→List Int) (S:Int→Bool):jT (iC a b idx S):=by
 intro alo ahi blo bhi W Y;refine El.tI (DE a idx Y W) λi j k e Z h2 h3 h4=>?_;unfold iC;refine ae (e ..) ?_;dsimp only;refine ae (jK ..) (ae (jK ..) (ae (jK ..) ?_));have l1:=yv (a:=a) (b:=b) (ok:=λc=>!S c) i j k Z h3;generalize ez a b (λc=>!S c) alo blo i j k=r1 at *;have l2:=yw (a:=a) (b:=b) (ok:=λc=>!S c) (ahi:=ahi) (bhi:=bhi) (i:=r1.1) (j:=r1.2.1) (ahi-(r1.1+r1.2.2)) r1.2.2 (by exact (az (dH l1.2.1) h2)) (by exact (az (dH l1.2.2.2) h4))
 generalize eF a b (λc=>!S c) ahi bhi r1.1 r1.2.1 (ahi-(r1.1+r1.2.2)) r1.2.2=k2 at *;have l3:=yv (a:=a) (b:=b) (ok:=S) r1.1 r1.2.1 k2 l1.1 l1.2.2.1;generalize ez a b S alo blo r1.1 r1.2.1 k2=J at *;have V:=yw (a:=a) (b:=b) (ok:=S) (ahi:=ahi) (bhi:=bhi) (i:=J.1) (j:=J.2.1) (ahi-(J.1+J.2.2)) J.2.2 (by exact (az (dH l3.2.1) l2.2.1)) (by exact (az (dH l3.2.2.2) l2.2.2))
 exact El.cy l3.1 V.2.1 l3.2.2.1 V.2.2
theorem tR {α:Type}(bl R l r:List α) (b:α) (total:List α) (h:(bl++(R++(l++b::r))).Perm total):((bl++[b])++(R++(l++r))).Perm total:=by
 refine List.Perm.trans ?_ h;have J:(l++b::r).Perm (b::(l++r)):=nk;have V:(R++(l++b::r)).Perm (b::(R++(l++r))):=(J.append_left R).trans nk;refine List.Perm.symm ((V.append_left bl).trans ?_);simp
section
variable {f:Nat→Nat→Nat→Nat→aX}{bl total:List aX}{rs:List iD}{x1 x2 x3 x4 i j k:Nat}
theorem Lr (e:f x1 x2 x3 x4=(i,j,k)) (hk:k=0) (J:(bl++(rs++[(x1,x2,x3,x4)]).flatMap (dJ f)).Perm total):(bl++rs.flatMap (dJ f)).Perm total:=by
 rw [lQ] at J
 simpa [DF (f:=f) (by refine ae (e ..) ?_;exact hk:(f x1 x2 x3 x4).2.2=0)] using J
theorem Ls (V:jT f) (W:x1≤x2) (Y:x3≤x4) (e:f x1 x2 x3 x4=(i,j,k)) (hk:k≠0) (hl:x1<i∧x3<j) (Z:i+k<x2∧j+k<x4) (J:(bl++(rs++[(x1,x2,x3,x4)]).flatMap (dJ f)).Perm total) :
  ((bl++[(i,j,k)])++((rs++[(x1,i,x3,j)])++[(i+k,x2,j+k,x4)]).flatMap (dJ f)).Perm total:=by
 rw [lQ,wz,rk V W Y e hk,if_pos hl,if_pos Z] at J;have:=tR _ _ _ _ _ _ J
 simpa [lQ] using this
theorem Lu (V:jT f) (W:x1≤x2) (Y:x3≤x4) (e:f x1 x2 x3 x4=(i,j,k)) (hk:k≠0) (hl:x1<i∧x3<j) (Z:¬(i+k<x2∧j+k<x4)) (J:(bl++(rs++[(x1,x2,x3,x4)]).flatMap (dJ f)).Perm total) :
  ((bl++[(i,j,k)])++(rs++[(x1,i,x3,j)]).flatMap (dJ f)).Perm total:=by
 rw [lQ,wz,rk V W Y e hk,if_pos hl,if_neg Z] at J;have:=tR _ _ _ _ _ _ J
 simpa [lQ] using this
theorem Lv (V:jT f) (W:x1≤x2) (Y:x3≤x4) (e:f x1 x2 x3 x4=(i,j,k)) (hk:k≠0) (hl:¬(x1<i∧x3<j)) (Z:i+k<x2∧j+k<x4) (J:(bl++(rs++[(x1,x2,x3,x4)]).flatMap (dJ f)).Perm total) :
  ((bl++[(i,j,k)])++(rs++[(i+k,x2,j+k,x4)]).flatMap (dJ f)).Perm total:=by
 rw [lQ,wz,rk V W Y e hk,if_neg hl,if_pos Z] at J;have:=tR _ _ _ _ _ _ J
 simpa [lQ] using this
theorem Lx (V:jT f) (W:x1≤x2) (Y:x3≤x4) (e:f x1 x2 x3 x4=(i,j,k)) (hk:k≠0) (hl:¬(x1<i∧x3<j)) (Z:¬(i+k<x2∧j+k<x4)) (J:(bl++(rs++[(x1,x2,x3,x4)]).flatMap (dJ f)).Perm total) :
  ((bl++[(i,j,k)])++rs.flatMap (dJ f)).Perm total:=by
 rw [lQ,wz,rk V W Y e hk,if_neg hl,if_neg Z] at J;have:=tR _ _ _ _ _ _ J
 simpa [lQ] using this
end
end Internal.Pure
namespace Internal.Pure
noncomputable def fu (st:aX×List aX) (b:aX):aX×List aX:=
 if st.1.1+st.1.2.2=b.1∧st.1.2.1+st.1.2.2=b.2.1 then ((st.1.1,st.1.2.1,st.1.2.2+b.2.2),st.2)
 else (b,if st.1.2.2=0 then st.2 else st.2++[st.1])
noncomputable def nL (bl:List aX):aX×List aX:=bl.foldl fu ((0,0,0),[])
noncomputable def joined (bl:List aX) (J V:Nat):List aX:=(if (nL bl).1.2.2=0 then (nL bl).2 else (nL bl).2++[(nL bl).1])++[(J,V,0)]
noncomputable def places (b:Nat→Int) (n:Nat) (c:Int):List Int:=((kA n).filter λj=>b j == c).map λ(j:Nat)=>(j:Int)
theorem Ly (b:Nat→Int) (n:Nat) (c:Int):places b (n+1) c=places b n c++(if b n=c then [(n:Int)] else []):=by
 unfold places;refine ae (W8 ..) (ae (W9 ..) (ae (bG ..) ?_))
 congr 1
 by_cases h:b n=c
 ·simp [h]
 ·simp [h]
theorem places_len (b:Nat→Int) (n:Nat) (c:Int):(places b n c).length≤n:=by
 unfold places;refine ae (bK ..) ?_;exact az (Xa _ _) (by simp)
noncomputable def E (a b:Nat→Int) (S:Int→Bool) (alo blo bhi:Nat):Nat→Int→Int:=@λA B=>match A,B with
 |0,zz=>0
 |m+1,j=>if (blo:Int)≤j∧j<(bhi:Int)∧a (alo+m)=b j.toNat∧S (b j.toNat)=false then E a b S alo blo bhi m (j-1)+1 else 0
section
variable {a b:Nat→Int}{S:Int→Bool}{alo blo bhi:Nat}
theorem yx:∀(m:Nat) (j:Int),0≤E a b S alo blo bhi m j:=@λA B=>match A,B with
 |0,j=>er 0
 |m+1,j=>by
  show 0≤(if _ then _ else _:Int);split
  ·have:=yx m (j-1);lia
  ·exact (er _)
noncomputable def Inv (a b:Nat→Int) (S:Int→Bool) (alo blo bhi:Nat) (V:Nat→Int→Prop) (t:Int×Int×Int):Prop:=
 0≤t.2.2∧(∀m j,V m j→E a b S alo blo bhi m j≤t.2.2)∧(t.2.2=0→t=((alo:Int),(blo:Int),0))∧
 (0<t.2.2→∃m j,V m j∧E a b S alo blo bhi m j=t.2.2∧t.1=(alo:Int)+m-t.2.2∧t.2.1=j-t.2.2+1∧∀m' J,V m' J→E a b S alo blo bhi m' J=t.2.2→m<m'∨(m=m'∧j≤J))
theorem Inv.zero {V V':Nat→Int→Prop}{t:Int×Int×Int}(h:Inv a b S alo blo bhi V t) (hV:∀m j,V m j→V' m j) (hz:∀m j,V' m j→V m j∨E a b S alo blo bhi m j=0):Inv a b S alo blo bhi V' t:=by
 refine El.iz h λh0 h1 h2 h3=>?_;clear h;refine El.cy h0 (λm j J=>?_) h2 (λW=>?_)
 ·rcases hz m j J with h | h
  ·exact h1 m j h
  ·exact (iT (sR h) h0)
 ·refine El.rb (h3 W) λm j e1 e2 e3 e4 e5=>?_;refine El.rh m j (hV m j e1) e2 e3 e4 (λm' Y J Z=>?_);rcases hz m' Y J with h | h
  ·exact e5 m' Y h Z
  ·exact (.inl (Lin.ak (.c _ (.c _ .z)) (.c _ (.c _ .z)) 0 (.c 1 (.aM (.n 0) (.v 0)) (.c 1 (.bW (.v 0) (.v 1)) (.c 1 (.bW (.v 1) (.n 0)) .z))) (.v 0) (.v 1) rfl W (cB Z) h))
theorem Inv.step {V V':Nat→Int→Prop}{t:Int×Int×Int}{m0:Nat}{j0:Int}(h:Inv a b S alo blo bhi V t) (W:0<E a b S alo blo bhi m0 j0) (Z:∀m j,V' m j↔V m j∨(m=m0∧j=j0)∨(V' m j∧E a b S alo blo bhi m j=0)) (J:∀m j,V m j→m<m0∨(m=m0∧j<j0)) :
  Inv a b S alo blo bhi V' (if t.2.2<E a b S alo blo bhi m0 j0 then ((alo:Int)+m0-E a b S alo blo bhi m0 j0,j0-E a b S alo blo bhi m0 j0+1,E a b S alo blo bhi m0 j0) else t):=by
 refine El.iz h λh0 h1 h2 h3=>?_;clear h;have n0:V' m0 j0:=(Z _ _).mpr (.inr (.inl ⟨rfl,rfl⟩));have nV:∀m j,V m j→V' m j:=λm j h=>(Z m j).mpr (.inl h);by_cases hc:t.2.2<E a b S alo blo bhi m0 j0
 ·refine ae (if_pos hc ..) ?_;refine El.cy (by dsimp only;lia) (λm j Y=>?_) (λe=>by dsimp only at e;lia) (λzz=>(El.rh m0 j0 n0 rfl rfl rfl (λm' j' Y he=>?_)))
  ·dsimp only;clear J n0;rcases (Z m j).mp Y with h | ⟨rfl,rfl⟩ | ⟨_,h⟩
   ·have:=h1 m j h;lia
   ·exact (er _)
   ·exact (sT (Cj (sR h) W))
  ·dsimp only at he;clear J n0 zz;rcases (Z m' j').mp Y with h | ⟨rfl,rfl⟩ | ⟨_,h⟩
   ·have:=h1 m' j' h;exact (.inl (Lin.ak (.c _ (.c _ .z)) (.c _ (.c _ (.c _ .z))) 0 (.c 1 (.aM (.v 0) (.v 1)) (.c 1 (.bW (.v 1) (.v 2)) (.c 1 (.aA (.v 2) (.v 0)) .z))) (.v 0) (.v 1) rfl hc (cB he) this))
   ·exact .inr ⟨rfl,er _⟩
   ·exact (.inl (Lin.ak (.c _ (.c _ .z)) (.c _ (.c _ .z)) 0 (.c 1 (.aM (.n 0) (.v 0)) (.c 1 (.bW (.v 0) (.v 1)) (.c 1 (.bW (.v 1) (.n 0)) .z))) (.v 0) (.v 1) rfl W (cB he) h))
 ·refine ae (if_neg hc ..) ?_;refine El.cy h0 (λm j Y=>?_) h2 (λhp=>?_)
  ·clear W J n0;rcases (Z m j).mp Y with h | ⟨rfl,rfl⟩ | ⟨_,h⟩
   ·exact h1 m j h
   ·exact (gn.mp hc)
   ·exact (iT (sR h) h0)
  ·refine El.rb (h3 hp) λm j e1 e2 e3 e4 e5=>?_;refine El.rh m j (nV m j e1) e2 e3 e4 (λm' j' Y he=>?_);clear W n0 hc;rcases (Z m' j').mp Y with h | ⟨rfl,rfl⟩ | ⟨_,h⟩
   ·exact e5 m' j' h he
   ·rcases J m j e1 with h | ⟨rfl,h⟩
    ·exact .inl h
    ·exact .inr ⟨rfl,by exact (sT h)⟩
   ·exact (.inl (Lin.ak (.c _ (.c _ .z)) (.c _ (.c _ .z)) 0 (.c 1 (.aM (.n 0) (.v 0)) (.c 1 (.bW (.v 0) (.v 1)) (.c 1 (.bW (.v 1) (.n 0)) .z))) (.v 0) (.v 1) rfl hp (cB he) h))
theorem Lz {n:Nat}(hs:S (a (alo+n))=false):∀(cnt j0:Nat) (st:(Int→Int)×(Int×Int×Int)),bhi≤j0+cnt→
  (∀x:Int,st.1 x=if x<(j0:Int) then E a b S alo blo bhi (n+1) x else 0)→
  Inv a b S alo blo bhi (λm j=>1≤m∧(m≤n∨(m=n+1∧j<(j0:Int)))) st.2→
  (∀x,(inner (E a b S alo blo bhi n) blo bhi ((alo+n:Nat):Int) (((kB j0 cnt).filter λj=>b j == a (alo+n)).map λ(j:Nat)=>(j:Int)) st).1 x=E a b S alo blo bhi (n+1) x)∧
  Inv a b S alo blo bhi (λm zz=>1≤m∧m≤n+1) (inner (E a b S alo blo bhi n) blo bhi ((alo+n:Nat):Int) (((kB j0 cnt).filter λj=>b j == a (alo+n)).map λ(j:Nat)=>(j:Int)) st).2:=by
 intro cnt;have over:∀(j0:Nat) (st:(Int→Int)×(Int×Int×Int)),bhi≤j0→(∀x:Int,st.1 x=if x<(j0:Int) then E a b S alo blo bhi (n+1) x else 0)→
   Inv a b S alo blo bhi (λm j=>1≤m∧(m≤n∨(m=n+1∧j<(j0:Int)))) st.2→(∀x,st.1 x=E a b S alo blo bhi (n+1) x)∧Inv a b S alo blo bhi (λm zz=>1≤m∧m≤n+1) st.2:=by
  intro j0 st hb h1 h2;have hz:∀x:Int,¬x<(j0:Int)→E a b S alo blo bhi (n+1) x=0:=λx hx=>if_neg (by exact (λY=>(Lin.no (.c _ (.c _ .z)) (.c _ .z) (.c 1 (.ah (.v 0) (.v 1)) (.c 1 (.aA (.o (.v 1)) (.v 0)) (.c 1 (.aM (.v 0) (.o (.v 0))) .z))) rfl hb (gn.mp hx) Y.2.1)))
  refine ⟨λx=>?_,h2.zero (λm j h=>⟨h.1,by (clear hb;omega)⟩) λm j h=>?_⟩
  ·refine ae (h1 x ..) ?_;split
   ·rfl
   ·rename_i hx;exact ae (hz x hx ..) rfl
  ·by_cases hm:m≤n
   ·exact .inl ⟨h.1,.inl hm⟩
   ·by_cases Z:j<(j0:Int)
    ·exact .inl ⟨h.1,.inr ⟨by exact (bJ (Lin.ah (.c _ (.c _ .z)) .z 1 (.c 1 (.ah (.v 0) (.a (.v 1) (.n 1))) .z) (.v 0) (.a (.v 1) (.n 1)) rfl h.2) (Lin.ah (.c _ (.c _ .z)) .z 1 (.c 1 (.ak (.v 0) (.v 1)) .z) (.a (.v 0) (.n 1)) (.v 1) rfl (ee.mp hm))),Z⟩⟩
    ·have:m=n+1:=by exact (bJ (Lin.ah (.c _ (.c _ .z)) .z 1 (.c 1 (.ah (.v 0) (.a (.v 1) (.n 1))) .z) (.v 0) (.a (.v 1) (.n 1)) rfl h.2) (Lin.ah (.c _ (.c _ .z)) .z 1 (.c 1 (.ak (.v 0) (.v 1)) .z) (.a (.v 0) (.n 1)) (.v 1) rfl (ee.mp hm)))
     clear h hm;subst this;exact .inr (hz j Z)
 induction cnt with
 |zero=>
  intro j0 st hb h1 h2;simp only [List.range'_zero,List.filter_nil,Xb];exact over j0 st (by omega) h1 h2
 |succ cnt ih=>
  intro j0 st hb h1 h2;by_cases tS:bhi≤j0
  ·-- all places are behind
   have key:inner (E a b S alo blo bhi n) blo bhi ((alo+n:Nat):Int) (((kB j0 (cnt+1)).filter λj=>b j == a (alo+n)).map λ(j:Nat)=>(j:Int)) st=st∨∃l,((kB j0 (cnt+1)).filter λj=>b j == a (alo+n)).map (λ(j:Nat)=>(j:Int))=l∧∀x∈l,(j0:Int)≤x:=by
    right
    refine El.aD _ rfl (λx hx=>?_);refine El.au (bL.mp hx) λj Z cS=>?_;clear hx;subst cS;have:=(List.mem_filter.mp Z).1;rw [List.mem_range'_1] at this;exact (Lin.aA (.c _ (.c _ .z)) .z 1 (.c 1 (.ah (.v 0) (.v 1)) .z) (.o (.v 0)) (.o (.v 1)) rfl this.1)
   have LA:inner (E a b S alo blo bhi n) blo bhi ((alo+n:Nat):Int) (((kB j0 (cnt+1)).filter λj=>b j == a (alo+n)).map λ(j:Nat)=>(j:Int)) st=st:=by
    clear h1 h2;rcases key with h | ⟨l,e,hl⟩
    ·exact h
    ·refine ae (e ..) ?_;clear e;have go:∀l:List Int,(∀x∈l,(j0:Int)≤x)→inner (E a b S alo blo bhi n) blo bhi ((alo+n:Nat):Int) l st=st:=by
      intro l;induction l with
      |nil=>intro _;rfl
      |cons x r LB=>
       intro hl;by_cases hx:x<(blo:Int)
       ·refine ae (yo hx ..) ?_;exact LB λy hy=>hl y (.tail _ hy)
       ·have:=hl x (.head _);exact ae (DB hx (by exact (Lin.aA (.c _ (.c _ .z)) (.c _ .z) 1 (.c 1 (.ah (.v 0) (.v 1)) (.c 1 (.aA (.o (.v 1)) (.v 0)) .z)) (.o (.v 0)) (.v 0) rfl tS this)) ..) rfl
     exact go l hl
   refine ae (LA ..) ?_;exact over j0 st tS h1 h2
  ·rw [Xc,Xe];by_cases hm:(b j0 == a (alo+n))=true
   ·refine ae (if_pos hm ..) (ae (eU ..) ?_);have yy:b j0=a (alo+n):=by simpa using hm
    by_cases jo:(j0:Int)<(blo:Int)
    ·refine ae (yo jo ..) ?_;have hz:E a b S alo blo bhi (n+1) (j0:Int)=0:=if_neg (by (clear yy hb;exact (λY=>(Lin.no (.c _ (.c _ .z)) .z (.c 1 (.aM (.o (.v 0)) (.o (.v 1))) (.c 1 (.aA (.o (.v 1)) (.o (.v 0))) .z)) rfl jo Y.1))))
     refine ih (j0+1) st (by exact (Lin.ah (.c _ (.c _ (.c _ .z))) .z 1 (.c 1 (.ah (.v 0) (.a (.v 1) (.a (.v 2) (.n 1)))) .z) (.v 0) (.a (.a (.v 1) (.n 1)) (.v 2)) rfl hb)) (λx=>?_) (h2.zero (λm j h=>⟨h.1,by lia⟩) λm j h=>?_)
     ·refine ae (h1 x ..) ?_;by_cases hx:x<(j0:Int)
      ·exact ae (if_pos hx ..) (ae (if_pos (by exact (Lin.aM (.c _ .z) (.c _ .z) 1 (.c 1 (.aM (.v 0) (.o (.v 0))) .z) (.v 0) (.o (.a (.v 0) (.n 1))) rfl hx)) ..) rfl)
      ·refine ae (if_neg hx ..) ?_;by_cases V:x<((j0+1:Nat):Int)
       ·refine ae (if_pos V ..) ?_;have:x=(j0:Int):=by exact (eK (Lin.aA (.c _ .z) (.c _ .z) 1 (.c 1 (.aM (.v 0) (.o (.a (.v 0) (.n 1)))) .z) (.v 0) (.o (.v 0)) rfl V) (Lin.aA (.c _ .z) (.c _ .z) 1 (.c 1 (.aA (.o (.v 0)) (.v 0)) .z) (.o (.v 0)) (.v 0) rfl (gn.mp hx)))
        exact ae (this ..) (ae (hz ..) rfl)
       ·exact ae (if_neg V ..) rfl
     ·by_cases W:m≤n
      ·exact .inl ⟨h.1,.inl W⟩
      ·by_cases Z:j<(j0:Int)
       ·exact .inl ⟨h.1,.inr ⟨by lia,Z⟩⟩
       ·have e1:m=n+1:=by lia
        have e2:j=(j0:Int):=by lia
        clear h W Z;subst e1 e2;exact .inr hz
    ·have hE:E a b S alo blo bhi (n+1) (j0:Int)=E a b S alo blo bhi n ((j0:Int)-1)+1:=by
      exact if_pos (El.cy (by exact (gn.mp jo)) (by exact (Lin.aM (.c _ (.c _ .z)) .z 1 (.c 1 (.ak (.v 0) (.v 1)) .z) (.o (.v 0)) (.o (.v 1)) rfl (ee.mp tS))) (by rw [jK];exact yy.symm) (by rw [jK,yy];exact hs))
     have LC:0<E a b S alo blo bhi (n+1) (j0:Int):=by have:=yx (a:=a) (b:=b) (S:=S) (alo:=alo) (blo:=blo) (bhi:=bhi) n ((j0:Int)-1);exact (Lin.aM .z (.c _ (.c _ .z)) 1 (.c 1 (.bW (.a (.v 1) (.n 1)) (.v 0)) (.c 1 (.aA (.n 0) (.v 1)) .z)) (.n 0) (.v 0) rfl (cB hE) this)
     have DI:=h2.step (V':=λm j=>1≤m∧(m≤n∨(m=n+1∧j<((j0+1:Nat):Int)))) (m0:=n+1) (j0:=(j0:Int)) LC (λm j=>by
      constructor
      ·rintro ⟨g1,g2⟩
       by_cases W:m≤n
       ·exact .inl ⟨g1,.inl W⟩
       ·by_cases Z:j<(j0:Int)
        ·exact .inl ⟨g1,.inr ⟨by exact (Or.elim g2 (λJ=>(bJ (Lin.ah (.c _ (.c _ .z)) .z 1 (.c 1 (.ah (.v 0) (.v 1)) .z) (.v 0) (.a (.v 1) (.n 1)) rfl J) (Lin.ah (.c _ (.c _ .z)) .z 1 (.c 1 (.ak (.v 0) (.v 1)) .z) (.a (.v 0) (.n 1)) (.v 1) rfl (ee.mp W)))) λJ=>(bJ (Lin.ah (.c _ (.c _ .z)) .z 1 (.c 1 (.aw (.v 0) (.a (.v 1) (.n 1))) .z) (.v 0) (.a (.v 1) (.n 1)) rfl J.1) (Lin.ah (.c _ (.c _ .z)) .z 1 (.c 1 (.ak (.v 0) (.v 1)) .z) (.a (.v 0) (.n 1)) (.v 1) rfl (ee.mp W)))),Z⟩⟩
        ·exact .inr (.inl ⟨by exact (Or.elim g2 (λJ=>(bJ (Lin.ah (.c _ (.c _ .z)) .z 1 (.c 1 (.ah (.v 0) (.v 1)) .z) (.v 0) (.a (.v 1) (.n 1)) rfl J) (Lin.ah (.c _ (.c _ .z)) .z 1 (.c 1 (.ak (.v 0) (.v 1)) .z) (.a (.v 0) (.n 1)) (.v 1) rfl (ee.mp W)))) λJ=>(bJ (Lin.ah (.c _ (.c _ .z)) .z 1 (.c 1 (.aw (.v 0) (.a (.v 1) (.n 1))) .z) (.v 0) (.a (.v 1) (.n 1)) rfl J.1) (Lin.ah (.c _ (.c _ .z)) .z 1 (.c 1 (.ak (.v 0) (.v 1)) .z) (.a (.v 0) (.n 1)) (.v 1) rfl (ee.mp W)))),by exact (Or.elim g2 (λJ=>(eK (Lin.aA (.c _ (.c _ (.c _ .z))) (.c _ .z) 0 (.c 1 (.ak (.v 1) (.v 2)) (.c 1 (.ah (.v 2) (.v 1)) .z)) (.v 0) (.o (.v 0)) rfl (ee.mp W) J) (Lin.aA (.c _ .z) (.c _ .z) 1 (.c 1 (.aA (.o (.v 0)) (.v 0)) .z) (.o (.v 0)) (.v 0) rfl (gn.mp Z)))) λJ=>(eK (Lin.aA (.c _ .z) (.c _ .z) 1 (.c 1 (.aM (.v 0) (.o (.a (.v 0) (.n 1)))) .z) (.v 0) (.o (.v 0)) rfl J.2) (Lin.aA (.c _ .z) (.c _ .z) 1 (.c 1 (.aA (.o (.v 0)) (.v 0)) .z) (.o (.v 0)) (.v 0) rfl (gn.mp Z))))⟩)
      ·rintro (⟨g1,g2⟩ | ⟨rfl,rfl⟩ | ⟨g,_⟩)
       ·exact ⟨g1,by exact (Or.elim g2 (λJ=>(.inl (Lin.ah (.c _ (.c _ .z)) .z 1 (.c 1 (.ah (.v 0) (.v 1)) .z) (.v 0) (.v 1) rfl J))) λJ=>(.inr ⟨(bJ (Lin.ah (.c _ (.c _ .z)) .z 1 (.c 1 (.aw (.v 0) (.a (.v 1) (.n 1))) .z) (.v 0) (.a (.v 1) (.n 1)) rfl J.1) (Lin.ah (.c _ (.c _ .z)) .z 1 (.c 1 (.aw (.a (.v 0) (.n 1)) (.v 1)) .z) (.a (.v 0) (.n 1)) (.v 1) rfl (cB J.1))),(Lin.aM (.c _ .z) (.c _ .z) 1 (.c 1 (.aM (.v 0) (.o (.v 0))) .z) (.v 0) (.o (.a (.v 0) (.n 1))) rfl J.2)⟩))⟩
       ·exact ⟨by exact (Lin.ah (.c _ .z) .z 1 .z (.n 1) (.a (.v 0) (.n 1)) rfl),.inr ⟨rfl,by exact (Lin.aM (.c _ .z) .z 1 .z (.o (.v 0)) (.o (.a (.v 0) (.n 1))) rfl)⟩⟩
       ·exact g) (λm j ⟨g1,g2⟩=>by exact (Or.elim g2 (λJ=>(.inl (Lin.ak (.c _ (.c _ .z)) .z 1 (.c 1 (.ah (.v 0) (.v 1)) .z) (.v 0) (.a (.v 1) (.n 1)) rfl J))) λJ=>(.inr ⟨(bJ (Lin.ah (.c _ (.c _ .z)) .z 1 (.c 1 (.aw (.v 0) (.a (.v 1) (.n 1))) .z) (.v 0) (.a (.v 1) (.n 1)) rfl J.1) (Lin.ah (.c _ (.c _ .z)) .z 1 (.c 1 (.aw (.a (.v 0) (.n 1)) (.v 1)) .z) (.a (.v 0) (.n 1)) (.v 1) rfl (cB J.1))),(Lin.aM (.c _ .z) (.c _ .z) 1 (.c 1 (.aM (.v 0) (.o (.v 0))) .z) (.v 0) (.o (.v 0)) rfl J.2)⟩)))
     refine ae (ym jo (by exact (λY=>(Lin.no (.c _ (.c _ .z)) .z (.c 1 (.ak (.v 0) (.v 1)) (.c 1 (.aA (.o (.v 1)) (.o (.v 0))) .z)) rfl (ee.mp tS) Y))) ..) ?_
     rw [hE] at DI;have LD:∀x:Int,(if x=(j0:Int) then E a b S alo blo bhi n ((j0:Int)-1)+1 else st.1 x)=if x<((j0+1:Nat):Int) then E a b S alo blo bhi (n+1) x else 0:=by
      intro x;by_cases hx:x=(j0:Int)
      ·exact ae (if_pos hx ..) (ae (if_pos (by exact (Lin.aM (.c _ .z) (.c _ .z) 1 (.c 1 (.bW (.v 0) (.o (.v 0))) .z) (.v 0) (.o (.a (.v 0) (.n 1))) rfl hx)) ..) (ae (hx ..) (ae (hE ..) rfl)))
      ·refine ae (if_neg hx ..) (ae (h1 x ..) ?_);by_cases V:x<(j0:Int)
       ·exact ae (if_pos V ..) (ae (if_pos (by exact (Lin.aM (.c _ .z) (.c _ .z) 1 (.c 1 (.aM (.v 0) (.o (.v 0))) .z) (.v 0) (.o (.a (.v 0) (.n 1))) rfl V)) ..) rfl)
       ·exact ae (if_neg V ..) (ae (if_neg (by exact (λY=>(Or.elim (kC hx) (λyz=>(Lin.no (.c _ .z) (.c _ .z) (.c 1 (.aA (.o (.v 0)) (.v 0)) (.c 1 (.aM (.v 0) (.o (.v 0))) .z)) rfl (gn.mp V) yz)) λyz=>(Lin.no (.c _ .z) (.c _ .z) (.c 1 (.aM (.v 0) (.o (.a (.v 0) (.n 1)))) (.c 1 (.aM (.o (.v 0)) (.v 0)) .z)) rfl Y yz)))) ..) rfl)
     have e1:((alo+n:Nat):Int)-(E a b S alo blo bhi n ((j0:Int)-1)+1)+1=(alo:Int)+((n+1:Nat):Int)-(E a b S alo blo bhi n ((j0:Int)-1)+1):=by exact (eK (Lin.aA (.c _ (.c _ .z)) (.c _ .z) 1 .z (.a (.s (.o (.a (.v 0) (.v 1))) (.a (.v 0) (.n 1))) (.n 1)) (.s (.a (.o (.v 0)) (.o (.a (.v 1) (.n 1)))) (.a (.v 0) (.n 1))) rfl) (Lin.aA (.c _ (.c _ .z)) (.c _ .z) 1 .z (.s (.a (.o (.v 0)) (.o (.a (.v 1) (.n 1)))) (.a (.v 0) (.n 1))) (.a (.s (.o (.a (.v 0) (.v 1))) (.a (.v 0) (.n 1))) (.n 1)) rfl))
     refine ae (e1 ..) ?_;exact ih (j0+1) _ (by exact (Lin.ah (.c _ (.c _ (.c _ .z))) .z 1 (.c 1 (.ah (.v 0) (.a (.v 1) (.a (.v 2) (.n 1)))) .z) (.v 0) (.a (.a (.v 1) (.n 1)) (.v 2)) rfl hb)) LD DI
   ·refine ae (if_neg hm ..) ?_;have hz:E a b S alo blo bhi (n+1) (j0:Int)=0:=by
     refine if_neg ?_
     rintro ⟨_,_,h,_⟩
     rw [jK] at h;exact hm (by simpa using h.symm)
    refine ih (j0+1) st (by exact (Lin.ah (.c _ (.c _ (.c _ .z))) .z 1 (.c 1 (.ah (.v 0) (.a (.v 1) (.a (.v 2) (.n 1)))) .z) (.v 0) (.a (.a (.v 1) (.n 1)) (.v 2)) rfl hb)) (λx=>?_) (h2.zero (λm j h=>⟨h.1,by lia⟩) λm j h=>?_)
    ·refine ae (h1 x ..) ?_;by_cases hx:x<(j0:Int)
     ·exact ae (if_pos hx ..) (ae (if_pos (by exact (Lin.aM (.c _ .z) (.c _ .z) 1 (.c 1 (.aM (.v 0) (.o (.v 0))) .z) (.v 0) (.o (.a (.v 0) (.n 1))) rfl hx)) ..) rfl)
     ·refine ae (if_neg hx ..) ?_;by_cases V:x<((j0+1:Nat):Int)
      ·refine ae (if_pos V ..) ?_;have:x=(j0:Int):=by exact (eK (Lin.aA (.c _ .z) (.c _ .z) 1 (.c 1 (.aM (.v 0) (.o (.a (.v 0) (.n 1)))) .z) (.v 0) (.o (.v 0)) rfl V) (Lin.aA (.c _ .z) (.c _ .z) 1 (.c 1 (.aA (.o (.v 0)) (.v 0)) .z) (.o (.v 0)) (.v 0) rfl (gn.mp hx)))
       exact ae (this ..) (ae (hz ..) rfl)
      ·exact ae (if_neg V ..) rfl
    ·by_cases W:m≤n
     ·exact .inl ⟨h.1,.inl W⟩
     ·by_cases Z:j<(j0:Int)
      ·exact .inl ⟨h.1,.inr ⟨by lia,Z⟩⟩
      ·have e1:m=n+1:=by lia
       have e2:j=(j0:Int):=by lia
       clear h W Z;subst e1 e2;exact .inr hz
theorem DJ {idx:Int→List Int}{nb:Nat}(V:∀c,idx c=if S c=true then [] else places b nb c) (W:bhi≤nb):∀n:Nat,
  (∀x,(outer a idx blo bhi alo n (λzz=>0,((alo:Int),(blo:Int),(0:Int)))).1 x=E a b S alo blo bhi n x)∧
  Inv a b S alo blo bhi (λm zz=>1≤m∧m≤n) (outer a idx blo bhi alo n (λzz=>0,((alo:Int),(blo:Int),(0:Int)))).2:=@λA=>match A with
 |0=>by
  refine ⟨λx=>rfl,?_⟩;exact El.cy (er _) (λm j h=>by exact (Lin.aA (.c _ .z) (.c _ (.c _ .z)) 0 (.c 1 (.ah (.n 1) (.v 0)) (.c 1 (.ah (.v 0) (.n 0)) .z)) (.v 0) (.v 1) rfl h.1 h.2)) (λzz=>rfl) (λh=>(Xf (Lin.no .z .z (.c 1 (.aM (.n 0) (.n 0)) .z) rfl h)))
 |n+1=>by
  refine El.aa (DJ V W n) λh1 Y=>?_;refine ae (yl ..) ?_;generalize outer a idx blo bhi alo n (λzz=>0,((alo:Int),(blo:Int),(0:Int)))=st at h1 Y;have e:st.1=E a b S alo blo bhi n:=funext h1;refine ae (e ..) (ae (V ..) ?_);by_cases hs:S (a (alo+n))=true
  ·refine ae (if_pos hs ..) ?_;have hz:∀x,E a b S alo blo bhi (n+1) x=0:=λx=>by
    refine if_neg ?_
    rintro ⟨_,_,g1,g2⟩
    rw [←g1,hs] at g2;cases g2
   refine ⟨λx=>(hz x).symm,Y.zero (λm j h=>⟨h.1,by exact (az h.2 (gq _))⟩) λm j h=>?_⟩
   by_cases J:m≤n
   ·exact .inl ⟨h.1,J⟩
   ·have:m=n+1:=by exact (bJ (Lin.ah (.c _ (.c _ .z)) .z 1 (.c 1 (.ah (.v 0) (.a (.v 1) (.n 1))) .z) (.v 0) (.a (.v 1) (.n 1)) rfl h.2) (Lin.ah (.c _ (.c _ .z)) .z 1 (.c 1 (.ak (.v 0) (.v 1)) .z) (.a (.v 0) (.n 1)) (.v 1) rfl (ee.mp J)))
    clear h J;subst this;exact .inr (hz j)
  ·refine ae (if_neg hs ..) ?_;unfold places;refine ae (Xg ..) ?_;exact Lz (by simpa using hs) nb 0 _ (by exact (az W (oW _ _))) (λx=>by
    by_cases hx:x<((0:Nat):Int)
    ·rw [if_pos hx];exact (if_neg (by exact (λZ=>(Lin.no (.c _ .z) (.c _ .z) (.c 1 (.aM (.v 0) (.o (.n 0))) (.c 1 (.aA (.o (.v 0)) (.v 0)) .z)) rfl hx Z.1)))).symm
    ·rw [if_neg hx]) (Y.zero (λm j h=>⟨h.1,.inl h.2⟩) λm j h=>by
    by_cases J:m≤n
    ·exact .inl ⟨h.1,J⟩
    ·right
     have:m=n+1:=by lia
     subst this;exact if_neg (by lia))
noncomputable def Run (a b:Nat→Int) (S:Int→Bool) (i j k:Nat):Prop:=∀t<k,a (i+t)=b (j+t)∧S (b (j+t))=false
theorem yA:∀(m:Nat) (j:Int) (k:Nat),((k:Int)+1≤E a b S alo blo bhi m j↔(k+1≤m∧(blo:Int)+k≤j∧j<(bhi:Int)∧∀t≤k,∀x y:Nat,x+t+1=alo+m→(y:Int)+t=j→a x=b y∧S (b y)=false)):=@λA B C=>match A,B,C with
 |0,j,k=>⟨λh=>by have h':(k:Int)+1≤0:=h;omega,λh=>absurd h.1 (Xh k)⟩
 |m+1,j,k=>by
  show (k:Int)+1≤(if _ then _ else _:Int)↔_
  split
  ·rename_i h;refine El.iz h λY W Z h4=>?_;clear h;have z:∀x y:Nat,x+0+1=alo+(m+1)→(y:Int)+(0:Nat)=j→a x=b y∧S (b y)=false:=λx y e1 e2=>by
    have e1:x=alo+m:=ji e1;have e2:j.toNat=y:=by refine ae (e2 ..).symm ?_;rfl
    subst e1 e2;exact ⟨Z,h4⟩
   cases k with
   |zero=>
    have:=yx (a:=a) (b:=b) (S:=S) (alo:=alo) (blo:=blo) (bhi:=bhi) m (j-1);refine ⟨λzz=>(El.cy (cY (bh m)) (by refine ae (Int.natCast_zero ..) (ae (lO ..) ?_);exact Y) W (λt J=>?_)),λzz=>Int.add_le_add_right this 1⟩
    cases Ck.mp J
    exact z
   |succ k=>
    have ih:=yA m (j-1) k;have up:(((k+1:Nat):Int)+1≤E a b S alo blo bhi m (j-1)+1)↔((k:Int)+1≤E a b S alo blo bhi m (j-1)):=Int.add_le_add_iff_right 1;rw [up,ih];constructor
    ·rintro ⟨g1,g2,g3,V⟩
     refine El.cy (cY g1) (by exact (Lin.aA (.c _ (.c _ .z)) (.c _ .z) 1 (.c 1 (.aA (.a (.o (.v 0)) (.o (.v 1))) (.s (.v 0) (.n 1))) .z) (.a (.o (.v 0)) (.o (.a (.v 1) (.n 1)))) (.v 0) rfl g2)) W (λt J=>?_)
     cases t with
     |zero=>exact z
     |succ t=>exact λx y e1 e2=>V t (qu J) x y (by exact (bJ (Lin.ah (.c _ (.c _ (.c _ (.c _ .z)))) .z 1 (.c 1 (.aw (.a (.a (.v 0) (.a (.v 1) (.n 1))) (.n 1)) (.a (.v 2) (.a (.v 3) (.n 1)))) .z) (.a (.a (.v 0) (.v 1)) (.n 1)) (.a (.v 2) (.v 3)) rfl e1) (Lin.ah (.c _ (.c _ (.c _ (.c _ .z)))) .z 1 (.c 1 (.aw (.a (.v 0) (.a (.v 1) (.n 1))) (.a (.a (.v 2) (.a (.v 3) (.n 1))) (.n 1))) .z) (.a (.v 0) (.v 1)) (.a (.a (.v 2) (.v 3)) (.n 1)) rfl (cB e1)))) (by exact (eK (Lin.aA (.c _ (.c _ .z)) (.c _ .z) 1 (.c 1 (.bW (.a (.o (.v 0)) (.o (.a (.v 1) (.n 1)))) (.v 0)) .z) (.a (.o (.v 0)) (.o (.v 1))) (.s (.v 0) (.n 1)) rfl e2) (Lin.aA (.c _ (.c _ .z)) (.c _ .z) 1 (.c 1 (.bW (.v 0) (.a (.o (.v 0)) (.o (.a (.v 1) (.n 1))))) .z) (.s (.v 0) (.n 1)) (.a (.o (.v 0)) (.o (.v 1))) rfl (cB e2))))
    ·rintro ⟨g1,g2,g3,V⟩
     exact El.cy (qu g1) (by exact (Lin.aA (.c _ (.c _ .z)) (.c _ .z) 1 (.c 1 (.aA (.a (.o (.v 0)) (.o (.a (.v 1) (.n 1)))) (.v 0)) .z) (.a (.o (.v 0)) (.o (.v 1))) (.s (.v 0) (.n 1)) rfl g2)) (by exact (Lin.aM (.c _ .z) (.c _ .z) 1 (.c 1 (.aM (.v 0) (.o (.v 0))) .z) (.s (.v 0) (.n 1)) (.o (.v 0)) rfl W)) (λt J x y e1 e2=>V (t+1) (cY J) x y (by exact (bJ (Lin.ah (.c _ (.c _ (.c _ (.c _ .z)))) .z 1 (.c 1 (.aw (.a (.a (.v 0) (.v 1)) (.n 1)) (.a (.v 2) (.v 3))) .z) (.a (.a (.v 0) (.a (.v 1) (.n 1))) (.n 1)) (.a (.v 2) (.a (.v 3) (.n 1))) rfl e1) (Lin.ah (.c _ (.c _ (.c _ (.c _ .z)))) .z 1 (.c 1 (.aw (.a (.v 0) (.v 1)) (.a (.a (.v 2) (.v 3)) (.n 1))) .z) (.a (.v 0) (.a (.v 1) (.n 1))) (.a (.a (.v 2) (.a (.v 3) (.n 1))) (.n 1)) rfl (cB e1)))) (by exact (eK (Lin.aA (.c _ (.c _ .z)) (.c _ .z) 1 (.c 1 (.bW (.a (.o (.v 0)) (.o (.v 1))) (.s (.v 0) (.n 1))) .z) (.a (.o (.v 0)) (.o (.a (.v 1) (.n 1)))) (.v 0) rfl e2) (Lin.aA (.c _ (.c _ .z)) (.c _ .z) 1 (.c 1 (.bW (.s (.v 0) (.n 1)) (.a (.o (.v 0)) (.o (.v 1)))) .z) (.v 0) (.a (.o (.v 0)) (.o (.a (.v 1) (.n 1)))) rfl (cB e2)))))
  ·rename_i h;constructor
   ·intro h';omega
   ·rintro ⟨g1,g2,g3,V⟩
    refine absurd ?_ h;have hj:((j.toNat:Nat):Int)=j:=jh (by exact (Lin.aA (.c _ (.c _ .z)) (.c _ .z) 1 (.c 1 (.aA (.a (.o (.v 0)) (.o (.v 1))) (.v 0)) .z) (.n 0) (.v 0) rfl g2))
    have:=V 0 (bh k) (alo+m) j.toNat rfl (by refine ae (hj ..) ?_;exact lO j)
    exact El.cy (by exact (Lin.aA (.c _ (.c _ .z)) (.c _ .z) 1 (.c 1 (.aA (.a (.o (.v 0)) (.o (.v 1))) (.v 0)) .z) (.o (.v 0)) (.v 0) rfl g2)) g3 this.1 this.2
end
noncomputable def Good (a b:Nat→Int) (S:Int→Bool) (alo ahi blo bhi i j k:Nat):Prop:=0<k∧alo≤i∧i+k≤ahi∧blo≤j∧j+k≤bhi∧Run a b S i j k
noncomputable def DK (a b:Nat→Int) (S:Int→Bool) (alo ahi blo bhi i j k:Nat):Prop:=Good a b S alo ahi blo bhi i j k∧∀J V k',Good a b S alo ahi blo bhi J V k'→k'<k∨(k'=k∧(i<J∨(i=J∧j≤V)))
theorem LF {a b:Nat→Int}{S:Int→Bool}{alo ahi blo bhi:Nat}{idx:Int→List Int}{nb:Nat}(Y:∀c,idx c=if S c=true then [] else places b nb c) (LG:bhi≤nb) (ha:alo≤ahi) :
  ((outer a idx blo bhi alo (ahi-alo) (λzz=>0,((alo:Int),(blo:Int),(0:Int)))).2=((alo:Int),(blo:Int),(0:Int))∧∀i j k,¬Good a b S alo ahi blo bhi i j k)∨
  ∃i j k:Nat,(outer a idx blo bhi alo (ahi-alo) (λzz=>0,((alo:Int),(blo:Int),(0:Int)))).2=((i:Int),(j:Int),(k:Int))∧DK a b S alo ahi blo bhi i j k:=by
 refine El.nJ (DJ (a:=a) (b:=b) (S:=S) (alo:=alo) (blo:=blo) (bhi:=bhi) Y LG (ahi-alo)) λzz h0 h1 h2 h3=>?_;generalize (outer a idx blo bhi alo (ahi-alo) (λzz=>0,((alo:Int),(blo:Int),(0:Int)))).2=t at h0 h1 h2 h3;have conv:∀i j k n,Good a b S alo ahi blo bhi i j (k+1)→alo+n=i+(k+1)→(k:Int)+1≤E a b S alo blo bhi n ((j:Int)+k)∧1≤n∧n≤ahi-alo:=by
  rintro i j k n ⟨g1,g2,g3,g4,g5,g6⟩ W
  have c1:k+1≤n:=by exact (Lin.ah (.c _ (.c _ (.c _ (.c _ .z)))) .z 1 (.c 1 (.ah (.v 2) (.v 3)) (.c 1 (.aw (.a (.v 3) (.a (.v 0) (.n 1))) (.a (.v 2) (.v 1))) .z)) (.a (.v 0) (.n 1)) (.v 1) rfl g2 (cB W))
  refine El.aK ((yA _ _ k).mpr (El.cy c1 (by exact (Lin.aA (.c _ (.c _ (.c _ .z))) .z 1 (.c 1 (.ah (.v 0) (.v 2)) .z) (.a (.o (.v 0)) (.o (.v 1))) (.a (.o (.v 2)) (.o (.v 1))) rfl g4)) (by exact (Lin.aM (.c _ (.c _ (.c _ .z))) .z 1 (.c 1 (.ah (.a (.v 0) (.a (.v 1) (.n 1))) (.v 2)) .z) (.a (.o (.v 0)) (.o (.v 1))) (.o (.v 2)) rfl g5)) (λt ht x y e1 e2=>?_))) (az (cY (bh k)) c1) (by exact (Lin.ah (.c _ (.c _ (.c _ (.c _ (.c _ (.c _ .z)))))) .z 1 (.c 1 (.ah (.a (.v 2) (.a (.v 3) (.n 1))) (.v 4)) (.c 1 (.aw (.a (.v 5) (.v 0)) (.a (.v 2) (.a (.v 3) (.n 1)))) (.c 1 (.aw (.v 4) (.a (.v 1) (.v 5))) .z))) (.v 0) (.v 1) rfl g3 W (aT (Lin.ah (.c _ (.c _ (.c _ (.c _ .z)))) .z 1 (.c 1 (.ah (.v 0) (.v 2)) (.c 1 (.ah (.a (.v 2) (.a (.v 3) (.n 1))) (.v 1)) .z)) (.v 0) (.v 1) rfl g2 g3)).symm))
  refine El.ea (⟨k-t,(aT ht).symm⟩:∃r,k=r+t) λr J=>?_;clear g1 g3 g5 c1 ht;subst J;have:=g6 r (sU (bc r t));refine ae (show x=i+r by exact (bJ (Lin.ah (.c _ (.c _ (.c _ (.c _ (.c _ (.c _ .z)))))) .z 1 (.c 1 (.aw (.a (.a (.v 0) (.v 3)) (.n 1)) (.a (.v 4) (.v 5))) (.c 1 (.aw (.a (.v 4) (.v 5)) (.a (.v 1) (.a (.a (.v 2) (.v 3)) (.n 1)))) .z)) (.v 0) (.a (.v 1) (.v 2)) rfl e1 W) (Lin.ah (.c _ (.c _ (.c _ (.c _ (.c _ (.c _ .z)))))) .z 1 (.c 1 (.aw (.a (.v 3) (.v 4)) (.a (.a (.v 2) (.v 5)) (.n 1))) (.c 1 (.aw (.a (.v 0) (.a (.a (.v 1) (.v 5)) (.n 1))) (.a (.v 3) (.v 4))) .z)) (.a (.v 0) (.v 1)) (.v 2) rfl (cB e1) (cB W)))) (ae (show y=j+r by exact (bJ (Lin.ah (.c _ (.c _ (.c _ (.c _ .z)))) .z 1 (.c 1 (.bW (.a (.o (.v 0)) (.o (.v 3))) (.a (.o (.v 1)) (.o (.a (.v 2) (.v 3))))) .z) (.v 0) (.a (.v 1) (.v 2)) rfl e2) (Lin.ah (.c _ (.c _ (.c _ (.c _ .z)))) .z 1 (.c 1 (.bW (.a (.o (.v 0)) (.o (.a (.v 1) (.v 3)))) (.a (.o (.v 2)) (.o (.v 3)))) .z) (.a (.v 0) (.v 1)) (.v 2) rfl (cB e2)))) ?_)
  exact this
 have ex:∀i k,alo≤i→∃n,alo+n=i+(k+1):=λi k h=>⟨i+(k+1)-alo,Cm (az h (bc i _))⟩;by_cases hz:t.2.2=0
 ·left
  refine ⟨h2 hz,λi j k hg=>?_⟩;cases k with
  |zero=>exact absurd hg.1 (ij 0)
  |succ k=>
   refine El.ea (ex i k hg.2.1) λn W=>?_;refine El.aa (conv i j k n hg W) λg v=>?_;have:=h1 n ((j:Int)+k) v;exact (Lin.no (.c _ .z) (.c _ (.c _ .z)) (.c 1 (.bW (.v 0) (.n 0)) (.c 1 (.aA (.a (.o (.v 0)) (.n 1)) (.v 1)) (.c 1 (.aA (.v 1) (.v 0)) .z))) rfl hz g this)
 ·right
  refine El.rb (h3 (by exact (Or.elim (kC hz) (λV=>(Lin.aM .z (.c _ .z) 0 (.c 1 (.aA (.n 0) (.v 0)) (.c 1 (.aM (.v 0) (.n 0)) .z)) (.n 0) (.v 0) rfl h0 V)) λV=>(Lin.aM .z (.c _ .z) 1 (.c 1 (.aM (.n 0) (.v 0)) .z) (.n 0) (.v 0) rfl V)))) λm j J e1 e2 e3 e4=>?_
  obtain ⟨v1,v2⟩:=J;clear h2 h3;obtain ⟨ti,tj,tk⟩:=t;dsimp only at h0 h1 hz e1 e2 e3 e4;refine El.ea (⟨(tk-1).toNat,by lia⟩:∃k:Nat,tk=(k:Int)+1) λk J=>?_
  subst J;refine El.iz ((yA (a:=a) (b:=b) (S:=S) (alo:=alo) (blo:=blo) (bhi:=bhi) m j k).mp (sR e1.symm)) λg1 g2 g3 g4=>?_;refine El.ea (⟨m-(k+1),(aT g1).symm⟩:∃q,m=q+(k+1)) λq J=>?_;subst J;refine El.ea (⟨(j-k).toNat,by exact (eK (Lin.aA (.c _ (.c _ .z)) (.c _ .z) 1 (.c 1 (.bW (.s (.v 0) (.o (.v 1))) (.o (.v 0))) .z) (.v 0) (.a (.o (.v 0)) (.o (.v 1))) rfl (jh (Lin.aA (.c _ (.c _ .z)) (.c _ .z) 1 (.c 1 (.aA (.a (.o (.v 1)) (.o (.v 0))) (.v 0)) .z) (.n 0) (.s (.v 0) (.o (.v 0))) rfl g2)).symm) (Lin.aA (.c _ (.c _ .z)) (.c _ .z) 1 (.c 1 (.bW (.o (.v 0)) (.s (.v 0) (.o (.v 1)))) .z) (.a (.o (.v 0)) (.o (.v 1))) (.v 0) rfl (jh (Lin.aA (.c _ (.c _ .z)) (.c _ .z) 1 (.c 1 (.aA (.a (.o (.v 1)) (.o (.v 0))) (.v 0)) .z) (.n 0) (.s (.v 0) (.o (.v 0))) rfl g2))))⟩:∃y:Nat,j=(y:Int)+k) λy J=>?_
  subst J;refine El.gC (alo+q) y (k+1) ?_ (El.pn (sS k) (bc alo q) (by exact (Lin.ah (.c _ (.c _ (.c _ (.c _ (.c _ .z))))) .z 1 (.c 1 (.ah (.a (.v 1) (.a (.v 2) (.n 1))) (.v 4)) (.c 1 (.aw (.a (.v 4) (.v 0)) (.v 3)) .z)) (.a (.a (.v 0) (.v 1)) (.a (.v 2) (.n 1))) (.v 3) rfl v2 (aT (Lin.ah (.c _ (.c _ .z)) .z 1 (.c 1 (.ah (.v 0) (.v 1)) .z) (.v 0) (.v 1) rfl ha)))) (by exact (Lin.ah (.c _ (.c _ (.c _ .z))) .z 1 (.c 1 (.aA (.a (.o (.v 0)) (.o (.v 2))) (.a (.o (.v 1)) (.o (.v 2)))) .z) (.v 0) (.v 1) rfl g2)) (by exact (Lin.ah (.c _ (.c _ (.c _ .z))) .z 1 (.c 1 (.aM (.a (.o (.v 0)) (.o (.v 1))) (.o (.v 2))) .z) (.a (.v 0) (.a (.v 1) (.n 1))) (.v 2) rfl g3)) (λt ht=>?_)) (λi' j' k' hg=>?_)
  ·refine ae (e2 ..) (ae (e3 ..) ?_);refine ae (show (alo:Int)+((q+(k+1):Nat):Int)-((k:Int)+1)=((alo+q:Nat):Int) by exact (eK (Lin.aA (.c _ (.c _ (.c _ .z))) .z 1 .z (.s (.a (.o (.v 0)) (.o (.a (.v 1) (.a (.v 2) (.n 1))))) (.a (.o (.v 2)) (.n 1))) (.o (.a (.v 0) (.v 1))) rfl) (Lin.aA (.c _ (.c _ (.c _ .z))) .z 1 .z (.o (.a (.v 0) (.v 1))) (.s (.a (.o (.v 0)) (.o (.a (.v 1) (.a (.v 2) (.n 1))))) (.a (.o (.v 2)) (.n 1))) rfl))) (ae (show (y:Int)+k-((k:Int)+1)+1=y by exact (eK (Lin.aA (.c _ (.c _ .z)) .z 1 .z (.a (.s (.a (.o (.v 0)) (.o (.v 1))) (.a (.o (.v 1)) (.n 1))) (.n 1)) (.o (.v 0)) rfl) (Lin.aA (.c _ (.c _ .z)) .z 1 .z (.o (.v 0)) (.a (.s (.a (.o (.v 0)) (.o (.v 1))) (.a (.o (.v 1)) (.n 1))) (.n 1)) rfl))) ?_)
   rfl
  ·refine El.ea (⟨k-t,(aT (ni ht)).symm⟩:∃r,k=r+t) λr J=>?_;subst J;exact g4 r (bc r t) (alo+q+t) (y+t) (by exact (bJ (Lin.ah (.c _ (.c _ (.c _ (.c _ .z)))) .z 1 .z (.a (.a (.a (.a (.v 0) (.v 1)) (.v 2)) (.v 3)) (.n 1)) (.a (.v 0) (.a (.v 1) (.a (.a (.v 3) (.v 2)) (.n 1)))) rfl) (Lin.ah (.c _ (.c _ (.c _ (.c _ .z)))) .z 1 .z (.a (.v 0) (.a (.v 1) (.a (.a (.v 2) (.v 3)) (.n 1)))) (.a (.a (.a (.a (.v 0) (.v 1)) (.v 3)) (.v 2)) (.n 1)) rfl))) (by exact (eK (Lin.aA (.c _ (.c _ (.c _ .z))) .z 1 .z (.a (.o (.a (.v 0) (.v 1))) (.o (.v 2))) (.a (.o (.v 0)) (.o (.a (.v 2) (.v 1)))) rfl) (Lin.aA (.c _ (.c _ (.c _ .z))) .z 1 .z (.a (.o (.v 0)) (.o (.a (.v 1) (.v 2)))) (.a (.o (.a (.v 0) (.v 2))) (.o (.v 1))) rfl)))
  ·cases k' with
   |zero=>exact absurd hg.1 (ij 0)
   |succ k'=>
    refine El.ea (ex i' k' hg.2.1) λn W=>?_;refine El.aa (conv i' j' k' n hg W) λg v=>?_;have Z:=h1 n ((j':Int)+k') v;by_cases fN:k'+1<k+1
    ·exact .inl fN
    ·have LH:k'=k:=by exact (bJ (Lin.ah (.c _ (.c _ .z)) (.c _ .z) 1 (.c 1 (.aA (.a (.o (.v 0)) (.n 1)) (.v 0)) (.c 1 (.aA (.v 0) (.a (.o (.v 1)) (.n 1))) .z)) (.v 0) (.v 1) rfl g Z) (Lin.ah (.c _ (.c _ .z)) .z 1 (.c 1 (.ah (.a (.v 0) (.n 1)) (.a (.v 1) (.n 1))) .z) (.v 0) (.v 1) rfl (jJ.mp fN)))
     subst LH;refine .inr ⟨rfl,?_⟩;rcases e4 n ((j':Int)+k') v (eK Z g) with h | ⟨h,h'⟩
     ·left;lia
     ·right;exact ⟨by exact (bJ (Lin.ah (.c _ (.c _ (.c _ (.c _ (.c _ .z))))) .z 1 (.c 1 (.aw (.a (.v 0) (.v 3)) (.a (.v 2) (.a (.v 4) (.n 1)))) (.c 1 (.aw (.a (.v 1) (.a (.v 4) (.n 1))) (.v 3)) .z)) (.a (.v 0) (.v 1)) (.v 2) rfl W h) (Lin.ah (.c _ (.c _ (.c _ (.c _ (.c _ .z))))) .z 1 (.c 1 (.aw (.a (.v 0) (.a (.v 3) (.n 1))) (.a (.v 1) (.v 4))) (.c 1 (.aw (.v 4) (.a (.v 2) (.a (.v 3) (.n 1)))) .z)) (.v 0) (.a (.v 1) (.v 2)) rfl (cB W) (cB h))),by exact (Lin.ah (.c _ (.c _ (.c _ .z))) .z 1 (.c 1 (.aA (.a (.o (.v 0)) (.o (.v 2))) (.a (.o (.v 1)) (.o (.v 2)))) .z) (.v 0) (.v 1) rfl h')⟩
noncomputable abbrev nj:Int→Bool:=λzz=>false
theorem yB {a b:Nat→Int}{S:Int→Bool}{alo ahi blo bhi i j k:Nat}(h0:0<k) (J:alo≤i) (V:i+k≤ahi) (W:blo≤j) (Y:j+k≤bhi) (Z:Run a b S i j k):Good a b S alo ahi blo bhi i j k:=(El.pn h0 J V W Y Z)
theorem DL {a b:Nat→Int}{nb alo ahi blo bhi:Nat}(W:bhi≤nb) (ha:alo≤ahi) :
  (iC a b (places b nb) nj alo ahi blo bhi=(alo,blo,0)∧∀i j k,¬Good a b nj alo ahi blo bhi i j k)∨∃i j k,iC a b (places b nb) nj alo ahi blo bhi=(i,j,k)∧DK a b nj alo ahi blo bhi i j k:=by
 have Y:∀i j k:Nat,(outer a (places b nb) blo bhi alo (ahi-alo) (λzz=>0,((alo:Int),(blo:Int),(0:Int)))).2=((i:Int),(j:Int),(k:Int))→
   ¬(alo<i∧blo<j∧a (i-1)=b (j-1))→¬(i+k<ahi∧j+k<bhi∧a (i+k)=b (j+k))→iC a b (places b nb) nj alo ahi blo bhi=(i,j,k):=by
  intro i j k e h1 h2;unfold iC;refine ae (e ..) ?_;dsimp only;refine ae (jK ..) (ae (jK ..) (ae (jK ..) ?_));have e1:ez a b (λc=>!nj c) alo blo i j k=(i,j,k):=tO λ⟨g1,g2,_,g4⟩=>h1 (El.aK g1 g2 g4);refine ae (e1 ..) ?_;dsimp only;have e2:eF a b (λc=>!nj c) ahi bhi i j (ahi-(i+k)) k=k:=tP (λ⟨g1,g2,_,g4⟩=>h2 (El.aK g1 g2 g4)) _;refine ae (e2 ..) ?_;have e3:ez a b nj alo blo i j k=(i,j,k):=tO λ⟨_,_,g3,_⟩=>Xi g3;refine ae (e3 ..) ?_;dsimp only;have e4:eF a b nj ahi bhi i j (ahi-(i+k)) k=k:=tP (λ⟨_,_,g3,_⟩=>Xi g3) _;exact ae (e4 ..) rfl
 rcases LF (a:=a) (b:=b) (S:=nj) (idx:=places b nb) (nb:=nb) (alo:=alo) (ahi:=ahi) (blo:=blo) (bhi:=bhi) (λc=>rfl) W ha with ⟨e,h⟩ | ⟨i,j,k,e,hg,Z⟩
 ·left
  refine ⟨Y alo blo 0 e (by exact (λLI=>(Lin.no (.c _ .z) .z (.c 1 (.ak (.v 0) (.v 0)) .z) rfl LI.1))) λ⟨g1,g2,g3⟩=>h alo blo 1 ?_,h⟩
  exact yB (by exact (Lin.ak .z .z 1 .z (.n 0) (.n 1) rfl)) (by exact (aI _)) (by exact (cb (bc _ _) g1)) (by exact (aI _)) (by exact (cb (bc _ _) g2)) λt V=>by
   have:t=0:=by exact (bJ (Lin.ah (.c _ .z) .z 1 (.c 1 (.ak (.v 0) (.n 1)) .z) (.v 0) (.n 0) rfl V) (Lin.ah (.c _ .z) .z 1 .z (.n 0) (.v 0) rfl))
   clear V;subst this;exact ⟨g3,rfl⟩
 ·right
  refine El.gC i j k (Y i j k e (λ⟨g1,g2,g3⟩=>?_) (λ⟨g1,g2,g3⟩=>?_)) hg Z
  ·refine El.pk hg λq0 q1 q2 q3 q4 q5=>?_;clear hg;have:=Z (i-1) (j-1) (k+1) (yB (by exact (sU (bh _))) (by exact (Lin.ah (.c _ (.c _ (.c _ .z))) .z 1 (.c 1 (.ak (.v 0) (.v 2)) (.c 1 (.aw (.v 2) (.a (.v 1) (.n 1))) .z)) (.v 0) (.v 1) rfl g1 (aT (Lin.ah (.c _ (.c _ .z)) .z 1 (.c 1 (.ak (.v 1) (.v 0)) .z) (.n 1) (.v 0) rfl g1)).symm)) (by exact (Lin.ah (.c _ (.c _ (.c _ (.c _ .z)))) .z 1 (.c 1 (.ah (.a (.v 3) (.v 1)) (.v 2)) (.c 1 (.aw (.a (.v 0) (.n 1)) (.v 3)) .z)) (.a (.v 0) (.a (.v 1) (.n 1))) (.v 2) rfl q2 (aT (Lin.ah (.c _ (.c _ .z)) .z 1 (.c 1 (.ak (.v 1) (.v 0)) .z) (.n 1) (.v 0) rfl g1)))) (by exact (Lin.ah (.c _ (.c _ (.c _ .z))) .z 1 (.c 1 (.ak (.v 0) (.v 2)) (.c 1 (.aw (.v 2) (.a (.v 1) (.n 1))) .z)) (.v 0) (.v 1) rfl g2 (aT (Lin.ah (.c _ (.c _ .z)) .z 1 (.c 1 (.ak (.v 1) (.v 0)) .z) (.n 1) (.v 0) rfl g2)).symm)) (by exact (Lin.ah (.c _ (.c _ (.c _ (.c _ .z)))) .z 1 (.c 1 (.ah (.a (.v 3) (.v 1)) (.v 2)) (.c 1 (.aw (.a (.v 0) (.n 1)) (.v 3)) .z)) (.a (.v 0) (.a (.v 1) (.n 1))) (.v 2) rfl q4 (aT (Lin.ah (.c _ (.c _ .z)) .z 1 (.c 1 (.ak (.v 1) (.v 0)) .z) (.n 1) (.v 0) rfl g2)))) λt V=>by
    by_cases h0:t=0
    ·clear V;subst h0;exact ⟨g3,rfl⟩
    ·have:=q5 (t-1) (by (clear W;omega))
     have e1:i+(t-1)=i-1+t:=by lia
     have e2:j+(t-1)=j-1+t:=by exact (bJ (Lin.ah (.c _ (.c _ (.c _ (.c _ .z)))) .z 1 (.c 1 (.aw (.a (.v 1) (.n 1)) (.v 3)) (.c 1 (.aw (.v 0) (.a (.v 2) (.n 1))) .z)) (.a (.v 0) (.v 1)) (.a (.v 2) (.v 3)) rfl (aT (Lin.ah (.c _ (.c _ (.c _ (.c _ .z)))) .z 1 (.c 1 (.aw (.a (.v 1) (.v 2)) (.a (.v 3) (.v 0))) (.c 1 (.aw (.a (.v 3) (.n 1)) (.v 1)) .z)) (.n 1) (.v 0) rfl e1 (aT (Lin.ah (.c _ (.c _ .z)) .z 1 (.c 1 (.ak (.v 1) (.v 0)) .z) (.n 1) (.v 0) rfl g1)))) (aT (Lin.ah (.c _ (.c _ .z)) .z 1 (.c 1 (.ak (.v 1) (.v 0)) .z) (.n 1) (.v 0) rfl g2)).symm) (Lin.ah (.c _ (.c _ (.c _ (.c _ .z)))) .z 1 (.c 1 (.aw (.v 1) (.a (.v 3) (.n 1))) (.c 1 (.aw (.a (.v 0) (.n 1)) (.v 2)) .z)) (.a (.v 0) (.v 1)) (.a (.v 2) (.v 3)) rfl (aT (Lin.ah (.c _ (.c _ (.c _ (.c _ .z)))) .z 1 (.c 1 (.aw (.a (.v 1) (.v 2)) (.a (.v 3) (.v 0))) (.c 1 (.aw (.a (.v 3) (.n 1)) (.v 1)) .z)) (.n 1) (.v 0) rfl e1 (aT (Lin.ah (.c _ (.c _ .z)) .z 1 (.c 1 (.ak (.v 1) (.v 0)) .z) (.n 1) (.v 0) rfl g1)))).symm (aT (Lin.ah (.c _ (.c _ .z)) .z 1 (.c 1 (.ak (.v 1) (.v 0)) .z) (.n 1) (.v 0) rfl g2))))
     rwa [e1,e2] at this)
   exact (Or.elim this (λJ=>(Lin.no (.c _ .z) .z (.c 1 (.ak (.a (.v 0) (.n 1)) (.v 0)) .z) rfl J)) λJ=>(Lin.no (.c _ .z) .z (.c 1 (.aw (.a (.v 0) (.n 1)) (.v 0)) .z) rfl J.1))
  ·refine El.pk hg λq0 q1 q2 q3 q4 q5=>?_;clear hg;have:=Z i j (k+1) (yB (by exact (sU (bh _))) (by omega) (by exact (Lin.ah (.c _ (.c _ (.c _ .z))) .z 1 (.c 1 (.ak (.a (.v 0) (.v 1)) (.v 2)) .z) (.a (.v 0) (.a (.v 1) (.n 1))) (.v 2) rfl g1)) (by omega) (by exact (Lin.ah (.c _ (.c _ (.c _ .z))) .z 1 (.c 1 (.ak (.a (.v 0) (.v 1)) (.v 2)) .z) (.a (.v 0) (.a (.v 1) (.n 1))) (.v 2) rfl g2)) λt V=>by
    by_cases h0:t=k
    ·clear e Z g1 g2 q0 q2 q4 q5 V;subst h0;exact ⟨g3,rfl⟩
    ·exact q5 t (by exact (Or.elim (ng h0) (λJ=>(Lin.ak (.c _ (.c _ .z)) .z 1 (.c 1 (.ak (.v 0) (.v 1)) .z) (.v 0) (.v 1) rfl J)) λJ=>(Lin.ak (.c _ (.c _ .z)) .z 0 (.c 1 (.ak (.v 0) (.a (.v 1) (.n 1))) (.c 1 (.ak (.v 1) (.v 0)) .z)) (.v 0) (.v 1) rfl V J))))
   exact (Or.elim this (λJ=>(Lin.no (.c _ .z) .z (.c 1 (.ak (.a (.v 0) (.n 1)) (.v 0)) .z) rfl J)) λJ=>(Lin.no (.c _ .z) .z (.c 1 (.aw (.a (.v 0) (.n 1)) (.v 0)) .z) rfl J.1))
noncomputable def DM (a b:Nat→Int) (alo ahi blo bhi i j k:Nat):Prop:=Good a b nj alo ahi blo bhi i j k∧∀J V k',Good a b nj alo ahi blo bhi J V k'→k'<k∨(k'=k∧i≤J∧j≤V)
theorem LJ {a b:Nat→Int}{nb alo ahi blo bhi i j k:Nat}(W:bhi≤nb) (ha:alo≤ahi) (h:DM a b alo ahi blo bhi i j k):iC a b (places b nb) nj alo ahi blo bhi=(i,j,k):=by
 refine El.aa h λY h2=>?_;clear h;rcases DL (a:=a) (b:=b) W ha (alo:=alo) (ahi:=ahi) (blo:=blo) (bhi:=bhi) with ⟨e,hn⟩ | ⟨Z,j',k',e,hg,hb⟩
 ·exact absurd Y (hn i j k)
 ·refine ae (e ..) ?_;have q1:=h2 Z j' k' hg;have q2:=hb i j k Y;have:Z=i∧j'=j∧k'=k:=by exact El.aK (by lia) (by lia) (Or.elim q1 (λJ=>(Or.elim q2 (λV=>(bJ (Lin.ah (.c _ (.c _ .z)) .z 1 (.c 1 (.ak (.v 0) (.v 1)) .z) (.v 0) (.v 1) rfl J) (Lin.ah (.c _ (.c _ .z)) .z 1 (.c 1 (.ak (.v 0) (.v 1)) .z) (.v 0) (.v 1) rfl V))) λV=>(bJ (Lin.ah (.c _ (.c _ .z)) .z 1 (.c 1 (.ak (.v 0) (.v 1)) .z) (.v 0) (.v 1) rfl J) (Lin.ah (.c _ (.c _ .z)) .z 1 (.c 1 (.aw (.v 0) (.v 1)) .z) (.v 0) (.v 1) rfl V.1)))) λJ=>(bJ (Lin.ah (.c _ (.c _ .z)) .z 1 (.c 1 (.aw (.v 0) (.v 1)) .z) (.v 0) (.v 1) rfl J.1) (Lin.ah (.c _ (.c _ .z)) .z 1 (.c 1 (.aw (.v 0) (.v 1)) .z) (.v 0) (.v 1) rfl (cB J.1))))
  exact ae (this.1 ..) (ae (this.2.1 ..) (ae (this.2.2 ..) rfl))
theorem LK {a b:Nat→Int}{nb alo ahi blo bhi:Nat}(J:bhi≤nb) (V:alo≤ahi) (h:∀i j k,¬Good a b nj alo ahi blo bhi i j k):iC a b (places b nb) nj alo ahi blo bhi=(alo,blo,0):=by
 rcases DL (a:=a) (b:=b) J V (alo:=alo) (ahi:=ahi) (blo:=blo) (bhi:=bhi) with ⟨e,W⟩ | ⟨Y,Z,k',e,hg,hb⟩
 ·exact e
 ·exact absurd hg (h _ _ _)
class inductive iE (a b:Nat→Int):Nat→Nat→Nat→Nat→List aX→Prop
 |none {alo ahi blo bhi:Nat}:(∀i j k,¬Good a b nj alo ahi blo bhi i j k)→iE a b alo ahi blo bhi []
 |some {alo ahi blo bhi i j k:Nat}{L R:List aX}:DM a b alo ahi blo bhi i j k→iE a b alo i blo j L→iE a b (i+k) ahi (j+k) bhi R→iE a b alo ahi blo bhi (L++(i,j,k)::R)
theorem iE.ro {a b:Nat→Int}{nb alo ahi blo bhi:Nat}{L:List aX}(h:iE a b alo ahi blo bhi L):alo≤ahi→blo≤bhi→bhi≤nb→dJ (iC a b (places b nb) nj) (alo,ahi,blo,bhi)=L:=by
 induction h with
 |none hn=>
  intro Z h2 h3;exact DF (by exact ae (LK h3 Z hn ..) rfl)
 |@some alo ahi blo bhi i j k L R hb hL hR W Y=>
  intro Z h2 h3;have e:=LJ h3 Z hb;refine El.aa hb λJ zz=>?_;clear hb;obtain ⟨q0,q1,q2,q3,q4,q5⟩:=J;refine ae (rk (DH _ _ _ _) Z h2 e (by exact (lR q0)) ..) ?_
  congr 1
  ·split
   ·exact W (by omega) (by omega) (by exact (az (az (bc _ _) q4) h3))
   ·rename_i hc;clear hR W Y e q5;cases hL with
    |none _=>rfl
    |some V _ _=>refine El.aa V λJ zz=>?_;clear V;obtain ⟨g0,g1,g2,g3,g4,g5⟩:=J;lia
  ·congr 1
   split
   ·exact Y (by omega) (by omega) (by omega)
   ·rename_i hc;clear hL W Y e q5;cases hR with
    |none _=>rfl
    |some V _ _=>refine El.aa V λJ zz=>?_;clear V;obtain ⟨g0,g1,g2,g3,g4,g5⟩:=J;lia
noncomputable def Apart:List aX→Prop:=@λA=>match A with
 |[]=>True
 |[zz]=>True
 |x::y::r=>¬(x.1+x.2.2=y.1∧x.2.1+x.2.2=y.2.1)∧Apart (y::r)
theorem DN:∀(r:List aX) (x:aX) (acc:List aX),(∀y∈x::r,0<y.2.2)→Apart (x::r)→
  (if (r.foldl fu (x,acc)).1.2.2=0 then (r.foldl fu (x,acc)).2 else (r.foldl fu (x,acc)).2++[(r.foldl fu (x,acc)).1])=acc++x::r:=@λA B C D F=>match A,B,C,D,F with
 |[],x,acc,J,zz=>by
  have:=J x (.head _);exact ae (List.foldl_nil ..) (ae (if_neg (by dsimp only;lia) ..) rfl)
 |y::r,x,acc,J,V=>by
  have hx:=J x (.head _);have hs:fu (x,acc) y=(y,acc++[x]):=by
   unfold fu;exact ae (if_neg V.1 ..) (ae (if_neg (by dsimp only;lia) ..) rfl)
  refine ae (qx ..) (ae (hs ..) (ae (DN r y (acc++[x]) (λz hz=>J z (.tail _ hz)) V.2 ..) ?_));simp
theorem yC {L:List aX}(J V:Nat) (W:∀y∈L,0<y.2.2) (Y:Apart L):joined L J V=L++[(J,V,0)]:=by
 unfold joined nL;cases L with
 |nil=>rfl
 |cons x r=>
  have hs:fu ((0,0,0),[]) x=(x,[]):=by
   unfold fu;split
   ·rename_i h;clear W Y;obtain ⟨i,j,k⟩:=x;dsimp only at h ⊢;have e1:i=0:=by exact (bJ (Lin.ah (.c _ .z) .z 1 (.c 1 (.aw (.v 0) (.n 0)) .z) (.v 0) (.n 0) rfl (cB h.1)) (Lin.ah (.c _ .z) .z 1 .z (.n 0) (.v 0) rfl))
    have e2:j=0:=by exact (bJ (az (az (dH h.2.symm) (dH h.1)) (dH e1)) (bh _))
    exact ae (e1 ..) (ae (e2 ..) (ae (cQ ..) rfl))
   ·rfl
  refine ae (qx ..) (ae (hs ..) (ae (DN r x [] W Y ..) ?_));rfl
structure yD (x y c:Nat→Nat) (n u v alo ahi blo bhi:Nat):Prop where
 lo:∀p,p<u→p<n→x p+c p≤alo∧y p+c p≤blo
 hi:∀p,v≤p→p<n→ahi≤x p∧bhi≤y p
 mid:∀p,u≤p→p<v→alo≤x p∧x p+c p≤ahi∧blo≤y p∧y p+c p≤bhi
theorem DO (c:Nat→Nat):∀d u,∃k,u≤k∧k<u+(d+1)∧(∀p,u≤p→p<u+(d+1)→c p≤c k)∧∀p,u≤p→p<k→c p<c k:=@λA B=>match A,B with
 |0,u=>(El.iA u (aI _) (lP _) (λp V W=>dH (congrArg c (bJ (ni W) V))) (λp V W=>absurd V (Xj W)))
 |d+1,u=>by
  refine El.gR (DO c d u) λk V W Y Z=>?_;by_cases h:c k<c (u+(d+1))
  ·refine El.iA (u+(d+1)) (by exact (bc _ _)) (by exact (Lin.ak (.c _ (.c _ .z)) .z 1 .z (.a (.v 0) (.a (.v 1) (.n 1))) (.a (.v 0) (.a (.a (.v 1) (.n 1)) (.n 1))) rfl)) (λp p1 p2=>?_) (λp p1 p2=>?_)
   ·by_cases e:p=u+(d+1)
    ·clear p1 p2;subst e;exact aI _
    ·exact et (cb (Y p p1 (by exact (Or.elim (ng e) (λJ=>(Lin.ak (.c _ (.c _ (.c _ .z))) .z 1 (.c 1 (.ak (.v 0) (.a (.v 1) (.a (.v 2) (.n 1)))) .z) (.v 0) (.a (.v 1) (.a (.v 2) (.n 1))) rfl J)) λJ=>(Lin.ak (.c _ (.c _ (.c _ .z))) .z 0 (.c 1 (.ak (.v 0) (.a (.v 1) (.a (.a (.v 2) (.n 1)) (.n 1)))) (.c 1 (.ak (.a (.v 1) (.a (.v 2) (.n 1))) (.v 0)) .z)) (.v 0) (.a (.v 1) (.a (.v 2) (.n 1))) rfl p2 J)))) h)
   ·exact cb (Y p p1 p2) h
  ·refine El.iA k V (by exact (Lin.ak (.c _ (.c _ (.c _ .z))) .z 1 (.c 1 (.ak (.v 0) (.a (.v 1) (.a (.v 2) (.n 1)))) .z) (.v 0) (.a (.v 1) (.a (.a (.v 2) (.n 1)) (.n 1))) rfl W)) (λp p1 p2=>?_) Z
   by_cases e:p=u+(d+1)
   ·clear p1 p2;subst e;exact jJ.mp h
   ·exact Y p p1 (by exact (Or.elim (ng e) (λJ=>(Lin.ak (.c _ (.c _ (.c _ .z))) .z 1 (.c 1 (.ak (.v 0) (.a (.v 1) (.a (.v 2) (.n 1)))) .z) (.v 0) (.a (.v 1) (.a (.v 2) (.n 1))) rfl J)) λJ=>(Lin.ak (.c _ (.c _ (.c _ .z))) .z 0 (.c 1 (.ak (.v 0) (.a (.v 1) (.a (.a (.v 2) (.n 1)) (.n 1)))) (.c 1 (.ak (.a (.v 1) (.a (.v 2) (.n 1))) (.v 0)) .z)) (.v 0) (.a (.v 1) (.a (.v 2) (.n 1))) rfl p2 J)))
section
variable {A B:Nat→Int}{x y c:Nat→Nat}{n na nb:Nat}
theorem LL {u v alo ahi blo bhi p i j l:Nat}(R:yD x y c n u v alo ahi blo bhi) (J:p<n) (hl:0<l) (g3:blo≤j) (V:j+l≤bhi) (W:y p≤j) (Y:j+l≤y p+c p):u≤p∧p<v:=by
 constructor
 ·apply jJ.mp;intro h;have:=(R.lo p h J).2;exact (Lin.no (.c _ (.c _ (.c _ (.c _ (.c _ .z))))) .z (.c 1 (.ak (.n 0) (.v 0)) (.c 1 (.ah (.v 1) (.v 2)) (.c 1 (.ah (.a (.v 2) (.v 0)) (.a (.v 3) (.v 4))) (.c 1 (.ah (.a (.v 3) (.v 4)) (.v 1)) .z)))) rfl hl g3 Y this)
 ·apply ee.mp;intro h;have:=(R.hi p h J).2;exact (Lin.no (.c _ (.c _ (.c _ (.c _ .z)))) .z (.c 1 (.ak (.n 0) (.v 0)) (.c 1 (.ah (.a (.v 1) (.v 0)) (.v 2)) (.c 1 (.ah (.v 3) (.v 1)) (.c 1 (.ah (.v 2) (.v 3)) .z)))) rfl hl V W this)
theorem LM {u k v:Nat}(J:u≤k) (V:k<v):kB u (v-u)=kB u (k-u)++k::kB (k+1) (v-(k+1)):=by
 have e:v-u=(k-u)+((v-(k+1))+1):=by exact (bJ (Lin.ah (.c _ (.c _ (.c _ (.c _ (.c _ (.c _ .z)))))) .z 1 (.c 1 (.aw (.a (.v 0) (.v 3)) (.v 4)) (.c 1 (.aw (.v 5) (.a (.v 1) (.v 3))) (.c 1 (.aw (.v 4) (.a (.v 2) (.a (.v 5) (.n 1)))) .z))) (.v 0) (.a (.v 1) (.a (.v 2) (.n 1))) rfl (aT (Lin.ah (.c _ (.c _ (.c _ .z))) .z 1 (.c 1 (.ah (.v 0) (.v 2)) (.c 1 (.ak (.v 2) (.v 1)) .z)) (.v 0) (.v 1) rfl J V)) (aT (Lin.ah (.c _ (.c _ .z)) .z 1 (.c 1 (.ah (.v 0) (.v 1)) .z) (.v 0) (.v 1) rfl J)).symm (aT (Lin.ah (.c _ (.c _ .z)) .z 1 (.c 1 (.ak (.v 0) (.v 1)) .z) (.a (.v 0) (.n 1)) (.v 1) rfl V)).symm) (Lin.ah (.c _ (.c _ (.c _ (.c _ (.c _ (.c _ .z)))))) .z 1 (.c 1 (.aw (.v 3) (.a (.v 2) (.v 4))) (.c 1 (.aw (.a (.v 0) (.v 4)) (.v 5)) (.c 1 (.aw (.a (.v 1) (.a (.v 5) (.n 1))) (.v 3)) .z))) (.a (.v 0) (.a (.v 1) (.n 1))) (.v 2) rfl (aT (Lin.ah (.c _ (.c _ (.c _ .z))) .z 1 (.c 1 (.ah (.v 0) (.v 2)) (.c 1 (.ak (.v 2) (.v 1)) .z)) (.v 0) (.v 1) rfl J V)).symm (aT (Lin.ah (.c _ (.c _ .z)) .z 1 (.c 1 (.ah (.v 0) (.v 1)) .z) (.v 0) (.v 1) rfl J)) (aT (Lin.ah (.c _ (.c _ .z)) .z 1 (.c 1 (.ak (.v 0) (.v 1)) .z) (.a (.v 0) (.n 1)) (.v 1) rfl V))))
 refine ae (e ..) (ae (List.range'_append_1 ..).symm (ae (Xc ..) ?_));have e2:u+(k-u)=k:=by exact (bJ (Lin.ah (.c _ (.c _ (.c _ .z))) .z 1 (.c 1 (.aw (.a (.v 1) (.v 0)) (.v 2)) .z) (.a (.v 0) (.v 1)) (.v 2) rfl (aT (Lin.ah (.c _ (.c _ .z)) .z 1 (.c 1 (.ah (.v 0) (.v 1)) .z) (.v 0) (.v 1) rfl J))) (Lin.ah (.c _ (.c _ (.c _ .z))) .z 1 (.c 1 (.aw (.v 0) (.a (.v 2) (.v 1))) .z) (.v 0) (.a (.v 1) (.v 2)) rfl (aT (Lin.ah (.c _ (.c _ .z)) .z 1 (.c 1 (.ah (.v 0) (.v 1)) .z) (.v 0) (.v 1) rfl J)).symm))
 exact ae (e2 ..) rfl
end
noncomputable abbrev LN:=Nat×Nat×Nat
noncomputable abbrev z3:LN:=(0,0,0)
noncomputable abbrev Op:=String×Nat×Nat×Nat×Nat
noncomputable def dm (i j J V:Nat):List Op:=
 if i<J∧j<V then [("replace",i,J,j,V)] else if i<J then [("delete",i,J,j,V)] else if j<V then [("insert",i,J,j,V)] else []
noncomputable def eC (b:aX):List Op:=if b.2.2=0 then [] else [("equal",b.1,b.1+b.2.2,b.2.1,b.2.1+b.2.2)]
noncomputable def kR (st:(Nat×Nat)×List Op) (b:aX):(Nat×Nat)×List Op:=((b.1+b.2.2,b.2.1+b.2.2),(st.2++dm st.1.1 st.1.2 b.1 b.2.1)++eC b)
noncomputable def gS (bl:List aX):(Nat×Nat)×List Op:=bl.foldl kR ((0,0),[])
section
variable {p q x1 x2 x3:Nat}{os A B:List Op}
theorem LO (h:(p:Int)<x1) (g:(q:Int)<x2):dm p q x1 x2=[("replace",p,x1,q,x2)]:=if_pos ⟨de.mp h,de.mp g⟩
theorem LP (h:(p:Int)<x1) (g:¬(q:Int)<x2):dm p q x1 x2=[("delete",p,x1,q,x2)]:=(if_neg λe=>g (de.mpr e.2)).trans (if_pos (de.mp h))
theorem LQ (h:¬(p:Int)<x1) (g:(q:Int)<x2):dm p q x1 x2=[("insert",p,x1,q,x2)]:=(if_neg λe=>h (de.mpr e.1)).trans ((if_neg λe=>h (de.mpr e)).trans (if_pos (de.mp g)))
theorem LR (h:¬(p:Int)<x1) (g:¬(q:Int)<x2):dm p q x1 x2=[]:=(if_neg λe=>h (de.mpr e.1)).trans ((if_neg λe=>h (de.mpr e)).trans (if_neg λe=>g (de.mpr e)))
theorem LS (h:¬(x3:Int)=0):eC (x1,x2,x3)=[("equal",x1,x1+x3,x2,x2+x3)]:=if_neg λ(e:x3=0)=>h (congrArg JV e)
theorem LU (h:(x3:Int)=0):eC (x1,x2,x3)=[]:=if_pos (sV h)
end
theorem LV (bl:List aX):(gS bl).2.length≤2*bl.length:=by
 have J:∀i j a b,(dm i j a b).length≤1:=λi j a b=>by
  unfold dm;repeat' split
  all_goals simp
 have V:∀b,(eC b).length≤1:=λb=>by unfold eC;split <;> simp
 have:∀(bl:List aX) (st:(Nat×Nat)×List Op),(bl.foldl kR st).2.length≤st.2.length+2*bl.length:=by
  intro bl;induction bl with
  |nil=>intro st;exact aI _
  |cons b r W=>
   intro st;have:=W (kR st b);have e:(kR st b).2.length≤st.2.length+2:=by
    refine (?_:((st.2++_)++_).length≤_);refine ae (aJ ..) (ae (aJ ..) ?_);have:=J st.1.1 st.1.2 b.1 b.2.1;have:=V b;lia
   simp only [qx,dA];exact (Lin.ah (.c _ (.c _ (.c _ (.c _ .z)))) .z 1 (.c 1 (.ah (.v 0) (.a (.v 3) (.m 2 (.v 2)))) (.c 1 (.ah (.v 3) (.a (.v 1) (.n 2))) .z)) (.v 0) (.a (.v 1) (.m 2 (.a (.v 2) (.n 1)))) rfl this e)
 have:=this bl ((0,0),[])
 simpa [gS] using this
noncomputable def slc (l:List Int) (a b:Nat):List Int:=(l.drop a).take (b-a)
class inductive Alt (base text:List Int):Nat→Nat→Option Bool→List Op→Prop
 |done {last:Option Bool}:Alt base text base.length text.length last []
 |eq {i j i2 j2:Nat}{last:Option Bool}{rest:List Op}:slc base i i2=slc text j j2→slc text j j2≠[]→last≠some true→i≤i2→i2≤base.length→j≤j2→j2≤text.length→Alt base text i2 j2 (some true) rest→Alt base text i j last (("equal",i,i2,j,j2)::rest)
 |ch {g:String}{i j i2 j2:Nat}{last:Option Bool}{rest:List Op}:(g="replace"∨g="delete"∨g="insert")→¬(slc base i i2=slc text j j2∧slc text j j2≠[])→last≠some false→i≤i2→i2≤base.length→j≤j2→j2≤text.length→Alt base text i2 j2 (some false) rest→Alt base text i j last ((g,i,i2,j,j2)::rest)
noncomputable abbrev bj:=Nat×Nat×Nat×String×List Int
noncomputable def dj (side:Nat) (J:List Int) (os:List Op):List bj:=os.filterMap λo=>if o.1="equal" then none else some (o.2.1,o.2.2.1,side,o.1,slc J o.2.2.2.1 o.2.2.2.2)
noncomputable def gE:Nat→Nat→List aX→List Op:=@λA B C=>match A,B,C with
 |zz,J,[]=>[]
 |p,q,b::r=>dm p q b.1 b.2.1++(eC b++gE (b.1+b.2.2) (b.2.1+b.2.2) r)
theorem DP (bl:List aX):(gS bl).2=gE 0 0 bl:=by
 have:∀(bl:List aX) (p q:Nat) (os:List Op),(bl.foldl kR ((p,q),os)).2=os++gE p q bl:=by
  intro bl;induction bl with
  |nil=>intro p q os;exact (bt os).symm
  |cons b r J=>
   intro p q os;refine ae (qx ..) ?_;refine (?_:(r.foldl kR ((b.1+b.2.2,b.2.1+b.2.2),_)).2=_);rw [J,aH,aH];rfl
 have:=this bl 0 0 []
 rwa [gv] at this
section
variable {as bs:List Int}
noncomputable def yE (as bs:List Int) (p i q j:Nat):Prop:=slc as p i=slc bs q j→slc bs q j=[]
class inductive jU (as bs:List Int) (e f:Nat):Nat→Nat→List aX→Prop
 |nil {p q:Nat}:p≤e→q≤f→yE as bs p e q f→jU as bs e f p q []
 |cons {p q i j k:Nat}{r:List aX}:p≤i→q≤j→yE as bs p i q j→0<k→slc as i (i+k)=slc bs j (j+k)→i+k≤e→j+k≤f→jU as bs e f (i+k) (j+k) r→jU as bs e f p q ((i,j,k)::r)
theorem jU.append {i j k e f p q:Nat}{L R:List aX}(h:jU as bs i j p q L) (hk:0<k) (W:slc as i (i+k)=slc bs j (j+k)) (J:i+k≤e) (V:j+k≤f) (Y:jU as bs e f (i+k) (j+k) R):jU as bs e f p q (L++(i,j,k)::R):=by
 induction h with
 |nil a b c=>exact .cons a b c hk W J V Y
 |cons a b c d x y z _ Z=>exact .cons a b c d x (az y (az (bc _ _) J)) (az z (az (bc _ _) V)) Z
theorem tT {l:List Int}{a b t:Nat}(h:a+t<b) (J:b≤l.length):(slc l a b)[t]? = some (l.getD (a+t) 0):=by
 unfold slc;rw [List.getElem?_take,if_pos (by exact (Lin.ak (.c _ (.c _ (.c _ (.c _ .z)))) .z 1 (.c 1 (.ak (.a (.v 2) (.v 0)) (.v 3)) (.c 1 (.aw (.v 3) (.a (.v 1) (.v 2))) .z)) (.v 0) (.v 1) rfl h (aT (Lin.ah (.c _ (.c _ (.c _ .z))) .z 1 (.c 1 (.ak (.a (.v 0) (.v 2)) (.v 1)) .z) (.v 0) (.v 1) rfl h)).symm)),Xk,eX,eu (by exact (dT h J))]
 rfl
theorem rm {l:List Int}{a b:Nat}(J:b≤l.length):(slc l a b).length=b-a:=by
 unfold slc;refine ae (oX ..) (ae (kD ..) ?_);lia
theorem LW {i j k:Nat}(h:∀t<k,as.getD (i+t) 0=bs.getD (j+t) 0) (V:i+k≤as.length) (W:j+k≤bs.length):slc as i (i+k)=slc bs j (j+k):=by
 apply List.ext_getElem?;intro t;by_cases J:t<k
 ·exact ae (tT (by exact (Lin.ak (.c _ (.c _ (.c _ .z))) .z 1 (.c 1 (.ak (.v 1) (.v 2)) .z) (.a (.v 0) (.v 1)) (.a (.v 0) (.v 2)) rfl J)) V ..) (ae (tT (by exact (Lin.ak (.c _ (.c _ (.c _ .z))) .z 1 (.c 1 (.ak (.v 1) (.v 2)) .z) (.a (.v 0) (.v 1)) (.a (.v 0) (.v 2)) rfl J)) W ..) (ae (h t J ..) rfl))
 ·rw [JW (by refine ae (rm V ..) ?_;omega),JW (by refine ae (rm W ..) ?_;omega)]
theorem iE.pq {alo ahi blo bhi:Nat}{L:List aX}(h:iE (λi=>as.getD i 0) (λi=>bs.getD i 0) alo ahi blo bhi L):alo≤ahi→blo≤bhi→ahi≤as.length→bhi≤bs.length→jU as bs ahi bhi alo blo L:=by
 induction h with
 |@none alo ahi blo bhi hn=>
  intro W Y J V;refine .nil W Y λe=>Co λjq=>?_;have l1:=rm (a:=alo) J;have l2:=rm (a:=blo) V;have lp:=qy.mpr jq;have el:=congrArg JX e;have e0:=congrArg (λl=>l[0]?) e;replace e0:(slc as alo ahi)[0]? = (slc bs blo bhi)[0]?:=e0;rw [tT (by exact (Lin.ak (.c _ (.c _ (.c _ (.c _ (.c _ .z))))) .z 1 (.c 1 (.aw (.v 2) (.v 3)) (.c 1 (.ak (.n 0) (.v 4)) (.c 1 (.aw (.v 4) (.v 2)) (.c 1 (.aw (.a (.v 3) (.v 0)) (.v 1)) .z)))) (.a (.v 0) (.n 0)) (.v 1) rfl l1 lp (cB el) (aT (Lin.ah (.c _ (.c _ .z)) .z 1 (.c 1 (.ah (.v 0) (.v 1)) .z) (.v 0) (.v 1) rfl W)))) J,tT (by exact (Lin.ak (.c _ (.c _ (.c _ (.c _ .z)))) .z 1 (.c 1 (.aw (.v 2) (.v 3)) (.c 1 (.ak (.n 0) (.v 2)) (.c 1 (.aw (.a (.v 3) (.v 0)) (.v 1)) .z))) (.a (.v 0) (.n 0)) (.v 1) rfl l2 lp (aT (Lin.ah (.c _ (.c _ .z)) .z 1 (.c 1 (.ah (.v 0) (.v 1)) .z) (.v 0) (.v 1) rfl Y)))) V] at e0
  refine hn alo blo 1 (El.pn Nat.one_pos (aI _) (by exact (Lin.ah (.c _ (.c _ (.c _ (.c _ (.c _ .z))))) .z 1 (.c 1 (.aw (.v 2) (.v 3)) (.c 1 (.ak (.n 0) (.v 4)) (.c 1 (.aw (.v 4) (.v 2)) (.c 1 (.aw (.a (.v 3) (.v 0)) (.v 1)) .z)))) (.a (.v 0) (.n 1)) (.v 1) rfl l1 lp (cB el) (aT (Lin.ah (.c _ (.c _ .z)) .z 1 (.c 1 (.ah (.v 0) (.v 1)) .z) (.v 0) (.v 1) rfl W)))) (aI _) (by exact (Lin.ah (.c _ (.c _ (.c _ (.c _ .z)))) .z 1 (.c 1 (.aw (.v 2) (.v 3)) (.c 1 (.ak (.n 0) (.v 2)) (.c 1 (.aw (.a (.v 3) (.v 0)) (.v 1)) .z))) (.a (.v 0) (.n 1)) (.v 1) rfl l2 lp (aT (Lin.ah (.c _ (.c _ .z)) .z 1 (.c 1 (.ah (.v 0) (.v 1)) .z) (.v 0) (.v 1) rfl Y)))) (λt Z=>?_))
  have:t=0:=by exact (bJ (Lin.ah (.c _ .z) .z 1 (.c 1 (.ak (.v 0) (.n 1)) .z) (.v 0) (.n 0) rfl Z) (Lin.ah (.c _ .z) .z 1 .z (.n 0) (.v 0) rfl))
  clear Z;subst this;exact ⟨dC e0,rfl⟩
 |@some alo ahi blo bhi i j k L R hb hL hR LX LY=>
  intro W Y J V;refine El.pk hb.1 λg1 g2 g3 g4 g5 g6=>?_;exact (LX g2 g4 (by exact (az (az (bc _ _) g3) J)) (by exact (az (az (bc _ _) g5) V))).append g1 (LW (λt Z=>(g6 t Z).1) (az g3 J) (az g5 V)) g3 g5 (LY g3 g5 J V)
theorem Alt.tag {p q i j:Nat}{last:Option Bool}{rest:List Op}(J:p≤i) (V:q≤j) (hi:i≤as.length) (W:j≤bs.length) (Z:yE as bs p i q j) (hl:last≠some false) (h0:p=i→q=j→Alt as bs i j last rest) (Y:Alt as bs i j (some false) rest):Alt as bs p q last (dm p q i j++rest):=by
 have hc:¬(slc as p i=slc bs q j∧slc bs q j≠[]):=λh=>h.2 (Z h.1);unfold dm;split
 ·exact .ch (.inl rfl) hc hl J hi V W Y
 ·split
  ·exact .ch (.inr (.inl rfl)) hc hl J hi V W Y
  ·split
   ·exact .ch (.inr (.inr rfl)) hc hl J hi V W Y
   ·have e1:p=i:=by lia
    have e2:q=j:=by lia
    clear J V hi W Z Y hc;subst e1 e2;exact h0 rfl rfl
theorem jU.alt {p q:Nat}{L:List aX}(h:jU as bs as.length bs.length p q L):∀last,last≠some false→Apart L→(last=some true→∀b∈L.head?,¬(p=b.1∧q=b.2.1))→Alt as bs p q last (gE p q (L++[(as.length,bs.length,0)])):=by
 induction h with
 |@nil p q V W Y=>
  intro last hl _ _;refine (?_:Alt as bs p q last (dm p q as.length bs.length++(eC (as.length,bs.length,0)++[])));refine Alt.tag V W (aI _) (aI _) Y hl (λzz zz=>?_) ?_
  ·exact .done
  ·exact .done
 |@cons p q i j k r V W Y h4 h5 h6 Z hr ih=>
  intro last hl ha hh;refine (?_:Alt as bs p q last (dm p q i j++(eC (i,j,k)++gE (i+k) (j+k) (r++[(as.length,bs.length,0)]))));have hi:i≤as.length:=az (bc _ _) h6;have hj:j≤bs.length:=az (bc _ _) Z;have e0:eC (i,j,k)=[("equal",i,i+k,j,j+k)]:=if_neg (lR h4);have jq:slc bs j (j+k)≠[]:=λe=>by have:=rm (a:=j) Z;rw [e] at this;simp at this;omega
  have step:∀J,J≠some true→Alt as bs i j J (eC (i,j,k)++gE (i+k) (j+k) (r++[(as.length,bs.length,0)])):=λJ LZ=>by
   refine ae (e0 ..) ?_;refine .eq h5 jq LZ (bc _ _) h6 (bc _ _) Z (ih (some true) (by decide) ?_ ?_)
   ·clear hr ih hh;cases r with
    |nil=>trivial
    |cons y r=>exact ha.2
   ·intro _ b hb;clear hr ih hh;cases r with
    |nil=>exact El.ns hb
    |cons y r=>cases hb;exact ha.1
  refine Alt.tag V W hi hj Y hl (λe1 e2=>step last λe=>?_) (step _ (by decide))
  exact hh e _ rfl ⟨e1,e2⟩
theorem iE.alt {L:List aX}(h:iE (λi=>as.getD i 0) (λi=>bs.getD i 0) 0 as.length 0 bs.length L) (J:Apart L) (V:∀y∈L,0<y.2.2):Alt as bs 0 0 ig (gS (joined L as.length bs.length)).2:=by
 refine ae (yC _ _ V J ..) (ae (DP ..) ?_);exact (h.pq (bh _) (bh _) (aI _) (aI _)).alt ig (by decide) J (λe=>El.ns e)
end
section
variable {A B:Nat→Int}{x y c:Nat→Nat}{n na nb:Nat}
theorem DQ {u v alo ahi blo bhi p i l:Nat}(R:yD x y c n u v alo ahi blo bhi) (J:p<n) (hl:0<l) (g1:alo≤i) (g2:i+l≤ahi) (V:x p≤i) (W:i+l≤x p+c p):u≤p∧p<v:=by
 constructor
 ·apply jJ.mp;intro h;have:=(R.lo p h J).1;exact (Lin.no (.c _ (.c _ (.c _ (.c _ (.c _ .z))))) .z (.c 1 (.ak (.n 0) (.v 0)) (.c 1 (.ah (.v 1) (.v 2)) (.c 1 (.ah (.a (.v 2) (.v 0)) (.a (.v 3) (.v 4))) (.c 1 (.ah (.a (.v 3) (.v 4)) (.v 1)) .z)))) rfl hl g1 W this)
 ·apply ee.mp;intro h;have:=(R.hi p h J).1;exact (Lin.no (.c _ (.c _ (.c _ (.c _ .z)))) .z (.c 1 (.ak (.n 0) (.v 0)) (.c 1 (.ah (.a (.v 1) (.v 0)) (.v 2)) (.c 1 (.ah (.v 3) (.v 1)) (.c 1 (.ah (.v 2) (.v 3)) .z)))) rfl hl g2 V this)
theorem L0 (hm:∀k,k<n→∀t,t<c k→A (x k+t)=B (y k+t)) (hx:∀p q,p<q→q<n→x p+c p≤x q∧y p+c p≤y q) (hc:∀k,k<n→0<c k)
  (hA:∀i j l,0<l→i+l≤na→j+l≤nb→Run A B nj i j l→∃p,p<n∧x p≤i∧i+l≤x p+c p)
  (hY:∀p j,p<n→j+c p≤nb→Run A B nj (x p) j (c p)→y p≤j∨∃q,q<n∧y q≤j∧j+c p≤y q+c q) :
  ∀d u v alo ahi blo bhi,v-u≤d→u≤v→v≤n→ahi≤na→bhi≤nb→yD x y c n u v alo ahi blo bhi→iE A B alo ahi blo bhi ((kB u (v-u)).map λk=>(x k,y k,c k)):=by
 intro d;induction d with
 |zero=>
  intro u v alo ahi blo bhi hd J V h1 W R;have e:v=u:=bJ (Nat.le_of_sub_eq_zero (Ck.mp hd)) J;clear hd J;subst e;refine ae (wA ..) ?_;refine .none λi j k ⟨Y,q1,Z,q3,q4,q5⟩=>?_;refine El.dI (hA i j k Y (az Z h1) (az q4 W) q5) λp hp b1 b2=>?_;have:=DQ R hp Y q1 Z b1 b2;exact (ij _ (cb this.1 this.2))
 |succ d ih=>
  intro u v alo ahi blo bhi hd J V h1 W R;by_cases e:v=u
  ·clear hd;subst e;exact ih v v alo ahi blo bhi (by exact (Lin.ah (.c _ (.c _ (.c _ .z))) .z 1 (.c 1 (.aw (.a (.v 0) (.v 2)) (.v 2)) .z) (.v 0) (.v 1) rfl (aT (Lin.ah (.c _ .z) .z 1 .z (.v 0) (.v 0) rfl)))) J V h1 W R
  ·refine El.gR (DO c (v-u-1) u) λk k1 k2 k3 k4=>?_;have ev:u+(v-u-1+1)=v:=by lia
   rw [ev] at k2 k3;refine ae (LM k1 k2 ..) (ae (bG ..) (ae (eU ..) ?_));refine El.iz (R.mid k k1 k2) λm1 m2 m3 m4=>?_;refine .some ⟨(El.pn (hc k (by exact (dT k2 V))) m1 m2 m3 m4 (λt ht=>⟨hm k (by exact (dT k2 V)) t ht,rfl⟩)),λi j l hg=>?_⟩ ?_ ?_
   ·refine El.pk hg λY q1 Z q3 q4 q5=>?_;clear hg;refine El.dI (hA i j l Y (az Z h1) (az q4 W) q5) λp hp a1 a2=>?_;refine El.aa (DQ R hp Y q1 Z a1 a2) λr1 r2=>?_;have c1:=k3 p r1 r2;by_cases hl:l<c k
    ·exact .inl hl
    ·right
     have kp:k≤p:=jJ.mp λh=>by have:=k4 p r1 h;omega
     have el:l=c p:=by exact (bJ (Lin.ah (.c _ (.c _ (.c _ (.c _ .z)))) .z 1 (.c 1 (.ah (.v 2) (.v 3)) (.c 1 (.ah (.a (.v 3) (.v 0)) (.a (.v 2) (.v 1))) .z)) (.v 0) (.v 1) rfl a1 a2) (Lin.ah (.c _ (.c _ (.c _ .z))) .z 1 (.c 1 (.ah (.v 0) (.v 2)) (.c 1 (.ah (.v 2) (.v 1)) .z)) (.v 0) (.v 1) rfl c1 (jJ.mp hl)))
     have ei:i=x p:=by exact (bJ (Lin.ah (.c _ (.c _ (.c _ (.c _ .z)))) .z 1 (.c 1 (.ah (.a (.v 0) (.v 2)) (.a (.v 1) (.v 3))) (.c 1 (.aw (.v 3) (.v 2)) .z)) (.v 0) (.v 1) rfl a2 (cB el)) (Lin.ah (.c _ (.c _ .z)) .z 1 (.c 1 (.ah (.v 0) (.v 1)) .z) (.v 0) (.v 1) rfl a1))
     subst el ei;have hj:y k≤j:=by
      rcases hY p j hp (az q4 W) q5 with hj | ⟨q,hq,j1,j2⟩
      ·clear k1 k2 k3 k4 m1 m2 m3 m4 r1 r2 c1 Y q4 hl q1 a1 Z q5 a2;rcases nq kp with h | h
       ·exact az (bc _ _) (az (hx k p h hp).2 hj)
       ·exact h▸hj
      ·refine El.aa (LL (i:=x p) R hq (hc p hp) q3 q4 j1 j2) λs1 s2=>?_;clear k3;rcases Xl k q with h | h | h
       ·exact az (bc _ _) (az (hx k q h hq).2 j1)
       ·exact h▸j1
       ·have:=k4 q s1 h;omega
     refine El.aK (bJ c1 (jJ.mp hl)) ?_ hj;clear k1 k2 k3 k4 m1 m2 m3 m4 r1 r2 c1 Y q4 hl q1 a1 Z q5 a2 hj;rcases nq kp with h | h
     ·exact az (bc _ _) (hx k p h hp).1
     ·exact dH (congrArg x h)
   ·refine ih u k alo (x k) blo (y k) (by exact (Lin.ah (.c _ (.c _ (.c _ (.c _ (.c _ (.c _ .z)))))) .z 1 (.c 1 (.ah (.v 2) (.a (.v 1) (.n 1))) (.c 1 (.ak (.v 3) (.v 4)) (.c 1 (.aw (.v 4) (.a (.v 2) (.v 5))) (.c 1 (.aw (.a (.v 0) (.v 5)) (.v 3)) .z)))) (.v 0) (.v 1) rfl hd k2 (aT (Lin.ah (.c _ (.c _ (.c _ .z))) .z 1 (.c 1 (.aw (.a (.v 0) (.a (.v 2) (.n 1))) (.v 1)) .z) (.v 0) (.v 1) rfl ev)).symm (aT (Lin.ah (.c _ (.c _ .z)) .z 1 (.c 1 (.ah (.v 0) (.v 1)) .z) (.v 0) (.v 1) rfl k1)))) k1 (by exact (et (dT k2 V))) (by exact (az (az (bc _ _) m2) h1)) (by exact (az (az (bc _ _) m4) W)) ⟨R.lo,λp p1 p2=>?_,λp p1 p2=>?_⟩
    ·clear k1 k2 k3 k4 m1 m2 m3 m4;rcases nq p1 with h | h
     ·have:=hx k p h p2;exact ⟨by exact (az (bc _ _) this.1),by exact (az (bc _ _) this.2)⟩
     ·clear p1 p2;subst h;exact ⟨aI _,aI _⟩
    ·have:=R.mid p p1 (by exact (eY p2 k2))
     have:=hx p k p2 (by exact (dT k2 V))
     exact El.cy (by lia) (by exact this.1) (by lia) (by exact this.2)
   ·refine ih (k+1) v (x k+c k) ahi (y k+c k) bhi (by exact (Lin.ah (.c _ (.c _ (.c _ (.c _ (.c _ (.c _ .z)))))) .z 1 (.c 1 (.ah (.v 2) (.a (.v 1) (.n 1))) (.c 1 (.ah (.v 3) (.v 4)) (.c 1 (.aw (.v 5) (.a (.v 2) (.v 3))) (.c 1 (.aw (.a (.v 0) (.a (.v 4) (.n 1))) (.v 5)) .z)))) (.v 0) (.v 1) rfl hd k1 (aT (Lin.ah (.c _ (.c _ (.c _ .z))) .z 1 (.c 1 (.aw (.a (.v 0) (.a (.v 2) (.n 1))) (.v 1)) .z) (.v 0) (.v 1) rfl ev)).symm (aT (Lin.ah (.c _ (.c _ .z)) .z 1 (.c 1 (.ak (.v 0) (.v 1)) .z) (.a (.v 0) (.n 1)) (.v 1) rfl k2)))) (by exact k2) V h1 W ⟨λp p1 p2=>?_,R.hi,λp p1 p2=>?_⟩
    ·clear k1 k3 k4 m1 m2 m3 m4 p2;rcases nq (ni p1) with h | h
     ·have:=hx p k h (by exact (dT k2 V));exact ⟨by exact (az this.1 (bc _ _)),by exact (az this.2 (bc _ _))⟩
     ·subst h;exact ⟨aI _,aI _⟩
    ·have:=R.mid p (by exact (et (cb k1 p1))) p2
     have:=hx k p p1 (by exact (dT p2 V))
     exact El.cy (by exact this.1) (by lia) (by exact this.2) (by lia)
end
section
variable {α:Type}{f:α→Nat}{z:α}{bl total:List α}
theorem range_getD (bl:List α) (z:α):(kA bl.length).map (λi=>bl.getD i z)=bl:=by
 apply Xm
 ·simp
 ·intro i V J;simp [J]
end
noncomputable abbrev zc:bj:=(0,0,0,"",[])
noncomputable def f9 (c:bj):Nat:=(c.1*2048+c.2.1)*2+c.2.2.1
theorem L3 {c d:bj}(hc:c.2.1<2048∧c.2.2.1<2) (hd:d.2.1<2048∧d.2.2.1<2) :
  (((c.1:Nat):Int)<(d.1:Nat)∨((c.1:Nat):Int)=(d.1:Nat)∧(((c.2.1:Nat):Int)<(d.2.1:Nat)∨((c.2.1:Nat):Int)=(d.2.1:Nat)∧((c.2.2.1:Nat):Int)<(d.2.2.1:Nat)))↔f9 c<f9 d:=by
 unfold f9;lia
noncomputable abbrev SC:=Int×Option (List Int)
noncomputable def wy (c:SC):List Int:=c.2.getD [c.1]
noncomputable def txt:List SC→List Int:=@λA=>match A with
 |[]=>[]
 |c::cs=>wy c++txt cs
noncomputable def aN (cs:List SC):List Int:=cs.map gO
noncomputable def kl:List SC→Nat:=@λA=>match A with
 |[]=>0
 |c::cs=>match c.2 with
  |.none=>kl cs+1
  |.some zz=>0
noncomputable def cx:Bool→Nat→Nat→List SC→List aX:=@λA B C D=>match A,B,C,D with
 |zz,J,V,[]=>[]
 |o,x,y,c::cs=>match c.2 with
  |.none=>(if o=true then [] else [(x,y,kl cs+1)])++cx true (x+1) (y+1) cs
  |.some w=>cx false (x+1) (y+w.length) cs
noncomputable def lk:Bool→List SC→Bool:=@λA B=>match A,B with
 |o,[]=>o
 |zz,c::cs=>lk c.2.isNone cs
noncomputable def hk:List SC→Bool:=@λA=>match A with
 |[]=>false
 |c::zz=>c.2.isNone
theorem pz (A B:List SC):txt (A++B)=txt A++txt B:=by
 induction A with
 |nil=>rfl
 |cons c A J=>refine (?_:wy c++txt (A++B)=_);refine ae (J ..) (ae (aH ..).symm ?_);rfl
theorem DR {P:List SC}(h:∀c∈P,c.2=ig):txt P=aN P:=by
 induction P with
 |nil=>rfl
 |cons c P J=>
  refine (?_:wy c++txt P=c.1::aN P);rw [J λd hd=>h d (.tail _ hd),wy,h c (.head _)];rfl
theorem DS:∀cs:List SC,∃P R,cs=P++R∧P.length=kl cs∧(∀c∈P,c.2=ig)∧hk R=false:=@λA=>match A with
 |[]=>(El.iB [] [] rfl rfl (λzz h=>(El.nm h)) rfl)
 |(a,.none)::cs=>by
  refine El.l7 (DS cs) λP R J V W Y=>?_;exact El.iB ((a,.none)::P) R (congrArg (kE _) J) (congrArg jj V) (bH.mpr ⟨rfl,W⟩) Y
 |(a,.some w)::cs=>(El.iB [] _ rfl rfl (λzz h=>(El.nm h)) rfl)
theorem DT (R:List SC):∀P:List SC,(∀c∈P,c.2=ig)→P.length≤kl (P++R):=@λA B=>match A,B with
 |[],zz=>bh _
 |(a,.none)::P,h=>cY (DT R P λc hc=>h c (.tail _ hc))
 |(a,.some w)::P,h=>El.sn (h _ (.head _))
theorem tU:∀(cs:List SC) (o:Bool) (x y:Nat) (b:aX),b∈cx o x y cs→∃A P R,cs=A++(P++R)∧b=(x+A.length,y+(txt A).length,P.length)∧P≠[]∧(∀c∈P,c.2=ig)∧lk o A=false∧hk R=false:=@λB C D F G H=>match B,C,D,F,G,H with
 |[],zz,zy,zx,zw,h=>El.nm h
 |(a,.none)::cs,o,x,y,b,h=>by
  rcases cF.mp h with h | h
  ·cases o with
   |true=>exact El.nm h
   |false=>
    refine El.l7 (DS cs) λP R V h2 W Y=>?_;obtain rfl:=dk.mp h;exact El.tN [] ((a,.none)::P) R (congrArg (kE _) V) (congrArg (λn=>(x,y,n+1)) h2.symm) (nr _ _) (bH.mpr ⟨rfl,W⟩) rfl Y
  ·refine El.tJ (tU cs true (x+1) (y+1) b h) λA P R V J W Y Z h6=>?_;clear h;subst J;refine El.tN ((a,.none)::A) P R (congrArg (kE _) V) ?_ W Y Z h6;refine (?_:(x+1+A.length,y+1+(txt A).length,P.length)=(x+(A.length+1),y+([a]++txt A).length,P.length));refine ae (aJ ..) (ae (eV ..) (ae (eV ..) (ae (iU 1 A.length ..) ?_)));rfl
 |(a,.some w)::cs,o,x,y,b,h=>by
  refine El.tJ (tU cs false (x+1) (y+w.length) b h) λA P R V J W Y Z h6=>?_;clear h;subst J;refine El.tN ((a,.some w)::A) P R (congrArg (kE _) V) ?_ W Y Z h6;refine (?_:(x+1+A.length,y+w.length+(txt A).length,P.length)=(x+(A.length+1),y+(w++txt A).length,P.length));exact ae (aJ ..) (ae (eV ..) (ae (eV ..) (ae (iU 1 A.length ..) rfl)))
theorem tV (P R:List SC) (Y:∀c∈P,c.2=ig) (J:P≠[]):∀(A:List SC) (o:Bool) (x y:Nat),(∃b∈cx o x y (A++(P++R)),b.1≤x+A.length∧x+A.length+P.length≤b.1+b.2.2∧b.2.1≤y+(txt A).length∧y+(txt A).length+P.length≤b.2.1+b.2.2)∨(o=true∧A.length+P.length≤kl (A++(P++R))∧(txt A).length=A.length):=@λB C D F=>match B,C,D,F with
 |[],o,x,y=>by
  have g:=DT R P Y;cases P with
  |nil=>exact absurd rfl J
  |cons c P=>
   clear J;obtain ⟨a,w⟩:=c;obtain rfl:w=ig:=Y _ (.head _);cases o with
   |true=>exact .inr (El.aK rfl (by refine ae (wB ..) (ae (cQ ..) ?_);exact g) rfl)
   |false=>exact .inl (El.kQ _ (.head _) (aI _) (iV g x) (aI _) (iV g y))
 |(a,.none)::A,o,x,y=>by
  have e:(txt ((a,.none)::A)).length=(txt A).length+1:=rfl;have e1:∀z n,z+(n+1)=z+1+n:=λz n=>by refine ae (gp ..) ?_;rfl
  have e2:∀z n,z+1+n+P.length=z+(n+P.length)+1:=λz n=>by exact ae (gp z 1 ..) (ae (gp _ 1 ..) (ae (eV z ..) rfl))
  refine ae (e ..) (ae (dA ..) (ae (e1 x ..) (ae (e1 y ..) ?_)));rcases tV P R Y J A true (x+1) (y+1) with ⟨b,h,V,W,Z,h4⟩ | ⟨_,V,W⟩
  ·exact .inl (El.kQ b (bx _ h) V W Z h4)
  ·cases o with
   |true=>exact .inr (El.aK rfl (by refine ae (gp ..) ?_;exact cY V) (congrArg jj W))
   |false=>exact .inl (El.kQ _ (.head _) (az (bc x 1) (bc _ _)) (by refine ae (e2 ..) ?_;exact cY (iV V x)) (az (bc y 1) (bc _ _)) (by refine ae (e2 ..) (ae (W ..) ?_);exact cY (iV V y)))
 |(a,.some w)::A,o,x,y=>by
  have e:(txt ((a,.some w)::A)).length=w.length+(txt A).length:=aJ;refine ae (e ..) (ae (dA ..) (ae (iU A.length 1 ..) (ae (eV ..).symm (ae (eV ..).symm ?_))));rcases tV P R Y J A false (x+1) (y+w.length) with ⟨b,h,V,W,Z,h4⟩ | ⟨h,_⟩
  ·exact .inl (El.kQ b h V W Z h4)
  ·exact El.ft h
theorem yF:∀(cs:List SC) (o:Bool) (x y:Nat) (b:aX),b∈cx o x y cs→x+(if o=true then kl cs+1 else 0)≤b.1∧y+(if o=true then kl cs else 0)≤b.2.1:=@λA B C D F G=>match A,B,C,D,F,G with
 |[],zz,W,Y,Z,h=>El.nm h
 |(a,.none)::cs,o,x,y,b,h=>by
  rcases cF.mp h with h | h
  ·cases o with
   |true=>exact El.nm h
   |false=>obtain rfl:=dk.mp h;exact ⟨aI _,aI _⟩
  ·refine El.aa (yF cs true (x+1) (y+1) b h) λJ V=>?_;rw [if_pos rfl,eV,iU 1] at J V;refine ⟨az (iV ?_ x) J,az (iV ?_ y) V⟩
   ·split
    ·exact aI _
    ·exact bh _
   ·split
    ·exact aI _
    ·exact bh _
 |(a,.some w)::cs,o,x,y,b,h=>by
  refine El.aa (yF cs false (x+1) (y+w.length) b h) λJ V=>?_;rw [if_neg (by decide)] at J V
  refine ⟨az (iV ?_ x) J,az (az ?_ (bc y w.length)) V⟩
  ·split
   ·exact aI 1
   ·exact bh _
  ·split
   ·exact aI _
   ·exact aI _
theorem nN:∀(cs:List SC) (o:Bool) (x y:Nat),(cx o x y cs).Pairwise λa b=>a.1+a.2.2<b.1∧a.2.1+a.2.2≤b.2.1:=@λA B C D=>match A,B,C,D with
 |[],zz,Y,Z=>.nil
 |(a,.none)::cs,true,x,y=>nN cs true (x+1) (y+1)
 |(a,.none)::cs,false,x,y=>by
  refine .cons (λb W=>?_) (nN cs true (x+1) (y+1));refine El.aa (yF cs true (x+1) (y+1) b W) λJ V=>?_;rw [if_pos rfl] at J V;rw [eV,iU 1] at J V;exact ⟨J,V⟩
 |(a,.some w)::cs,o,x,y=>nN cs false (x+1) (y+w.length)
theorem yG:∀L:List aX,(L.Pairwise λa b=>a.1+a.2.2<b.1∧a.2.1+a.2.2≤b.2.1)→Apart L:=@λA B=>match A,B with
 |[],zz=>trivial
 |[zz],W=>trivial
 |a::b::L,h=>by
  cases h with
  |cons J V=>exact ⟨λe=>ef (J b (.head _)).1 e.1,yG _ V⟩
theorem DU:∀(cs:List SC) (j:Nat),j<(txt cs).length→∃A c R t,cs=A++c::R∧t<(wy c).length∧j=(txt A).length+t:=@λB C D=>match B,C,D with
 |[],zz,h=>nomatch h
 |c::cs,j,h=>by
  by_cases J:j<(wy c).length
  ·exact El.jS [] c cs j rfl J (cQ _).symm
  ·have e:=Nat.add_sub_of_le (jJ.mp J);have V:j-(wy c).length<(txt cs).length:=by
    have h':j<(wy c).length+(txt cs).length:=aJ▸h;exact Nat.lt_of_add_lt_add_left (e.symm▸h')
   refine El.fL (DU cs _ V) λA d R t W Y Z=>?_;refine El.jS (c::A) d R t (congrArg (kE _) W) Y ?_;refine (?_:j=(wy c++txt A).length+t);exact ae (aJ ..) (ae (eV ..) (ae (Z ..).symm (ae (e ..) rfl)))
noncomputable def Tw (cs:List SC) (z:Int):Prop:=∀A R,cs=A++(z,.none)::R→lk false A=true∨hk R=true
structure Own (cs:List SC) (e:List Int):Prop where
 gone:∀c∈cs,c.2≠.none→c.1∉txt cs++e
 way:∀a w,(a,.some w)∈cs→(∃f r,w=f::r∧f∉aN cs)∧∀t z,w[t]? = some z→z∈aN cs→(∃g,w[t+1]? = some g∧g∉aN cs)∧Tw cs z
 fin:∀f r,e=f::r→f∉aN cs
theorem DV {e S:List Int}(he:∀f r,e=f::r→f∉S):∀(m:Nat) (R:List SC),(∀a w,(a,.some w)∈R→∃f r,w=f::r∧f∉S)→(∀t<m,∃v,(txt R++e)[t]? = some v∧v∈S)→∃P W,R=P++W∧P.length=m∧∀c∈P,c.2=ig:=@λA B C D=>match A,B,C,D with
 |0,R,zz,zy=>(El.bP [] R rfl rfl (λzz h=>(El.nm h)))
 |m+1,[],zz,h=>by
  refine El.au (h 0 (Cp _)) λv J V=>?_;clear D h;cases e with
  |nil=>exact El.ns J
  |cons f r=>cases J;exact absurd V (he _ r rfl)
 |m+1,(a,.some w)::R,hw,h=>by
  refine El.au (h 0 (Cp _)) λv J V=>?_;refine El.dP (hw a w (.head _)) λf r Y Z=>?_;clear hw h;subst Y;cases J
  exact absurd V Z
 |m+1,(a,.none)::R,hw,h=>by
  refine El.aP (DV he m R (λa w h=>hw a w (.tail _ h)) λt ht=>h (t+1) (wC ht)) λP W J V Z=>?_;exact El.bP ((a,.none)::P) W (congrArg (kE _) J) (congrArg jj V) (bH.mpr ⟨rfl,Z⟩)
theorem getD_mem {l:List Int}{i:Nat}{d:Int}(h:i<l.length):l.getD i d∈l:=by
 rw [eX,eu h];exact JY h
theorem tW {A B:List Int}{t:Nat}{d:Int}:(A++B).getD (A.length+t) d=B.getD t d:=by
 rw [eX,eX,wF (bc _ _),qv]
theorem yH {A B:List Int}{t:Nat}{d:Int}(h:t<A.length):(A++B).getD t d=A.getD t d:=by
 rw [eX,eX,wG h]
theorem nP (A B:List SC):aN (A++B)=aN A++aN B:=bG
theorem eG (A:List SC):(aN A).length=A.length:=bK _
section
variable {cs:List SC}{e:List Int}
theorem nQ {b:aX}(W:b∈cx false 0 0 cs):0<b.2.2∧b.1+b.2.2≤(aN cs).length∧b.2.1+b.2.2≤(txt cs++e).length∧∀t<b.2.2,(aN cs).getD (b.1+t) 0=(txt cs++e).getD (b.2.1+t) 0:=by
 refine El.tJ (tU _ _ _ _ _ W) λA P R J V h3 Y zz zz=>?_;clear W;subst J;subst V;refine ae (cQ ..) (ae (cQ ..) ?_);have e2:(txt P).length=P.length:=by exact ae (DR Y ..) (ae (eG ..) rfl)
 refine ae (pz ..) (ae (pz ..) (ae (nP ..) (ae (nP ..) (ae (aH ..) (ae (aH ..) ?_)))));refine El.cy (qy.mpr h3) ?_ ?_ (λt Z=>?_)
 ·refine ae (aJ ..) (ae (aJ ..) (ae (eG ..) (ae (eG ..) ?_)));exact iV (bc _ _) _
 ·refine ae (aJ ..) (ae (aJ ..) (ae (e2 ..) ?_));exact iV (bc _ _) _
 ·have e1:A.length=(aN A).length:=(eG A).symm;refine ae (tW ..) ?_;refine (?_:(aN A++_).getD (A.length+t) 0=_);rw [e1,tW,yH (by rw [eG];exact Z),yH (by rw [e2];exact Z),DR Y]
theorem L4 {α:Type}:∀(cs:List α) (i l:Nat),i+l≤cs.length→∃A P R,cs=A++(P++R)∧A.length=i∧P.length=l:=@λB C D F=>match B,C,D,F with
 |cs,i,l,h=>(El.gC (cs.take i) ((cs.drop i).take l) ((cs.drop i).drop l) (by exact ae (Xn ..) (ae (Xn ..) rfl)) (by refine ae (oX ..) ?_;exact oY (az (bc _ _) h)) (by refine ae (oX ..) (ae (kD ..) ?_);exact oY (Nat.le_sub_of_add_le' h)))
theorem L5 (ho:Own cs e) {i j l:Nat}(h0:0<l) (V:i+l≤(aN cs).length) (h2:j+l≤(txt cs++e).length) (hr:Run (λi=>(aN cs).getD i 0) (λi=>(txt cs++e).getD i 0) nj i j l):∃b∈cx false 0 0 cs,b.1≤i∧i+l≤b.1+b.2.2:=by
 rw [eG] at V;refine El.dh (L4 cs i l V) λA P R W Y Z=>?_;clear V;subst W;subst Y;subst Z;have hP:∀c∈P,c.2=ig:=λc hc=>Co λhn=>by
  refine ho.gone c (bx _ (bO _ hc)) hn ?_;clear hn;obtain ⟨t,J,rfl⟩:=Xo hc;have:=(hr t J).1;dsimp only at this;have e1:A.length=(aN A).length:=(eG A).symm;have e2:(aN (A++(P++R))).getD (A.length+t) 0=P[t].1:=by
   rw [nP,e1,tW,nP,yH (by refine ae (eG ..) ?_;exact J),eX]
   unfold aN;rw [kF,eu J];rfl
  refine ae (e2 ..).symm (ae (this ..) ?_);exact getD_mem (dT (Cq J j) h2)
 rcases tV P R hP (qy.mp h0) A false 0 0 with ⟨b,hb,q1,q2,_⟩ | ⟨h,_⟩
 ·rw [cQ] at q1 q2;exact El.ey b hb q1 q2
 ·exact El.ft h
theorem L6 (ho:Own cs e) {b:aX}(Z:b∈cx false 0 0 cs) {j:Nat}(h2:j+b.2.2≤(txt cs++e).length) (hr:Run (λi=>(aN cs).getD i 0) (λi=>(txt cs++e).getD i 0) nj b.1 j b.2.2):b.2.1≤j∨∃d∈cx false 0 0 cs,d.2.1≤j∧j+b.2.2≤d.2.1+d.2.2:=by
 by_cases hj:b.2.1≤j
 ·exact .inl hj
 ·right
  refine El.iz (nQ (e:=e) Z) λk1 k2 k3 zz=>?_;have iF:∀t<b.2.2,∃v,(txt cs++e)[j+t]? = some v∧v∈aN cs:=λt ht=>by
   have h3:j+t<(txt cs++e).length:=dT (Cq ht j) h2;refine El.aD _ (eu h3) ?_;have:=(hr t ht).1;dsimp only at this;rw [eX (l:=txt cs++e),eu h3] at this;have e9:(aN cs).getD (b.1+t) 0=(txt cs++e)[j+t]:=this;refine ae (e9 ..).symm ?_;exact getD_mem (dT (Cq ht _) k2)
  refine El.tJ (tU _ _ _ _ _ Z) λA P R q1 J q3 q4 q5 q6=>?_;clear Z h2 k2 k3 zz;subst J;dsimp only at *;rw [cQ] at hj;have L7:j<(txt cs).length:=by
   refine dT (ee.mp hj) ?_;refine ae (q1 ..) (ae (pz ..) (ae (aJ ..) ?_));exact bc _ _
  refine El.fL (DU cs j L7) λA1 J V t g1 g2 g3=>?_;obtain ⟨a,o⟩:=J;have hT:txt cs++e=txt A1++(wy (a,o)++(txt V++e)):=by refine ae (g1 ..) (ae (pz ..) (ae (aH ..) ?_));refine (?_:txt A1++((wy (a,o)++txt V)++e)=_);exact ae (aH ..) rfl
  have Y:∀u,(txt cs++e)[j+u]? = (wy (a,o)++(txt V++e))[t+u]?:=λu=>by
   rw [hT,g3,eV,wF (bc _ _),qv]
  have W:(a,o)∈cs:=by refine ae (g1 ..) ?_;exact bx _ (.head _)
  clear hT;cases o with
  |none=>
   have t0:t=0:=Nat.lt_one_iff.mp g2;clear g2;subst t0;have hm:∀u<P.length-1,∃v,(txt V++e)[u]? = some v∧v∈aN cs:=λu hu=>by
    refine El.au (iF (u+1) (Nat.add_lt_of_lt_sub hu)) λv v1 v2=>?_;rw [Y,cQ] at v1;exact El.aD v v1 v2
   refine El.aP (DV ho.fin (P.length-1) V (λa w h=>(ho.way a w (by refine ae (g1 ..) ?_;exact bx _ (.tail _ h))).1) hm) λP1 R2 r1 r2 r3=>?_
   rcases tV ((a,.none)::P1) R2 (bH.mpr ⟨rfl,r3⟩) (nr _ _) A1 false 0 0 with ⟨d,s0,_,_,s1,s2⟩ | ⟨h,_⟩
   ·rw [cQ] at s1 s2;have el:P1.length+1=P.length:=by refine ae (r2 ..) ?_;exact aT k1
    rw [dA,el] at s2;refine El.aD d ?_ ?_
    ·refine ae (g1 ..) (ae (r1 ..) ?_);exact s0
    ·refine ae (g3 ..) ?_;exact ⟨s1,s2⟩
   ·exact El.ft h
  |some w=>
   have hw:=(ho.way a w W).2 t;refine El.au (iF 0 k1) λv v1 v2=>?_;rw [Y] at v1;have v3:w[t]? = some v:=(wG (l₂:=txt V++e) g2).symm.trans v1;refine El.aa (hw v v3 v2) λJ w3=>?_;obtain ⟨g,w1,w2⟩:=J;cases P with
   |nil=>exact absurd rfl q3
   |cons c P=>
    cases P with
    |cons c' P=>
     refine El.au (iF 1 (wC (Cp _))) λu u1 u2=>?_;rw [Y] at u1;have u3:w[t+1]? = some u:=(wG (l₂:=txt V++e) (fH.mp w1).1).symm.trans u1;rw [w1] at u3;clear u1;cases u3;exact absurd u2 w2
    |nil=>
     have h5:=(hr 0 k1).1;dsimp only at h5;obtain ⟨c1,c2⟩:=c;obtain rfl:c2=ig:=q4 _ (.head _);have h6:(aN cs).getD (0+A.length+0) 0=c1:=by
      have e1:A.length=(aN A).length:=(eG A).symm;rw [q1,nP,cQ,e1,tW];rfl
     have h7:(txt cs++e).getD (j+0) 0=v:=by
      rw [eX,Y,v1];rfl
     rw [h6,h7] at h5;clear v1 v2 v3 h7;subst h5;rcases w3 A R q1 with h | h
     ·rw [q5] at h;exact El.ft h
     ·rw [q6] at h;exact El.ft h
theorem DW (ho:Own cs e):iE (λi=>(aN cs).getD i 0) (λi=>(txt cs++e).getD i 0) 0 (aN cs).length 0 (txt cs++e).length (cx false 0 0 cs):=by
 have J:∀k,k<(cx false 0 0 cs).length→(cx false 0 0 cs).getD k (0,0,0)∈cx false 0 0 cs:=λk hk=>by
  rw [eX,eu hk];exact JY hk
 have Y:∀b∈cx false 0 0 cs,∃k,k<(cx false 0 0 cs).length∧(cx false 0 0 cs).getD k (0,0,0)=b:=λb Z=>by
  obtain ⟨k,hk,rfl⟩:=Xo Z;exact El.aD k hk (by rw [eX,eu hk];rfl)
 have hp:∀p q,p<q→q<(cx false 0 0 cs).length→((cx false 0 0 cs).getD p (0,0,0)).1+((cx false 0 0 cs).getD p (0,0,0)).2.2<((cx false 0 0 cs).getD q (0,0,0)).1∧((cx false 0 0 cs).getD p (0,0,0)).2.1+((cx false 0 0 cs).getD p (0,0,0)).2.2≤((cx false 0 0 cs).getD q (0,0,0)).2.1:=λp q W V=>by
  have:=JZ.mp (nN cs false 0 0) p q (eY W V) V W;rw [eX,eX,eu V,eu (eY W V)];exact this
 have:=L0 (x:=λk=>((cx false 0 0 cs).getD k (0,0,0)).1) (y:=λk=>((cx false 0 0 cs).getD k (0,0,0)).2.1) (c:=λk=>((cx false 0 0 cs).getD k (0,0,0)).2.2) (n:=(cx false 0 0 cs).length) (na:=(aN cs).length) (nb:=(txt cs++e).length) (A:=λi=>(aN cs).getD i 0) (B:=λi=>(txt cs++e).getD i 0)
  (λk hk t ht=>(nQ (J k hk)).2.2.2 t ht) (λp q W V=>⟨et (hp p q W V).1,(hp p q W V).2⟩) (λk hk=>(nQ (e:=e) (J k hk)).1)
  (λi j l h0 W V hr=>by
   refine El.dI (L5 ho h0 W V hr) λb Z q1 q2=>?_;refine El.au (Y b Z) λk hk cS=>?_;clear Z;subst cS;exact (El.ey k hk q1 q2))
  (λp j hp V hr=>by
   rcases L6 ho (J p hp) V hr with h | ⟨b,Z,q1,q2⟩
   ·exact .inl h
   ·refine El.au (Y b Z) λk hk cS=>?_;clear Z;subst cS;exact .inr (El.ey k hk q1 q2))
  (cx false 0 0 cs).length 0 (cx false 0 0 cs).length 0 (aN cs).length 0 (txt cs++e).length (J0 _ _) (bh _) (aI _) (aI _) (aI _)
  ⟨λp h=>absurd h (wx _),λp W V=>absurd V (jJ.mpr W),λp zz h=>(El.cy (bh _) (nQ (e:=e) (J p h)).2.1 (bh _) (nQ (e:=e) (J p h)).2.2.1)⟩
 rw [Xp,←Xg,range_getD] at this;exact this
end
noncomputable def cl:List SC→Nat:=@λA=>match A with
 |[]=>0
 |c::cs=>match c.2 with
  |.none=>0
  |.some zz=>cl cs+1
noncomputable def cw (e:List Int):List SC→List Int:=@λA=>match A with
 |[]=>e
 |c::cs=>match c.2 with
  |.none=>[]
  |.some w=>w++cw e cs
noncomputable def rws (s:Nat) (e:List Int):Bool→Nat→List SC→List bj:=@λA B C=>match A,B,C with
 |o,p,[]=>if o=true∨e=[] then [] else [(p,p,s,"insert",e)]
 |o,p,c::cs=>match c.2 with
  |.none=>rws s e false (p+1) cs
  |.some w=>(if o=true then [] else [(p,p+(cl cs+1),s,"replace",w++cw e cs)])++rws s e true (p+1) cs
theorem DX (e:List Int):∀cs:List SC,cw e cs <+: txt cs++e:=@λA=>match A with
 |[]=>⟨[],bt _⟩
 |(a,.none)::cs=>⟨_,gv _⟩
 |(a,.some w)::cs=>by
  refine El.ea (DX e cs) λr h=>?_;refine ⟨r,?_⟩;refine (?_:(w++cw e cs)++r=(w++txt cs)++e);exact ae (aH ..) (ae (aH ..) (ae (h ..) rfl))
theorem tX {pre w r:List Int}:slc (pre++(w++r)) pre.length (pre.length+w.length)=w:=by
 unfold slc;exact ae (Xq ..) (ae (qv ..) (ae (Xr ..) rfl))
theorem tY {s:Nat}{T:List Int}{p q i j:Nat}{os:List Op}:dj s T (dm p q i j++os)=dj s T (dm p q i j)++dj s T os:=Xs
theorem tZ {s:Nat}{T:List Int}{b:aX}{os:List Op}:dj s T (eC b++os)=dj s T os:=by
 unfold eC;split
 ·rfl
 ·exact List.filterMap_cons_none rfl
theorem DY {s:Nat}{T:List Int}{p q:Nat}:dj s T (dm p q p q)=[]:=by
 unfold dm;refine ae (if_neg λh=>ij _ h.1 ..) (ae (if_neg (ij _) ..) (ae (if_neg (ij _) ..) ?_));rfl
theorem DZ {s:Nat}{T:List Int}{p q i j:Nat}(h:p<i) (g:q<j):dj s T (dm p q i j)=[(p,i,s,"replace",slc T q j)]:=by
 unfold dm;refine ae (if_pos ⟨h,g⟩ ..) ?_;rfl
section
variable {s:Nat}{e T:List Int}
theorem yI:∀(cs:List SC) (pre:List Int) (x y:Nat),T=pre++(txt cs++e)→y=pre.length→(∀a w,(a,.some w)∈cs→w≠[])→
  (dj s T (gE (x+kl cs) (y+kl cs) (cx true x y cs++[(x+cs.length,T.length,0)]))=rws s e false x cs)∧
  (dj s T (gE x y (cx false x y cs++[(x+cs.length,T.length,0)]))=rws s e false x cs)∧
  (∀p q,p<x→q<y→dj s T (gE p q (cx false x y cs++[(x+cs.length,T.length,0)]))=(p,x+cl cs,s,"replace",slc T q (y+(cw e cs).length))::rws s e true x cs):=@λA B C D F G H=>match A,B,C,D,F,G,H with
 |[],pre,x,y,J,V,hw=>by
  have hl:T.length=y+e.length:=by refine ae (J ..) (ae (V ..) (ae (aJ ..) ?_));rfl
  have h1:dj s T (gE x y [(x,T.length,0)])=rws s e false x []:=by
   show dj s T (dm x y x T.length++(eC (x,T.length,0)++[]))=if _ then _ else _
   refine ae (tY ..) (ae (tZ ..) ?_);clear F;cases e with
   |nil=>refine ae (hl ..) (ae (if_pos (.inr rfl) ..) ?_);refine (?_:dj s T (dm x y x y)++[]=_);refine ae (DY ..) ?_;rfl
   |cons f r=>
    have fN:y<T.length:=by refine ae (hl ..) ?_;exact JU (Cp _)
    refine JT ?_ (if_neg λh=>h.elim (λh=>El.ft h) λh=>El.cn h).symm;unfold dm;refine ae (if_neg λh=>ij _ h.1 ..) (ae (if_neg (ij _) ..) (ae (if_pos fN ..) ?_));refine (?_:[(x,x,s,"insert",slc T y T.length)]++[]=_);refine ae (hl ..) (ae (V ..) (ae (J ..) ?_));have:=tX (pre:=pre) (w:=f::r) (r:=[]);rw [bt] at this;refine (?_:[(x,x,s,"insert",slc (pre++(f::r)) pre.length _)]++[]=_);refine ae (this ..) ?_;rfl
  refine El.aK h1 h1 (λp q W Y=>?_);show dj s T (dm p q x T.length++(eC (x,T.length,0)++[]))=(p,x,s,"replace",slc T q (y+e.length))::(if _ then _ else _)
  rw [tY,tZ,DZ W (by rw [hl];exact dT Y (bc _ _)),if_pos (.inl rfl),hl]
  rfl
 |(a,.none)::cs,pre,x,y,J,V,hw=>by
  refine El.cH (yI cs (pre++[a]) (x+1) (y+1) (by rw [J,aH];rfl) (by rw [V,aJ];rfl) λa w h=>hw a w (.tail _ h)) λi1 i2 i3=>?_
  have Z:∀z n,z+(n+1)=z+1+n:=λz n=>by refine ae (gp ..) ?_;rfl
  have g1:dj s T (gE (x+(kl cs+1)) (y+(kl cs+1)) (cx true (x+1) (y+1) cs++[(x+(cs.length+1),T.length,0)]))=rws s e false (x+1) cs:=by
   refine ae (Z x (kl cs) ..) (ae (Z y (kl cs) ..) (ae (Z x cs.length ..) ?_));exact i1
  refine El.aK g1 ?_ (λp q W Y=>?_)
  ·refine (?_:dj s T (dm x y x y++(eC (x,y,kl cs+1)++gE _ _ _))=_);refine ae (tY ..) (ae (tZ ..) (ae (DY ..) ?_));exact g1
  ·refine (?_:dj s T (dm p q x y++(eC (x,y,kl cs+1)++gE _ _ _))=(p,x,s,"replace",slc T q y)::rws s e false (x+1) cs);refine ae (tY ..) (ae (tZ ..) (ae (DZ W Y ..) ?_));exact congrArg (kE _) g1
 |(a,.some w)::cs,pre,x,y,J,V,hw=>by
  refine El.cH (yI cs (pre++w) (x+1) (y+w.length) (by rw [J,aH,←aH w];rfl) (by rw [V,aJ]) λa w h=>hw a w (.tail _ h)) λi1 i2 i3=>?_
  have Z:∀z n,z+(n+1)=z+1+n:=λz n=>by refine ae (gp ..) ?_;rfl
  have L8:0<w.length:=qy.mpr (hw a w (.head _));have g:∀p q,p<x+1→q<y+w.length→dj s T (gE p q (cx false (x+1) (y+w.length) cs++[(x+(cs.length+1),T.length,0)]))=(p,x+(cl cs+1),s,"replace",slc T q (y+(w++cw e cs).length))::rws s e true (x+1) cs:=λp q W Y=>by
   refine ae (Z x cs.length ..) (ae (Z x (cl cs) ..) (ae (aJ ..) (ae (eV y ..).symm ?_)));exact i3 p q W Y
  have g0:dj s T (gE x y (cx false (x+1) (y+w.length) cs++[(x+(cs.length+1),T.length,0)]))=rws s e false x ((a,.some w)::cs):=by
   refine ae (g x y (lP _) (JU L8) ..) ?_;have:slc T y (y+(w++cw e cs).length)=w++cw e cs:=by
    refine El.ea (DX e cs) λr hr=>?_;have:=tX (pre:=pre) (w:=w++cw e cs) (r:=r);rw [←V,aH w,hr] at this;have e2:T=pre++(w++(txt cs++e)):=J.trans (congrArg (pre++·) (aH w (txt cs) e));refine ae (e2 ..) ?_;exact this
   refine ae (this ..) ?_;rfl
  exact El.aK g0 g0 (λp q W Y=>g p q (qz W) (dT Y (bc _ _)))
end
theorem yJ {cs:List SC}{e:List Int}{s:Nat}(ho:Own cs e):Alt (aN cs) (txt cs++e) 0 0 ig (gS (joined (cx false 0 0 cs) (aN cs).length (txt cs++e).length)).2∧dj s (txt cs++e) (gS (joined (cx false 0 0 cs) (aN cs).length (txt cs++e).length)).2=rws s e false 0 cs:=by
 have V:=yG _ (nN cs false 0 0);have W:∀b∈cx false 0 0 cs,0<b.2.2:=λb Y=>(nQ (e:=e) Y).1;refine ⟨(DW ho).alt V W,?_⟩;refine ae (yC _ _ W V ..) (ae (DP ..) (ae (eG ..) ?_));have:=(yI (s:=s) (e:=e) cs [] 0 0 (T:=txt cs++e) rfl rfl λa w h=>by
  refine El.aa (ho.way a w h) λJ zz=>?_;clear h zz;obtain ⟨f,r,rfl,_⟩:=J;exact nr _ _).2.1
 rw [cQ] at this;exact this
structure bf where
 w0:List String
 w1:List String
 y0:List Int
 y1:List Int
 r0:Nat
 r1:Nat
 hi:Nat
noncomputable def bf.way (bs:List Int) (r:Nat) (c:bj):List Int:=slc bs r c.1++(if c.2.2.2.1="delete" then [] else c.2.2.2.2)
noncomputable def bf.rn (c:bj):Nat:=if c.2.2.2.1="insert" then c.1 else c.2.1
noncomputable def bf.step (bs:List Int) (st:bf) (c:bj):bf:=
 if c.2.2.1=0 then {st with w0:=st.w0++[c.2.2.2.1],y0:=st.y0++bf.way bs st.r0 c,r0:=bf.rn c,hi:=max st.hi c.2.1}
 else {st with w1:=st.w1++[c.2.2.2.1],y1:=st.y1++bf.way bs st.r1 c,r1:=bf.rn c,hi:=max st.hi c.2.1}
noncomputable def bf.run (bs:List Int):bf→List bj→bf×List bj:=@λA B=>match A,B with
 |st,[]=>(st,[])
 |st,c::cs=>if c.1≤st.hi then bf.run bs (st.step bs c) cs else (st,c::cs)
theorem bf.D0 {bs:List Int}{n:Nat}:∀(cs:List bj) (st:bf),st.hi≤n→(∀c∈cs,c.2.1≤n)→(bf.run bs st cs).1.hi≤n:=@λA B C D=>match A,B,C,D with
 |[],st,h,zz=>h
 |c::cs,st,h,hc=>by
  show (if _ then _ else _:bf×List bj).1.hi≤n
  split
  ·refine bf.D0 cs _ ?_ λc J=>hc c (.tail _ J);unfold bf.step;split <;> exact jL.mpr ⟨h,hc c (.head _)⟩
  ·exact h
noncomputable def gF (bs:List Int) (c:bj):Prop:=(c.2.2.1=0∨c.2.2.1=1)∧(c.2.2.2.1="replace"∨c.2.2.2.1="delete"∨c.2.2.2.1="insert")∧c.1≤bs.length∧c.2.1≤bs.length∧c.2.2.2.2.length<1000
noncomputable def settle (o l r:List Int):Option (List Int):=if l=r∨r=o then some l else if l=o then some r else none
inductive Ent where
 |it (n:Int)
 |cf (o l r:List Int)
noncomputable abbrev Clean:=Nat×List String×List String
noncomputable abbrev jr:=List String×List String
class inductive fv (bs:List Int):Nat→List bj→Nat→List Clean→List jr→List Ent→Prop
 |done {d:Nat}:fv bs 0 [] d [] [] ((bs.drop d).map .it)
 |clean {n d:Nat}{c:bj}{cs fO:List bj}{st:bf}{sw:List Int}{C:List Clean}{K:List jr}{M:List Ent}:bf.run bs ⟨[],[],[],[],c.1,c.1,c.2.1⟩ (c::cs)=(st,fO)→settle (slc bs c.1 st.hi) (st.y0++slc bs st.r0 st.hi) (st.y1++slc bs st.r1 st.hi)=some sw→fv bs n fO st.hi C K M→fv bs (n+1) (c::cs) d ((c.1,st.w0,st.w1)::C) K ((slc bs d c.1).map .it++(sw.map .it++M))
 |D3 {n d:Nat}{c:bj}{cs fO:List bj}{st:bf}{C:List Clean}{K:List jr}{M:List Ent}:bf.run bs ⟨[],[],[],[],c.1,c.1,c.2.1⟩ (c::cs)=(st,fO)→settle (slc bs c.1 st.hi) (st.y0++slc bs st.r0 st.hi) (st.y1++slc bs st.r1 st.hi)=none→fv bs n fO st.hi C K M→fv bs (n+1) (c::cs) d C ((st.w0,st.w1)::K) ((slc bs d c.1).map .it++(.cf (slc bs c.1 st.hi) (st.y0++slc bs st.r0 st.hi) (st.y1++slc bs st.r1 st.hi)::M))
noncomputable abbrev Cl:=Int×Option (List Int)×Option (List Int)
noncomputable def aB (cs:List Cl):List SC:=cs.map λc=>(c.1,c.2.1)
noncomputable def aQ (cs:List Cl):List SC:=cs.map λc=>(c.1,c.2.2)
noncomputable def dD (s:Nat) (e:List Int) (o:Bool) (p:Nat):List SC→List bj:=@λA=>match A with
 |[]=>if o=true∨e=[] then [] else [(p,p,s,"insert",e)]
 |c::cs=>match c.2 with
  |.none=>[]
  |.some w=>if o=true then [] else [(p,p+(cl cs+1),s,"replace",w++cw e cs)]
noncomputable def two (l r:List bj):List bj:=if (l.headD zc).2.1≤(r.headD zc).2.1 then l++r else r++l
noncomputable def rr (e0 e1:List Int):Bool→Bool→Nat→List Cl→List bj:=@λA B C D=>match A,B,C,D with
 |o0,o1,p,[]=>two (dD 0 e0 o0 p []) (dD 1 e1 o1 p [])
 |o0,o1,p,c::cs=>two (dD 0 e0 o0 p (aB (c::cs))) (dD 1 e1 o1 p (aQ (c::cs)))++rr e0 e1 c.2.1.isSome c.2.2.isSome (p+1) cs
theorem D4 (s:Nat) (e:List Int) (o:Bool) (p:Nat) (c:SC) (cs:List SC):rws s e o p (c::cs)=dD s e o p (c::cs)++rws s e c.2.isSome (p+1) cs:=by
 obtain ⟨a,w⟩:=c;cases w <;> rfl
theorem rq (l r:List bj):(two l r).Perm (l++r):=by
 unfold two;split
 ·exact .refl _
 ·exact J1
theorem D5 (e0 e1:List Int):∀(cs:List Cl) (J o1:Bool) (p:Nat),(rr e0 e1 J o1 p cs).Perm (rws 0 e0 J p (aB cs)++rws 1 e1 o1 p (aQ cs)):=@λA B C D=>match A,B,C,D with
 |[],J,o1,p=>rq _ _
 |c::cs,J,o1,p=>by
  have V:=D5 e0 e1 cs c.2.1.isSome c.2.2.isSome (p+1);have h0:=D4 0 e0 J p (c.1,c.2.1) (aB cs);have W:=D4 1 e1 o1 p (c.1,c.2.2) (aQ cs);refine (?_:(_++_:List bj).Perm (rws 0 e0 J p ((c.1,c.2.1)::aB cs)++rws 1 e1 o1 p ((c.1,c.2.2)::aQ cs)));refine ae (h0 ..) (ae (W ..) ?_);refine ((rq _ _).append V).trans ?_;refine ae (aH ..) (ae (aH ..) ?_);refine sW _ ?_;refine ae (aH ..).symm (ae (aH ..).symm ?_);exact J1.append_right _
theorem D6:∀cs:List SC,cl cs≤cs.length:=@λA=>match A with
 |[]=>aI _
 |(a,.none)::cs=>bh _
 |(a,.some w)::cs=>cY (D6 cs)
inductive fP (s p n:Nat):List bj→Prop
 |nil:fP s p n []
 |one {q:Nat}{g:String}{l:List Int}:p≤q→q≤n→(g="replace"∨g="insert")→fP s p n [(p,q,s,g,l)]
theorem gb (s:Nat) (e:List Int) (o:Bool) (p:Nat):∀cs:List SC,fP s p (p+cs.length) (dD s e o p cs):=@λA=>match A with
 |[]=>by
  show fP s p _ (if _ then _ else _)
  split
  ·exact .nil
  ·exact .one (aI _) (aI _) (.inr rfl)
 |(a,.none)::cs=>.nil
 |(a,.some w)::cs=>by
  show fP s p _ (if _ then _ else _)
  split
  ·exact .nil
  ·exact .one (bc _ _) (iV (cY (D6 cs)) _) (.inl rfl)
theorem D7 {l r:List bj}{c:bj}(h:c∈two l r):c∈l∨c∈r:=cF.mp ((rq l r).mem_iff.mp h)
theorem fP.mem {s p n:Nat}{l:List bj}(h:fP s p n l):∀c∈l,c.1=p∧p≤c.2.1∧c.2.1≤n∧c.2.2.1=s∧(c.2.2.2.1="replace"∨c.2.2.2.1="insert"):=by
 cases h with
 |nil=>exact λzz h=>El.nm h
 |one a b g=>exact λc hc=>by obtain rfl:=dk.mp hc;exact El.l8 rfl a b rfl g
theorem gG (cs:List Cl):(aB cs).length=cs.length:=bK _
theorem ua (cs:List Cl):(aQ cs).length=cs.length:=bK _
theorem rt {p n:Nat}{l r:List bj}(hl:fP 0 p n l) (hr:fP 1 p n r):∀c∈two l r,c.1=p∧p≤c.2.1∧c.2.1≤n∧c.2.2.1<2∧(c.2.2.2.1="replace"∨c.2.2.2.1="insert"):=λc hc=>by
 rcases D7 hc with h | h
 ·refine El.nJ (hl.mem c h) λJ V W Y Z=>?_;exact El.l8 J V W (Y▸by decide) Z
 ·refine El.nJ (hr.mem c h) λJ V W Y Z=>?_;exact El.l8 J V W (Y▸by decide) Z
theorem ub (e0 e1:List Int):∀(cs:List Cl) (W o1:Bool) (p:Nat),∀c∈rr e0 e1 W o1 p cs,p≤c.1∧c.1≤c.2.1∧c.2.1≤p+cs.length∧c.2.2.1<2∧(c.2.2.2.1="replace"∨c.2.2.2.1="insert"):=@λA B C D F G=>match A,B,C,D,F,G with
 |[],W,o1,p,c,hc=>by
  refine El.iz (rt (gb 0 e0 W p []) (gb 1 e1 o1 p []) c hc) λJ Y V Z=>?_;exact El.cy (dH J.symm) (J▸Y) V Z
 |k::cs,W,o1,p,c,hc=>by
  rcases cF.mp hc with h | h
  ·refine El.iz (rt (n:=p+(cs.length+1)) (by have:=gb 0 e0 W p (aB (k::cs));rwa [gG] at this) (by have:=gb 1 e1 o1 p (aQ (k::cs));rwa [ua] at this) c h) λJ Y V Z=>?_
   exact El.cy (dH J.symm) (J▸Y) V Z
  ·refine El.iz (ub e0 e1 cs _ _ (p+1) c h) λJ Y V Z=>?_;exact El.cy (Cr J) Y (by rw [gp] at V;exact V) Z
theorem L9 {c d:bj}(h:c.1<d.1) (hc:c.2.1<2048) (J:c.2.2.1<2):f9 c<f9 d:=by
 unfold f9;lia
theorem D8 {p n:Nat}{l r:List bj}(hl:fP 0 p n l) (J:fP 1 p n r):(two l r).Pairwise λa b=>f9 a<f9 b:=by
 cases hl with
 |nil=>cases J with
  |nil=>exact .nil
  |one a b g=>unfold two;split <;> exact Cs _ _
 |@one V _ _ a b g=>cases J with
  |nil=>unfold two;split <;> exact Cs _ _
  |@one W _ _ Y Z g'=>
   unfold two;split
   ·rename_i h;replace h:V≤W:=h;refine Xu.mpr ⟨λc hc=>?_,Cs _ _⟩;clear a Y Z g';obtain rfl:=dk.mp hc;unfold f9;dsimp only;exact (Lin.ak (.c _ (.c _ (.c _ .z))) .z 1 (.c 2 (.ah (.v 1) (.v 2)) .z) (.a (.r (.a (.r (.v 0) 2048) (.v 1)) 2) (.n 0)) (.a (.r (.a (.r (.v 0) 2048) (.v 2)) 2) (.n 1)) rfl h)
   ·rename_i h;replace h:¬V≤W:=h;refine Xu.mpr ⟨λc hc=>?_,Cs _ _⟩;clear a b g Y;obtain rfl:=dk.mp hc;unfold f9;dsimp only;exact (Lin.ak (.c _ (.c _ (.c _ .z))) .z 1 (.c 2 (.ak (.v 1) (.v 2)) .z) (.a (.r (.a (.r (.v 0) 2048) (.v 1)) 2) (.n 1)) (.a (.r (.a (.r (.v 0) 2048) (.v 2)) 2) (.n 0)) rfl (ee.mp h))
theorem D9 (e0 e1:List Int):∀(cs:List Cl) (J o1:Bool) (p:Nat),p+cs.length<2048→(rr e0 e1 J o1 p cs).Pairwise λa b=>f9 a<f9 b:=@λA B C D F=>match A,B,C,D,F with
 |[],J,o1,p,zz=>D8 (gb 0 e0 J p []) (gb 1 e1 o1 p [])
 |k::cs,J,o1,p,W=>by
  have a0:fP 0 p (p+(cs.length+1)) (dD 0 e0 J p (aB (k::cs))):=by have:=gb 0 e0 J p (aB (k::cs));rwa [gG] at this
  have a1:fP 1 p (p+(cs.length+1)) (dD 1 e1 o1 p (aQ (k::cs))):=by have:=gb 1 e1 o1 p (aQ (k::cs));rwa [ua] at this
  refine List.pairwise_append.mpr (El.aK (D8 a0 a1) (D9 e0 e1 cs _ _ (p+1) (by refine ae (gp ..) ?_;exact W)) (λa Y b V=>?_))
  refine El.nJ (rt a0 a1 a Y) λZ h2 h3 h4 zz=>?_;have:=(ub e0 e1 cs _ _ (p+1) b V).1;exact L9 (Z▸this) (cb h3 W) h4
noncomputable abbrev Sd:=List String×List Int×Nat
noncomputable def ss (bs:List Int) (x:Sd) (c:bj):Sd:=(x.1++[c.2.2.2.1],x.2.1++bf.way bs x.2.2 c,bf.rn c)
noncomputable def eg (a b:Sd) (hi:Nat):bf:=⟨a.1,b.1,a.2.1,b.2.1,a.2.2,b.2.2,hi⟩
noncomputable def hm (l:List bj):Nat:=(l.headD zc).2.1
noncomputable def ext (o:Bool) (p:Nat) (cs:List SC):Nat:=if o=true then p+cl cs else p
noncomputable def oc:Bool→List SC→Bool:=@λA B=>match A,B with
 |o,[]=>o
 |zz,c::cs=>oc c.2.isSome cs
noncomputable def ct:Bool→List SC→Nat:=@λA B=>match A,B with
 |zz,[]=>0
 |o,c::cs=>(if c.2.isSome=true∧o=false then 1 else 0)+ct c.2.isSome cs
section
variable {bs e:List Int}{a b:Sd}{hi p n s:Nat}
theorem pC {st:bf}{c:bj}{cs:List bj}(h:c.1≤st.hi):bf.run bs st (c::cs)=bf.run bs (st.step bs c) cs:=if_pos h
theorem yK {c:bj}(h:c.2.2.1=0):(eg a b hi).step bs c=eg (ss bs a c) b (max hi c.2.1):=if_pos h
theorem yL {c:bj}(h:c.2.2.1=1):(eg a b hi).step bs c=eg a (ss bs b c) (max hi c.2.1):=if_neg λe=>by rw [h] at e;exact nomatch e
theorem Ea {l r:List bj}(hl:fP 0 p n l) (J:fP 1 p n r) (h:p≤hi) (R:List bj):bf.run bs (eg a b hi) (two l r++R)=bf.run bs (eg (l.foldl (ss bs) a) (r.foldl (ss bs) b) (max hi (max (hm l) (hm r)))) R:=by
 cases hl with
 |nil=>cases J with
  |nil=>
   unfold two;show bf.run bs (eg a b hi) ((if _ then _ else _)++R)=bf.run bs (eg a b (max hi (max 0 0))) R
   refine ae (Cu ..) (ae (wH (bh _) ..) ?_);split <;> rfl
  |@one q g l _ _ _=>
   unfold two;refine (?_:bf.run bs (eg a b hi) ((if 0≤q then _ else _)++R)=bf.run bs (eg a _ (max hi (max 0 q))) R);refine ae (J2 (bh _) ..) (ae (if_pos (bh _) ..) ?_);exact (pC h).trans (by refine ae (yL rfl ..) ?_;rfl)
 |@one q g l _ _ _=>cases J with
  |nil=>
   unfold two;have:(if ([(p,q,0,g,l)].headD zc).2.1≤(([]:List bj).headD zc).2.1 then [(p,q,0,g,l)]++[] else []++[(p,q,0,g,l)])=[(p,q,0,g,l)]:=by split <;> rfl
   refine ae (this ..) ?_;refine (?_:_=bf.run bs (eg _ b (max hi (max q 0))) R);refine ae (wH (bh _) ..) ?_;exact (pC h).trans (by refine ae (yK rfl ..) ?_;rfl)
  |@one V g2 l2 _ _ _=>
   unfold two;refine (?_:bf.run bs (eg a b hi) ((if q≤V then _ else _)++R)=bf.run bs (eg (ss bs a _) (ss bs b _) (max hi (max q V))) R);refine ae (J3 ..).symm ?_;split
   ·exact (pC h).trans (by refine ae (yK rfl ..) ?_;exact (pC (az h (lS _ _))).trans (by refine ae (yL rfl ..) ?_;rfl))
   ·refine ae (J3 ..) (ae (Nat.max_comm q ..) (ae (J3 ..).symm ?_));exact (pC h).trans (by refine ae (yL rfl ..) ?_;exact (pC (az h (lS _ _))).trans (by refine ae (yK rfl ..) ?_;rfl))
inductive SI (bs e:List Int) (p:Nat):Bool→List SC→List Int→Nat→Sd→Prop
 |js {cs:List SC}{A:List Int}{n r:Nat}:r=p+cl cs→SI bs e p true cs A n (c9 n "replace",A++cw e cs,r)
 |cls {cs:List SC}{A y:List Int}{n r:Nat}:r≤p→y++slc bs r p=A→SI bs e p false cs A n (c9 n "replace",y,r)
theorem Eb {l:List Int}{i j k:Nat}(J:i≤j) (V:j≤k):slc l i k=slc l i j++slc l j k:=by
 unfold slc;have e1:k-i=(j-i)+(k-j):=by exact (bJ (Lin.ah (.c _ (.c _ (.c _ (.c _ (.c _ (.c _ .z)))))) .z 1 (.c 1 (.aw (.a (.v 0) (.v 3)) (.v 4)) (.c 1 (.aw (.v 5) (.a (.v 1) (.v 3))) (.c 1 (.aw (.v 4) (.a (.v 2) (.v 5))) .z))) (.v 0) (.a (.v 1) (.v 2)) rfl (aT (Lin.ah (.c _ (.c _ (.c _ .z))) .z 1 (.c 1 (.ah (.v 0) (.v 2)) (.c 1 (.ah (.v 2) (.v 1)) .z)) (.v 0) (.v 1) rfl J V)) (aT (Lin.ah (.c _ (.c _ .z)) .z 1 (.c 1 (.ah (.v 0) (.v 1)) .z) (.v 0) (.v 1) rfl J)).symm (aT (Lin.ah (.c _ (.c _ .z)) .z 1 (.c 1 (.ah (.v 0) (.v 1)) .z) (.v 0) (.v 1) rfl V)).symm) (Lin.ah (.c _ (.c _ (.c _ (.c _ (.c _ (.c _ .z)))))) .z 1 (.c 1 (.aw (.v 3) (.a (.v 2) (.v 4))) (.c 1 (.aw (.a (.v 0) (.v 4)) (.v 5)) (.c 1 (.aw (.a (.v 1) (.v 5)) (.v 3)) .z))) (.a (.v 0) (.v 1)) (.v 2) rfl (aT (Lin.ah (.c _ (.c _ (.c _ .z))) .z 1 (.c 1 (.ah (.v 0) (.v 2)) (.c 1 (.ah (.v 2) (.v 1)) .z)) (.v 0) (.v 1) rfl J V)).symm (aT (Lin.ah (.c _ (.c _ .z)) .z 1 (.c 1 (.ah (.v 0) (.v 1)) .z) (.v 0) (.v 1) rfl J)) (aT (Lin.ah (.c _ (.c _ .z)) .z 1 (.c 1 (.ah (.v 0) (.v 1)) .z) (.v 0) (.v 1) rfl V))))
 exact ae (e1 ..) (ae (List.take_add ..) (ae (List.drop_drop ..) (ae (Cm J ..) rfl)))
theorem i5 {l:List Int}{i:Nat}:slc l i i=[]:=by unfold slc;refine ae (wA ..) ?_;rfl
theorem pD {pre r:List Int}{x:Int}:slc (pre++x::r) pre.length (pre.length+1)=[x]:=tX (w:=[x])
theorem uc {o:Bool}{c:SC}{cs:List SC}{A:List Int}{x:Sd}(h:SI bs e p o (c::cs) A n x) (W:slc bs p (p+1)=[c.1]) :
  SI bs e (p+1) c.2.isSome cs (A++wy c) (n+if c.2.isSome=true∧o=false then 1 else 0) ((dD s e o p (c::cs)).foldl (ss bs) x)∧(c.2.isSome=true→max (ext o p (c::cs)) (hm (dD s e o p (c::cs)))=ext true (p+1) cs)∧(c.2.isSome=false→ext o p (c::cs)=p∧hm (dD s e o p (c::cs))=0):=by
 obtain ⟨a,w⟩:=c;have V:∀n,p+(n+1)=p+1+n:=λn=>by refine ae (gp ..) ?_;rfl
 cases h with
 |js J=>cases w with
  |none=>
   refine El.aK (.cls (az (dH J) (gq p)) ?_) (λh=>(El.ft h)) (λzz=>⟨rfl,rfl⟩);refine ae (J ..) ?_;refine (?_:(A++[])++slc bs p (p+1)=A++[a]);exact ae (bt ..) (ae (W ..) rfl)
  |some w=>
   refine El.aK ?_ (λzz=>?_) (λh=>El.tf h)
   ·refine (?_:SI bs e (p+1) true cs (A++w) n (_,A++(w++cw e cs),_));refine ae (aH ..).symm ?_;exact .js (J.trans (V _))
   ·refine (?_:max (p+(cl cs+1)) 0=p+1+cl cs);exact ae (wH (bh _) ..) (ae (V ..) rfl)
 |@cls _ _ y _ _ J Y=>cases w with
  |none=>
   refine El.aK (.cls (az J (gq _)) ?_) (λh=>(El.ft h)) (λzz=>⟨rfl,rfl⟩);refine (?_:y++slc bs _ (p+1)=A++[a]);exact ae (Eb J (gq p) ..) (ae (aH ..).symm (ae (Y ..) (ae (W ..) rfl)))
  |some w=>
   refine El.aK ?_ (λzz=>?_) (λh=>El.tf h)
   ·refine (?_:SI bs e (p+1) true cs (A++w) (n+1) (c9 n "replace"++["replace"],y++(slc bs _ p++(if "replace"="delete" then [] else w++cw e cs)),(if "replace"="insert" then p else p+(cl cs+1))));refine ae (if_neg (by decide) ..) (ae (if_neg (by decide) ..) (ae (aH ..).symm (ae (Y ..) (ae (aH ..).symm (ae (J4 ..).symm ?_)))))
    exact .js (V _)
   ·refine (?_:max p (p+(cl cs+1))=p+1+cl cs);exact ae (J2 (bc _ _) ..) (ae (V ..) rfl)
theorem yM {o:Bool}{cs:List SC}:p≤ext o p cs:=by
 unfold ext;split
 ·exact bc _ _
 ·exact aI _
theorem ud {c:Bool}{E h R hi:Nat}(a:c=true→max E h=R) (b:c=false→h=0) (g:E≤hi):h≤R∧(c=true→R≤max hi h):=by
 refine ⟨?_,λe=>(a e).symm▸jL.mpr ⟨az g (lS _ _),nv _ _⟩⟩;cases c with
 |true=>exact (a rfl).symm▸nv _ _
 |false=>exact (b rfl).symm▸bh _
theorem Ma {c0 c1:Bool}{h0 W J V hi:Nat}(hc:c0=true∨c1=true) (a0:h0≤J∧(c0=true→J≤max hi h0)) (a1:W≤V∧(c1=true→V≤max hi W)) (Z:c0=false→J≤V) (Y:c1=false→V≤J) (hR:hi≤max J V):max hi (max h0 W)=max J V:=by
 have k0:c0=true→J≤max hi (max h0 W):=λe=>az (a0.2 e) (jL.mpr ⟨lS _ _,az (lS _ _) (nv _ _)⟩);have k1:c1=true→V≤max hi (max h0 W):=λe=>az (a1.2 e) (jL.mpr ⟨lS _ _,az (nv _ _) (nv _ _)⟩);refine bJ (jL.mpr ⟨hR,jL.mpr ⟨az a0.1 (lS _ _),az a1.1 (nv _ _)⟩⟩) ?_;clear a0;cases c0 with
 |true=>clear a1 hc;cases c1 with
  |true=>exact jL.mpr ⟨k0 rfl,k1 rfl⟩
  |false=>exact jL.mpr ⟨k0 rfl,az (Y rfl) (k0 rfl)⟩
 |false=>clear a1 Y;cases c1 with
  |true=>exact jL.mpr ⟨az (Z rfl) (k1 rfl),k1 rfl⟩
  |false=>exact hc.elim (λe=>El.ft e) λe=>El.ft e
end
section
variable {bs e0 e1:List Int}
theorem Ec (cs:List Cl):aN (aQ cs)=aN (aB cs):=by
 unfold aN aB aQ;refine ae (sX ..) (ae (sX ..) ?_);rfl
noncomputable def Told (bs e0 e1:List Int) (J:List Cl) (p:Nat) (V o1:Bool) (W Y:List Int) (Z n1:Nat) (x:bf×List bj):Prop:=∃a b,x=bf.run bs (eg a b (max (ext V p (aB J)) (ext o1 p (aQ J)))) (rr e0 e1 V o1 p J)∧SI bs e0 p V (aB J) W Z a∧SI bs e1 p o1 (aQ J) Y n1 b
noncomputable def c0 (c:Cl):SC:=(c.1,c.2.1)
noncomputable def c1 (c:Cl):SC:=(c.1,c.2.2)
noncomputable def new (o:Bool) (c:SC):Nat:=if c.2.isSome=true∧o=false then 1 else 0
noncomputable def Rt (c:Cl) (p:Nat) (cs:List Cl):Nat:=max (ext (c0 c).2.isSome (p+1) (aB cs)) (ext (c1 c).2.isSome (p+1) (aQ cs))
theorem fP.hm {s p n:Nat}{l:List bj}(h:fP s p n l):∀c∈l,c.2.1=hm l:=by
 cases h with
 |nil=>exact λzz h=>El.nm h
 |one=>exact λc h=>by refine ae (dk.mp h ..) ?_;rfl
theorem yN {s p:Nat}{e:List Int}{o:Bool}:dD s e o p []=if o=true∨e=[] then [] else [(p,p,s,"insert",e)]:=rfl
theorem place {c:Cl}{cs:List Cl}{p hi V n1:Nat}{J o1:Bool}{W Y:List Int}{a b:Sd}(Z:slc bs p (p+1)=[c.1]) (hc:(c0 c).2.isSome=true∨(c1 c).2.isSome=true) (h0:SI bs e0 p J (c0 c::aB cs) W V a) (h1:SI bs e1 p o1 (c1 c::aQ cs) Y n1 b)
  (g0:ext J p (c0 c::aB cs)≤hi) (g1:ext o1 p (c1 c::aQ cs)≤hi) (g2:hi≤Rt c p cs) :
  Told bs e0 e1 cs (p+1) (c0 c).2.isSome (c1 c).2.isSome (W++wy (c0 c)) (Y++wy (c1 c)) (V+new J (c0 c)) (n1+new o1 (c1 c)) (bf.run bs (eg a b hi) (rr e0 e1 J o1 p (c::cs))):=by
 refine El.cH (uc (s:=0) h0 Z) λs0 q0 r0=>?_;refine El.cH (uc (s:=1) h1 Z) λs1 q1 r1=>?_;refine El.bP _ _ ?_ s0 s1;have x0:=gb 0 e0 J p (c0 c::aB cs);have x1:=gb 1 e1 o1 p (c1 c::aQ cs);rw [dA,gG] at x0;rw [dA,ua] at x1;refine (Ea x0 x1 (az yM g0) _).trans (congrArg (λn=>bf.run bs (eg _ _ n) _) ?_);exact Ma hc (ud (R:=ext (c0 c).2.isSome (p+1) (aB cs)) (λh=>by refine ae (h ..) ?_;exact q0 h) (λh=>(r0 h).2) g0) (ud (R:=ext (c1 c).2.isSome (p+1) (aQ cs)) (λh=>by refine ae (h ..) ?_;exact q1 h) (λh=>(r1 h).2) g1) (λh=>by refine ae (h ..) ?_;exact yM) (λh=>by refine ae (h ..) ?_;exact yM) g2
theorem Ed {o:Bool}{c:SC}{cs:List SC}{p:Nat}:ext o p (c::cs)≤ext c.2.isSome (p+1) cs:=by
 obtain ⟨a,w⟩:=c;cases w with
 |none=>cases o <;> exact gq p
 |some w=>cases o with
  |false=>exact az (gq p) (bc _ _)
  |true=>refine (?_:p+(cl cs+1)≤p+1+cl cs);refine ae (gp ..) ?_;exact aI _
noncomputable def gH (c:Cl):Prop:=(c0 c).2.isSome=true∨(c1 c).2.isSome=true
theorem yO (Y:List Cl):∀(S:List Cl) (c:Cl) (pre:List Int) (p:Nat) (Z o1:Bool) (A0 A1:List Int) (n0 n1:Nat) (a b:Sd) (hi:Nat),bs=pre++aN (aB (c::(S++Y)))→pre.length=p→(∀d∈c::S,gH d)→SI bs e0 p Z (aB (c::(S++Y))) A0 n0 a→SI bs e1 p o1 (aQ (c::(S++Y))) A1 n1 b→
  ext Z p (aB (c::(S++Y)))≤hi→ext o1 p (aQ (c::(S++Y)))≤hi→hi≤Rt c p (S++Y)→
  Told bs e0 e1 Y (p+(S.length+1)) (oc Z (aB (c::S))) (oc o1 (aQ (c::S))) (A0++txt (aB (c::S))) (A1++txt (aQ (c::S))) (n0+ct Z (aB (c::S))) (n1+ct o1 (aQ (c::S))) (bf.run bs (eg a b hi) (rr e0 e1 Z o1 p (c::(S++Y)))):=@λA B C D F G H J K L M N O P Q R T U V W X=>match A,B,C,D,F,G,H,J,K,L,M,N,O,P,Q,R,T,U,V,W,X with
 |[],c,pre,p,Z,o1,A0,A1,n0,n1,a,b,hi,hb,hp,hc,h0,h1,g0,g1,g2=>by
  have:=place (by refine ae (hb ..) (ae (hp ..).symm ?_);exact pD) (hc c (.head _)) h0 h1 g0 g1 g2
  refine (?_:Told bs e0 e1 Y (p+1) _ _ (A0++(wy (c0 c)++[])) (A1++(wy (c1 c)++[])) _ _ _);refine ae (bt ..) (ae (bt ..) ?_);exact this
 |d::S,c,pre,p,Z,o1,A0,A1,n0,n1,a,b,hi,hb,hp,hc,h0,h1,g0,g1,g2=>by
  refine El.aP (place (by refine ae (hb ..) (ae (hp ..).symm ?_);exact pD) (hc c (.head _)) h0 h1 g0 g1 g2) λa1 b1 e i0 i1=>?_
  have:=yO Y S d (pre++[c.1]) (p+1) (c0 c).2.isSome (c1 c).2.isSome _ _ _ _ a1 b1 _ (by refine ae (hb ..) (ae (aH ..) ?_);rfl) (by refine ae (hp ..).symm ?_;exact aJ) (λc h=>hc c (qA _ h)) i0 i1 (lS _ _) (nv _ _) (jL.mpr ⟨az (Ed (c:=c0 d)) (lS _ _),az (Ed (c:=c1 d)) (nv _ _)⟩)
  rw [aH,aH,eV n0,eV n1,gp p 1] at this;refine ae (e ..) ?_;exact this
theorem Ee {c:Cl}{cs:List Cl}{p:Nat}(hs:slc bs p (p+1)=[c.1]) (hc:gH c):∃r R,rr e0 e1 false false p (c::cs)=r::R∧r.1=p∧p≤r.2.1∧r.2.1≤Rt c p cs:=by
 have x0:=gb 0 e0 false p (c0 c::aB cs);have x1:=gb 1 e1 false p (c1 c::aQ cs);rw [dA,gG] at x0;rw [dA,ua] at x1;refine El.cH (uc (bs:=bs) (e:=e0) (s:=0) (c:=c0 c) (cs:=aB cs) (.cls (aI p) i5:SI bs e0 p false _ [] 0 ([],[],p)) hs) λzz q0 r0=>?_;refine El.cH (uc (bs:=bs) (e:=e1) (s:=1) (c:=c1 c) (cs:=aQ cs) (.cls (aI p) i5:SI bs e1 p false _ [] 0 ([],[],p)) hs) λzz q1 r1=>?_;have g0:=(ud (R:=ext (c0 c).2.isSome (p+1) (aB cs)) (λh=>by refine ae (h ..) ?_;exact q0 h) (λh=>(r0 h).2) (aI _)).1
 have g1:=(ud (R:=ext (c1 c).2.isSome (p+1) (aQ cs)) (λh=>by refine ae (h ..) ?_;exact q1 h) (λh=>(r1 h).2) (aI _)).1
 have J:∀r∈two (dD 0 e0 false p (c0 c::aB cs)) (dD 1 e1 false p (c1 c::aQ cs)),r.1=p∧p≤r.2.1∧r.2.1≤Rt c p cs:=λr Y=>by
  refine El.cH (rt x0 x1 r Y) λk1 k2 zz=>?_;refine El.aK k1 k2 ?_;rcases D7 Y with h | h
  ·refine ae (x0.hm r h ..) ?_;exact az g0 (lS _ _)
  ·refine ae (x1.hm r h ..) ?_;exact az g1 (nv _ _)
 have W:two (dD 0 e0 false p (c0 c::aB cs)) (dD 1 e1 false p (c1 c::aQ cs))≠[]:=λe=>by
  have V:=(rq (dD 0 e0 false p (c0 c::aB cs)) (dD 1 e1 false p (c1 c::aQ cs))).length_eq;rw [e,aJ] at V;have hz:∀(s:Nat) (e:List Int) (d:SC) (ds:List SC),d.2.isSome=true→(dD s e false p (d::ds)).length=1:=λs e d ds h=>by
   obtain ⟨y,w⟩:=d;cases w with
   |none=>exact El.ft h
   |some w=>rfl
  rcases hc with h | h
  ·rw [hz 0 e0 _ _ h,iU] at V;exact El.zs V
  ·rw [hz 1 e1 _ _ h] at V;exact El.zs V
 refine El.q9 (Xv W) λr R Z=>?_;rw [Z] at J;exact El.fM r (R++rr e0 e1 (c0 c).2.isSome (c1 c).2.isSome (p+1) cs) (congrArg (·++rr e0 e1 (c0 c).2.isSome (c1 c).2.isSome (p+1) cs) Z) (J r (.head _))
theorem Ef {e:List Int}{p n:Nat}{o:Bool}{k:Int}{cs:List SC}{A:List Int}{x:Sd}(h:SI bs e p o ((k,.none)::cs) A n x):x.1=c9 n "replace"∧x.2.1++slc bs x.2.2 p=A∧ext o p ((k,.none)::cs)=p:=by
 cases h with
 |@js _ _ _ r J=>
  have hz:slc bs r p=[]:=by refine ae (J ..) ?_;exact i5
  exact El.aK rfl (by refine (?_:(A++[])++slc bs r p=A);exact ae (hz ..) (ae (bt ..) (ae (bt ..) rfl))) rfl
 |cls J V=>exact El.aK rfl V rfl
theorem Eg {e:List Int}{p n s:Nat}{o:Bool}{A:List Int}{x:Sd}(h:SI bs e p o [] A n x):((dD s e o p []).foldl (ss bs) x).1=c9 n "replace"++(if o=true∨e=[] then [] else ["insert"])∧((dD s e o p []).foldl (ss bs) x).2.1++slc bs ((dD s e o p []).foldl (ss bs) x).2.2 p=A++e∧ext o p []=p∧hm (dD s e o p [])≤p:=by
 have hh:hm (dD s e o p [])≤p:=by
  refine ae (yN ..) ?_;unfold hm;split
  ·exact bh _
  ·exact aI _
 refine El.cy ?_ ?_ (by clear h;cases o <;> rfl) hh
 ·clear hh;cases h with
  |@js _ _ _ r J=>
   show c9 n "replace"=_++(if _ then _ else _)
   exact ae (if_pos (.inl rfl) ..) (ae (bt ..) rfl)
  |cls J V=>
   refine ae (yN ..) ?_;split
   ·exact (bt _).symm
   ·rfl
 ·clear hh;cases h with
  |@js _ _ _ r J=>
   have hz:slc bs r p=[]:=by refine ae (J ..) ?_;exact i5
   refine (?_:(A++e)++slc bs r p=A++e);exact ae (hz ..) (ae (bt ..) rfl)
  |cls J V=>
   refine ae (yN ..) ?_;split
   ·rename_i h;rcases h with h | h
    ·exact El.ft h
    ·refine ae (h ..) (ae (bt ..) ?_);exact V
   ·refine (?_:(_++(_++(if "insert"="delete" then [] else e)))++slc bs (if "insert"="insert" then p else p) p=A++e);exact ae (if_neg (by decide) ..) (ae (if_pos rfl ..) (ae (i5 ..) (ae (bt ..) (ae (aH ..).symm (ae (V ..) rfl)))))
end
noncomputable abbrev Sg:=List Cl×Int
noncomputable def flat (E:List Cl):List Sg→List Cl:=@λA=>match A with
 |[]=>E
 |g::r=>g.1++(g.2,.none,.none)::flat E r
noncomputable def mW (S:List SC):List String:=c9 (ct false S) "replace"
noncomputable def eW (e:List Int) (S:List SC):List String:=mW S++(if oc false S=true∨e=[] then [] else ["insert"])
noncomputable abbrev Res:=List Clean×List jr×List Ent
noncomputable def put (p:Nat) (W0 W1:List String) (o l r:List Int) (t:Res):Res:=match settle o l r with
 |.some sw=>((p,W0,W1)::t.1,t.2.1,sw.map .it++t.2.2)
 |.none=>(t.1,(W0,W1)::t.2.1,.cf o l r::t.2.2)
noncomputable def wk (E:List Cl) (e0 e1:List Int):Nat→List Sg→Res:=@λA B=>match A,B with
 |p,[]=>if E=[]∧e0=[]∧e1=[] then ([],[],[]) else put p (eW e0 (aB E)) (eW e1 (aQ E)) (aN (aB E)) (txt (aB E)++e0) (txt (aQ E)++e1) ([],[],[])
 |p,g::r=>if g.1=[] then ((wk E e0 e1 (p+g.1.length+1) r).1,(wk E e0 e1 (p+g.1.length+1) r).2.1,.it g.2::(wk E e0 e1 (p+g.1.length+1) r).2.2)
   else put p (mW (aB g.1)) (mW (aQ g.1)) (aN (aB g.1)) (txt (aB g.1)) (txt (aQ g.1)) ((wk E e0 e1 (p+g.1.length+1) r).1,(wk E e0 e1 (p+g.1.length+1) r).2.1,.it g.2::(wk E e0 e1 (p+g.1.length+1) r).2.2)
section
variable {bs e0 e1:List Int}
theorem Mb {st:bf}{R:List bj}(h:∀c∈R,st.hi<c.1):bf.run bs st R=(st,R):=by
 cases R with
 |nil=>rfl
 |cons c R=>exact if_neg (ee.mpr (h c (.head _)))
theorem Eh {r:bj}{R J:List bj}{a b:Sd}{q d n:Nat}{W0 W1:List String}{o V W:List Int}{t:Res}(Y:bf.run bs (eg ([],[],r.1) ([],[],r.1) r.2.1) (r::R)=(eg a b q,J)) (h1:a.1=W0) (h2:b.1=W1) (h3:a.2.1++slc bs a.2.2 q=V) (h4:b.2.1++slc bs b.2.2 q=W) (h5:slc bs r.1 q=o) (Z:fv bs n J q t.1 t.2.1 t.2.2) :
  fv bs (n+1) (r::R) d (put r.1 W0 W1 o V W t).1 (put r.1 W0 W1 o V W t).2.1 ((slc bs d r.1).map .it++(put r.1 W0 W1 o V W t).2.2):=by
 subst h1 h2 h3 h4 h5;unfold put;cases h:settle (slc bs r.1 q) (a.2.1++slc bs a.2.2 q) (b.2.1++slc bs b.2.2 q) with
 |some sw=>exact .clean Y h Z
 |none=>exact .D3 Y h Z
theorem Mc {q V n1:Nat}{J o1:Bool}{W Y:List Int}{x:bf×List bj}(h:Told bs e0 e1 [] q J o1 W Y V n1 x):∃a b,x=(eg a b q,[])∧a.1=c9 V "replace"++(if J=true∨e0=[] then [] else ["insert"])∧b.1=c9 n1 "replace"++(if o1=true∨e1=[] then [] else ["insert"])∧a.2.1++slc bs a.2.2 q=W++e0∧b.2.1++slc bs b.2.2 q=Y++e1:=by
 refine El.aP h λa b e Z s1=>?_;clear h;refine El.iz (Eg (s:=0) Z) λa1 a2 a3 a4=>?_;refine El.iz (Eg (s:=1) s1) λb1 b2 b3 b4=>?_;refine El.rh _ _ (e.trans ?_) a1 b1 a2 b2;have hx:max (ext J q (aB [])) (ext o1 q (aQ []))=q:=by
  refine (?_:max (ext J q []) (ext o1 q [])=q);exact ae (a3 ..) (ae (b3 ..) (ae (Cu ..) rfl))
 refine ae (hx ..) ?_;have:=Ea (bs:=bs) (a:=a) (b:=b) (gb 0 e0 J q []) (gb 1 e1 o1 q []) (aI q) [];rw [bt,wH (jL.mpr ⟨a4,b4⟩)] at this;exact this
theorem Me {q V n1:Nat}{J o1:Bool}{k:Int}{cs:List Cl}{W Y:List Int}{x:bf×List bj}(h:Told bs e0 e1 ((k,.none,.none)::cs) q J o1 W Y V n1 x):∃a b,x=(eg a b q,rr e0 e1 false false (q+1) cs)∧a.1=c9 V "replace"∧b.1=c9 n1 "replace"∧a.2.1++slc bs a.2.2 q=W∧b.2.1++slc bs b.2.2 q=Y:=by
 refine El.aP h λa b e Z s1=>?_;clear h;refine El.cH (Ef (k:=k) (cs:=aB cs) Z) λa1 a2 a3=>?_;refine El.cH (Ef (k:=k) (cs:=aQ cs) s1) λb1 b2 b3=>?_;refine El.rh a b (e.trans ?_) a1 b1 a2 b2;have hx:max (ext J q (aB ((k,.none,.none)::cs))) (ext o1 q (aQ ((k,.none,.none)::cs)))=q:=by
  refine (?_:max (ext J q ((k,.none)::aB cs)) (ext o1 q ((k,.none)::aQ cs))=q);exact ae (a3 ..) (ae (b3 ..) (ae (Cu ..) rfl))
 refine ae (hx ..) ?_;exact Mb λc hc=>(ub e0 e1 cs _ _ _ c hc).1
theorem Ei {pre w r:List Int}{p:Nat}(J:pre.length=p):slc (pre++(w++r)) p (p+w.length)=w:=J▸tX
theorem Ej (A B:List Cl):aB (A++B)=aB A++aB B:=bG
theorem yP {E:List Cl}(hE:∀d∈E,gH d):∀(G:List Sg) (pre:List Int) (p d:Nat),bs=pre++aN (aB (flat E G))→pre.length=p→d≤p→(∀g∈G,∀c∈g.1,gH c)→∃n,fv bs n (rr e0 e1 false false p (flat E G)) d (wk E e0 e1 p G).1 (wk E e0 e1 p G).2.1 ((slc bs d p).map .it++(wk E e0 e1 p G).2.2):=@λA B C D F H J K=>match A,B,C,D,F,H,J,K with
 |[],pre,p,d,Z,V,hd,hG=>by
  have hn:p+E.length=bs.length:=by refine ae (Z ..) (ae (aJ ..) (ae (eG ..) (ae (gG ..) (ae (V ..) ?_))));rfl
  have Y:slc bs d p=(bs.take p).drop d:=by unfold slc;exact ae (List.drop_take ..) rfl
  have hs:slc bs p (p+E.length)=aN (aB E):=by
   have:=Ei (w:=aN (aB E)) (r:=[]) V;rw [bt,eG,gG] at this;refine ae (Z ..) ?_;exact this
  by_cases h:E=[]∧e0=[]∧e1=[]
  ·refine El.cH h λcS dq iG=>?_;clear h;clear hE F Z hs;subst cS;subst dq;subst iG;refine ⟨0,?_⟩;refine (?_:fv bs 0 (two [] []) d _ _ _);have h0:two [] []=[]:=by unfold two;split <;> rfl
   have h1:wk [] [] [] p []=([],[],[]):=if_pos (El.aK rfl rfl rfl);refine ae (h0 ..) (ae (h1 ..) (ae (bt ..) (ae (Y ..) ?_)));have:=@fv.done bs d;refine ae (show p=bs.length from hn) (ae (Xw ..) ?_);exact this
  ·have hw:wk E e0 e1 p []=put p (eW e0 (aB E)) (eW e1 (aQ E)) (aN (aB E)) (txt (aB E)++e0) (txt (aQ E)++e1) ([],[],[]):=if_neg h;refine ae (hw ..) ?_;have key:∃r R,rr e0 e1 false false p E=r::R∧r.1=p∧Told bs e0 e1 [] (p+E.length) (oc false (aB E)) (oc false (aQ E)) (txt (aB E)) (txt (aQ E)) (ct false (aB E)) (ct false (aQ E)) (bf.run bs (eg ([],[],p) ([],[],p) r.2.1) (r::R)):=by
    clear F hn hs hw;cases E with
    |nil=>
     have jq:two (dD 0 e0 false p []) (dD 1 e1 false p [])≠[]:=λe=>by
      have V:=(rq (dD 0 e0 false p []) (dD 1 e1 false p [])).symm;rw [e] at V;refine El.aa (J5.mp V.eq_nil) λq0 q1=>?_;refine h (El.aK rfl ?_ ?_)
      ·cases e0 with
       |nil=>rfl
       |cons=>exact El.cn q0
      ·cases e1 with
       |nil=>rfl
       |cons=>exact El.cn q1
     refine El.q9 (Xv jq) λr R W=>?_;refine El.iz (rt (gb 0 e0 false p []) (gb 1 e1 false p []) r (by refine ae (W ..) ?_;exact .head _)) λk1 k2 k3 zz=>?_
     refine ⟨r,R,W,k1,([],[],p),([],[],p),?_,(.cls (aI _) i5),(.cls (aI _) i5)⟩;refine ae (W ..).symm (ae (show r.2.1=p from bJ k3 k2) ?_);refine (?_:_=bf.run bs (eg _ _ (max p p)) _);refine ae (Cu ..) ?_;rfl
    |cons c S=>
     have Mf:bs=pre++aN (aB (c::(S++[]))):=by refine ae (bt ..) ?_;exact Z
     have pE:slc bs p (p+1)=[c.1]:=by refine ae (Z ..) (ae (V ..).symm ?_);exact pD
     refine El.l7 (Ee (e0:=e0) (e1:=e1) (cs:=S) pE (hE c (.head _))) λr R W k1 k2 k3=>?_;refine El.bP r R W k1 ?_;have:=yO (e0:=e0) (e1:=e1) [] S c pre p false false [] [] 0 0 ([],[],p) ([],[],p) r.2.1 Mf V hE (.cls (aI _) i5) (.cls (aI _) i5) k2 k2 (by refine ae (bt ..) ?_;exact k3)
     rw [bt,W,gv,gv,cQ,cQ] at this;exact this
   refine El.aP key λr R W k1 ht=>?_;clear key;refine El.rb (Mc ht) λa b h0 h1 h2 h3 h4=>?_;have hM:fv bs 0 [] (p+E.length) [] [] []:=by
    have:=@fv.done bs (p+E.length);rw [hn] at *;rw [List.drop_length] at this;exact this
   refine (?_:∃n,fv bs n (rr e0 e1 false false p E) _ _ _ _);refine ae (W ..) ?_;clear V hd hn Y hw W ht;subst k1;exact ⟨1,Eh h0 h1 h2 h3 h4 hs hM⟩
 |(S,k)::G,pre,p,d,Z,V,hd,hG=>by
  have hr:∀q,rr e0 e1 false false q ((k,.none,.none)::flat E G)=rr e0 e1 false false (q+1) (flat E G):=λq=>by
   refine (?_:two [] []++_=_);have h0:two [] []=[]:=by unfold two;split <;> rfl
   refine ae (h0 ..) ?_;rfl
  have hw:wk E e0 e1 p ((S,k)::G)=if S=[] then _ else _:=rfl;have ue:bs=(pre++aN (aB S)++[k])++aN (aB (flat E G)):=by
   refine ae (Z ..) ?_;refine (?_:pre++aN (aB (S++_::flat E G))=_);refine ae (Ej ..) (ae (nP ..) (ae (aH ..) (ae (aH ..) ?_)));rfl
  have yQ:(pre++aN (aB S)++[k]).length=p+S.length+1:=by
   refine ae (aJ ..) (ae (aJ ..) (ae (eG ..) (ae (gG ..) (ae (V ..) ?_))));rfl
  cases S with
  |nil=>
   refine El.ea (yP hE G _ (p+([]:List Cl).length+1) d ue yQ (gw hd) λg h=>hG g (.tail _ h)) λn hn=>?_;refine ⟨n,?_⟩;refine ae (hw ..) (ae (if_pos rfl ..) ?_);refine (?_:fv bs n (rr e0 e1 false false p ((k,.none,.none)::flat E G)) d _ _ _);refine ae (hr ..) ?_;have e:slc bs d (p+1)=slc bs d p++[k]:=by
    refine ae (Eb hd (gq p) ..) ?_;refine congrArg _ ?_;refine ae (Z ..) (ae (V ..).symm ?_);exact pD
   rw [show p+([]:List Cl).length+1=p+1 from rfl,e,bG,aH] at hn;exact hn
  |cons c S=>
   have hc:=hG (c::S,k) (.head _);have pE:slc bs p (p+1)=[c.1]:=by refine ae (Z ..) (ae (V ..).symm ?_);exact pD
   refine El.l7 (Ee (e0:=e0) (e1:=e1) (cs:=S++(k,.none,.none)::flat E G) pE (hc c (.head _))) λr R W k1 k2 k3=>?_;have ht:=yO (e0:=e0) (e1:=e1) ((k,.none,.none)::flat E G) S c pre p false false [] [] 0 0 ([],[],p) ([],[],p) r.2.1 Z V hc (.cls (aI _) i5) (.cls (aI _) i5) k2 k2 k3;rw [gv,gv,cQ,cQ,W] at ht;refine El.rb (Me ht) λa b h0 h1 h2 h3 h4=>?_;refine El.ea (yP hE G _ _ (p+(c::S).length) ue yQ (gq _) λg h=>hG g (.tail _ h)) λn hn=>?_;have e:slc bs (p+(c::S).length) (p+(c::S).length+1)=[k]:=by
    refine ae (ue ..) (ae (aH ..) ?_);have:(pre++aN (aB (c::S))).length=p+(c::S).length:=by exact ae (aJ ..) (ae (eG ..) (ae (gG ..) (ae (V ..) rfl)))
    refine ae (this ..).symm ?_;exact pD
   rw [e] at hn;have hs:slc bs p (p+(c::S).length)=aN (aB (c::S)):=by
    refine ae (ue ..) (ae (aH ..) (ae (aH ..) ?_));have:=Ei (w:=aN (aB (c::S))) (r:=[k]++aN (aB (flat E G))) V;rw [eG,gG] at this;exact this
   refine ⟨n+1,?_⟩;refine ae (hw ..) (ae (if_neg (nr _ _) ..) ?_);refine (?_:fv bs (n+1) (rr e0 e1 false false p (c::(S++(k,.none,.none)::flat E G))) d _ _ _);refine ae (W ..) ?_;clear V hd hw yQ pE W k2 k3 ht e;subst k1;exact Eh (t:=(_,_,_::_)) h0 h1 h2 h3 h4 hs hn
end
noncomputable def Zz (x:Int):Prop:=0≤x∧x % 4=0
noncomputable def uf (x:Int):Int:=if x = -1 then 1000 else (-2-x) / 2
noncomputable def Fr (a b:Int) (x:Int):Prop:=x<0∧a≤uf x∧uf x<b
inductive Wy (a b:Int):List Int→Prop
 |one {f:Int}:Fr a b f→Wy a b [f]
 |two {f g:Int}:Fr a b f→Fr a b g→Wy a b [f,g]
 |three {f z g:Int}:Fr a b f→Zz z→Fr a b g→Wy a b [f,z,g]
noncomputable def kb (c:Cl):Bool:=c.2.1.isNone && c.2.2.isNone
noncomputable def pF:List Cl→Bool:=@λA=>match A with
 |[]=>false
 |[c]=>kb c
 |zz::d::r=>pF (d::r)
noncomputable def ma:List Cl→Bool:=@λA=>match A with
 |[]=>false
 |c::zz=>kb c
noncomputable def Kp (k:Int):Cl:=(k,.none,.none)
structure Cg (a b:Int) (c:Cl):Prop where
 pos:0≤c.1
 code:(c.2.1.isSome=true∧c.2.2=.none∧c.1 % 4=1)∨(c.2.1=.none∧c.2.2.isSome=true∧c.1 % 4=2)∨(c.2.1.isSome=true∧c.2.2.isSome=true∧c.1 % 4=3)
 way:∀w,c.2.1=.some w∨c.2.2=.some w→Wy a b w
structure Gd (a b:Int) (cs:List Cl):Prop where
 all:∀c∈cs,(c.2=(.none,.none)∧(Fr a b c.1∨Zz c.1))∨Cg a b c
 gT:∀c∈cs,∀w,c.2.1=.some w∨c.2.2=.some w→∀x∈w,x<0→∀d∈cs,d.1≠x
 twin:∀A z R,cs=A++Kp z::R→Zz z→pF A=true∨ma R=true
theorem Fr.mono {a b J V x:Int}(h:Fr a b x) (W:J≤a) (Y:b≤V):Fr J V x:=(El.aK h.1 (iT W h.2.1) (Xx h.2.2 Y))
theorem Wy.mono {a b W Y:Int}{w:List Int}(h:Wy a b w) (J:W≤a) (V:b≤Y):Wy W Y w:=by
 cases h with
 |one f=>exact .one (f.mono J V)
 |two f g=>exact .two (f.mono J V) (g.mono J V)
 |three f z g=>exact .three (f.mono J V) z (g.mono J V)
theorem Wy.mem {a b:Int}{w:List Int}(h:Wy a b w):∀x∈w,Fr a b x∨Zz x:=by
 cases h with
 |one f=>exact bH.mpr ⟨.inl f,λzz h=>El.nm h⟩
 |two f g=>exact bH.mpr ⟨.inl f,bH.mpr ⟨.inl g,λzz h=>El.nm h⟩⟩
 |three f z g=>exact bH.mpr ⟨.inl f,bH.mpr ⟨.inr z,bH.mpr ⟨.inl g,λzz h=>El.nm h⟩⟩⟩
theorem Cg.mono {a b J V:Int}{c:Cl}(h:Cg a b c) (W:J≤a) (Y:b≤V):Cg J V c:=⟨h.pos,h.code,λw hw=>(h.way w hw).mono W Y⟩
theorem Ek:∀(A B:List Cl),pF B=true→pF (A++B)=true:=@λC D F=>match C,D,F with
 |[],B,h=>h
 |[c],[],h=>El.ft h
 |[c],d::B,h=>h
 |c::d::A,B,h=>Ek (d::A) B h
theorem Mh {A B:List Cl}(h:ma A=true):ma (A++B)=true:=by
 cases A with
 |nil=>exact El.ft h
 |cons c A=>exact h
theorem Gd.append {a b c:Int}{cs ds:List Cl}(h:Gd a b cs) (g:Gd b c ds) (h1:a≤b) (h2:b≤c):Gd a c (cs++ds):=by
 have J:∀{a b Z b':Int}{cs ds:List Cl},Gd a b cs→Gd Z b' ds→(∀x,Fr a b x→¬Fr Z b' x)→∀c∈cs,∀w,c.2.1=.some w∨c.2.2=.some w→∀x∈w,x<0→∀d∈ds,d.1≠x:=λ{a b Z b' cs ds} h g hd c hc w hw x hx V d Mi e=>by
  rcases h.all c hc with ⟨h3,_⟩ | h3
  ·rw [h3] at hw;rcases hw with h | h <;> exact El.ns h
  ·have hf:Fr a b x:=((h3.way w hw).mem x hx).resolve_right λz=>jI.mpr V z.1;rcases g.all d Mi with ⟨_,W | W⟩ | W
   ·exact hd x hf (e▸W)
   ·exact jI.mpr V (e▸W.1)
   ·exact jI.mpr V (e▸W.pos)
 refine ⟨λx hx=>?_,λx hx w hw y Y V d hd=>?_,λA z R e hz=>?_⟩
 ·rcases cF.mp hx with hx | hx
  ·exact (h.all x hx).imp (λk=>⟨k.1,k.2.imp_left λk=>k.mono (er _) h2⟩) λk=>k.mono (er _) h2
  ·exact (g.all x hx).imp (λk=>⟨k.1,k.2.imp_left λk=>k.mono h1 (er _)⟩) λk=>k.mono h1 (er _)
 ·rcases cF.mp hx with hx | hx
  ·rcases cF.mp hd with hd | hd
   ·exact h.gT x hx w hw y Y V d hd
   ·exact J h g (λx p q=>gn.mpr q.2.1 p.2.2) x hx w hw y Y V d hd
  ·rcases cF.mp hd with hd | hd
   ·exact J g h (λx p q=>gn.mpr p.2.1 q.2.2) x hx w hw y Y V d hd
   ·exact g.gT x hx w hw y Y V d hd
 ·rcases List.append_eq_append_iff.mp e with ⟨A',e1,e2⟩ | ⟨R',e1,e2⟩
  ·rcases g.twin A' z R e2 hz with h | h
   ·exact .inl (e1▸Ek _ _ h)
   ·exact .inr h
  ·cases R' with
   |nil=>
    rcases g.twin [] z R e2.symm hz with h | h
    ·exact El.ft h
    ·exact .inr h
   |cons k R'=>
    refine El.aa (wI e2) λcS dq=>?_;clear e2;subst cS;subst dq;rcases h.twin A z R' e1 hz with h | h
    ·exact .inl h
    ·exact .inr (Mh h)
theorem Gd.nil {a b:Int}:Gd a b []:=⟨λzz h=>(El.nm h),λzz h=>(El.nm h),λA z R e=>by cases A <;> exact El.nc e⟩
theorem Gd.mono {a b J V:Int}{cs:List Cl}(h:Gd a b cs) (W:J≤a) (Y:b≤V):Gd J V cs:=⟨λx hx=>(h.all x hx).imp (λk=>⟨k.1,k.2.imp_left λk=>k.mono W Y⟩) λk=>k.mono W Y,h.gT,h.twin⟩
theorem Gd.chg {a b:Int}{S:List Cl}(h:∀c∈S,Cg a b c):Gd a b S:=by
 refine ⟨λc hc=>.inr (h c hc),λc hc w hw x hx J d hd e=>jI.mpr J (e▸(h d hd).pos),λA z R e hz=>?_⟩;have:=(h (Kp z) (by refine ae (e ..) ?_;exact bx _ (.head _))).code
 rcases this with h | h | h
 ·exact El.ft h.1
 ·exact El.ft h.2.1
 ·exact El.ft h.1
theorem Gd.keep {a b:Int}{l:List Int}(h:∀x∈l,Fr a b x∨Zz x) (ht:∀A z R,l=A++z::R→Zz z→A≠[]∨R≠[]):Gd a b (l.map Kp):=by
 have hk:∀m:List Int,m≠[]→ma (m.map Kp)=true:=λm hm=>by cases m with | nil=>exact absurd rfl hm | cons=>rfl
 have hl:∀m:List Int,m≠[]→pF (m.map Kp)=true:=λm=>by
  induction m with
  |nil=>exact λhm=>absurd rfl hm
  |cons x m ih=>intro _;clear a_1;cases m with | nil=>rfl | cons y m=>exact ih (nr _ _)
 refine ⟨λc hc=>?_,λc hc w hw=>?_,λA z R e hz=>?_⟩
 ·refine El.au (bL.mp hc) λx hx J=>?_;clear hc;subst J;exact .inl ⟨rfl,h x hx⟩
 ·refine El.au (bL.mp hc) λx hx J=>?_;clear hc;subst J;rcases hw with h | h <;> exact El.ns h
 ·refine El.aP (Xy.mp e) λY R' J V e3=>?_;clear h e;subst J;subst V;refine El.aP (Xz.mp e3) λZ W J e4 V=>?_;subst J;subst V;obtain rfl:Z=z:=congrArg gO e4;exact (ht Y Z W rfl hz).imp (hl Y) (hk W)
theorem Gd.pair {a b z:Int}(hz:Zz z):Gd a b [Kp z,Kp z]:=by
 refine Gd.keep (l:=[z,z]) (bH.mpr ⟨.inr hz,bH.mpr ⟨.inr hz,λzz h=>El.nm h⟩⟩) λA y R e zz=>?_;cases A with
 |nil=>right;cases R with | nil=>exact nomatch e | cons=>exact nr _ _
 |cons=>exact .inl (nr _ _)
theorem Wy.keep {a b:Int}{w:List Int}(h:Wy a b w):Gd a b (w.map Kp):=by
 refine Gd.keep h.mem λA z R e hz=>?_;cases A with
 |cons=>exact .inl (nr _ _)
 |nil=>
  right
  intro J;subst J;cases h with
  |one f=>obtain rfl:_=z:=(wI e).1;exact jI.mpr f.1 hz.1
  |two=>exact nomatch e
  |three=>exact nomatch e
inductive Tl (cs:List Cl):List Int→Prop
 |nil:Tl cs []
 |cons {l:List Int}:(∀x∈l,Zz x)→(∀c∈cs,c.1≠-1)→Tl cs (-1::l)
theorem Tl.mem {cs:List Cl}{e:List Int}(h:Tl cs e):∀x∈e,x<0∨Zz x:=by
 cases h with
 |nil=>exact λzz h=>El.nm h
 |cons J _=>exact bH.mpr ⟨.inl (by decide),λx hx=>.inr (J x hx)⟩
theorem ug {x:Int}(h:x<0∨Zz x) (p:0≤x) (q:x % 4≠0):False:=h.elim (λh=>jI.mpr h p) λh=>q h.2
section
variable {a b:Int}{cs:List Cl}{e:List Int}{pr:Option (List Int)×Option (List Int)→Option (List Int)}
noncomputable def cJ (pr:Option (List Int)×Option (List Int)→Option (List Int)) (cs:List Cl):List SC:=cs.map λc=>(c.1,pr c.2)
theorem Em {cs:List SC}{x:Int}(h:x∈txt cs):∃c∈cs,x∈wy c:=by
 induction cs with
 |nil=>exact El.nm h
 |cons c cs J=>
  rcases cF.mp h with h | h
  ·exact El.aD c (.head _) h
  ·refine El.au (J h) λd V W=>?_;exact El.aD d (.tail _ V) W
theorem Eo (J:pr (.none,.none)=.none):∀(A:List Cl) (o:Bool),pF A=true→lk o (cJ pr A)=true:=@λB C D=>match B,C,D with
 |[],zz,h=>El.ft h
 |[c],zz,h=>by
  obtain ⟨x,w0,w1⟩:=c;cases w0 with
  |some=>exact El.ft h
  |none=>cases w1 with
   |some=>exact El.ft h
   |none=>refine (?_:(pr (.none,.none)).isNone=true);refine ae (J ..) ?_;rfl
 |c::d::A,zz,h=>Eo J (d::A) (pr c.2).isNone h
theorem Mj (J:pr (.none,.none)=.none) {A:List Cl}(h:ma A=true):hk (cJ pr A)=true:=by
 cases A with
 |nil=>exact El.ft h
 |cons c A=>
  obtain ⟨x,w0,w1⟩:=c;cases w0 with
  |some=>exact El.ft h
  |none=>cases w1 with
   |some=>exact El.ft h
   |none=>refine (?_:(pr (.none,.none)).isNone=true);refine ae (J ..) ?_;rfl
theorem Gd.own (h:Gd a b cs) (ht:Tl cs e) (q:Int) (hp:pr (.none,.none)=.none) (hq:0<q∧q<4)
  (h1:∀c:Cl,Cg a b c→∀w,pr c.2=.some w→(c.2.1=.some w∨c.2.2=.some w)∧c.1 % 4≠q) (h2:∀c:Cl,Cg a b c→pr c.2=.none→c.1 % 4=q):Own (cJ pr cs) e:=by
 have hb:aN (cJ pr cs)=cs.map gO:=by unfold aN cJ;refine ae (sX ..) ?_;rfl
 have hw:∀x w,(x,.some w)∈cJ pr cs→∃c∈cs,c.1=x∧Cg a b c∧(c.2.1=.some w∨c.2.2=.some w)∧c.1 % 4≠q:=λx w hm=>by
  refine El.au (bL.mp hm) λc hc e=>?_;have e2:pr c.2=.some w:=congrArg jM e;rcases h.all c hc with ⟨V,_⟩ | V
  ·rw [V,hp] at e2;exact El.ns e2
  ·exact El.iA c hc (congrArg gO e) V (h1 c V w e2)
 have W:∀c∈cs,∀w,c.2.1=.some w∨c.2.2=.some w→∀x∈w,x<0→x∉aN (cJ pr cs):=λc hc w hw x hx hn hm=>by
  rw [hb] at hm;refine El.au (bL.mp hm) λd hd e=>?_;exact h.gT c hc w hw x hx hn d hd e
 refine ⟨λc hc hn hm=>?_,λx w hm=>?_,λf r e hm=>?_⟩
 ·obtain ⟨x,o⟩:=c;cases o with
  |none=>exact hn rfl
  |some w=>
   refine El.kO (hw x w hc) λc YO J V h4 h5=>?_;clear hc hn;subst J;have nz:c.1 % 4≠0:=λe=>by rcases V.code with h | h | h <;> (rw [e] at h;exact nomatch h.2.2)
   rcases cF.mp hm with hm | hm
   ·refine El.au (Em hm) λJ hd hy=>?_;obtain ⟨y,o⟩:=J;cases o with
    |some w'=>
     refine El.kO (hw y w' hd) λd Z J h6 h7 zz=>?_;clear hd;subst J;exact ug (((h6.way w' h7).mem _ hy).imp_left λk=>k.1) V.pos nz
    |none=>
     refine El.au (bL.mp hd) λd Z e=>?_;clear hd;obtain rfl:_=y:=dk.mp hy;have e1:d.1=c.1:=(qB e).1;have e2:pr d.2=.none:=(qB e).2;rcases h.all d Z with ⟨_,k⟩ | k
     ·exact ug (e1▸k.imp_left λk=>k.1) V.pos nz
     ·exact h5 (e1▸h2 d k e2)
   ·exact ug (ht.mem _ hm) V.pos nz
 ·refine El.kO (hw x w hm) λc hc J V h4 zz=>?_;clear hm;subst J;have W:=W c hc w h4;cases V.way w h4 with
  |@one f k=>exact ⟨(El.fM f _ rfl (W f (.head _) k.1)),λt z e hz=>by
    cases t with
    |zero=>cases e;exact absurd hz (W _ (.head _) k.1)
    |succ t=>exact El.ns e⟩
  |@two f g k k'=>exact ⟨(El.fM f _ rfl (W f (.head _) k.1)),λt z e hz=>by
    cases t with
    |zero=>cases e;exact absurd hz (W _ (.head _) k.1)
    |succ t=>cases t with
     |zero=>cases e;exact absurd hz (W _ (.tail _ (.head _)) k'.1)
     |succ t=>exact El.ns e⟩
  |@three f z0 g k kz k'=>exact ⟨(El.fM f _ rfl (W f (.head _) k.1)),λt z e hz=>by
    cases t with
    |zero=>cases e;exact absurd hz (W _ (.head _) k.1)
    |succ t=>cases t with
     |zero=>
      clear hz;cases e;refine ⟨(El.aD g rfl (W g (.tail _ (.tail _ (.head _))) k'.1)),λA R e=>?_⟩;refine El.aP (Xy.mp e) λA' R' J Y e3=>?_;subst J;clear e;subst Y;refine El.aP (Xz.mp e3) λd Mk J e4 Y=>?_;subst J;subst Y;have e5:d.1=z0:=congrArg gO e4;rcases h.all d (bx _ (.head _)) with ⟨h6,_⟩ | h6
      ·obtain ⟨y,w⟩:=d;obtain rfl:w=_:=h6;obtain rfl:y=z0:=e5;exact (h.twin A' y Mk rfl kz).imp (Eo hp A' false) (Mj hp)
      ·exfalso;have:d.1 % 4=0:=e5▸kz.2;rcases h6.code with h | h | h <;> (rw [this] at h;exact nomatch h.2.2)
     |succ t=>cases t with
      |zero=>cases e;exact absurd hz (W _ (.tail _ (.tail _ (.head _))) k'.1)
      |succ t=>exact El.ns e⟩
 ·rw [hb] at hm;refine El.au (bL.mp hm) λd hd e1=>?_;cases ht with
  |nil=>exact El.nc e
  |cons _ h7=>exact h7 d hd (e1.trans (wI e).1.symm)
end
noncomputable abbrev Un:=List Cl×Int
noncomputable def bM:List Un→List Sg:=@λA=>match A with
 |[]=>[]
 |u::U=>(u.1,u.2)::([],u.2)::bM U
noncomputable def pG (l:List Int):List Sg:=l.map λx=>([],x)
noncomputable def yR (u:Un) (r:List Sg):Option (List Int)→List Sg:=@λA=>match A with
 |.some sw=>pG sw++([],u.2)::r
 |.none=>(u.1,u.2)::r
noncomputable def gV (G:List Sg):List Un→List Sg:=@λA=>match A with
 |[]=>G
 |u::U=>yR u (([],u.2)::gV G U) (settle (aN (aB u.1)) (txt (aB u.1)) (txt (aQ u.1)))
theorem md {G:List Sg}{u:Un}{U:List Un}{x:Option (List Int)}(h:settle (aN (aB u.1)) (txt (aB u.1)) (txt (aQ u.1))=x):gV G (u::U)=yR u (([],u.2)::gV G U) x:=congrArg (yR u (([],u.2)::gV G U)) h
class inductive SG:Int→List Cl→Int→Prop
 |nil {a b:Int}:a≤b→SG a [] b
 |cons {a b d:Int}{c:Cl}{S:List Cl}:a≤b→Cg a b c→SG b S d→SG a (c::S) d
class inductive UG:Int→List Un→Int→Prop
 |nil {a:Int}:UG a [] a
 |cons {a b d:Int}{S:List Cl}{z:Int}{U:List Un}:SG a S b→Zz z→UG b U d→UG a ((S,z)::U) d
section
variable {a b d:Int}{S E:List Cl}{U:List Un}{e0 e1:List Int}{pr:Option (List Int)×Option (List Int)→Option (List Int)}
theorem SG.le (h:SG a S b):a≤b:=by
 induction h with
 |nil h=>exact h
 |cons h _ _ J=>exact iT h J
theorem UG.le (h:UG a U b):a≤b:=by
 induction h with
 |nil=>exact er _
 |cons h _ _ J=>exact iT h.le J
theorem SG.cg (h:SG a S b):∀c∈S,Cg a b c:=by
 induction h with
 |nil=>exact λzz h=>El.nm h
 |cons J V W Y=>exact bH.mpr ⟨V.mono (er _) W.le,λc hc=>(Y c hc).mono J (er _)⟩
theorem SG.keep (h:SG a S b) (J:∀c:Cl,pr c.2=c.2.1∨pr c.2=c.2.2) (hs:∀c∈S,(pr c.2).isSome=true):Gd a b ((txt (cJ pr S)).map Kp):=by
 induction h with
 |nil=>exact Gd.nil
 |@cons a b d c S V W Y Z=>
  refine (?_:Gd a d ((wy (c.1,pr c.2)++txt (cJ pr S)).map Kp));refine ae (bG ..) ?_;refine Gd.append ?_ (Z λx hx=>hs x (.tail _ hx)) V Y.le;cases hw:pr c.2 with
  |none=>have:=hs c (.head _);rw [hw] at this;exact El.ft this
  |some w=>exact (W.way w ((J c).imp (λe=>e.symm.trans hw) λe=>e.symm.trans hw)).keep
theorem Cg.nz {c:Cl}(h:Cg a b c):c.1 % 4≠0:=λe=>by rcases h.code with h | h | h <;> (rw [e] at h;exact nomatch h.2.2)
theorem Ep {cs:List Cl}{c:Cl}(hc:c∈cs) {x:Int}(hx:x∈wy (c.1,pr c.2)):x∈txt (cJ pr cs):=by
 induction cs with
 |nil=>exact El.nm hc
 |cons d cs J=>
  rcases cU.mp hc with rfl | hc
  ·exact bO _ hx
  ·exact bx _ (J hc)
theorem Ml (W:∀c∈S,Cg a b c) (Y:∀c:Cl,pr c.2=c.2.1∨pr c.2=c.2.2) {e:List Int}(Z:∀x∈e,x<0∨Zz x) {x:Int}(hx:x∈txt (cJ pr S)++e):(x<0∨Zz x)∨∃c∈S,c.1=x∧pr c.2=.none:=by
 rcases cF.mp hx with hx | hx
 ·refine El.au (Em hx) λJ hd V=>?_;obtain ⟨y,o⟩:=J;refine El.au (bL.mp hd) λc hc e=>?_;refine El.aa (qB e) λJ e2=>?_;clear hd;subst J;cases o with
  |none=>exact .inr (El.ey c hc (dk.mp V).symm e2)
  |some w=>exact .inl ((((W c hc).way w ((Y c).imp (λe=>e.symm.trans e2) λe=>e.symm.trans e2)).mem x V).imp_left λk=>k.1)
 ·exact .inl (Z x hx)
theorem Mm {pr':Option (List Int)×Option (List Int)→Option (List Int)}(J:∀c∈S,Cg a b c) (hp:∀c:Cl,pr c.2=c.2.1∨pr c.2=c.2.2) (V:∀c:Cl,pr' c.2=c.2.1∨pr' c.2=c.2.2) {e W:List Int}(Y:∀x∈W,x<0∨Zz x) (q q':Int) (hq:q≠q') (h:∀c:Cl,Cg a b c→pr c.2=.none→c.1 % 4=q) (h':∀c:Cl,Cg a b c→pr' c.2=.none→c.1 % 4=q') (hs:txt (cJ pr S)++e=txt (cJ pr' S)++W):∀c∈S,(pr c.2).isSome=true:=λc hc=>by
 cases hw:pr c.2 with
 |some w=>rfl
 |none=>
  have hx:c.1∈txt (cJ pr' S)++W:=hs▸bO _ (Ep hc (by refine ae (hw ..) ?_;exact .head _))
  rcases Ml J V Y hx with Z | ⟨d,Z,h2,h3⟩
  ·exact (ug Z (J c hc).pos (J c hc).nz).elim
  ·exact absurd ((h c (J c hc) hw).symm.trans (h2▸h' d (J d Z) h3)) hq
theorem Er (W:∀c∈S,Cg a b c) (Y:∀c:Cl,pr c.2=c.2.1∨pr c.2=c.2.2) {e:List Int}(hs:txt (cJ pr S)++e=aN (aB S)):∀c∈S,pr c.2=.none:=λc hc=>by
 cases hw:pr c.2 with
 |none=>rfl
 |some w=>
  have iF:∀x∈w,0≤x:=λx hx=>by
   have hm:x∈aN (aB S):=hs▸bO _ (Ep hc (by refine ae (hw ..) ?_;exact hx))
   unfold aN aB at hm;rw [sX] at hm;refine El.au (bL.mp hm) λd hd J=>?_;clear hx hm;subst J;exact (W d hd).pos
  have V:=(W c hc).way w ((Y c).imp (λe=>e.symm.trans hw) λe=>e.symm.trans hw);clear hw;cases V with
  |one f=>exact (jI.mpr f.1 (iF _ (.head _))).elim
  |two f _=>exact (jI.mpr f.1 (iF _ (.head _))).elim
  |three f _ _=>exact (jI.mpr f.1 (iF _ (.head _))).elim
theorem Cg.nR {c:Cl}(h:Cg a b c):gH c:=h.code.elim (λk=>.inl k.1) λk=>k.elim (λk=>.inr k.2.1) λk=>.inl k.1
theorem p0:∀c:Cl,Cg a b c→c.2.1=.none→c.1 % 4=2:=λc h e=>by
 rcases h.code with k | k | k
 ·rw [e] at k;exact El.ft k.1
 ·exact k.2.2
 ·rw [e] at k;exact El.ft k.1
theorem p1:∀c:Cl,Cg a b c→c.2.2=.none→c.1 % 4=1:=λc h e=>by
 rcases h.code with k | k | k
 ·exact k.2.2
 ·rw [e] at k;exact El.ft k.2.1
 ·rw [e] at k;exact El.ft k.2.1
theorem Es (J:∀c∈S,Cg a b c) (h0:∀x∈e0,x<0∨Zz x) (W:∀x∈e1,x<0∨Zz x) {sw:List Int}(h:settle (aN (aB S)) (txt (aB S)++e0) (txt (aQ S)++e1)=.some sw):(sw=txt (aB S)++e0∧∀c∈S,c.2.1.isSome=true)∨(sw=txt (aQ S)++e1∧∀c∈S,c.2.2.isSome=true):=by
 unfold settle at h;split at h
 ·rename_i hc;obtain rfl:=dC h;refine .inl ⟨rfl,?_⟩;rcases hc with hc | hc
  ·exact Mm (pr:=gO) (pr':=jM) J (λzz=>.inl rfl) (λzz=>.inr rfl) W 2 1 (by decide) p0 p1 hc
  ·intro c hm;have V:=Er (pr:=jM) J (λzz=>.inr rfl) hc c hm;rcases (J c hm).nR with k | k
   ·exact k
   ·exact absurd k (by refine (?_:¬c.2.2.isSome=true);refine ae (show c.2.2=.none from V) ?_;exact λk=>El.ft k)
 ·split at h
  ·rename_i hc;obtain rfl:=dC h;refine .inr ⟨rfl,λc hm=>?_⟩;have V:=Er (pr:=gO) J (λzz=>.inl rfl) hc c hm;rcases (J c hm).nR with k | k
   ·exact absurd k (by refine (?_:¬c.2.1.isSome=true);refine ae (show c.2.1=.none from V) ?_;exact λk=>El.ft k)
   ·exact k
  ·exact El.ns h
theorem yS (E:List Cl) (G:List Sg):∀l:List Int,flat E (pG l++G)=l.map Kp++flat E G:=@λA=>match A with
 |[]=>rfl
 |x::l=>congrArg (kE _) (yS E G l)
theorem UG.gd (h:UG a U b) (W:Gd b d E) (J:b≤d):Gd a d (flat E (bM U)):=by
 induction h with
 |nil=>exact W
 |@cons a b c S z U V Y Z ih=>
  have:=((Gd.chg V.cg).append (Gd.pair (a:=b) (b:=b) Y) V.le (er _)).append (ih W J) V.le (iT Z.le J);rw [aH] at this;exact this
theorem UG.Et {G:List Sg}(h:UG a U b) (Z:Gd b d (flat E G)) (J:b≤d):Gd a d (flat E (gV G U)):=by
 induction h with
 |nil=>exact Z
 |@cons a b c S z U V h2 W ih=>
  have hr:=(Gd.pair (a:=b) (b:=b) h2).append (ih Z J) (er _) (iT W.le J);cases hs:settle (aN (aB S)) (txt (aB S)) (txt (aQ S)) with
  |some sw=>
   refine ae (md hs) ?_;refine ae (yS ..) ?_;refine Gd.append ?_ hr V.le (iT W.le J);have Y:settle (aN (aB S)) (txt (aB S)++[]) (txt (aQ S)++[])=.some sw:=by refine ae (bt ..) (ae (bt ..) ?_);exact hs
   clear hs;rcases Es (e0:=[]) (e1:=[]) V.cg (λzz h=>El.nm h) (λzz h=>El.nm h) Y with ⟨rfl,k⟩ | ⟨rfl,k⟩
   ·refine ae (bt ..) ?_;exact V.keep (pr:=gO) (λzz=>.inl rfl) k
   ·refine ae (bt ..) ?_;exact V.keep (pr:=jM) (λzz=>.inr rfl) k
  |none=>refine ae (md hs) ?_;exact Gd.append (Gd.chg V.cg) hr V.le (iT W.le J)
theorem Mo {l:List Int}(h:∀x∈l,Zz x):Gd 1000 1001 ((-1::l).map Kp):=by
 refine Gd.keep (bH.mpr ⟨.inl (El.aK (by decide) (by decide) (by decide)),λx hx=>.inr (h x hx)⟩) λA z R e hz=>?_
 cases A with
 |nil=>obtain rfl:(-1:Int)=z:=(wI e).1;exact absurd hz.1 (by decide)
 |cons=>exact .inl (nr _ _)
end
noncomputable def eO:Ent→List Int:=@λA=>match A with
 |.it n=>[n]
 |.cf o zz J=>o
noncomputable def eL:Ent→List Int:=@λA=>match A with
 |.it n=>[n]
 |.cf zz l J=>l
noncomputable def eR:Ent→List Int:=@λA=>match A with
 |.it n=>[n]
 |.cf zz J r=>r
structure iH (E:List Cl) (e0 e1:List Int) (G:List Sg) (t:Res):Prop where
 wk:∀p,wk E e0 e1 p G=([],t.2.1,t.2.2)
 old:aN (aB (flat E G))=t.2.2.flatMap eO
 left:txt (aB (flat E G))++e0=t.2.2.flatMap eL
 right:txt (aQ (flat E G))++e1=t.2.2.flatMap eR
section
variable {E:List Cl}{e0 e1:List Int}{G:List Sg}{t:Res}
theorem iH.keep (h:iH E e0 e1 G t) (C:List Clean) (x:Int):iH E e0 e1 (([],x)::G) (C,t.2.1,.it x::t.2.2):=by
 refine ⟨λp=>?_,?_,?_,?_⟩
 ·show (if _ then _ else _)=_
  exact ae (if_pos rfl ..) (ae (h.wk ..) rfl)
 ·exact congrArg (kE x) h.old
 ·exact congrArg (kE x) h.left
 ·exact congrArg (kE x) h.right
theorem iH.keeps (h:iH E e0 e1 G t) (C:List Clean):∀l:List Int,iH E e0 e1 (pG l++G) (C,t.2.1,l.map .it++t.2.2):=@λA=>match A with
 |[]=>⟨h.wk,h.old,h.left,h.right⟩
 |x::l=>(h.keeps [] l).keep C x
theorem iH.Mp (h:iH E e0 e1 G t) (C:List Clean) {S:List Cl}(z:Int) (J:S≠[]) (V:settle (aN (aB S)) (txt (aB S)) (txt (aQ S))=.none):iH E e0 e1 ((S,z)::G) (C,(mW (aB S),mW (aQ S))::t.2.1,.cf (aN (aB S)) (txt (aB S)) (txt (aQ S))::.it z::t.2.2):=by
 have e:∀pr:Option (List Int)×Option (List Int)→Option (List Int),pr (.none,.none)=.none→txt (cJ pr (S++Kp z::flat E G))=txt (cJ pr S)++z::txt (cJ pr (flat E G)):=λpr W=>by
  unfold cJ;refine ae (bG ..) (ae (pz ..) ?_);refine congrArg _ ?_;refine (?_:(wy (z,pr (.none,.none)):List Int)++_=_);refine ae (W ..) ?_;rfl
 refine ⟨λp=>?_,?_,?_,?_⟩
 ·show (if _ then _ else put _ _ _ _ _ _ _)=_
  refine ae (if_neg J ..) (ae (h.wk ..) ?_);unfold put;exact ae (V ..) rfl
 ·refine (?_:aN (aB (S++Kp z::flat E G))=aN (aB S)++z::_);refine ae (Ej ..) (ae (nP ..) ?_);exact congrArg (λl=>aN (aB S)++z::l) h.old
 ·refine (?_:txt (cJ gO (S++Kp z::flat E G))++e0=txt (aB S)++z::_);refine ae (e gO rfl ..) (ae (aH ..) ?_);exact congrArg (λl=>txt (aB S)++z::l) h.left
 ·refine (?_:txt (cJ jM (S++Kp z::flat E G))++e1=txt (aQ S)++z::_);refine ae (e jM rfl ..) (ae (aH ..) ?_);exact congrArg (λl=>txt (aQ S)++z::l) h.right
theorem Eu {E':List Cl}{J V:List Int}(hE:∀p,iH E' J V G (Pure.wk E e0 e1 p [])):∀(U:List Un) (p:Nat),iH E' J V (gV G U) (Pure.wk E e0 e1 p (bM U)):=@λA B=>match A,B with
 |[],p=>hE p
 |(S,z)::U,p=>by
  have ih:=Eu hE U (p+S.length+1+0+1);have Y:=ih.keep (Pure.wk E e0 e1 (p+S.length+1+0+1) (bM U)).1 z;have hw:Pure.wk E e0 e1 p (bM ((S,z)::U))=if S=[] then _ else put p _ _ _ _ _ _:=rfl;have W:Pure.wk E e0 e1 (p+S.length+1) (([],z)::bM U)=_:=if_pos rfl;rw [hw,W];by_cases Z:S=[]
  ·clear ih hw W;subst Z;rw [if_pos rfl];exact Y.keep _ z
  ·rw [if_neg Z];unfold put;cases hs:settle (aN (aB S)) (txt (aB S)) (txt (aQ S)) with
   |some sw=>refine ae (md hs) ?_;exact (Y.keep _ z).keeps _ sw
   |none=>refine ae (md hs) ?_;exact Y.Mp _ z Z hs
end
structure pH (as bs:List Int) (L:List aX):Prop where
 blocks:iE (λi=>as.getD i 0) (λi=>bs.getD i 0) 0 as.length 0 bs.length L
 len:L.length<63
 pw:L.Pairwise λa b=>a.1<b.1
 join:joined L as.length bs.length=L++[(as.length,bs.length,0)]
 alt:Alt as bs 0 0 ig (gS (joined L as.length bs.length)).2
structure Mg (bs o1 o2:List Int) (L1 L2:List aX) (R:List bj) (n:Nat) (t:Res):Prop where
 one:pH bs o1 L1
 other:pH bs o2 L2
 perm:R.Perm (dj 0 o1 (gS (joined L1 bs.length o1.length)).2++dj 1 o2 (gS (joined L2 bs.length o2.length)).2)
 sort:R.Pairwise λa b=>f9 a<f9 b
 fw:R.length<64
 ok:∀c∈R,gF bs c
 Mq:fv bs n R 0 t.1 t.2.1 t.2.2
noncomputable def gI (cs:List SC):Nat:=(cs.filter λc=>c.2.isSome).length
theorem ru (c:SC) (cs:List SC):gI (c::cs)=gI cs+if c.2.isSome=true then 1 else 0:=by
 unfold gI;refine ae (Xe ..) ?_;split <;> rfl
theorem yT:∀(cs:List SC) (o:Bool) (x y:Nat),(cx o x y cs).length≤gI cs+if o=true then 0 else 1:=@λA B C D=>match A,B,C,D with
 |[],o,x,y=>bh _
 |(a,.none)::cs,o,x,y=>by
  have:=yT cs true (x+1) (y+1);refine (?_:((if o=true then [] else [(x,y,kl cs+1)])++cx true (x+1) (y+1) cs).length≤_);refine ae (aJ ..) (ae (iU ..) ?_);refine gy (az this (dH (ru (a,.none) cs).symm)) ?_;split <;> exact aI _
 |(a,.some w)::cs,o,x,y=>by
  have:=yT cs false (x+1) (y+w.length);exact az this (az (dH (ru (a,.some w) cs).symm) (bc _ _))
theorem uh (s:Nat) (e:List Int):∀(cs:List SC) (o:Bool) (p:Nat),(rws s e o p cs).length≤gI cs+1:=@λA B C=>match A,B,C with
 |[],o,p=>by
  show JX (if _ then _ else _)≤1
  split
  ·exact bh _
  ·exact aI 1
 |(a,.none)::cs,o,p=>by
  refine ae (ru ..) ?_;exact uh s e cs false (p+1)
 |(a,.some w)::cs,o,p=>by
  have:=uh s e cs true (p+1);refine ae (ru ..) ?_;refine (?_:((if o=true then [] else [_])++rws s e true (p+1) cs).length≤gI cs+1+1);refine ae (aJ ..) (ae (iU ..) ?_);refine gy this ?_;split
  ·exact bh _
  ·exact aI 1
theorem Own.side {cs:List SC}{e:List Int}(ho:Own cs e) (J:gI cs<62):pH (aN cs) (txt cs++e) (cx false 0 0 cs):=by
 have V:=yG _ (nN cs false 0 0);have W:∀b∈cx false 0 0 cs,0<b.2.2:=λb Y=>(nQ (e:=e) Y).1;exact ⟨DW ho,cb (yT cs false 0 0) (wC J),(nN cs false 0 0).imp λh=>cb (bc _ _) h.1,yC _ _ W V,(yJ (s:=0) ho).1⟩
theorem Ew {s:Nat}{T:List Int}{os:List Op}{c:bj}(h:c∈dj s T os):c.2.2.2.2.length≤T.length:=by
 refine El.au (Cv.mp h) λo zz ho=>?_;split at ho
 ·exact El.ns ho
 ·clear h;cases ho;exact az (List.length_take_le' _ _) (by refine ae (kD ..) ?_;exact J0 _ _)
theorem Ex {E:List Cl}{G:List Sg}{e0 e1:List Int}(h0:Own (aB (flat E G)) e0) (W:Own (aQ (flat E G)) e1) (hE:∀d∈E,gH d) (hG:∀g∈G,∀c∈g.1,gH c) (Y:gI (aB (flat E G))≤30) (n1:gI (aQ (flat E G))≤30) (nb:(aN (aB (flat E G))).length<1000) (l0:(txt (aB (flat E G))++e0).length<1000) (l1:(txt (aQ (flat E G))++e1).length<1000) :
  ∃L1 L2 R n,Mg (aN (aB (flat E G))) (txt (aB (flat E G))++e0) (txt (aQ (flat E G))++e1) L1 L2 R n (wk E e0 e1 0 G):=by
 refine El.ea (yP (bs:=aN (aB (flat E G))) (e0:=e0) (e1:=e1) hE G [] 0 0 rfl rfl (aI _) hG) λn hm=>?_;rw [i5] at hm;have Z:=W.side (cb n1 (by decide))
 rw [Ec] at Z;have c0:=(yJ (s:=0) h0).2;have c1:=(yJ (s:=1) W).2;rw [Ec] at c1;have J:=D5 e0 e1 (flat E G) false false 0;rw [←c0,←c1] at J;refine ⟨_,_,_,n,h0.side (cb Y (by decide)),Z,J,D9 e0 e1 _ false false 0 ?_,?_,λc hc=>?_,hm⟩
 ·refine ae (cQ ..) (ae (gG ..).symm (ae (eG ..).symm ?_));exact eY nb (by decide)
 ·refine ae (J.length_eq ..) (ae (aJ ..) (ae (c0 ..) (ae (c1 ..) ?_)));exact cb (gy (az (uh _ _ _ _ _) (cY Y)) (az (uh _ _ _ _ _) (cY n1))) (by decide)
 ·refine El.nJ (ub e0 e1 _ _ _ _ c hc) λq1 q2 V q4 q5=>?_;rw [cQ,←gG,←eG] at V;refine El.l8 (Nat.le_one_iff_eq_zero_or_eq_one.mp (ni q4)) (q5.imp_right λk=>.inr k) (az q2 V) V ?_;rcases cF.mp (J.mem_iff.mp hc) with h | h
  ·exact cb (Ew h) l0
  ·exact cb (Ew h) l1
section
variable {a b d:Int}{S E:List Cl}{U:List Un}{e0 e1:List Int}
theorem Wy.Mr {w:List Int}(h:Wy a b w):w.length≤3:=by
 cases h with
 |one=>exact (by decide:1≤3)
 |two=>exact (by decide:2≤3)
 |three=>exact aI 3
theorem Cg.pI {pr:Option (List Int)×Option (List Int)→Option (List Int)}(J:∀c:Cl,pr c.2=c.2.1∨pr c.2=c.2.2) {c:Cl}(h:Cg a b c):(wy (c.1,pr c.2)).length≤3:=by
 cases hw:pr c.2 with
 |none=>exact (by decide:1≤3)
 |some w=>exact (h.way w ((J c).imp (λe=>e.symm.trans hw) λe=>e.symm.trans hw)).Mr
theorem ui {pr:Option (List Int)×Option (List Int)→Option (List Int)}(J:∀c:Cl,pr c.2=c.2.1∨pr c.2=c.2.2) {S:List Cl}(h:∀c∈S,Cg a b c):(txt (cJ pr S)).length≤3*S.length:=by
 induction S with
 |nil=>exact aI _
 |cons c S V=>
  refine (?_:(wy (c.1,pr c.2)++txt (cJ pr S)).length≤3*(S.length+1));refine ae (aJ ..) (ae (iU ..) ?_);exact gy (V λc hc=>h c (.tail _ hc)) ((h c (.head _)).pI J)
noncomputable def cnt (U:List Un) (E:List Cl):Nat:=(U.map λu=>u.1.length+1).sum+E.length
theorem cnt_cons (u:Un) (U:List Un) (E:List Cl):cnt (u::U) E=u.1.length+1+cnt U E:=by unfold cnt;exact ae (eU ..) (ae (nh ..) (ae (eV ..) rfl))
theorem uj {o l r sw:List Int}{n:Nat}(h:settle o l r=.some sw) (hl:l.length≤n) (J:r.length≤n):sw.length≤n:=by
 unfold settle at h;split at h
 ·exact dC h▸hl
 ·split at h
  ·exact dC h▸J
  ·exact El.ns h
end
section
variable {a b d:Int}{S E:List Cl}{U:List Un}{G:List Sg}{e0 e1:List Int}
theorem UG.cg (h:UG a U b):∀u∈U,∀c∈u.1,Cg a b c:=by
 induction h with
 |nil=>exact λzz h=>El.nm h
 |cons J _ V W=>exact bH.mpr ⟨λc hc=>(J.cg c hc).mono (er _) V.le,λu hu c hc=>(W u hu c hc).mono J.le (er _)⟩
set_option tactic.hygienic true in
theorem Ms {f:Ent→List Int}(f1:∀n,(f (.it n)).length=1) (f2:∀o l r n,o.length≤n→l.length≤n→r.length≤n→(f (.cf o l r)).length≤n+1) {m:Nat}(hE:∀c∈E,Cg a b c) (h0:e0.length≤m) (V:e1.length≤m):∀(U:List Un) (p:Nat),(∀u∈U,∀c∈u.1,Cg a b c)→((wk E e0 e1 p (bM U)).2.2.flatMap f).length≤3*cnt U E+m+1:=by
 have fl:∀l:List Int,((l.map Ent.it).flatMap f).length=l.length:=λl=>by
  induction l with
  |nil=>rfl
  |cons x l W=>
   refine ae (eU ..) (ae (ny ..) (ae (aJ ..) (ae (W ..) (ae (f1 ..) (ae (iU ..) ?_)))));rfl
 have hs:∀{S:List Cl}{e0 e1:List Int}{k:Nat}{p:Nat}{W0 W1:List String}{t:Res},(∀c∈S,Cg a b c)→e0.length≤k→e1.length≤k→((put p W0 W1 (aN (aB S)) (txt (aB S)++e0) (txt (aQ S)++e1) t).2.2.flatMap f).length≤3*S.length+k+1+(t.2.2.flatMap f).length:=λ{S e0 e1 k p W0 W1 t} Z h0 V=>by
  have l0:(txt (aB S)++e0).length≤3*S.length+k:=by refine ae (aJ ..) ?_;exact gy (ui (pr:=gO) (λzz=>.inl rfl) Z) h0
  have l1:(txt (aQ S)++e1).length≤3*S.length+k:=by refine ae (aJ ..) ?_;exact gy (ui (pr:=jM) (λzz=>.inr rfl) Z) V
  have lo:(aN (aB S)).length≤3*S.length+k:=by refine ae (eG ..) (ae (gG ..) ?_);exact az (XA _ (by decide)) (bc _ _)
  unfold put;cases h:settle (aN (aB S)) (txt (aB S)++e0) (txt (aQ S)++e1) with
  |some sw=>
   refine ae (lQ ..) (ae (aJ ..) (ae (fl ..) ?_));exact qw (gw (uj h l0 l1)) _
  |none=>
   refine ae (ny ..) (ae (aJ ..) ?_);exact qw (f2 _ _ _ _ lo l0 l1) _
 intro U;induction U with
 |nil=>
  intro p _;show ((if _ then _ else put _ _ _ _ _ _ _:Res).2.2.flatMap f).length≤_
  have ec:cnt [] E=E.length:=cQ _;refine ae (ec ..) ?_;split
  ·exact bh _
  ·exact hs hE h0 V
 |cons u U W=>
  intro p hU;obtain ⟨S,z⟩:=u;have h2:=W (p+S.length+1+0+1) λu hu=>hU u (.tail _ hu);have hw:wk E e0 e1 p (bM ((S,z)::U))=if S=[] then _ else put p _ _ _ _ _ _:=rfl;have Y:wk E e0 e1 (p+S.length+1) (([],z)::bM U)=_:=if_pos rfl;refine ae (hw ..) (ae (Y ..) (ae (cnt_cons ..) ?_));have hz:∀M:List Ent,(((.it z::.it z::M:List Ent)).flatMap f).length=2+(M.flatMap f).length:=λM=>by
   exact ae (ny ..) (ae (ny ..) (ae (aJ ..) (ae (aJ ..) (ae (f1 ..) (ae (eV ..).symm rfl)))))
  have J:3*S.length+0+1+(2+(3*cnt U E+m+1))=3*(S.length+1+cnt U E)+m+1:=by exact (bJ (Lin.ah (.c _ (.c _ (.c _ .z))) .z 1 .z (.a (.a (.a (.m 3 (.v 0)) (.n 0)) (.n 1)) (.a (.n 2) (.a (.a (.m 3 (.v 1)) (.v 2)) (.n 1)))) (.a (.a (.m 3 (.a (.a (.v 0) (.n 1)) (.v 1))) (.v 2)) (.n 1)) rfl) (Lin.ah (.c _ (.c _ (.c _ .z))) .z 1 .z (.a (.a (.m 3 (.a (.a (.v 0) (.n 1)) (.v 1))) (.v 2)) (.n 1)) (.a (.a (.a (.m 3 (.v 0)) (.n 0)) (.n 1)) (.a (.n 2) (.a (.a (.m 3 (.v 1)) (.v 2)) (.n 1)))) rfl))
  split
  ·refine (?_:((.it z::.it z::(wk E e0 e1 _ (bM U)).2.2:List Ent).flatMap f).length≤_);refine ae (hz ..) (ae (J ..).symm ?_);exact az (iV h2 2) (oW _ _)
  ·have:=hs (S:=S) (e0:=[]) (e1:=[]) (k:=0) (p:=p) (W0:=mW (aB S)) (W1:=mW (aQ S)) (t:=((wk E e0 e1 (p+S.length+1+0+1) (bM U)).1,(wk E e0 e1 (p+S.length+1+0+1) (bM U)).2.1,.it z::.it z::(wk E e0 e1 (p+S.length+1+0+1) (bM U)).2.2)) (hU (S,z) (.head _)) (aI _) (aI _);rw [bt,bt] at this;refine az this ?_;refine ae (J ..).symm ?_;refine iV ?_ _;refine (?_:((.it z::.it z::(wk E e0 e1 _ (bM U)).2.2:List Ent).flatMap f).length≤_);refine ae (hz ..) ?_;exact iV h2 2
theorem Mt {E:List Cl}{e0 e1:List Int}:∀(U:List Un) (p:Nat),(wk E e0 e1 p (bM U)).1.length+(wk E e0 e1 p (bM U)).2.1.length≤cnt U E+1:=by
 have hs:∀{p:Nat}{W0 W1:List String}{o l r:List Int}{t:Res},(put p W0 W1 o l r t).1.length+(put p W0 W1 o l r t).2.1.length=t.1.length+t.2.1.length+1:=λ{p W0 W1 o l r t}=>by
  unfold put;cases settle o l r with
  |some sw=>exact Nat.succ_add _ _
  |none=>rfl
 intro U;induction U with
 |nil=>
  intro p;show (if _ then _ else put _ _ _ _ _ _ _:Res).1.length+(if _ then _ else put _ _ _ _ _ _ _:Res).2.1.length≤_
  split
  ·exact bh _
  ·refine ae (hs ..) ?_;exact oW _ _
 |cons u U Y=>
  intro p;obtain ⟨S,z⟩:=u;have W:=Y (p+S.length+1+0+1);have hw:wk E e0 e1 p (bM ((S,z)::U))=if S=[] then _ else put p _ _ _ _ _ _:=rfl;have V:wk E e0 e1 (p+S.length+1) (([],z)::bM U)=_:=if_pos rfl;refine ae (hw ..) (ae (V ..) (ae (cnt_cons ..) ?_));have J:cnt U E+1+1≤S.length+1+cnt U E+1:=by exact (Lin.ah (.c _ (.c _ .z)) .z 1 .z (.a (.a (.v 0) (.n 1)) (.n 1)) (.a (.a (.a (.v 1) (.n 1)) (.v 0)) (.n 1)) rfl)
  split
  ·exact az W (az (gq _) J)
  ·refine ae (hs ..) ?_;exact az (cY W) J
theorem Mu (A B:List SC):gI (A++B)=gI A+gI B:=by unfold gI;exact ae (W9 ..) (ae (aJ ..) rfl)
theorem Ey (A:List SC):gI A≤A.length:=Xa _ _
theorem rx {pr:Option (List Int)×Option (List Int)→Option (List Int)}(J:pr (.none,.none)=.none) (E:List Cl):∀G:List Sg,gI (cJ pr (flat E G))≤(G.map λg=>g.1.length).sum+E.length:=@λA=>match A with
 |[]=>by
  refine ae (show (cJ pr (flat E []))=cJ pr E from rfl) (ae (Xb ..) (ae (List.sum_nil ..) (ae (cQ ..) ?_)));exact az (Ey _) (dH (bK _))
 |g::G=>by
  have V:=rx J E G;have e:cJ pr (flat E (g::G))=cJ pr g.1++(g.2,.none)::cJ pr (flat E G):=by
   unfold cJ;refine (?_:(g.1++Kp g.2::flat E G).map _=_);refine ae (bG ..) (ae (eU ..) ?_);refine (?_:_++(g.2,pr (.none,.none))::_=_);exact ae (J ..) rfl
  refine ae (e ..) (ae (Mu ..) (ae (ru ..) (ae (eU ..) (ae (nh ..) (ae (eV ..) ?_)))));refine gy (az (Ey _) (dH (bK _))) ?_;exact V
theorem Ez:∀U:List Un,((bM U).map λg=>g.1.length).sum+U.length=(U.map λu=>u.1.length+1).sum:=@λA=>match A with
 |[]=>rfl
 |u::U=>by
  have J:=Ez U;refine (?_:u.1.length+(0+((bM U).map λg=>g.1.length).sum)+(U.length+1)=u.1.length+1+(U.map λu=>u.1.length+1).sum);exact (bJ (Lin.ah (.c _ (.c _ (.c _ (.c _ .z)))) .z 1 (.c 1 (.aw (.a (.v 1) (.v 2)) (.v 3)) .z) (.a (.a (.v 0) (.a (.n 0) (.v 1))) (.a (.v 2) (.n 1))) (.a (.a (.v 0) (.n 1)) (.v 3)) rfl J) (Lin.ah (.c _ (.c _ (.c _ (.c _ .z)))) .z 1 (.c 1 (.aw (.v 1) (.a (.v 2) (.v 3))) .z) (.a (.a (.v 0) (.n 1)) (.v 1)) (.a (.a (.v 0) (.a (.n 0) (.v 2))) (.a (.v 3) (.n 1))) rfl (cB J)))
theorem EA (V:(G.map λg=>g.1.length).sum=0):∀U:List Un,((gV G U).map λg=>g.1.length).sum≤(U.map λu=>u.1.length+1).sum:=@λA=>match A with
 |[]=>dH V
 |u::U=>by
  have J:=EA V U;have hk:∀l:List Int,((pG l).map λg=>g.1.length).sum=0:=λl=>by
   induction l with
   |nil=>rfl
   |cons x l J=>
    refine (?_:0+((pG l).map λg=>g.1.length).sum=0);exact ae (J ..) rfl
  refine ae (eU ..) (ae (nh ..) ?_);cases hs:settle (aN (aB u.1)) (txt (aB u.1)) (txt (aQ u.1)) with
  |some sw=>
   refine ae (md hs) ?_;refine ae (bG ..) (ae (List.sum_append ..) (ae (hk ..) (ae (cQ ..) (ae (eU ..) (ae (eU ..) (ae (nh ..) (ae (nh ..) ?_)))))));refine (?_:0+(0+_)≤_);refine ae (cQ ..) (ae (cQ ..) ?_);exact az J (oW _ _)
  |none=>
   refine ae (md hs) ?_;refine ae (eU ..) (ae (eU ..) (ae (nh ..) (ae (nh ..) ?_)));refine (?_:u.1.length+(0+_)≤_);refine ae (cQ ..) ?_;exact gy (gq _) J
theorem EB:∀U:List Un,(flat E (bM U)).length≤2*cnt U E:=@λA=>match A with
 |[]=>by refine ae (show cnt [] E=E.length from cQ _) ?_;exact XA _ (by decide)
 |u::U=>by
  have J:=EB U;refine ae (cnt_cons ..) ?_;refine (?_:(u.1++_::_::flat E (bM U)).length≤_);refine ae (aJ ..) (ae (dA ..) (ae (dA ..) ?_));exact (Lin.ah (.c _ (.c _ (.c _ .z))) .z 1 (.c 1 (.ah (.v 1) (.m 2 (.v 2))) .z) (.a (.v 0) (.a (.a (.v 1) (.n 1)) (.n 1))) (.m 2 (.a (.a (.v 0) (.n 1)) (.v 2))) rfl J)
theorem yU {pr:Option (List Int)×Option (List Int)→Option (List Int)}(V:pr (.none,.none)=.none) (J:∀c:Cl,pr c.2=c.2.1∨pr c.2=c.2.2) (W:∀c∈E,Cg a b c):∀U:List Un,(∀u∈U,∀c∈u.1,Cg a b c)→(txt (cJ pr (flat E (bM U)))).length≤3*cnt U E:=@λA B=>match A,B with
 |[],zz=>by refine ae (show cnt [] E=E.length from cQ _) ?_;exact ui J W
 |u::U,h=>by
  have Y:=yU V J W U λu hu=>h u (.tail _ hu);have Z:=ui J (h u (.head _));refine ae (cnt_cons ..) ?_;refine (?_:(txt (cJ pr (u.1++Kp u.2::Kp u.2::flat E (bM U)))).length≤_);have e:cJ pr (u.1++Kp u.2::Kp u.2::flat E (bM U))=cJ pr u.1++(u.2,.none)::(u.2,.none)::cJ pr (flat E (bM U)):=by
   unfold cJ;refine ae (bG ..) (ae (eU ..) (ae (eU ..) ?_));refine (?_:_++(u.2,pr (.none,.none))::(u.2,pr (.none,.none))::_=_);exact ae (V ..) rfl
  refine ae (e ..) (ae (pz ..) (ae (aJ ..) ?_));refine (?_:_+((txt (cJ pr (flat E (bM U)))).length+1+1)≤_);exact (Lin.ah (.c _ (.c _ (.c _ (.c _ .z)))) .z 1 (.c 1 (.ah (.v 1) (.m 3 (.v 3))) (.c 1 (.ah (.v 0) (.m 3 (.v 2))) .z)) (.a (.v 0) (.a (.a (.v 1) (.n 1)) (.n 1))) (.m 3 (.a (.a (.v 2) (.n 1)) (.v 3))) rfl Y Z)
theorem EC (J:∀u∈U,∀c∈u.1,Cg a b c):∀g∈bM U,∀c∈g.1,gH c:=by
 induction U with
 |nil=>exact λzz h=>El.nm h
 |cons u U V=>exact bH.mpr ⟨λc hc=>(J u (.head _) c hc).nR,bH.mpr ⟨λzz h=>(El.nm h),V λu hu=>J u (.tail _ hu)⟩⟩
theorem Mv (W:∀u∈U,∀c∈u.1,Cg a b c) (Z:∀g∈G,g.1=[]):∀g∈gV G U,∀c∈g.1,gH c:=by
 induction U with
 |nil=>exact λg hg c hc=>by rw [Z g hg] at hc;exact El.nm hc
 |cons u U J=>
  have J:=J λu hu=>W u (.tail _ hu);have hz:∀c∈(([],u.2):Sg).1,gH c:=λzz h=>El.nm h;have Y:∀g∈(([],u.2):Sg)::gV G U,∀c∈g.1,gH c:=bH.mpr ⟨hz,J⟩;cases hs:settle (aN (aB u.1)) (txt (aB u.1)) (txt (aQ u.1)) with
  |some sw=>
   refine ae (md hs) ?_;intro g hg;rcases cF.mp hg with hg | hg
   ·refine El.au (bL.mp hg) λx zz V=>?_;clear hg;subst V;exact λzz h=>El.nm h
   ·rcases cU.mp hg with rfl | hg
    ·exact hz
    ·exact Y g hg
  |none=>
   refine ae (md hs) ?_;exact bH.mpr ⟨λc hc=>(W u (.head _) c hc).nR,Y⟩
end
noncomputable def bX (x:Int):Int:=max 0 (x % 6-2)
noncomputable def c5 (so x:Int):Int:=4*(x / 6 % so)+bX x
noncomputable def f1 (t:Nat):Int:=-2-2*t
noncomputable def f2 (t:Nat):Int:=-3-2*t
noncomputable def pJ (so m:Int):Int:=4*(m / 4 % so)
noncomputable def jV (so:Int) (t:Nat) (m:Int):List Int:=
 if m % 4=0 then [f1 t,pJ so m,f2 t] else if m % 4=1 then [f1 t] else if m % 4=2 then [f2 t,pJ so m,f1 t] else [f1 t,f2 t]
noncomputable def cW (so:Int) (t:Nat) (x:Int):Cl:=(c5 so x,if bX x / 1 % 2=1 then .some (jV so t (x / 6 / 3 / 1)) else .none,if bX x / 2 % 2=1 then .some (jV so t (x / 6 / 3 / 2)) else .none)
noncomputable def cls (so:Int):Nat→List Int→List Cl:=@λA B=>match A,B with
 |zz,[]=>[]
 |t,x::xs=>(if bX x=0 then [cW so t x,cW so t x] else [cW so t x])++cls so (t+1) xs
noncomputable def cM (so:Int):List Int→List Int:=@λA=>match A with
 |[]=>[]
 |x::xs=>(if bX x=0 then [c5 so x,c5 so x] else [])++cM so xs
noncomputable def gU (so:Int):Nat→List Int→List Un×List Cl:=@λA B=>match A,B with
 |zz,[]=>([],[])
 |t,x::xs=>if bX x=0 then (([],c5 so x)::(gU so (t+1) xs).1,(gU so (t+1) xs).2) else
   match (gU so (t+1) xs).1 with
   |[]=>([],cW so t x::(gU so (t+1) xs).2)
   |u::U=>((cW so t x::u.1,u.2)::U,(gU so (t+1) xs).2)
theorem ED (x:Int):bX x=0∨bX x=1∨bX x=2∨bX x=3:=by
 unfold bX;lia
theorem EE {so:Int}{t:Nat}{x:Int}(h:bX x=0):cW so t x=Kp (c5 so x):=by
 unfold cW;refine ae (h ..) ?_;rfl
theorem yV {so x:Int}(hs:0<so) (h:bX x=0):Zz (c5 so x):=by
 unfold c5 Zz;have:=Cf (x / 6) (qt hs);exact ⟨(Lin.aA .z (.c _ (.c _ .z)) 1 (.c 1 (.bW (.n 0) (.v 1)) (.c 4 (.aA (.n 0) (.v 0)) .z)) (.n 0) (.a (.m (4) (.v 0)) (.v 1)) rfl (cB h) this),(by lia)⟩
theorem EF {so m:Int}(hs:0<so):Zz (pJ so m):=by
 unfold pJ Zz;have:=Cf (m / 4) (qt hs);exact ⟨(Lin.aA .z (.c _ .z) 1 (.c 4 (.aA (.n 0) (.v 0)) .z) (.n 0) (.m (4) (.v 0)) rfl this),(by lia)⟩
theorem uk (t:Nat):Fr t (t+1) (f1 t):=by
 unfold Fr uf f1;refine ae (if_neg (by exact (λJ=>(Lin.no (.c _ .z) .z (.c 1 (.bW (.n (.negSucc 0)) (.s (.n (.negSucc 1)) (.m (2) (.o (.v 0))))) .z) rfl (cB J)))) ..) ?_
 exact ⟨(Lin.aM (.c _ .z) .z 1 .z (.s (.n (.negSucc 1)) (.m (2) (.o (.v 0)))) (.n 0) rfl),(by exact ⟨(Lin.aA (.c _ .z) (.c _ .z) 2 (.c 1 (.aM (.s (.n (.negSucc 1)) (.s (.n (.negSucc 1)) (.m (2) (.o (.v 0))))) (.a (.r (.v 0) (2)) (.n 2))) .z) (.o (.v 0)) (.v 0) rfl (Lin.Dz _ _ (by decide))),(Lin.aM (.c _ .z) (.c _ .z) 2 (.c 1 (.aA (.r (.v 0) (2)) (.s (.n (.negSucc 1)) (.s (.n (.negSucc 1)) (.m (2) (.o (.v 0)))))) .z) (.v 0) (.a (.o (.v 0)) (.n 1)) rfl (Lin.Dy _ _ (by decide)))⟩)⟩
theorem yW (t:Nat):Fr t (t+1) (f2 t):=by
 unfold Fr uf f2;refine ae (if_neg (by exact (λJ=>(Lin.no (.c _ .z) .z (.c 1 (.bW (.n (.negSucc 0)) (.s (.n (.negSucc 2)) (.m (2) (.o (.v 0))))) .z) rfl (cB J)))) ..) ?_
 exact ⟨(Lin.aM (.c _ .z) .z 1 .z (.s (.n (.negSucc 2)) (.m (2) (.o (.v 0)))) (.n 0) rfl),(by exact ⟨(Lin.aA (.c _ .z) (.c _ .z) 2 (.c 1 (.aM (.s (.n (.negSucc 1)) (.s (.n (.negSucc 2)) (.m (2) (.o (.v 0))))) (.a (.r (.v 0) (2)) (.n 2))) .z) (.o (.v 0)) (.v 0) rfl (Lin.Dz _ _ (by decide))),(Lin.aM (.c _ .z) (.c _ .z) 2 (.c 1 (.aA (.r (.v 0) (2)) (.s (.n (.negSucc 1)) (.s (.n (.negSucc 2)) (.m (2) (.o (.v 0)))))) .z) (.v 0) (.a (.o (.v 0)) (.n 1)) rfl (Lin.Dy _ _ (by decide)))⟩)⟩
theorem Mw {so m:Int}(t:Nat) (hs:0<so):Wy t (t+1) (jV so t m):=by
 unfold jV;split
 ·exact .three (uk t) (EF hs) (yW t)
 ·split
  ·exact .one (uk t)
  ·split
   ·exact .three (yW t) (EF hs) (uk t)
   ·exact .two (uk t) (yW t)
theorem yX {so:Int}(t:Nat) {x:Int}(hs:0<so) (h:bX x≠0):Cg t (t+1) (cW so t x):=by
 have hm:=Cf (x / 6) (qt hs);have V:c5 so x % 4=bX x∧0≤c5 so x:=by
  unfold c5;rcases ED x with e | e | e | e <;> rw [e] <;> omega
 refine ⟨V.2,?_,λw hw=>?_⟩
 ·refine (?_:((if bX x / 1 % 2=1 then _ else _:Option (List Int)).isSome=true∧(if bX x / 2 % 2=1 then _ else _:Option (List Int))=.none∧c5 so x % 4=1)∨((if bX x / 1 % 2=1 then _ else _:Option (List Int))=.none∧(if bX x / 2 % 2=1 then _ else _:Option (List Int)).isSome=true∧c5 so x % 4=2)∨((if bX x / 1 % 2=1 then _ else _:Option (List Int)).isSome=true∧(if bX x / 2 % 2=1 then _ else _:Option (List Int)).isSome=true∧c5 so x % 4=3));refine ae (V.1 ..) ?_;rcases ED x with e | e | e | e
  ·exact absurd e h
  ·refine ae (e ..) ?_;exact .inl (El.aK rfl rfl rfl)
  ·refine ae (e ..) ?_;exact .inr (.inl (El.aK rfl rfl rfl))
  ·refine ae (e ..) ?_;exact .inr (.inr (El.aK rfl rfl rfl))
 ·have:∃m,w=jV so t m:=by
   rcases hw with hw | hw
   ·replace hw:(if bX x / 1 % 2=1 then .some (jV so t (x / 6 / 3 / 1)) else .none)=XB w:=hw;split at hw
    ·exact ⟨_,(dC hw).symm⟩
    ·exact El.ns hw
   ·replace hw:(if bX x / 2 % 2=1 then .some (jV so t (x / 6 / 3 / 2)) else .none)=XB w:=hw;split at hw
    ·exact ⟨_,(dC hw).symm⟩
    ·exact El.ns hw
  refine El.ea this λm J=>?_;clear this;clear hw;subst J;exact Mw t hs
theorem yY {so x:Int}{xs:List Int}{t:Nat}(h:bX x=0):gU so t (x::xs)=(([],c5 so x)::(gU so (t+1) xs).1,(gU so (t+1) xs).2):=if_pos h
theorem yZ {so x:Int}{xs:List Int}{t:Nat}(h:¬bX x=0) (e:(gU so (t+1) xs).1=[]):gU so t (x::xs)=([],cW so t x::(gU so (t+1) xs).2):=(if_neg h).trans (by rw [e])
theorem y5 {so x:Int}{xs:List Int}{t:Nat}{u:Un}{U:List Un}(h:¬bX x=0) (e:(gU so (t+1) xs).1=u::U):gU so t (x::xs)=((cW so t x::u.1,u.2)::U,(gU so (t+1) xs).2):=(if_neg h).trans (by rw [e])
theorem EG (so:Int):∀(xs:List Int) (t:Nat),flat (gU so t xs).2 (bM (gU so t xs).1)=cls so t xs:=@λA B=>match A,B with
 |[],t=>rfl
 |x::xs,t=>by
  have J:=EG so xs (t+1);show _=(if _ then _ else _:List Cl)++cls so (t+1) xs
  by_cases h:bX x=0
  ·refine ae (yY h) ?_;rw [if_pos h];refine ae (EE h ..) (ae (J ..).symm ?_);rfl
  ·rw [if_neg h];refine ae (J ..).symm ?_;cases e:(gU so (t+1) xs).1 with
   |nil=>
    refine ae (yZ h e) ?_;rfl
   |cons u U=>
    refine ae (y5 h e) ?_;rfl
theorem EH (so:Int):∀(xs:List Int) (t:Nat),cnt (gU so t xs).1 (gU so t xs).2=xs.length:=@λA B=>match A,B with
 |[],t=>rfl
 |x::xs,t=>by
  have J:=EH so xs (t+1);by_cases h:bX x=0
  ·refine ae (yY h) (ae (cnt_cons ..) (ae (J ..) (ae (iU ..) ?_)));rfl
  ·cases e:(gU so (t+1) xs).1 with
   |nil=>
    rw [e] at J;refine ae (yZ h e) ?_;refine (?_:0+((gU so (t+1) xs).2.length+1)=xs.length+1);refine ae (J ..).symm ?_;rfl
   |cons u U=>
    rw [e,cnt_cons] at J;refine ae (y5 h e) ?_;exact ae (cnt_cons ..) (ae (dA ..) (ae (dA ..) (ae (J ..).symm (ae (gp ..) rfl))))
theorem EI {so:Int}(hs:0<so):∀(xs:List Int) (t:Nat),∃b:Int,UG t (gU so t xs).1 b∧SG b (gU so t xs).2 (t+xs.length):=@λA B=>match A,B with
 |[],t=>(El.aD t .nil (.nil (by refine (?_:(t:Int)≤t+0);omega)))
 |x::xs,t=>by
  refine El.au (EI hs xs (t+1)) λb V W=>?_;have e1:((t+1:Nat):Int)=t+1:=rfl;have e2:((t+1:Nat):Int)+(xs.length:Nat)=t+((x::xs).length:Nat):=by refine ae (dA ..) ?_;omega
  rw [e2] at W;have J:(t:Int)≤((t+1:Nat):Int):=by exact (Lin.aA (.c _ .z) .z 1 .z (.o (.v 0)) (.o (.a (.v 0) (.n 1))) rfl)
  by_cases h:bX x=0
  ·refine ae (yY h) ?_;exact El.aD b (.cons (.nil J) (yV hs h) V) W
  ·cases e:(gU so (t+1) xs).1 with
   |nil=>
    rw [e] at V;refine ae (yZ h e) ?_;clear e1 e2 e;cases V;exact El.aD t .nil (.cons J (yX t hs h) W)
   |cons u U=>
    rw [e] at V;refine ae (y5 h e) ?_;clear e1 e2 e;cases V with
    |cons k1 k2 k3=>exact El.aD b (.cons (.cons J (yX t hs h) k1) k2 k3) W
theorem EJ {so:Int}(hs:0<so):∀xs:List Int,(∀z∈cM so xs,Zz z)∧(cM so xs).length≤2*xs.length:=@λA=>match A with
 |[]=>⟨λzz h=>(El.nm h),aI _⟩
 |x::xs=>by
  refine El.aa (EJ hs xs) λJ V=>?_;refine (?_:(∀z∈(if bX x=0 then [c5 so x,c5 so x] else [])++cM so xs,Zz z)∧((if bX x=0 then [c5 so x,c5 so x] else [])++cM so xs).length≤_);split
  ·rename_i h;exact ⟨bH.mpr ⟨yV hs h,bH.mpr ⟨yV hs h,J⟩⟩,cY (cY V)⟩
  ·exact ⟨J,az V (qC 2 (gq _))⟩
inductive En:List Int→Prop
 |nil:En []
 |cons {l:List Int}:(∀x∈l,Zz x)→En (-1::l)
theorem En.mem {e:List Int}(h:En e):∀x∈e,x<0∨Zz x:=by
 cases h with
 |nil=>exact λzz h=>El.nm h
 |cons J=>exact bH.mpr ⟨.inl (by decide),λx hx=>.inr (J x hx)⟩
theorem En.tl {e:List Int}{a b:Int}{cs:List Cl}(h:En e) (hg:Gd a b cs) (J:b≤1000):Tl cs e:=by
 cases h with
 |nil=>exact .nil
 |cons V=>
  refine .cons V λc hc e=>?_;rcases hg.all c hc with ⟨_,k | k⟩ | k
  ·have:=k.2.2;rw [e] at this;exact gn.mpr J this
  ·exact absurd (e▸k.1) (by decide)
  ·exact absurd (e▸k.pos) (by decide)
theorem En.gd {e:List Int}(h:En e):Gd 1000 1001 (e.map Kp):=by
 cases h with
 |nil=>exact Gd.nil
 |cons J=>exact Mo J
theorem EK {a b:Int}{cs:List Cl}{e0 e1:List Int}(h:Gd a b cs) (t0:Tl cs e0) (t1:Tl cs e1):Own (aB cs) e0∧Own (aQ cs) e1:=by
 refine ⟨h.own (pr:=gO) t0 2 rfl (by decide) (λc hc w hw=>⟨.inl hw,λe=>?_⟩) p0,h.own (pr:=jM) t1 1 rfl (by decide) (λc hc w hw=>⟨.inr hw,λe=>?_⟩) p1⟩
 ·rcases hc.code with k | k | k
  ·rw [e] at k;exact absurd k.2.2 (by decide)
  ·rw [show c.2.1=.some w from hw] at k;exact El.sn k.1
  ·rw [e] at k;exact absurd k.2.2 (by decide)
 ·rcases hc.code with k | k | k
  ·rw [show c.2.2=.some w from hw] at k;exact El.sn k.2.1
  ·rw [e] at k;exact absurd k.2.2 (by decide)
  ·rw [e] at k;exact absurd k.2.2 (by decide)
section
variable {b d:Int}{E:List Cl}{U:List Un}{e0 e1:List Int}
theorem Mx (J:SG b E d) (hd:d≤1000) (n0:En e0) (n1:En e1):∃Z V W G,(∀p,iH Z V W G (wk E e0 e1 p []))∧Gd b 1001 (flat Z G)∧(∀g∈G,g.1=[])∧(∀c∈Z,gH c)∧Z.length≤E.length∧((V=[]∧W=[])∨(V=e0∧W=e1∧Z=E∧G=[])):=by
 have base:iH [] [] [] [] ([],[],[]):=⟨λp=>if_pos (El.aK rfl rfl rfl),rfl,rfl,rfl⟩;by_cases h:E=[]∧e0=[]∧e1=[]
 ·refine El.cH h λY dq iG=>?_;clear h;clear J;subst Y;clear n0;subst dq;clear n1;subst iG;refine El.yk [] [] [] [] (λp=>?_) Gd.nil (λzz h=>(El.nm h)) (λzz h=>(El.nm h)) (aI _) (.inl ⟨rfl,rfl⟩);refine ae (show wk [] [] [] p []=([],[],[]) from if_pos (El.aK rfl rfl rfl)) ?_;exact base
 ·have hw:∀p,wk E e0 e1 p []=put p _ _ _ _ _ _:=λp=>if_neg h;cases hs:settle (aN (aB E)) (txt (aB E)++e0) (txt (aQ E)++e1) with
  |some sw=>
   refine El.yk [] [] [] (pG sw++[]) (λp=>?_) ?_ (λg hg=>?_) (λzz h=>(El.nm h)) (bh _) (.inl ⟨rfl,rfl⟩)
   ·refine ae (hw ..) ?_;unfold put;refine ae (hs ..) ?_;exact base.keeps _ sw
   ·refine ae (yS ..) ?_;refine (?_:Gd b 1001 (sw.map Kp++[]));refine ae (bt ..) ?_;rcases Es J.cg n0.mem n1.mem hs with ⟨rfl,k⟩ | ⟨rfl,k⟩
    ·refine ae (bG ..) ?_;exact Gd.append (J.keep (pr:=gO) (λzz=>.inl rfl) k) (n0.gd.mono hd (er _)) J.le (iT hd (by decide))
    ·refine ae (bG ..) ?_;exact Gd.append (J.keep (pr:=jM) (λzz=>.inr rfl) k) (n1.gd.mono hd (er _)) J.le (iT hd (by decide))
   ·rw [bt] at hg;refine El.au (bL.mp hg) λx zz Y=>?_;clear hg;subst Y;rfl
  |none=>
   refine El.yk E e0 e1 [] (λp=>?_) ((Gd.chg J.cg).mono (er _) (iT hd (by decide))) (λzz h=>(El.nm h)) (λc hc=>(J.cg c hc).nR) (aI _) (.inr (El.cy rfl rfl rfl rfl))
   have hp:∀p,put p (eW e0 (aB E)) (eW e1 (aQ E)) (aN (aB E)) (txt (aB E)++e0) (txt (aQ E)++e1) ([],[],[])=([],[(eW e0 (aB E),eW e1 (aQ E))],[.cf (aN (aB E)) (txt (aB E)++e0) (txt (aQ E)++e1)]):=λp=>by unfold put;exact ae (hs ..) rfl
   have EL:∀p,wk E e0 e1 p []=_:=λp=>(hw p).trans (hp p);refine ae (EL ..) ?_;exact ⟨EL,(bt _).symm,(bt _).symm,(bt _).symm⟩
theorem My (hU:UG 0 U b) (W:SG b E d) (hd:d≤1000) (n0:En e0) (n1:En e1) (hc:cnt U E≤25) (l0:e0.length≤51) (l1:e1.length≤51) :
  (∃L1 L2 R n,Mg (aN (aB (flat E (bM U)))) (txt (aB (flat E (bM U)))++e0) (txt (aQ (flat E (bM U)))++e1) L1 L2 R n (wk E e0 e1 0 (bM U)))∧
  (∃L1 L2 R n,Mg ((wk E e0 e1 0 (bM U)).2.2.flatMap eO) ((wk E e0 e1 0 (bM U)).2.2.flatMap eL) ((wk E e0 e1 0 (bM U)).2.2.flatMap eR) L1 L2 R n ([],(wk E e0 e1 0 (bM U)).2.1,(wk E e0 e1 0 (bM U)).2.2))∧
  (aN (aB (flat E (bM U)))).length≤50∧(txt (aB (flat E (bM U)))++e0).length≤126∧(txt (aQ (flat E (bM U)))++e1).length≤126∧
  (∀f:Ent→List Int,(∀n,(f (.it n)).length=1)→(∀o l r n,o.length≤n→l.length≤n→r.length≤n→(f (.cf o l r)).length≤n+1)→((wk E e0 e1 0 (bM U)).2.2.flatMap f).length≤127)∧(wk E e0 e1 0 (bM U)).1.length+(wk E e0 e1 0 (bM U)).2.1.length≤26:=by
 have y6:=λu hu c hc=>(hU.cg u hu c hc).mono (er 0) W.le;have Y:∀c∈E,Cg 0 d c:=λc hc=>(W.cg c hc).mono hU.le (er _);have g1:Gd 0 d (flat E (bM U)):=hU.gd (Gd.chg W.cg) W.le;refine El.aa (EK g1 (n0.tl g1 hd) (n1.tl g1 hd)) λo0 o1=>?_;have q1:(aN (aB (flat E (bM U)))).length≤50:=by
  refine ae (eG ..) (ae (gG ..) ?_);exact az (EB U) (qC 2 hc)
 have q2:(txt (aB (flat E (bM U)))++e0).length≤126:=by
  refine ae (aJ ..) ?_;exact gy (az (yU (pr:=gO) rfl (λzz=>.inl rfl) Y U y6) (qC 3 hc)) l0
 have q3:(txt (aQ (flat E (bM U)))++e1).length≤126:=by
  refine ae (aJ ..) ?_;exact gy (az (yU (pr:=jM) rfl (λzz=>.inr rfl) Y U y6) (qC 3 hc)) l1
 have q4:∀f:Ent→List Int,(∀n,(f (.it n)).length=1)→(∀o l r n,o.length≤n→l.length≤n→r.length≤n→(f (.cf o l r)).length≤n+1)→((wk E e0 e1 0 (bM U)).2.2.flatMap f).length≤127:=λf h1 h2=>az (Ms h1 h2 Y l0 l1 U 0 y6) (cY (qw (qC 3 hc) _));have q5:(wk E e0 e1 0 (bM U)).1.length+(wk E e0 e1 0 (bM U)).2.1.length≤26:=az (Mt U 0) (cY hc);have J:((bM U).map λg=>g.1.length).sum+E.length≤30:=by
  refine az (qw (az (bc _ _) (dH (Ez U))) _) ?_;exact az hc (by decide)
 refine ⟨(Ex o0 o1 (λc hc=>(W.cg c hc).nR) (EC hU.cg) (az (rx (pr:=gO) rfl E _) J) (az (rx (pr:=jM) rfl E _) J) (cb q1 (by decide)) (cb q2 (by decide)) (cb q3 (by decide))),?_,q1,q2,q3,q4,q5⟩
 clear l0 l1 Y g1 o0 o1 q1 q2 q3 q5 J;obtain ⟨E',Mz,MA,G,a1,a2,a3,a4,a5,a6⟩:=Mx W hd n0 n1;have Z:=Eu (E:=E) (e0:=e0) (e1:=e1) a1 U 0;have g2:Gd 0 1001 (flat E' (gV G U)):=hU.Et a2 (iT W.le (iT hd (by decide)))
 have ht:Tl (flat E' (gV G U)) Mz∧Tl (flat E' (gV G U)) MA:=by
  rcases a6 with ⟨rfl,rfl⟩ | ⟨rfl,rfl,rfl,rfl⟩
  ·exact ⟨.nil,.nil⟩
  ·have g3:Gd 0 d (flat E' (gV [] U)):=hU.Et (Gd.chg W.cg) W.le;exact ⟨n0.tl g3 hd,n1.tl g3 hd⟩
 refine El.aa (EK g2 ht.1 ht.2) λEM EN=>?_;have hG:(G.map λg=>g.1.length).sum=0:=by
  clear a1 a2 a6 Z g2 ht EM EN;induction G with
  |nil=>rfl
  |cons g G ih=>refine ae (eU ..) (ae (nh ..) (ae (a3 g (.head _) ..) (ae (ih λg hg=>a3 g (.tail _ hg) ..) ?_)));rfl
 have V:((gV G U).map λg=>g.1.length).sum+E'.length≤30:=az (gy (EA hG U) a5) (az hc (by decide))
 have:=Ex EM EN a4 (Mv hU.cg a3) (az (rx (pr:=gO) rfl E' _) V) (az (rx (pr:=jM) rfl E' _) V)
  (by refine ae (Z.old ..) ?_;exact cb (q4 eO (λzz=>rfl) λzz zz zz zz h zz zz=>gw h) (by decide))
  (by refine ae (Z.left ..) ?_;exact cb (q4 eL (λzz=>rfl) λzz zz zz zz zz h zz=>gw h) (by decide))
  (by refine ae (Z.right ..) ?_;exact cb (q4 eR (λzz=>rfl) λzz zz zz zz zz zz h=>gw h) (by decide))
 rw [Z.old,Z.left,Z.right,Z.wk] at this;exact this
end
noncomputable abbrev Wx:=List String×Nat×Nat
noncomputable def wd (g c:Nat):String:=if g=0 then "insert" else if c=0 then "delete" else "replace"
noncomputable def cN (k:Bool) (n:Nat) (x:Wx):Wx:=if k=false then (x.1,x.2.1+1,x.2.2+n) else if x.2.1+(x.2.2+n) > 0 then (x.1++[wd x.2.1 (x.2.2+n)],0,0) else (x.1,x.2.1,x.2.2+n)
structure WS where
 acc:Res
 old:List Int
 y0:List Int
 y1:List Int
 x0:Wx
 x1:Wx
 pl:Nat
noncomputable def WS.dU (a0 a1:List Int) (s:WS):WS:=
 ⟨match settle s.old (s.y0++a0) (s.y1++a1) with
  |.some sw=>(if s.x0.1=[]∧s.x1.1=[] then s.acc.1 else s.acc.1++[(s.pl-s.old.length,s.x0.1,s.x1.1)],s.acc.2.1,s.acc.2.2++sw.map .it)
  |.none=>(s.acc.1,s.acc.2.1++[(s.x0.1,s.x1.1)],s.acc.2.2++[.cf s.old (s.y0++a0) (s.y1++a1)]),[],[],[],([],s.x0.2),([],s.x1.2),s.pl+1⟩
noncomputable def WS.it (k:Int) (s:WS):WS:={s with acc:=(s.acc.1,s.acc.2.1,s.acc.2.2++[.it k])}
noncomputable def WS.keep (c:Cl) (s:WS):WS:=⟨s.acc,s.old++[c.1],s.y0++wy (c.1,c.2.1),s.y1++wy (c.1,c.2.2),s.x0,s.x1,s.pl+1⟩
noncomputable def WS.fb (k0 k1:Bool) (J n1:Nat) (s:WS):WS:={s with x0:=cN k0 J s.x0,x1:=cN k1 n1 s.x1}
noncomputable def cK (s:WS) (c:Cl):WS:=
 if c.2.1.isNone=true∧c.2.2.isNone=true then ((s.fb true true 0 0).dU [] []).it c.1
 else (s.fb c.2.1.isNone c.2.2.isNone (c.2.1.getD []).length (c.2.2.getD []).length).keep c
noncomputable def jW (e0 e1:List Int) (s:WS):WS:=(s.fb true true e0.length e1.length).dU e0 e1
theorem y7 {n g c:Nat}{w:List String}:cN true n (w,g,c)=if g+(c+n) > 0 then (w++[wd g (c+n)],0,0) else (w,g,c+n):=if_neg λh=>El.tf h
theorem EO {g c:Nat}(hg:0<g) (hc:0<c):wd g c="replace":=(if_neg (lR hg)).trans (if_neg (lR hc))
inductive SW:Bool→Nat→Wx→Prop
 |js {n g c:Nat}:0<g→0<c→SW true (n+1) (c9 n "replace",g,c)
 |cls {n:Nat}:SW false n (c9 n "replace",0,0)
theorem SW.step {o:Bool}{n:Nat}{x:Wx}(h:SW o n x) {c:SC}(hw:∀w,c.2=.some w→w≠[]):SW c.2.isSome (n+new o c) (cN c.2.isNone (c.2.getD []).length x):=by
 obtain ⟨a,w⟩:=c;cases h with
 |@js n g c hg hc=>clear hw;cases w with
  |none=>
   refine (?_:SW false (n+1) (cN true 0 _));refine ae (y7 ..) (ae (if_pos (dT hg (bc _ _)) ..) (ae (EO hg (show 0<c+0 from hc) ..) (ae (J4 ..).symm ?_)));exact .cls
  |some w=>exact .js (sS _) (dT hc (bc _ _))
 |@cls n=>cases w with
  |none=>exact .cls
  |some w=>exact .js (sS _) (by refine (?_:0<0+w.length);refine ae (cQ ..) ?_;exact qy.mpr (hw w rfl))
theorem SW.dU {o:Bool}{n:Nat}{x:Wx}(h:SW o n x) (e:List Int):cN true e.length x=(c9 n "replace"++(if o=true∨e=[] then [] else ["insert"]),0,0):=by
 cases h with
 |@js n g c hg hc=>exact ae (y7 ..) (ae (if_pos (dT hg (bc _ _)) ..) (ae (EO hg (dT hc (bc _ _)) ..) (ae (J4 ..).symm (ae (if_pos (.inl rfl) ..) (ae (bt ..) rfl)))))
 |@cls n=>
  refine ae (y7 ..) (ae (cQ ..) (ae (cQ ..) ?_));cases e with
  |nil=>
   have J:false=true∨([]:List Int)=[]:=.inr rfl;rw [if_pos J,bt];rfl
  |cons f r=>
   have V:¬(false=true∨f::r=[]):=λh=>h.elim (λh=>El.ft h) λh=>El.cn h;rw [if_neg V];rfl
structure nS (acc:Res) (p:Nat) (old A0 A1:List Int) (o0 o1:Bool) (n0 n1:Nat) (s:WS):Prop where
 acc:s.acc=acc
 old:s.old=old
 y0:s.y0=A0
 y1:s.y1=A1
 x0:SW o0 n0 s.x0
 x1:SW o1 n1 s.x1
 pl:s.pl=p
theorem za {acc:Res}:∀(S:List Cl) (p:Nat) (old Y Z:List Int) (V o1:Bool) (W n1:Nat) (s:WS),nS acc p old Y Z V o1 W n1 s→(∀c∈S,gH c∧∀w,c.2.1=.some w∨c.2.2=.some w→w≠[])→
  nS acc (p+S.length) (old++aN (aB S)) (Y++txt (aB S)) (Z++txt (aQ S)) (oc V (aB S)) (oc o1 (aQ S)) (W+ct V (aB S)) (n1+ct o1 (aQ S)) (S.foldl cK s):=@λA B C D F G H J K L M N=>match A,B,C,D,F,G,H,J,K,L,M,N with
 |[],p,old,Y,Z,V,o1,W,n1,s,h,zz=>by
  refine (?_:nS acc p (old++[]) (Y++[]) (Z++[]) V o1 W n1 s);refine ae (bt ..) (ae (bt ..) (ae (bt ..) ?_));exact h
 |c::S,p,old,Y,Z,V,o1,W,n1,s,h,hS=>by
  refine El.aa (hS c (.head _)) λhc hw=>?_;have hn:¬(c.2.1.isNone=true∧c.2.2.isNone=true):=λ⟨k0,k1⟩=>by
   clear hS hw;obtain ⟨x,w0,w1⟩:=c;cases w0 with
   |some=>exact El.ft k0
   |none=>cases w1 with
    |some=>exact El.ft k1
    |none=>exact hc.elim (λh=>El.ft h) λh=>El.ft h
  have h1:nS acc (p+1) (old++[c.1]) (Y++wy (c0 c)) (Z++wy (c1 c)) (c0 c).2.isSome (c1 c).2.isSome (W+new V (c0 c)) (n1+new o1 (c1 c)) (cK s c):=by
   unfold cK;refine ae (if_neg hn ..) ?_;exact ⟨h.acc,congrArg (·++_) h.old,congrArg (·++_) h.y0,congrArg (·++_) h.y1,h.x0.step (c:=c0 c) λw e=>hw w (.inl e),h.x1.step (c:=c1 c) λw e=>hw w (.inr e),congrArg jj h.pl⟩
  have:=za S _ _ _ _ _ _ _ _ _ h1 λc hc=>hS c (.tail _ hc);rw [aH,aH,aH,eV W,eV n1,gp p 1] at this;exact this
noncomputable def fQ (acc:Res) (p:Nat):WS:=⟨acc,[],[],[],([],0,0),([],0,0),p⟩
theorem EP (acc:Res) (p:Nat):nS acc p [] [] [] false false 0 0 (fQ acc p):=⟨rfl,rfl,rfl,rfl,.cls,.cls,rfl⟩
noncomputable def cat (a b:Res):Res:=(a.1++b.1,a.2.1++b.2.1,a.2.2++b.2.2)
theorem nS.dU {acc:Res}{p:Nat}{old J V e0 e1:List Int}{o0 o1:Bool}{n0 n1:Nat}{s:WS}(h:nS acc (p+old.length) old J V o0 o1 n0 n1 s) {W0 W1:List String}(h0:c9 n0 "replace"++(if o0=true∨e0=[] then [] else ["insert"])=W0) (h1:c9 n1 "replace"++(if o1=true∨e1=[] then [] else ["insert"])=W1) :
  (s.fb true true e0.length e1.length).dU e0 e1=fQ (if W0=[]∧W1=[]∧settle old (J++e0) (V++e1)≠.none then (acc.1,acc.2.1,acc.2.2++((settle old (J++e0) (V++e1)).getD []).map .it) else cat acc (put p W0 W1 old (J++e0) (V++e1) ([],[],[]))) (p+old.length+1):=by
 obtain ⟨ac,ol,y0,y1,x0,x1,pl⟩:=s;obtain ⟨q1,q2,q3,q4,Y,Z,q7⟩:=h;dsimp only at q1 q2 q3 q4 Y Z q7;subst q1 q2 q3 q4 q7;have e5:=(Y.dU e0).trans (congrArg (λW=>(W,0,0)) h0);have e6:=(Z.dU e1).trans (congrArg (λW=>(W,0,0)) h1);clear Y Z h0 h1;unfold WS.dU WS.fb fQ;dsimp only;refine ae (e5 ..) (ae (e6 ..) ?_);dsimp only;refine congrArg (λa=>WS.mk a _ _ _ _ _ _) ?_;cases hs:settle ol (y0++e0) (y1++e1) with
 |some sw=>
  dsimp only;by_cases hw:W0=[]∧W1=[]
  ·refine ae (if_pos hw ..) (ae (if_pos (El.aK hw.1 hw.2 (λh=>El.sn h)) ..) ?_);rfl
  ·refine ae (if_neg hw ..) (ae (if_neg λh=>hw ⟨h.1,h.2.1⟩ ..) (ae (Nat.add_sub_cancel ..) ?_));unfold put cat;refine ae (hs ..) ?_;dsimp only;exact ae (bt ..) (ae (bt ..) rfl)
 |none=>
  dsimp only;refine ae (if_neg λh=>h.2.2 rfl ..) ?_;unfold put cat;refine ae (hs ..) ?_;dsimp only;exact ae (bt ..) rfl
noncomputable def ER (c:Cl):Prop:=gH c∧∀w,c.2.1=.some w∨c.2.2=.some w→w≠[]
theorem ES {S:List Cl}(J:∀c∈S,gH c) (h0:mW (aB S)=[]) (V:mW (aQ S)=[]):S=[]:=by
 cases S with
 |nil=>rfl
 |cons c S=>
  have hz:∀(d:SC) (ds:List SC),d.2.isSome=true→mW (d::ds)≠[]:=λd ds hd e=>by
   replace e:c9 ((if d.2.isSome=true∧false=false then 1 else 0)+ct d.2.isSome ds) "replace"=[]:=e;rw [if_pos ⟨hd,rfl⟩,iU,wJ] at e;exact El.cn e
  exact (J c (.head _)).elim (λh=>absurd h0 (hz _ _ h)) λh=>absurd V (hz _ _ h)
theorem um (n:Nat) (o:Bool):c9 n "replace"++(if o=true∨([]:List Int)=[] then [] else ["insert"])=c9 n "replace":=by
 have J:o=true∨([]:List Int)=[]:=.inr rfl;exact ae (if_pos J ..) (ae (bt ..) rfl)
theorem MB (a:Res):cat a ([],[],[])=a:=by
 unfold cat;exact ae (bt ..) (ae (bt ..) (ae (bt ..) rfl))
theorem MC (acc:Res) (p:Nat) (W0 W1:List String) (o l r:List Int) (t:Res):cat (cat acc (put p W0 W1 o l r ([],[],[]))) t=cat acc (put p W0 W1 o l r t):=by
 unfold put cat;cases settle o l r with
 |some sw=>simp only [aH,bt,gv,Cw]
 |none=>simp only [aH,bt,gv,Cw]
theorem ET {E:List Cl}{e0 e1:List Int}(W:∀c∈E,ER c):∀(G:List Sg) (p:Nat) (acc:Res),(∀g∈G,∀c∈g.1,ER c)→(jW e0 e1 ((flat E G).foldl cK (fQ acc p))).acc=cat acc (wk E e0 e1 p G):=@λA B C D=>match A,B,C,D with
 |[],p,acc,zz=>by
  have h:=za E p [] [] [] false false 0 0 _ (EP acc p) W;rw [gv,gv,gv,cQ,cQ] at h;have hl:E.length=(aN (aB E)).length:=by exact ae (eG ..) (ae (gG ..) rfl)
  rw [hl] at h;have J:=h.dU (e0:=e0) (e1:=e1) (W0:=eW e0 (aB E)) (W1:=eW e1 (aQ E)) rfl rfl;have hw:wk E e0 e1 p []=if E=[]∧e0=[]∧e1=[] then ([],[],[]) else _:=rfl;refine (?_:(WS.dU e0 e1 (WS.fb true true e0.length e1.length (E.foldl cK (fQ acc p)))).acc=_);refine ae (J ..) (ae (hw ..) ?_);by_cases hz:E=[]∧e0=[]∧e1=[]
  ·refine El.cH hz λY Z iG=>?_;clear hz;clear W hl J hw;subst Y;subst Z;subst iG;have hc:eW [] (aB [])=[]∧eW [] (aQ [])=[]∧settle (aN (aB [])) (txt (aB [])++[]) (txt (aQ [])++[])≠.none:=(El.aK (um 0 false) (um 0 false) (λh=>El.sn h));have hz:([]:List Cl)=[]∧([]:List Int)=[]∧([]:List Int)=[]:=(El.aK rfl rfl rfl);refine ae (if_pos hc ..) (ae (if_pos hz ..) (ae (MB ..) ?_));refine (?_:(acc.1,acc.2.1,acc.2.2++[])=acc);exact ae (bt ..) rfl
  ·rw [if_neg hz,if_neg λh=>hz ?_]
   ·rfl
   ·refine El.cH h λh0 h1 zz=>?_;clear h;refine El.aa (J5.mp h0) λa0 b0=>?_;refine El.aa (J5.mp h1) λa1 b1=>?_;have he:=ES (λc hc=>(W c hc).1) a0 a1;clear W h hl J hw hz h0 h1 zz a0 a1;subst he;refine El.aK rfl ?_ ?_
    ·cases e0 with
     |nil=>rfl
     |cons=>exact El.cn b0
    ·cases e1 with
     |nil=>rfl
     |cons=>exact El.cn b1
 |(S,k)::G,p,acc,hG=>by
  have hS:=hG (S,k) (.head _);have h:=za S p [] [] [] false false 0 0 _ (EP acc p) hS;rw [gv,gv,gv,cQ,cQ] at h;have hl:S.length=(aN (aB S)).length:=by exact ae (eG ..) (ae (gG ..) rfl)
  have h':=h;rw [hl] at h';have J:=h'.dU (e0:=[]) (e1:=[]) (um _ _) (um _ _);have V:cK (S.foldl cK (fQ acc p)) (Kp k)=((S.foldl cK (fQ acc p)).fb true true 0 0 |>.dU [] []).it k:=if_pos ⟨rfl,rfl⟩;have hf:(flat E ((S,k)::G)).foldl cK (fQ acc p)=(flat E G).foldl cK (cK (S.foldl cK (fQ acc p)) (Kp k)):=by
   refine (?_:(S++Kp k::flat E G).foldl cK _=_);exact ae (List.foldl_append ..) (ae (qx ..) rfl)
  have hw:wk E e0 e1 p ((S,k)::G)=if S=[] then _ else _:=rfl;refine ae (hf ..) (ae (V ..) ?_);rw [show ([]:List Int).length=0 from rfl] at J;refine ae (J ..) (ae (hw ..) (ae (bt ..) (ae (bt ..) (ae (hl ..).symm ?_))));have ih:=λa=>ET (e0:=e0) (e1:=e1) W G (p+S.length+1) a λg hg=>hG g (.tail _ hg);by_cases hz:S=[]
  ·clear hG hS hl h' J V hf hw;subst hz;have hc:mW (aB [])=[]∧mW (aQ [])=[]∧settle (aN (aB [])) (txt (aB [])) (txt (aQ []))≠.none:=(El.aK rfl rfl (λh=>El.sn h));refine ae (if_pos rfl ..) ?_;refine (congrArg (λa=>(jW e0 e1 ((flat E G).foldl cK ((fQ a _).it k))).acc) (if_pos hc)).trans ?_;refine (ih _).trans ?_;refine (?_:(acc.1++_,acc.2.1++_,((acc.2.2++[])++[.it k])++_)=(acc.1++_,acc.2.1++_,acc.2.2++_));refine ae (bt ..) (ae (aH ..) ?_);rfl
  ·refine ae (if_neg hz ..) ?_;have hc:¬(mW (aB S)=[]∧mW (aQ S)=[]∧settle (aN (aB S)) (txt (aB S)) (txt (aQ S))≠.none):=λh=>hz (ES (λc hc=>(hS c hc).1) h.1 h.2.1);refine (congrArg (λa=>(jW e0 e1 ((flat E G).foldl cK ((fQ a _).it k))).acc) (if_neg hc)).trans ?_;refine (ih _).trans ?_;refine JT ?_ (MC _ _ _ _ _ _ _ _);refine Prod.ext rfl (Prod.ext rfl ?_);exact aH ..
noncomputable def gJ (g:String):Prop:=g="replace"∨g="delete"∨g="insert"
theorem MD (g c:Nat):gJ (wd g c):=by
 unfold wd;split
 ·exact .inr (.inr rfl)
 ·split
  ·exact .inr (.inl rfl)
  ·exact .inl rfl
structure gc (s:WS):Prop where
 t0:∀g∈s.x0.1,gJ g
 t1:∀g∈s.x1.1,gJ g
 l0:s.x0.1.length≤s.pl
 l1:s.x1.1.length≤s.pl
 lo:s.old.length≤s.pl
 y0:s.y0.length≤3*s.pl
 y1:s.y1.length≤3*s.pl
 a0:s.acc.1.length≤s.pl
 a1:s.acc.2.1.length≤s.pl
 a2:s.acc.2.2.length+s.y0.length+s.y1.length≤8*s.pl
theorem me {k:Bool}{n:Nat}{x:Wx}(h:∀g∈x.1,gJ g):∀g∈(cN k n x).1,gJ g:=by
 unfold cN;split
 ·exact h
 ·split
  ·exact λg hg=>(cF.mp hg).elim (h g) λhg=>(dk.mp hg)▸MD _ _
  ·exact h
theorem EU {k:Bool}{n:Nat}{x:Wx}:(cN k n x).1.length≤x.1.length+1:=by
 unfold cN;split
 ·exact gq _
 ·split
  ·exact dH aJ
  ·exact gq _
theorem gc.keep {s:WS}{c:Cl}(h:gc s) {k0 k1:Bool}{V n1:Nat}(h0:(wy (c.1,c.2.1)).length≤3) (J:(wy (c.1,c.2.2)).length≤3):gc ((s.fb k0 k1 V n1).keep c):=by
 have a:=h.l0;have b:=h.l1;have d:=h.lo;have e:=h.y0;have f:=h.y1;have g:=h.a2;have e0:(s.y0++wy (c.1,c.2.1)).length=s.y0.length+(wy (c.1,c.2.1)).length:=aJ;have e1:(s.y1++wy (c.1,c.2.2)).length=s.y1.length+(wy (c.1,c.2.2)).length:=aJ;refine ⟨me h.t0,me h.t1,az EU (cY a),az EU (cY b),?_,?_,?_,gw h.a0,gw h.a1,?_⟩
 ·refine (?_:(s.old++[c.1]).length≤s.pl+1);refine ae (aJ ..) ?_;exact cY d
 ·refine (?_:(s.y0++_).length≤3*(s.pl+1));exact (Lin.ah (.c _ (.c _ (.c _ (.c _ .z)))) .z 1 (.c 1 (.ah (.v 2) (.n 3)) (.c 1 (.ah (.v 3) (.m 3 (.v 1))) (.c 1 (.aw (.v 0) (.a (.v 3) (.v 2))) .z))) (.v 0) (.m 3 (.a (.v 1) (.n 1))) rfl h0 e e0)
 ·refine (?_:(s.y1++_).length≤3*(s.pl+1));exact (Lin.ah (.c _ (.c _ (.c _ (.c _ .z)))) .z 1 (.c 1 (.ah (.v 2) (.n 3)) (.c 1 (.ah (.v 3) (.m 3 (.v 1))) (.c 1 (.aw (.v 0) (.a (.v 3) (.v 2))) .z))) (.v 0) (.m 3 (.a (.v 1) (.n 1))) rfl J f e1)
 ·refine (?_:s.acc.2.2.length+(s.y0++_).length+(s.y1++_).length≤8*(s.pl+1));exact (Lin.ah (.c _ (.c _ (.c _ (.c _ (.c _ (.c _ (.c _ (.c _ .z)))))))) .z 1 (.c 1 (.ah (.v 4) (.n 3)) (.c 1 (.ah (.v 5) (.n 3)) (.c 1 (.ah (.a (.a (.v 0) (.v 6)) (.v 7)) (.m 8 (.v 3))) (.c 1 (.aw (.v 1) (.a (.v 6) (.v 4))) (.c 1 (.aw (.v 2) (.a (.v 7) (.v 5))) .z))))) (.a (.a (.v 0) (.v 1)) (.v 2)) (.m 8 (.a (.v 3) (.n 1))) rfl h0 J g e0 e1)
theorem gc.dU {s:WS}(h:gc s) {J n1:Nat}(k:Int):gc (((s.fb true true J n1).dU [] []).it k):=by
 have g:=h.a2;have V:(((s.fb true true J n1).dU [] []).acc.1).length≤s.pl+1∧(((s.fb true true J n1).dU [] []).acc.2.1).length≤s.pl+1∧(((s.fb true true J n1).dU [] []).acc.2.2).length≤8*s.pl+1:=by
  unfold WS.dU WS.fb;dsimp only;refine ae (bt ..) (ae (bt ..) ?_);cases hs:settle s.old s.y0 s.y1 with
  |some sw=>
   have hl:=uj hs (n:=s.y0.length+s.y1.length) (bc _ _) (oW _ _);refine El.aK ?_ (gw h.a1) ?_
   ·dsimp only;split
    ·exact gw h.a0
    ·refine ae (aJ ..) ?_;exact cY h.a0
   ·dsimp only;refine ae (aJ ..) (ae (bK ..) ?_);exact (Lin.ah (.c _ (.c _ (.c _ (.c _ (.c _ .z))))) .z 1 (.c 1 (.ah (.a (.a (.v 0) (.v 3)) (.v 4)) (.m 8 (.v 2))) (.c 1 (.ah (.v 1) (.a (.v 3) (.v 4))) .z)) (.a (.v 0) (.v 1)) (.a (.m 8 (.v 2)) (.n 1)) rfl g hl)
  |none=>
   refine El.aK (gw h.a0) ?_ ?_
   ·dsimp only;refine ae (aJ ..) ?_;exact cY h.a1
   ·dsimp only;refine ae (aJ ..) (ae (oZ ..) ?_);exact (Lin.ah (.c _ (.c _ (.c _ (.c _ .z)))) .z 1 (.c 1 (.ah (.a (.a (.v 0) (.v 2)) (.v 3)) (.m 8 (.v 1))) .z) (.a (.v 0) (.n 1)) (.a (.m 8 (.v 1)) (.n 1)) rfl g)
 refine ⟨λzz h=>(El.nm h),λzz h=>(El.nm h),bh _,bh _,bh _,bh _,bh _,V.1,V.2.1,?_⟩;refine (?_:(_++[Ent.it k]).length+0+0≤8*(s.pl+1));refine ae (aJ ..) (ae (oZ ..) ?_);have:=V.2.2;exact (Lin.ah (.c _ (.c _ .z)) .z 1 (.c 1 (.ah (.v 0) (.a (.m 8 (.v 1)) (.n 1))) .z) (.a (.a (.a (.v 0) (.n 1)) (.n 0)) (.n 0)) (.m 8 (.a (.v 1) (.n 1))) rfl V.2.2)
theorem EV (p:Nat):gc (fQ ([],[],[]) p):=⟨λzz h=>(El.nm h),λzz h=>(El.nm h),bh _,bh _,bh _,bh _,bh _,bh _,bh _,bh _⟩
noncomputable def Lw (k:Int) (o:Option (List Int)):Prop:=∀w,o=.some w→w≠[]∧w.length≤3∧w.drop (w.length-1)≠[k]
theorem EW {a b k:Int}{w:List Int}(h:Wy a b w) (hk:0≤k):w≠[]∧w.length≤3∧w.drop (w.length-1)≠[k]:=by
 have ne:∀{f:Int},Fr a b f→[f]≠[k]:=λh e=>absurd (wI e).1 (Int.ne_of_lt (Xx h.1 hk));cases h with
 |one f=>exact El.aK (λh=>El.cn h) (by decide:1≤3) (ne f)
 |two f g=>exact El.aK (λh=>El.cn h) (by decide:2≤3) (ne g)
 |three f z g=>exact El.aK (λh=>El.cn h) (aI 3) (ne g)
theorem Lw.none {k:Int}:Lw k .none:=λzz h=>El.ns h
theorem ME {so:Int}(hs:0<so) (t:Nat) (x:Int):Lw (cW so t x).1 (cW so t x).2.1∧Lw (cW so t x).1 (cW so t x).2.2:=by
 by_cases h:bX x=0
 ·refine ae (EE h ..) ?_;exact ⟨.none,.none⟩
 ·have g:=yX t hs h;exact ⟨λw e=>EW (g.way w (.inl e)) g.pos,λw e=>EW (g.way w (.inr e)) g.pos⟩
theorem EX {so:Int}(hs:0<so):∀(xs:List Int) (t:Nat),∀c∈cls so t xs,Lw c.1 c.2.1∧Lw c.1 c.2.2:=@λA B=>match A,B with
 |[],zz=>λzz h=>El.nm h
 |x::xs,t=>by
  intro c hc;rcases cF.mp (show c∈(if bX x=0 then [cW so t x,cW so t x] else [cW so t x])++cls so (t+1) xs from hc) with h | h
  ·have e:c=cW so t x:=by
    split at h
    ·clear hc;rcases cU.mp h with h | h
     ·exact h
     ·exact dk.mp h
    ·exact dk.mp h
   exact e▸ME hs t x
  ·exact EX hs xs (t+1) c h
theorem zb (so:Int):∀(xs:List Int) (t:Nat),(cls so t xs).length≤2*xs.length:=@λA B=>match A,B with
 |[],zz=>aI _
 |x::xs,t=>by
  refine (?_:((if bX x=0 then [cW so t x,cW so t x] else [cW so t x])++cls so (t+1) xs).length≤2*(xs.length+1));refine ae (aJ ..) (ae (Nat.mul_add ..) (ae (iU ..) ?_));refine gy (zb so xs (t+1)) ?_;split
  ·exact aI 2
  ·exact (by decide:1≤2)
theorem Lw.pI {k:Int}{o:Option (List Int)}(h:Lw k o):(wy (k,o)).length≤3∧0<(wy (k,o)).length:=by
 cases o with
 |none=>exact ⟨(by decide:1≤3),Nat.zero_lt_one⟩
 |some w=>exact ⟨(h w rfl).2.1,qy.mpr (h w rfl).1⟩
theorem EY {s:WS}{c:Cl}(h:gc s) (h0:Lw c.1 c.2.1) (J:Lw c.1 c.2.2):gc (cK s c):=by
 unfold cK;split
 ·exact h.dU _
 ·exact h.keep h0.pI.1 J.pI.1
theorem MF (s:WS) (c:Cl):(cK s c).pl=s.pl+1:=by
 unfold cK;split
 ·rfl
 ·rfl
noncomputable def i6 (t:Res):Prop:=(∀c∈t.1,(∀g∈c.2.1,gJ g)∧∀g∈c.2.2,gJ g)∧∀c∈t.2.1,(∀g∈c.1,gJ g)∧∀g∈c.2,gJ g
theorem EZ {s:WS}{a0 a1:List Int}(h0:∀g∈s.x0.1,gJ g) (V:∀g∈s.x1.1,gJ g) (J:i6 s.acc):i6 (s.dU a0 a1).acc:=by
 unfold WS.dU;dsimp only;cases settle s.old (s.y0++a0) (s.y1++a1) with
 |some sw=>
  refine ⟨λc hc=>?_,J.2⟩;dsimp only at hc;split at hc
  ·exact J.1 c hc
  ·rcases cF.mp hc with hc | hc
   ·exact J.1 c hc
   ·refine ae (dk.mp hc ..) ?_;exact ⟨h0,V⟩
 |none=>
  refine ⟨J.1,λc hc=>?_⟩;rcases cF.mp hc with hc | hc
  ·exact J.2 c hc
  ·refine ae (dk.mp hc ..) ?_;exact ⟨h0,V⟩
theorem MG {s:WS}{c:Cl}(h:gc s) (J:i6 s.acc):i6 (cK s c).acc:=by
 unfold cK;split
 ·have:=EZ (s:=s.fb true true 0 0) (a0:=[]) (a1:=[]) (me h.t0) (me h.t1) J;exact ⟨this.1,this.2⟩
 ·exact J
theorem E0:∀(cs:List Cl) (s:WS),(∀c∈cs,Lw c.1 c.2.1∧Lw c.1 c.2.2)→gc s→i6 s.acc→gc (cs.foldl cK s)∧i6 (cs.foldl cK s).acc:=@λA B C D F=>match A,B,C,D,F with
 |[],zz,J,h,r=>⟨h,r⟩
 |c::cs,s,hc,h,r=>E0 cs (cK s c) (λc h=>hc c (.tail _ h)) (EY h (hc c (.head _)).1 (hc c (.head _)).2) (MG h r)
theorem MH {e0 e1:List Int}{s:WS}(h:gc s) (J:i6 s.acc):i6 (jW e0 e1 s).acc:=EZ (s:=s.fb true true e0.length e1.length) (me h.t0) (me h.t1) J
theorem E1 {E:List Cl}:∀{G:List Sg},(∀c∈E,c∈flat E G)∧∀g∈G,∀c∈g.1,c∈flat E G:=@λA=>match A with
 |[]=>⟨λzz h=>h,λzz h=>El.nm h⟩
 |g::G=>by
  have J:=E1 (E:=E) (G:=G);refine ⟨λc hc=>bx _ (.tail _ (J.1 c hc)),bH.mpr ⟨λc hc=>bO _ hc,λV hg c hc=>bx _ (.tail _ (J.2 V hg c hc))⟩⟩
structure MI (cs:List Cl) (e0 e1:List Int) (t:Res):Prop where
 lw:∀c∈cs,Lw c.1 c.2.1∧Lw c.1 c.2.2
 one:∃L1 L2 R n,Mg (aN (aB cs)) (txt (aB cs)++e0) (txt (aQ cs)++e1) L1 L2 R n t
 two:∃L1 L2 R n,Mg (t.2.2.flatMap eO) (t.2.2.flatMap eL) (t.2.2.flatMap eR) L1 L2 R n ([],t.2.1,t.2.2)
 walk:(jW e0 e1 (cs.foldl cK (fQ ([],[],[]) 0))).acc=t
 ok:i6 t
 nb:(aN (aB cs)).length≤50
 n1:(txt (aB cs)++e0).length≤126
 n2:(txt (aQ cs)++e1).length≤126
 mO:(t.2.2.flatMap eO).length≤127
 mL:(t.2.2.flatMap eL).length≤127
 mR:(t.2.2.flatMap eR).length≤127
 l1:t.1.length≤26
 l2:t.2.1.length≤26
 l3:t.2.2.length≤127
noncomputable def eZ:Ent→List Int:=@λA=>match A with
 |.it n=>[n]
 |.cf zz J V=>[0]
theorem MJ (l:List Ent):(l.flatMap eZ).length=l.length:=by
 induction l with
 |nil=>rfl
 |cons e l J=>
  refine ae (ny ..) (ae (aJ ..) (ae (J ..) (ae (dA ..) (ae (iU ..) ?_))));cases e with
  |it n=>rfl
  |cf o l r=>rfl
theorem MK {so:Int}(hs:0<so) {xs:List Int}(hx:xs.length≤25) {e0 e1:List Int}(n0:En e0) (n1:En e1) (l0:e0.length≤51) (l1:e1.length≤51):∃t,MI (cls so 0 xs) e0 e1 t:=by
 refine El.au (EI hs xs 0) λb hU hE=>?_;have hc:=EH so xs 0;have V:=EG so xs 0;generalize (gU so 0 xs).1=U at hU hc V;generalize (gU so 0 xs).2=E at hE hc V;have J:=EX hs xs 0;obtain ⟨q1,q2,q3,q4,q5,Y,q7⟩:=My hU hE (by exact (Lin.aA (.c _ .z) .z 1 (.c 1 (.ah (.v 0) (.n 25)) .z) (.a (.o (.n 0)) (.o (.v 0))) (.n 1000) rfl hx)) n0 n1 (by exact (az (dH hc) hx)) l0 l1
 rw [V] at q1 q3 q4 q5;have hm:=E1 (E:=E) (G:=bM U);rw [V] at hm;have hw:∀c∈cls so 0 xs,∀w,c.2.1=.some w∨c.2.2=.some w→w≠[]:=λc hc w h=>h.elim (λh=>((J c hc).1 w h).1) λh=>((J c hc).2 w h).1;have Z:=ET (E:=E) (e0:=e0) (e1:=e1) (λc hc=>⟨(hE.cg c hc).nR,hw c (hm.1 c hc)⟩) (bM U) 0 ([],[],[]) λg hg c hc=>⟨EC hU.cg g hg c hc,hw c (hm.2 g hg c hc)⟩;rw [V] at Z;have W:cat ([],[],[]) (wk E e0 e1 0 (bM U))=wk E e0 e1 0 (bM U):=rfl;rw [W] at Z;have hO:=Y eO (λzz=>rfl) λzz zz zz zz h zz zz=>gw h;have hL:=Y eL (λzz=>rfl) λzz zz zz zz zz h zz=>gw h;have hR:=Y eR (λzz=>rfl) λzz zz zz zz zz zz h=>gw h;have hZ:=Y eZ (λzz=>rfl) λzz zz zz n zz zz zz=>cY (bh n);rw [MJ] at hZ;have hr:=E0 (cls so 0 xs) (fQ ([],[],[]) 0) J (EV 0) ⟨λzz h=>(El.nm h),λzz h=>(El.nm h)⟩;have ho:=MH (e0:=e0) (e1:=e1) hr.1 hr.2;rw [Z] at ho;exact ⟨_,J,q1,q2,Z,ho,q3,q4,q5,hO,hL,hR,az (bc _ _) q7,az (oW _ _) q7,hZ⟩
end Internal.Pure
end
section
open PySem PySem.W PySem.Calls PyProof.Rows
open Mine
namespace Internal.Mine
theorem zd:jk (.builtin "set.__contains__")=pure (.type "method_descriptor"):=by kernel_rfl
theorem ze:jk (.builtin "dict.get")=pure (.type "method_descriptor"):=by kernel_rfl
theorem ML:ik (.type "set") "__contains__"=pure (some (.builtin "set.__contains__")):=by refine ae (kG ..) (ae (kH ..) ?_);kernel_rfl
theorem MM:ik (.type "dict") "get"=pure (some (.builtin "dict.get")):=by refine ae (kG ..) (ae (kH ..) ?_);kernel_rfl
theorem E2:ik (.type "method_descriptor") "__set__"=pure none:=by refine ae (kG ..) (ae (kH ..) ?_);kernel_rfl
theorem E3:ik (.type "method_descriptor") "__delete__"=pure none:=by refine ae (kG ..) (ae (kH ..) ?_);kernel_rfl
theorem pK:Slot "method_descriptor" "__get__" "method_descriptor.__get__":=
 .of (owner:="method_descriptor") (n:="__get__") (by refine ae (kG ..) (ae (kH ..) ?_);kernel_rfl) (by decide +kernel) (by decide +kernel) (by decide +kernel)
  (by first | exact .inl (by decide +kernel) | exact .inr (by decide +kernel)) (by refine ae (lT ..) ?_;kernel_rfl)
theorem E4:wK table "method_descriptor.__get__"=some bZ.«method_descriptor.__get__»:=J6 (by kernel_rfl)
theorem E5 (a b c:af):o4 "method_descriptor.__get__" ⟨[a,b,c],[]⟩:=by unfold o4;kernel_rfl
theorem MN:(".".intercalate ("set.__contains__".cutAt '.').dropLast)="set":=by
 have e0:"set.__contains__".cutAt '.'=["set","__contains__"]:=by first | rfl | decide +kernel
 refine ae (e0 ..) ?_;decide +kernel
theorem MO:(".".intercalate ("dict.get".cutAt '.').dropLast)="dict":=by
 have e0:"dict.get".cutAt '.'=["dict","get"]:=by first | rfl | decide +kernel
 refine ae (e0 ..) ?_;decide +kernel
theorem MP:iW (.type "set") (.type (".".intercalate ("set.__contains__".cutAt '.').dropLast))=pure true:=by refine ae (MN ..) (ae (lT ..) ?_);kernel_rfl
theorem MQ:iW (.type "dict") (.type (".".intercalate ("dict.get".cutAt '.').dropLast))=pure true:=by refine ae (MO ..) (ae (lT ..) ?_);kernel_rfl
section
variable {prog:bT}{w:aR}{A:cD}{E:af→aj→Prop}{h:ar}{g:Array wM}{d:Drawn}{t:Nat}{os:dG}{a:ao}{es:Array (Int×af)}{ds:Array d4}{n:Nat}{st:SetTable}{sl:Array (Option af)}
noncomputable abbrev fR (id:String) (a:ao):ay:={cls:=.type "builtin_function_or_method",data:=.fields #[.builtin id,.ref a]}
theorem MR {R:iX→aj→Prop}(hx:h.get? a=some ⟨.type "set",none,.set es n st,sl⟩) (V:R (.ok (.ret (.ref h.objs.size))) ⟨h.push (fR "set.__contains__" a),g,d,t,os⟩) :
  gz (aO prog w) A (.call (.builtin "method_descriptor.__get__") ⟨[.builtin "set.__contains__",.ref a,.type "set"],[]⟩) R ⟨h,g,d,t,os⟩:=by
 have W:(⟨h,g,d,t,os⟩:aj).TypeIs (.ref a) "set":=(El.aD _ hx rfl);have J:(⟨h,g,d,t,os⟩:aj).TypeIs (.builtin "set.__contains__") "method_descriptor":=zd;have Y:=MP;refine nA pK.plain E4 (pK.check _ _ _ _ _ _ _ _ J (E5 _ _ _) ?_);repeat (any_goals (first | assumption | wp_step))
theorem MS {tk:dS}{Q:wN→aj→Prop}(hx:h.get? a=some ⟨.type "set",none,.set es n st,sl⟩) (V:Q (.done (.ret (.ref h.objs.size))) ⟨h.push (fR "set.__contains__" a),g,d,t,os⟩) :
  aF (aO prog w) A (bZ.«object.__getattribute__» ⟨[.ref a,.str "__contains__" tk],[]⟩) Q E ⟨h,g,d,t,os⟩:=by
 have W:(⟨h,g,d,t,os⟩:aj).TypeIs (.ref a) "set":=(El.aD _ hx rfl);have J:(⟨h,g,d,t,os⟩:aj).TypeIs (.builtin "set.__contains__") "method_descriptor":=zd;have Y:=ML;have Z:=zd;have f6:=pK.lookup;have f7:=E2;have f8:=E3;repeat (any_goals (first | assumption | with_reducible apply MR hx | wp_step))
theorem MT {tk:dS}{R:iX→aj→Prop}(hx:h.get? a=some ⟨.type "set",none,.set es n st,sl⟩) (J:R (.ok (.ret (.ref h.objs.size))) ⟨h.push (fR "set.__contains__" a),g,d,t,os⟩) :
  gz (aO prog w) A (.call (.builtin "set.__getattribute__") ⟨[.ref a,.str "__contains__" tk],[]⟩) R ⟨h,g,d,t,os⟩:=
 nA F.slot_set_getattribute.plain F.entry_set_ga (F.slot_set_getattribute.check _ _ _ _ _ _ _ _ (show (⟨h,g,d,t,os⟩:aj).TypeIs (.ref a) "set" from (El.aD _ hx rfl)) (F.args_set_getattribute_2 _ _) (MS hx J))
theorem MU {Q:af→aj→Prop}(hx:h.get? a=some ⟨.type "set",none,.set es n st,sl⟩) (V:Q (.ref h.objs.size) ⟨h.push (fR "set.__contains__" a),g,d,t+1,os⟩) :
  aF (aO prog w) A (nB (.ref a) "__contains__" true) Q E ⟨h,g,d,t,os⟩:=by
 have W:(⟨h,g,d,t,os⟩:aj).TypeIs (.ref a) "set":=(El.aD _ hx rfl);have J:(⟨h,g,d,t+1,os⟩:aj).TypeIs (.ref a) "set":=(El.aD _ hx rfl);have f2:=F.slot_set_getattribute.lookup;have Y:=F.slot_set_getattribute.bind (.ref a);unfold nB;repeat (any_goals (first | assumption | wp_step))
 refine MT hx ?_;repeat (any_goals (first | assumption | wp_step))
theorem MV {R:iX→aj→Prop}(hx:h.get? a=some ⟨.type "dict",none,.dict ds n,sl⟩) (V:R (.ok (.ret (.ref h.objs.size))) ⟨h.push (fR "dict.get" a),g,d,t,os⟩) :
  gz (aO prog w) A (.call (.builtin "method_descriptor.__get__") ⟨[.builtin "dict.get",.ref a,.type "dict"],[]⟩) R ⟨h,g,d,t,os⟩:=by
 have W:(⟨h,g,d,t,os⟩:aj).TypeIs (.ref a) "dict":=(El.aD _ hx rfl);have J:(⟨h,g,d,t,os⟩:aj).TypeIs (.builtin "dict.get") "method_descriptor":=ze;have Y:=MQ;refine nA pK.plain E4 (pK.check _ _ _ _ _ _ _ _ J (E5 _ _ _) ?_);repeat (any_goals (first | assumption | wp_step))
theorem MW {tk:dS}{Q:wN→aj→Prop}(hx:h.get? a=some ⟨.type "dict",none,.dict ds n,sl⟩) (V:Q (.done (.ret (.ref h.objs.size))) ⟨h.push (fR "dict.get" a),g,d,t,os⟩) :
  aF (aO prog w) A (bZ.«object.__getattribute__» ⟨[.ref a,.str "get" tk],[]⟩) Q E ⟨h,g,d,t,os⟩:=by
 have W:(⟨h,g,d,t,os⟩:aj).TypeIs (.ref a) "dict":=(El.aD _ hx rfl);have J:(⟨h,g,d,t,os⟩:aj).TypeIs (.builtin "dict.get") "method_descriptor":=ze;have Y:=MM;have Z:=ze;have f6:=pK.lookup;have f7:=E2;have f8:=E3;repeat (any_goals (first | assumption | with_reducible apply MV hx | wp_step))
theorem MX {tk:dS}{R:iX→aj→Prop}(hx:h.get? a=some ⟨.type "dict",none,.dict ds n,sl⟩) (J:R (.ok (.ret (.ref h.objs.size))) ⟨h.push (fR "dict.get" a),g,d,t,os⟩) :
  gz (aO prog w) A (.call (.builtin "dict.__getattribute__") ⟨[.ref a,.str "get" tk],[]⟩) R ⟨h,g,d,t,os⟩:=
 nA F.slot_dict_getattribute.plain F.entry_dict_ga (F.slot_dict_getattribute.check _ _ _ _ _ _ _ _ (show (⟨h,g,d,t,os⟩:aj).TypeIs (.ref a) "dict" from (El.aD _ hx rfl)) (F.args_dict_getattribute_2 _ _) (MW hx J))
theorem MY {Q:af→aj→Prop}(hx:h.get? a=some ⟨.type "dict",none,.dict ds n,sl⟩) (V:Q (.ref h.objs.size) ⟨h.push (fR "dict.get" a),g,d,t+1,os⟩) :
  aF (aO prog w) A (nB (.ref a) "get" true) Q E ⟨h,g,d,t,os⟩:=by
 have W:(⟨h,g,d,t,os⟩:aj).TypeIs (.ref a) "dict":=(El.aD _ hx rfl);have J:(⟨h,g,d,t+1,os⟩:aj).TypeIs (.ref a) "dict":=(El.aD _ hx rfl);have f2:=F.slot_dict_getattribute.lookup;have Y:=F.slot_dict_getattribute.bind (.ref a);unfold nB;repeat (any_goals (first | assumption | wp_step))
 refine MX hx ?_;repeat (any_goals (first | assumption | wp_step))
end
noncomputable abbrev fnAt (i j:Nat) (qual:ai) (dV:af) (doc:af) (dQ:af):B8:=jN (fnName (mem i j)) qual (tq (mem i j)) (qU (mem i j)) (pf (mem i j)) dV .none doc (.str "cpy313.difflib" 194) none dQ .none
noncomputable abbrev Kept (h h':ar):Prop:=∀b o,h.get? b=some o→h'.get? b=some o
section
variable {w:aR}{A:cD}{R:iX→aj→Prop}{s:aj}{base:ar}{mg mb:ai→Option af}{means:o5→Option af}{p:bT}{ls:List ai}
theorem enter {K:iS}{prog:bT}{name qual:ai}{params:B7}{body:List cP}{scope:gN}{dV kV doc pm dQ ct oc:af}{an od:Option ao}{mf:Array (Option af)}{f:ao}{Y:Args}{binds:List (ai×af)}(J:List ao)
  (X:K.In base) (T:Top p ls means mg mb base) (kb:Kept base s.heap) (hm:∀a∈J,base.get? a=none)
  (Z:A.depth<sY) (ho:K.lookup f=some ⟨oc,od,.func (jN name qual params body scope dV kV doc pm an dQ ct),mf⟩) (ry:fW K dQ qual=true)
  (MZ:qE s (jN name qual params body scope dV kV doc pm an dQ ct) Y binds) (M3:∀y∈binds,scope.names.lookup y.1=some .local)
  (h:∀L V,K.In (il s.heap J)→Top p ls means mg mb (il s.heap J)→Fr (il s.heap J) L V (λy=>binds.reverse.lookup y)→Kept s.heap V→L=s.heap.objs.size→
   aF (aO prog w) (A.deeper (wO qual scope L f dQ)) (fI body (wO qual scope L f dQ))
    (λfl s'=>R (.ok (.ret (match fl with | .ret v=>v | _=>.none))) s') (λzz zz=>False) {s with heap:=V,toks:=s.toks+binds.length})
  (zf:scope.isCoroutine=false) (zg:scope.isGenerator=false) (hk:scope.kind=.function) (zh:∀x∈scope.names,x.2≠.cell) :
  gz (aO prog w) A (.call (.ref f) Y) R s:=by
 have X':=X.keeps kb;refine XC (fd:=jN name qual params body scope dV kV doc pm an dQ ct) (body:=body) (binds:=binds) Z (X' _ _ ho) rfl (T.nolimit.keeps kb) (codeRec_of X' ry) rfl MZ zh M3 (λV zi W=>?_) zf zg hk;have st:Kept base (il s.heap J):=λb o e=>Cy _ (kb b o e) λq=>by rw [hm b q] at e;cases e
 exact fX (h s.heap.objs.size V (X.keeps st) (T.keeps st) ⟨zi,λb o e=>W b o (of_hideAll _ e),dH (hideAll_size _ _)⟩ W rfl) (λzz zz y=>y) λzz zz y=>y.elim
end
section
variable {prog:bT}{w:aR}{A:cD}{E:af→aj→Prop}{s:aj}{h₀:ar}{L a:ao}{m:ai→Option af}{news:List (ao×ay)}
end
theorem M4 (P:aG):(K P).lookup 196=some ⟨.type "function",none,.func (fnAt 5 6 "SequenceMatcher.find_longest_match" (.ref 189) (dO (mem 5 6) 490) (.ref 195)),#[]⟩:=by kernel_rfl!
theorem M5 (P:aG):fW (K P) (.ref 195) "SequenceMatcher.find_longest_match"=true:=by kernel_rfl!
theorem M6 (P:aG):(K P).lookup 189=some (tB P):=by kernel_rfl!
theorem M7 {s:aj}{P:aG}(X:(K P).In s.heap) (x a b c d:af):qE s (fnAt 5 6 "SequenceMatcher.find_longest_match" (.ref 189) (dO (mem 5 6) 490) (.ref 195)) ⟨[x,a,b,c,d],[]⟩ [(ai.ofString "self",x),(ai.ofString "alo",a),(ai.ofString "ahi",b),(ai.ofString "blo",c),(ai.ofString "bhi",d)]:=
 qE.of_defaults rfl (X _ _ (M6 _)) rfl rfl rfl
noncomputable def uo (id:String):Manifest.Signature:=(Manifest.signature? id).getD ⟨.hand,"","",.none,[]⟩
theorem M8:Manifest.signature? "dict.get"=some (uo "dict.get"):=by kernel_rfl
theorem M9 (f:String) (J:f="dict.get") (a x y:af):Bind.checkArgs "dict.get" {uo "dict.get" with full:=f} ⟨[a,x,y],[]⟩=pure ():=by subst J;kernel_rfl
theorem Na:Manifest.signature? "set.__contains__"=some (uo "set.__contains__"):=by kernel_rfl
theorem Nb:sZ "set.__contains__"=some .method:=by decide +kernel
theorem Nc:Manifest.varargsMethods.contains "set.__contains__"=false:=by decide +kernel
theorem Nd (f:String) (J:f="set.__contains__") (a x:af):Bind.checkArgs "set.__contains__" {uo "set.__contains__" with full:=f} ⟨[a,x],[]⟩=pure ():=by subst J;kernel_rfl
theorem Nf:iW (.type "set") (.type "module")=pure false:=by refine ae (lT ..) ?_;kernel_rfl
theorem Ng:sZ "dict.get"=some .method:=by decide +kernel
theorem Nh:Manifest.varargsMethods.contains "dict.get"=false:=by decide +kernel
theorem Ni:iW (.type "dict") (.type "module")=pure false:=by refine ae (lT ..) ?_;kernel_rfl
theorem Nj:s!"{Bind.lastOf "dict"}.{Bind.lastOf "dict.get"}"="dict.get":=by decide +kernel
section
variable {M:nE}{A:cD}{E:af→aj→Prop}{h:ar}{g:Array wM}{d:Drawn}{t:Nat}{os:dG}{a:ao}{ds:Array d4}{n:Nat}{sl:Array (Option af)}
theorem Nk {x y:af}{Q:Unit→aj→Prop}(hx:h.get? a=some ⟨.type "dict",none,.dict ds n,sl⟩) (J:Q () ⟨h,g,d,t,os⟩):aF M A (wQ "dict.get" ⟨[.ref a,x,y],[]⟩) Q E ⟨h,g,d,t,os⟩:=by
 have V:(⟨h,g,d,t,os⟩:aj).TypeIs (.ref a) "dict":=(El.aD _ hx rfl);have f1:=Ni;have f2:=M9 (s!"{Bind.lastOf "dict"}.{Bind.lastOf "dict.get"}") Nj (.ref a) x y;unfold wQ;refine ae (M8 ..) ?_;dsimp only;refine ae (Ng ..) ?_;dsimp only;refine ae (Nh ..) ?_;repeat (any_goals (first | assumption | wp_step))
theorem Nl:s!"{Bind.lastOf "set"}.{Bind.lastOf "set.__contains__"}"="set.__contains__":=by decide +kernel
theorem Nm {es:Array (Int×af)}{st:SetTable}{x:af}{Q:Unit→aj→Prop}(hx:h.get? a=some ⟨.type "set",none,.set es n st,sl⟩) (J:Q () ⟨h,g,d,t,os⟩):aF M A (wQ "set.__contains__" ⟨[.ref a,x],[]⟩) Q E ⟨h,g,d,t,os⟩:=by
 have V:(⟨h,g,d,t,os⟩:aj).TypeIs (.ref a) "set":=(El.aD _ hx rfl);have f1:=Nf;have f2:=Nd (s!"{Bind.lastOf "set"}.{Bind.lastOf "set.__contains__"}") Nl (.ref a) x;unfold wQ;refine ae (Na ..) ?_;dsimp only;refine ae (Nb ..) ?_;dsimp only;refine ae (Nc ..) ?_;repeat (any_goals (first | assumption | wp_step))
end
section
variable {prog:bT}{w:aR}{A:cD}{E:af→aj→Prop}{s:aj}{a q:ao}
theorem E6 {id:String}{pos:List af}{V:List (ai×af)}{b:bZ}{Q:af→aj→Prop}(Z:s.heap.get? q=some (fR id a)) (W:plainId id=true) (hb:wK table id=some b)
  (hc:∀(P:Unit→aj→Prop) (E':af→aj→Prop) (A':cD),P () s→aF (aO prog w) A' (wQ id ⟨.ref a::pos,V⟩) P E' s)
  (h:aF (aO prog w) A.in1 (b ⟨.ref a::pos,V⟩) (λfin J=>match fin with
   |.done f=>(λr J=>match r with | .ok (.ret v)=>Q v J | .ok _=>False | .error e=>E e J:iX→aj→Prop) (.ok f) J
   |.again Y=>Y.quiet=true∧gz (aO prog w) A Y (λr J=>match r with | .ok (.ret v)=>Q v J | .ok _=>False | .error e=>E e J) J) E s) :
  aF (aO prog w) A (call (.ref q) pos V) Q E s:=by
 refine iY (XD ?_);refine (?_:aF _ A.in1 (Cz (.ref q) ⟨pos,V⟩) _ _ s);refine aC (wpAny_load Z ?_);show aF _ _ (ite (_=true) _ _) _ _ s
 refine ae (if_pos (show (af.type "builtin_function_or_method" == af.type "method" || af.type "builtin_function_or_method" == af.type "builtin_function_or_method" || af.type "builtin_function_or_method" == af.type "method-wrapper")=true by decide) ..) ?_
 show aF _ _ (ite ((af.type "builtin_function_or_method" != af.type "method")=true) _ _) _ _ s
 refine ae (if_pos (by decide) ..) ?_
 refine aC (hc _ _ _ ?_);refine bA ?_;refine ⟨J7 W _,CA hb ?_⟩;refine ae (cD.under_plainId W ..) ?_;exact h
theorem Np {f:Int→Option af}{i:Int}{u:dS}{dflt:af}{Q:af→aj→Prop}(Z:s.heap.get? q=some (fR "dict.get" a)) (hm:s.heap.MapOf (ip prog w) a f) (hd:(a == s6)=false)
  (h:Q ((f i).getD dflt) {s with toks:=s.toks+1}):aF (aO prog w) A (call (.ref q) [.int i u,dflt] []) Q E s:=by
 refine El.fo (id hm) λo es ep ho hc J zz=>?_;obtain ⟨c,od,dt,sl⟩:=o;refine El.cH hc λV W Y=>?_;clear hc;subst V;subst W;subst Y;simp only at J;subst J;refine E6 Z (by decide +kernel) F.entry_dict_get (λP E' A' hP=>?_) ?_
 ·clear Z hm h;obtain ⟨hh,g,dd,t,os⟩:=s;exact Nk ho hP
 ·exact XE (ip prog w) a (s7 prog w i u) hd dflt A (λr s'=>match r with | .ok (.ret v)=>Q v s' | .ok _=>False | .error e=>E e s') s (El.aD f hm h)
theorem Nq {S:Int→Bool}{n:Nat}{i:Int}{u:dS}{Q:af→aj→Prop}(Z:s.heap.get? q=some (fR "set.__contains__" a)) (hm:s.heap.SetOf (ip prog w) a S n)
  (h:Q (.bool (S i)) {s with toks:=s.toks+1}):aF (aO prog w) A (call (.ref q) [.int i u] []) Q E s:=by
 refine El.jR (id hm) λo es ep st ho hc J zz=>?_;obtain ⟨c,od,dt,sl⟩:=o;refine El.cH hc λV W Y=>?_;clear hc;subst V;subst W;subst Y;simp only at J;subst J;refine E6 Z (by decide +kernel) entry_set_contains (λP E' A' hP=>?_) ?_
 ·clear Z hm h;obtain ⟨hh,g,dd,t,os⟩:=s;exact Nm ho hP
 ·unfold bZ.«frozenset.__contains__» bZ.Frozenset.oneOther;simp only [List.isEmpty_nil,bind_assoc];unfold bZ.Frozenset.addrOf bZ.Frozenset.withSetAsKey setContains;refine aC (bA ?_)
  try dsimp only
  refine aC (bA ?_)
  try dsimp only
  refine aC (J8 ?_);refine eM ?_;refine aC ((ip prog w).pyHash (s7 prog w i u) ?_);refine aC (wpAny_setFind_of (s:={s with toks:=s.toks+1}) (s7 prog w i u) rfl hm λr hr=>?_)
  refine bA ?_;refine (?_:aF _ _ (ret (af.bool r.isSome)) _ _ _);refine ae (hr ..) ?_;exact bA h
end
section
variable {prog:bT}{w:aR}{A:cD}{E:af→aj→Prop}{s:aj}{h₀:ar}{L d q:ao}{m:ai→Option af}{news:List (ao×ay)}{f:Int→Option af}
theorem E7 (x:Int):valueAt ([]:List (Int×af)) x=none:=rfl
theorem nU (a:Int) (b:af) (r:List (Int×af)) (x:Int):valueAt ((a,b)::r) x=if a=x then some b else valueAt r x:=by
 unfold valueAt;rw [CB];by_cases h:a=x
 ·simp [h]
 ·simp [h]
theorem E8 (k:Int) (v:af) (x:Int):∀J:List (Int×af),valueAt (J.map λkv=>if kv.1=k then (kv.1,v) else kv) x=if x=k then (valueAt J x).map (λzz=>v) else valueAt J x:=@λA=>match A with
 |[]=>by simp [E7]
 |(a,b)::r=>by
  have V:=E8 k v x r;rw [eU,nU];by_cases W:a=k
  ·subst W;rw [if_pos rfl,nU,V];by_cases hx:a=x
   ·clear V;subst hx;simp
   ·simp [hx]
  ·rw [if_neg W,nU,V];by_cases hx:a=x
   ·clear V;subst hx;simp [W]
   ·simp [hx]
theorem E9 (k:Int) (v:af) (x:Int):∀J:List (Int×af),valueAt (J++[(k,v)]) x=(valueAt J x).or (if k=x then some v else none):=@λA=>match A with
 |[]=>by refine ae (gv ..) (ae (nU ..) (ae (E7 ..) ?_));rfl
 |(a,b)::r=>by
  refine ae (Cw ..) (ae (nU ..) (ae (nU ..) (ae (E9 k v x r ..) ?_)));by_cases hx:a=x
  ·simp [hx]
  ·simp [hx]
theorem Fb (k:Int):∀J:List (Int×af),(J.any λkv=>decide (kv.1=k))=(valueAt J k).isSome:=@λA=>match A with
 |[]=>rfl
 |(a,b)::r=>by
  refine ae (J9 ..) (ae (nU ..) (ae (Fb k r ..) ?_));by_cases hx:a=k
  ·simp [hx]
  ·simp [hx]
theorem Fc (J:List (Int×af)) (k:Int) (v:af) (x:Int):valueAt (stored J k v) x=if x=k then some v else valueAt J x:=by
 unfold stored;refine ae (Fb ..) ?_;cases e:valueAt J k with
 |none=>
  refine ae (XF ..) (ae (if_neg (by simp) ..) (ae (E9 ..) ?_))
  by_cases hx:x=k
  ·subst hx;simp [e]
  ·have V:¬k=x:=λe=>hx e.symm;simp [hx,V]
 |some u=>
  refine ae (Option.isSome_some ..) (ae (if_pos rfl ..) (ae (E8 ..) ?_));by_cases hx:x=k
  ·subst hx;simp [e]
  ·simp [hx]
noncomputable def zj (id:String) (a q:ao) (h:ar):Prop:=h.get? q=some (fR id a)
theorem Nr {M:nE}{id:String}{a q:ao}(h:ar) (X:zj id a q h):∃k,(k=Keeper.frame∨k=Keeper.machine∨k=Keeper.boundFrame)∧bz M h (keeperOf (.ref q)) k:=
 (El.aD .machine (.inr (.inl rfl)) ((bz.ld (part:=none) X).andThen .now))
noncomputable def Nt (I:Nat→aj→Prop) (n:Nat) (s:aj):Prop:=∃m,m<n∧I m s
theorem Nu {W:Expr}{body:List cP}{pos:aE}{env:cL}{Q:eE→aj→Prop}(I:Nat→aj→Prop)
  (turn:∀n s,I n s→aF (aO prog w) A (isTrue W env (dg W env)) (λb Y=>if b=true then aF (aO prog w) A (fI body env) (λf J=>match f with
    |.next | .cont=>Nt I n J
    |.brk=>Q .next J
    |.ret v=>Q (.ret v) J) (λzz zz=>False) Y else Q .next Y) (λzz zz=>False) s)
  (n:Nat) (h:I n s):aF (aO prog w) A (cZ (.While W body [] pos) env) Q E s:=by
 refine wpAny_While (codeAny_whileLoop I (λn s hI=>fX (turn n s hI) (λb Y V=>?_) λzz zz e=>e.elim) n h);cases b with
 |true=>
  rw [if_pos rfl] at V;refine ae (if_pos rfl ..) ?_;refine fX V (λf J Z=>?_) λzz zz e=>e.elim;cases f <;> exact Z
 |false=>
  rw [if_neg (by simp)] at V
  refine ae (if_neg (by simp) ..) ?_
  exact XG V
end
theorem Nv (P:aG):(K P).lookup 135=some (tw P):=by kernel_rfl!
noncomputable abbrev rz:ClassData:={name:="Match",bases:=[(.type "tuple")],mro:=[(.ref 135),(.type "tuple"),(.type "object")],ns:=134,qualname:="Match",hasDict:=false,slotNames:=[],subclasses:=[],abstract:=false,collection:=none,hasDel:=false}
section
variable {P:aG}{h:ar}{M:nE}
theorem rA (X:(K P).In h):h.get? 135=some ⟨.type "type",none,.cls rz,#[(some (.ref 65)),none,(some (.str "Match" 253)),(some (.str "Match" 261)),(some .none),(some (.bool false))]⟩:=X _ _ (Nv P)
theorem Fd (X:(K P).In h):bz M h (Bind.madeBy (.ref 135)) none:=by
 have ho:=rA X;have hm:bz M h (mroOf (.ref 135)) rz.mro:=((bz.ld (part:=none) ho).andThen .now).andThen .now;intro A Q E s k q;unfold Bind.madeBy;refine aC (hm A _ E s k ?_);refine ae (s8 ..) ?_;refine aC (aC (aC (aC (XH (k _ _ ho) (bA ?_)))));exact bA (bA (bA q))
theorem zk:bz M h (Bind.madeBy (.type "tuple")) (some "tuple.__new__"):=bz.of_pure (by kernel_rfl)
theorem Ny:bz M h (bZ.Slots.bestBase [.type "tuple"]) (.type "tuple"):=by
 exact bz.of_pure (by kernel_rfl)
theorem Fe (X:(K P).In h):bz M h (Bind.staticBase (.ref 135)) (.type "tuple"):=by
 have ho:=rA X;have hm:bz M h (mroOf (.ref 135)) rz.mro:=((bz.ld (part:=none) ho).andThen .now).andThen .now;have hc:bz M h (classData 135) rz:=(bz.ld (part:=none) ho).andThen .now;intro A Q E s k q;unfold Bind.staticBase;refine aC (hm A _ E s k ?_);refine ae (s8 ..) ?_;refine aC (aC (aC ((Fd X) A _ E s k ?_)));dsimp only [Option.isSome];refine aC (hc A _ E s k (aC (Ny A _ E s k (bA ?_))));dsimp only;refine ae (s8 ..) ?_;refine aC (aC (zk A _ E s k ?_));dsimp only;exact bA (bA (bA q))
theorem Ff (X:(K P).In h):bz M h (qF (.ref 135)) true:=by
 have ho:=rA X;exact (bz.ld (part:=none) ho).andThen .now
theorem pL (X:(K P).In h):bz M h (iW (.ref 135) (.type "tuple")) true:=Ka X (by kernel_rfl!)
theorem Fg (X:(K P).In h):bz M h (ik (.ref 135) "__init__") (some (.builtin "object.__init__")):=CC X (by kernel_rfl!)
theorem Nz (X:(K P).In h):bz M h (Bind.madeHere "tuple.__new__" (.ref 135)) ():=
 (Fe X).andThen (zk.andThen (bz.of_pure (by simp only [XI,bne_self_eq_false,jO,if_false])))
end
theorem NA:sZ "tuple.__new__"=some .builtinFn:=by decide +kernel
theorem NB:CD "tuple.__new__"=some ("tuple","__new__"):=by decide +kernel
noncomputable def zl:Manifest.Signature:=(Manifest.signature? "tuple.__new__").getD ⟨.hand,"","",.none,[]⟩
theorem NC:Manifest.signature? "tuple.__new__"=some zl:=by kernel_rfl
theorem ND (a b:af):Bind.checkArgs "tuple.__new__" zl ⟨[a,b],[]⟩=pure ():=by kernel_rfl
noncomputable abbrev fy (J:ao) (vs:Array af):ay:={cls:=.ref 135,dict:=some J,data:=.seq vs 0}
section
variable {M:nE}{A:cD}{h:ar}{g:Array wM}{d:Drawn}{t:Nat}{os:dG}{Q:wN→aj→Prop}{E:af→aj→Prop}
theorem NF {c it:af}{a:Args}{e1 e2 e3:fY wN}{D:ay}(a1:bz M h (qF c) true) (a2:bz M h (iW c (.type "tuple")) true) (J:bz M h (Bind.madeHere "tuple.__new__" c) ()) (V:bz M h (ik c "__init__") (some (.builtin "object.__init__"))) (W:noKeywords "tuple" a=pure ())
  (hk:aF M A (do let xs ←collect it;let ys ←pure xs.toArray;let dd ←alloc D;let r ←wR c (.seq ys) (some dd);ret r) Q E ⟨h,g,d,t,os⟩) :
  aF M A (do
   let Y ←qF c
   if Y.not then e1 else
   let Z ←iW c (.type "tuple")
   if Z.not then e2 else
   Bind.madeHere "tuple.__new__" c
   let b3 ←ik c "__init__"
   if b3 == some (.builtin "object.__init__") then do
    noKeywords "tuple" a
    checkCount "tuple" 0 1 1
    let xs ←collect it;let ys ←pure xs.toArray;let dd ←alloc D;let r ←wR c (.seq ys) (some dd);ret r
   else e3) Q E ⟨h,g,d,t,os⟩:=by
 refine aC (a1.at ?_);refine aC (a2.at ?_);refine aC (J.at ?_);refine aC (V.at ?_);refine ae (W ..) ?_;exact hk
theorem NG {it:af}(a1:bz M h (qF (.ref 135)) true) (a2:bz M h (iW (.ref 135) (.type "tuple")) true) (J:bz M h (Bind.madeHere "tuple.__new__" (.ref 135)) ()) (V:bz M h (ik (.ref 135) "__init__") (some (.builtin "object.__init__")))
  (hk:aF M A (do let xs ←collect it;let ys ←pure xs.toArray;let dd ←alloc {cls:=.type "dict",data:=.dict #[]};let r ←wR (.ref 135) (.seq ys) (some dd);ret r) Q E ⟨h,g,d,t,os⟩) :
  aF M A (bZ.«tuple.__new__» ⟨[.ref 135,it],[]⟩) Q E ⟨h,g,d,t,os⟩:=
 NF (a:=⟨[.ref 135,it],[]⟩) a1 a2 J V rfl hk
theorem NH {c:af}{e1 e2:fY Unit}{k:fY Unit}{Q:Unit→aj→Prop}(a1:bz M h (qF c) true) (a2:bz M h (iW c (.type "tuple")) true) (hk:aF M A k Q E ⟨h,g,d,t,os⟩) :
  aF M A (do
   let J ←qF c
   if J.not then e1 else
   let V ←iW c (.type "tuple")
   if V.not then e2 else k) Q E ⟨h,g,d,t,os⟩:=by
 refine aC (a1.at ?_);refine aC (a2.at ?_);exact hk
theorem rB {α:Type}{s:aj}{c:Prop} [Decidable c] {x y:fY α}{Q:α→aj→Prop}(hc:¬c) (h:aF M A y Q E s):aF M A (if c then x else y) Q E s:=by refine ae (if_neg hc ..) ?_;exact h
theorem NI {v:af}{Q:Unit→aj→Prop}(a1:bz M h (qF (.ref 135)) true) (a2:bz M h (iW (.ref 135) (.type "tuple")) true) (J:bz M h (Bind.staticBase (.ref 135)) (.type "tuple")) (hk:Q () ⟨h,g,d,t,os⟩) :
  aF M A (CE "tuple.__new__" ⟨[.ref 135,v],[]⟩) Q E ⟨h,g,d,t,os⟩:=by
 unfold CE;refine ae (NA ..) (ae (NB ..) (ae (NC ..) ?_));refine NH a1 a2 ?_;refine aC (J.at (aC (zk.at ?_)));refine rB (by refine ae (bne_self_eq_false ..) ?_;exact kI) ?_
 refine (?_:aF M A (Bind.checkArgs "tuple.__new__" zl ⟨[.ref 135,v],[]⟩) Q E _);refine ae (ND ..) ?_;exact bA hk
theorem NJ {P:aG}{h₀:ar}{its:Array af}(X:(K P).In h₀) (hk:Kept h₀ h) (hz:its.size≤cE) (J:Q (.done (.ret (.ref (h.objs.size+1)))) ⟨(h.push wU).push (fy h.objs.size its),g,d,t,os⟩) :
  aF M A (do let dd ←alloc {cls:=.type "dict",data:=.dict #[]};let r ←wR (.ref 135) (.seq its.toList.toArray) (some dd);ret r) Q E ⟨h,g,d,t,os⟩:=by
 rw [←ar.size_push h wU] at J;refine aC (nd_alloc (bA (aC ?_)));unfold wR;refine rB (jJ.mpr hz) ?_;refine aC (nd_alloc (bA (aC (aC (XH (ar.get?_push_of_some _ (ar.get?_push_of_some _ (hk _ _ (rA X)))) (bA ?_))))));exact bA (bA J)
end
section
variable {P:aG}{prog:bT}{w:aR}{A:cD}{h:ar}{g:Array wM}{d:Drawn}{t:Nat}{os:dG}
theorem Fh {tp:ao}{its:Array af}{n:Nat}{od:Option ao}{sl:Array (Option af)}{R:iX→aj→Prop}(X:(K P).In h) (J:h.get? tp=some ⟨.type "tuple",od,.seq its n,sl⟩) (hz:its.size≤cE)
  (V:∀h',Kept h h'→R (.ok (.ret (.ref (h'.objs.size+1)))) ⟨(h'.push wU).push (fy h'.objs.size its),g,d,t,os⟩) :
  gz (aO prog w) A (.call (.builtin "tuple.__new__") ⟨[.ref 135,.ref tp],[]⟩) R ⟨h,g,d,t,os⟩:=by
 refine codeAny_call_builtin_code (eT.quiet_builtin _ (by decide +kernel)) (NI (Ff X) (pL X) (Fe X) ?_)
 refine CA F.entry_tuple_new (NG (Ff X) (pL X) (Nz X) (Fg X) ?_);refine aC (wpAny_collect_seq tp (.inr rfl) J rfl rfl (λh' hk=>?_) hz);refine aC (bA ?_);exact NJ X hk hz (V h' hk)
theorem NK (X:(K P).In h):bz (aO prog w) h (o6 (.ref 135) "__call__") (some (.builtin "type.__call__")):=looks_specialIn X (by kernel_rfl!)
theorem NL (X:(K P).In h):bz (aO prog w) h (qG (.ref 135) (.type "type")) true:=looks_instIn X (by kernel_rfl!)
theorem NM (X:(K P).In h):bz (aO prog w) h (iW (.ref 135) (.ref 135)) true:=Ka X (by kernel_rfl!)
theorem NO (X:(K P).In h):bz (aO prog w) h (iW (.ref 135) (.type "object")) true:=Ka X (by kernel_rfl!)
theorem NP (a b c e:af):o4 "object.__init__" ⟨[a,b,c,e],[]⟩:=by unfold o4;kernel_rfl
set_option tactic.hygienic true in
theorem NQ {v1 v2 V:af}{R:iX→aj→Prop}(X:(K P).In h)
  (hg:∀(A':cD) (Q:af→aj→Prop) (E:af→aj→Prop),(∀tk,Q (.ref 82) ⟨h,g,d,tk,os⟩)→aF (aO prog w) A' (nB (.ref 135) "__new__") Q E ⟨h,g,d,t,os⟩)
  (hq:∀tk,gz (aO prog w) (A.under (.builtin "type.__call__" ⟨[.ref 135,v1,v2,V],[]⟩)) (.call (.ref 82) ⟨[.ref 135,v1,v2,V],[]⟩) (λr W=>match r with
   |.ok (.ret (.ref x))=>(∃dx vs,Kept h W.heap∧W.heap.get? x=some (fy dx vs))∧R (.ok (.ret (.ref x))) W
   |.ok zz=>False
   |.error zz=>False) ⟨h,g,d,tk,os⟩) :
  gz (aO prog w) A (.call (.ref 135) ⟨[v1,v2,V],[]⟩) R ⟨h,g,d,t,os⟩:=by
 have hC:=rA X;have call:=NK (prog:=prog) (w:=w) X;have Y:=NL (prog:=prog) (w:=w) X;have made:=Fd (M:=aO prog w) X;refine XD ?_;refine (?_:aF _ _ (Cz (.ref 135) _) _ _ _);refine nd_load hC ?_;refine (?_:aF _ _ (Cz.viaDunder (.ref 135) _) _ _ _);unfold Cz.viaDunder;refine aC (call.at ?_);dsimp only;refine ae (tc_bind ..) ?_;refine aC (bA (aC (bA ?_)));refine bA (a:=PySem.Fin.again (.call (.builtin "type.__call__") ⟨[.ref 135,v1,v2,V],[]⟩)) (av rfl ?_);refine codeAny_call_builtin_at (eT.quiet_builtin _ (by decide +kernel)) entry_typeCall (wV tc_kind tc_split Y (tc_args _ _ _) ?_)
 unfold bZ.«type.__call__»;have hm:bz (aO prog w) h (mroOf (.ref 135)) rz.mro:=((bz.ld (part:=none) hC).andThen .now).andThen .now;refine aC (hm.at ?_);refine aC (made.at ?_);refine aC (hg _ _ _ λtk=>?_);refine aC (eM (iY ?_));refine codeAny_mono (hq tk) λr W z=>?_;rcases r with e | (_ | _ | _ | v) <;> first | exact z.elim | skip
 cases v <;> first | exact z.elim | skip
 rename_i x;refine El.aa z ?_;clear z;intro Z z;obtain ⟨dx,vs,kk,hx⟩:=Z;obtain ⟨hh,g',d',t',YQ⟩:=W;dsimp only at kk hx z;have t1:bz (aO prog w) hh (jk (.ref x)) (.ref 135):=(bz.ld hx).andThen .now;have s1:=(NM (prog:=prog) (w:=w) X).keeps kk;have i1:=(Fg (M:=aO prog w) X).keeps kk;have b1:bz (aO prog w) hh (CF (.builtin "object.__init__") (.ref x)) (.builtin "object.__init__",[.ref x]):=bz.of_pure (oi_bind _);have t2:bz (aO prog w) hh (qG (.ref x) (.type "object")) true:=t1.andThen ((NO (prog:=prog) (w:=w) X).keeps kk);have t3:bz (aO prog w) hh (qG (.ref x) (.ref 135)) true:=t1.andThen s1;refine aC (t3.at ?_);refine aC (eM ?_);unfold callSpecial? o6;refine aC (aC (t1.at (i1.at ?_)));refine eM ?_;refine aC (b1.at ?_);refine aC (iY ?_);refine nA oi_plain entry_oi (@wV (aO prog w) _ _ _ "object.__init__" "object" "__init__" (.ref x) [v1,v2,V] [] _ oi_kind oi_split t2 (NP _ _ _ _) ?_);have J:=made.keeps kk;refine aC (t1.at ?_);refine aC (i1.at ?_);refine aC (J.at ?_);refine rB (by refine ae (bne_self_eq_false ..) ?_;exact kI) (rB (by decide) (bA ?_))
 refine bA (rB (by decide) (bA ?_))
 exact z
end
theorem NR {w:aR}{prog:bT}{A:cD}{E:af→aj→Prop}{s:aj}{h₀:ar}{L tp:ao}{m:ai→Option af}{news:List (ao×ay)}{its:Array af}{Q:af→aj→Prop}{P:aG}(F:Fr h₀ L s.heap m) (N:aW h₀ L s.heap news) (X:(K P).In h₀)
  (Z:(tp,(⟨.type "tuple",none,.seq its 0,#[]⟩:ay))∈news) (hz:its.size≤cE)
  (h:∀x dx h',Fr h₀ L h' m→aW h₀ L h' ((x,fy dx its)::news)→(∀p∈news,p.1<x)→Q (.ref x) {s with heap:=h'}) :
  aF (aO prog w) A (call (.builtin "tuple.__new__") [.ref 135,.ref tp] []) Q E s:=by
 obtain ⟨hh,g,d,t,os⟩:=s;refine iY (Fh (X.keeps F.keep) (N _ Z).1 hz λh' hk=>?_);dsimp only at F N hk;have V:Fr h₀ L h' m:=⟨F.ns.keeps hk,λb o e=>hk _ _ (F.keep b o e),F.above⟩;have W:aW h₀ L h' news:=λp J=>⟨hk _ _ (N p J).1,(N p J).2⟩;have Y:=(W.push V wU).push (V.push _) (fy h'.objs.size its);rw [ar.size_push] at Y;exact h _ _ _ ((V.push _).push _) (λp J=>Y p (by
  rcases cU.mp J with rfl | J
  ·exact .head _
  ·exact .tail _ (.tail _ J))) λp J=>qz (ar.lt_size (W p J).1)
theorem NS (P:aG):(K P).lookup 82=some ⟨.type "function",none,.func (fnAt 3 4 "Match.__new__" .none (dO (mem 3 4) 283) (.ref 81)),#[]⟩:=by kernel_rfl!
theorem NT (P:aG):fW (K P) (.ref 81) "Match.__new__"=true:=by kernel_rfl!
theorem NU (c v1 v2 J:af):gP (fnAt 3 4 "Match.__new__" .none (dO (mem 3 4) 283) (.ref 81)) ⟨[c,v1,v2,J],[]⟩=pure [(ai.ofString "_cls",c),(ai.ofString "a",v1),(ai.ofString "b",v2),(ai.ofString "size",J)]:=by kernel_rfl!
theorem NV (c v1 v2 J:af):([(ai.ofString "_cls",c),(ai.ofString "a",v1),(ai.ofString "b",v2),(ai.ofString "size",J)].all λx=>decide ((pf (mem 3 4)).names.lookup x.1=some .local))=true:=by kernel_rfl!
theorem meta_tuple:jk (.type "tuple")=pure (.type "type"):=by kernel_rfl
theorem Fi (P:aG):findCls (K P) (.type "tuple") (.type "type") "__new__"=some (.val (.builtin "tuple.__new__")):=by kernel_rfl!
theorem NW {w:aR}{mg mb:ai→Option af}{means:o5→Option af}{dp un:Nat}{fr:Option (List cL)}{gu:Option (List eT)}{s:aj}{base:ar}{R:iX→aj→Prop}{v1 v2 v3:af}
  (T:Top q (jP q loose) means mg mb base) (kb:Kept base s.heap) (V:dp<sY)
  (hR:∀x dx h' tk,Kept s.heap h'→s.heap.get? x=none→h'.get? x=some (fy dx #[v1,v2,v3])→R (.ok (.ret (.ref x))) {s with heap:=h',toks:=tk}) :
  (K w.params).In base→qH.prog=pw→gz (aO pw w) (cD.mk none dp fr gu un) (.call (.ref 82) ⟨[.ref 135,v1,v2,v3],[]⟩) R s:=by
 k_fill
 intro W _;refine enter [] W T kb (λzz h=>El.nm h) V (NS _) (NT _) (.of_eq (NU _ _ _ _)) (locs (NV _ _ _ _)) ?_ (by kernel_rfl!) (by kernel_rfl!) (by kernel_rfl!) (by decide +kernel)
 intro L Y X' T' F' k₁ hL;have N':aW (il s.heap []) L Y []:=aW.nil;dsimp only [il] at X' T' F' N'
 k_steps
 with_reducible refine' method_type ?k0 ?k1 meta_tuple ?k2 (Fi _) ?k3 ?_
 case k0=>k_asm
 case k1=>k_asm
 case k2=>decide +kernel
 case k3=>k_handed
 k_steps
 with_reducible refine' NR ?k0 ?k1 ?k2 ?k3 ?k4 ?_
 case k0=>k_asm
 case k1=>k_asm
 case k2=>k_asm
 case k3=>k_mem
 case k4=>size_fits
 intro x' NX h' Z J l1
 k_steps
 exact hR _ _ _ _ Z.keep (J _ (.head _)).2.2 (J _ (.head _)).1
theorem NY (v1 v2 J:af):(eT.builtin "type.__call__" ⟨[.ref 135,v1,v2,J],[]⟩).weight=1:=by kernel_rfl
theorem NZ (P:aG):typeIn (K P) (.ref 135)=some (.type "type"):=by kernel_rfl!
theorem N4 (P:aG):readsIn (K P) 135 (.type "type")=true:=by kernel_rfl!
theorem N5 (P:aG):findCls (K P) (.ref 135) (.type "type") "__new__"=some (.get (.builtin "staticmethod.__get__") (.ref 136) .none (.ref 135)):=by kernel_rfl!
theorem N6 (P:aG):recIn (K P) 136 "staticmethod"=some [.ref 82]:=by kernel_rfl!
noncomputable def SeqAt (h:ar) (t:ao) (items:Array af):Prop:=∃o n,h.get? t=some o∧o.data=.seq items n
theorem SeqAt.extBut {h h':ar}{a b:ao}{items:Array af}(x:SeqAt h a items) (hs:ar.ExtBut b h h') (J:a≠b):SeqAt h' a items:=let ⟨o,n,ho,r⟩:=x;(El.fM o n (hs a o J ho) r)
theorem SeqAt.push {h:ar}{a:ao}{items:Array af}(x:SeqAt h a items) (J:ay):SeqAt (h.push J) a items:=let ⟨o,n,ho,r⟩:=x;(El.fM o n (ar.get?_push_of_some _ ho) r)
section
variable {prog:bT}{w:aR}{A:cD}{E:af→aj→Prop}{s:aj}{P:aG}
theorem N7 {it t:ao}{i:Nat}{items:Array af}{x:af}{Q:Option af→aj→Prop}(J:wW s.heap it t i) (Y:SeqAt s.heap t items) (hx:items[i]? = some x)
  (Z:∀h',wW h' it t (i+1)→ar.SameBut it s.heap h'→Q (some x) {s with heap:=h'}):aF (aO prog w) A (kJ (.ref it)) Q E s:=by
 refine El.dI (id J) λo ho hc hd=>?_;refine El.dP Y λol nl V W=>?_;clear Y;unfold kJ;refine aC (CG (CH (name:=ai.ofString "__next__") J.typeIs wX
  (qI wX J.typeIs XJ ?_ (XK _))))
 refine (?_:aF _ _ (qJ (.ref it) 0>>=_) _ _ s);refine aC (qK ho hd (x:=.ref t) rfl ?_);refine (?_:aF _ _ (if (af.ref t == af.none)=true then _ else _) _ _ s);refine ae (if_neg (show ¬((af.ref t == af.none)=true) from kI) ..) ?_;refine (?_:aF _ _ (qJ (.ref it) 1>>=_) _ _ s);refine aC (qK ho hd (x:=.int i 0) rfl ?_);refine (?_:aF _ _ (seqItems? (.ref t)>>=_) _ _ s);refine aC (wY V W ?_);simp only [jK,hx];refine aC (XM ho hd (by simp) (bA (El.aD x rfl (bA (Z _ ?_ (ar.SameBut.update ..))))))
 exact El.ey _ (ar.get?_update_self _ ho (ay.isFreed_of_fields (ay.data_mapFields hd _))) ((ay.cls_mapFields ..).trans hc) (by
  refine ae (ay.data_mapFields hd ..) ?_;simp [wZ])
theorem Fj {it t:ao}{items:Array af}(jq:t≠it):∀(n i:Nat) (s:aj) (Q:List af→aj→Prop),wW s.heap it t i→SeqAt s.heap t items→i+n≤items.size→
  (∀h',wW h' it t (i+n)→ar.SameBut it s.heap h'→Q ((items.toList.drop i).take n) {s with heap:=h'})→aF (aO prog w) A (draw (.ref it) n) Q E s:=@λB C D F G H J K=>match B,C,D,F,G,H,J,K with
 |0,i,s,Q,Z,zz,zy,hQ=>by
  refine (?_:aF _ _ (pure []) Q E s);exact bA (by simpa using hQ s.heap Z (ar.SameBut.refl ..))
 |n+1,i,s,Q,Z,ht,hle,hQ=>by
  have fN:i<items.size:=by lia
  refine (?_:aF _ _ (kJ (.ref it)>>=_) Q E s);refine aC (N7 Z ht (x:=items[i]) (by simp [fN]) λFm W V=>?_)
  refine aC (eM (Fj jq n (i+1) _ _ W (ht.extBut V.extBut jq) (by lia) λzm Y N8=>bA ?_))
  have hd:items.toList.drop i=items[i]::items.toList.drop (i+1):=by simp [XN,fN]
  have:=hQ zm (by refine ae (show i+(n+1)=i+1+n by lia) ?_;exact Y) (V.trans N8)
  rw [hd,List.take_succ_cons] at this;exact this
theorem Fo {h:ar}(X:(K P).In h):bz (aO prog w) h (ik (.ref 135) "__iter__") (some (.builtin "tuple.__iter__")):=CC X (by kernel_rfl!)
theorem N9:sZ "tuple.__iter__"=some .slot:=by decide +kernel
theorem Oa:CD "tuple.__iter__"=some ("tuple","__iter__"):=by decide +kernel
theorem iterM {y dy:ao}{its:Array af}{Q:af→aj→Prop}(X:(K P).In s.heap) (hy:s.heap.get? y=some (fy dy its))
  (Y:Q (.ref s.heap.objs.size) {s with heap:=s.heap.push {cls:=.type "tuple_iterator",data:=.fields #[.ref y,.int 0 0]}}) :
  aF (aO prog w) A (nF (.ref y)) Q E s:=by
 obtain ⟨h,g,d,t,os⟩:=s;dsimp only at X hy Y;have t1:bz (aO prog w) h (jk (.ref y)) (.ref 135):=(bz.ld hy).andThen .now;have t2:bz (aO prog w) h (qG (.ref y) (.type "tuple")) true:=t1.andThen (pL X);have i1:=Fo (prog:=prog) (w:=w) X;have b1:CF (.builtin "tuple.__iter__") (.ref y)=pure (.builtin "tuple.__iter__",[.ref y]):=XO.bind _;unfold nF o6 callSpecialIfBoundUnlessNone? XQ o6;repeat lk
 refine ae (b1 ..) ?_;have fin:∀(V:af→aj→Prop) (W:af→aj→Prop),V (.ref h.objs.size) ⟨h.push {cls:=.type "tuple_iterator",data:=.fields #[.ref y,.int 0 0]},g,d,t,os⟩→aF (aO prog w) A (call (.builtin "tuple.__iter__") [.ref y]) V W ⟨h,g,d,t,os⟩:=by
  intro V W Z;refine iY (nA XO.plain entry_tuple_iter (wV N9 Oa t2 (args_tuple_iter _) ?_));refine (?_:aF _ _ (do ret (←newFields "tuple_iterator" [.ref y,wZ 0])) _ _ _)
  exact aC (CI (bA Z))
 have J:∀(V:Option af→aj→Prop) (W:af→aj→Prop),V (some (.ref h.objs.size)) ⟨h.push {cls:=.type "tuple_iterator",data:=.fields #[.ref y,.int 0 0]},g,d,t,os⟩→
   aF (aO prog w) A (if (af.builtin "tuple.__iter__" == af.none)=true then (do let r ←(do rule "iter.none";raiseError "TypeError" s!"'{← typeNameOf (.ref y)}' object is not iterable":fY af);pure (some r)) else (do let r ←call (.builtin "tuple.__iter__") [.ref y];pure (some r))) V W ⟨h,g,d,t,os⟩:=by
  intro V W Z;refine ae (if_neg (by decide) ..) ?_
  exact aC (fin _ _ (bA Z))
 have t3:bz (aO prog w) (h.push {cls:=.type "tuple_iterator",data:=.fields #[.ref y,.int 0 0]}) (jk (.ref h.objs.size)) (.type "tuple_iterator"):=(bz.ld (ar.get?_push_size _ rfl)).andThen .now;have t4:bz (aO prog w) (h.push {cls:=.type "tuple_iterator",data:=.fields #[.ref y,.int 0 0]}) (ik (.type "tuple_iterator") "__next__") (some (.builtin "tuple_iterator.__next__")):=bz.of_pure wX.lookup;split
 ·repeat (first | exact Y | (with_reducible refine J _ _ ?_) | lk)
 ·refine J8 ?_;repeat (first | exact Y | (with_reducible refine J _ _ ?_) | lk)
theorem Ob {it t:ao}{i:Nat}{items:Array af}{Q:Option af→aj→Prop}(hh:A.handled=none) (J:wW s.heap it t i) (Y:SeqAt s.heap t items) (hx:items[i]? = none)
  (Z:∀h',ar.ExtBut it s.heap h'→Q none {s with heap:=h'}):aF (aO prog w) A (kJ (.ref it)) Q E s:=by
 refine El.dI (id J) λo ho hc hd=>?_;refine El.dP Y λol nl V W=>?_;clear Y;unfold kJ;refine aC (CG (CH (name:=ai.ofString "__next__") J.typeIs wX
  (qI wX J.typeIs XJ ?_ (XK _))))
 refine (?_:aF _ _ (qJ (.ref it) 0>>=_) _ _ s);refine aC (qK ho hd (x:=.ref t) rfl ?_);refine (?_:aF _ _ (if (af.ref t == af.none)=true then _ else _) _ _ s);refine ae (if_neg (show ¬((af.ref t == af.none)=true) from kI) ..) ?_;refine (?_:aF _ _ (qJ (.ref it) 1>>=_) _ _ s);refine aC (qK ho hd (x:=.int i 0) rfl ?_);refine (?_:aF _ _ (seqItems? (.ref t)>>=_) _ _ s);refine aC (wY V W ?_);simp only [jK,hx];refine aC (wpAny_rule (aC (XM ho hd (by simp) ?_)))
 refine (?_:aF _ _ (newExc (.type "StopIteration") []>>=_) _ _ _);refine aC ?_;simp only [newExc,Kb];refine aC (CI ?_ (by size_fits))
 refine aC (m:=XR _ _) (Kc (a:=af.none) (by first | rfl | (simp only [XR];rfl)) ?_)
 refine CI ?_ (by size_fits)
 refine aC (wpAny_handled ?_)
 first | rw [show A.in1.handled=none from hh] | rw [hh]
 refine aC (bA (wpAny_throw ?_));refine aC (XS (T:="StopIteration") (b:=true) (El.aD _ (ar.get?_push_size _ rfl) rfl) XT ?_);exact bA (Z _ (((ar.SameBut.update ..).extBut.push _).push _))
theorem Oc {y dy:ao}{its:Array af}{Q:List af→aj→Prop}(hh:A.handled=none) (X:(K P).In s.heap) (hy:s.heap.get? y=some (fy dy its))
  (hQ:∀h',ar.ExtBut s.heap.objs.size s.heap h'→Q its.toList {s with heap:=h'}):aF (aO prog w) A (unpackItems (.ref y) its.size none) Q E s:=by
 have Z:y≠s.heap.objs.size:=ef (ar.lt_size hy);have ht:SeqAt s.heap y its:=(El.fM _ 0 hy rfl);have t1:bz (aO prog w) s.heap (jk (.ref y)) (.ref 135):=(bz.ld hy).andThen .now;have i1:=Fo (prog:=prog) (w:=w) X;unfold unpackItems;refine aC ?_;unfold notIterableAtAll o6;refine aC (aC (t1.here (i1.here ?_)));refine bA ?_;simp only [jO,if_false];refine aC (eM (iterM X hy ?_));refine aC (eM (Fj Z its.size 0 _ _ (El.ey _ (ar.get?_push_size _ rfl) rfl rfl) (ht.push _) (by lia) λFm V J=>?_))
 have Fp:o7 its.size (qL 0 its.toList)=its.toList:=by
  refine ae (Ke ..) ?_;exact w4 (by simp)
 refine ae (Fp ..) ?_;refine ae (if_neg (by simp) ..) ?_
 have W:SeqAt Fm y its:=(ht.push _).extBut J.extBut Z;refine aC (eM (Ob hh V W (by simp) λzm Y=>?_))
 simp only [XF,jO,if_false];exact bA (hQ zm λb o hb e=>Y b o hb (J.extBut b o hb (ar.get?_push_of_some _ e)))
end
section
variable {w:aR}{A:cD}{E:af→aj→Prop}{s:aj}{h₀:ar}{L:ao}{m:ai→Option af}{news:List (ao×ay)}{P:aG}
theorem Oe {prog:bT}{env:cL}{J:List Expr}{k:Nat}{pos:aE}{y Y:ao}{its:Array af}{Q:Unit→aj→Prop}(F:Fr h₀ L s.heap m) (N:aW h₀ L s.heap news) (X:(K P).In h₀) (hh:A.handled=none) (Z:s.heap.get? y=some (fy Y its))
  (hn:(iq J env).length=its.size) (V:(iq J env).findIdx? (·.1)=none)
  (h:∀h',Fr h₀ L h' m→aW h₀ L h' news→Kept s.heap h'→aF (aO prog w) A (s9 ((iq J env).map (·.2)) its.toList) Q E {s with heap:=h'}) :
  aF (aO prog w) A (gA (.Tuple J k pos) env (.ref y)) Q E s:=by
 refine ae (assign_Tuple ..) ?_;refine aC (Kg ?_);unfold unpack;refine ae (hn ..) (ae (V ..) ?_);exact aC (eM (Oc hh (X.keeps F.keep) Z λh' W=>h h' (F.extBut W (aI _)) (N.extBut W (aI _)) λb o e=>W b o (ef (ar.lt_size e)) e))
end
noncomputable abbrev i7 (vs:Array af):ay:={cls:=.type "tuple",data:=.seq vs 0}
theorem Of:sZ "tuple.__lt__"=some .slot:=by decide +kernel
theorem Og:CD "tuple.__lt__"=some ("tuple","__lt__"):=by decide +kernel
section
variable {prog:bT}{w:aR}{A:cD}{E:af→aj→Prop}{s:aj}{P:aG}
theorem Oh {h:ar}(X:(K P).In h):bz (aO prog w) h (ik (.ref 135) "__lt__") (some (.builtin "tuple.__lt__")):=CC X (by kernel_rfl!)
theorem zq {a b:Int}{t u:dS}{Q:af→aj→Prop}(h:Q (.bool (decide (a<b))) s):aF (aO prog w) A (richCompare .Lt (.int a t) (.int b u)) Q E s:=wpAny_lt_int h
theorem zA {a b:Int}(c:¬(!a == b)=true):a=b:=Decidable.byContradiction λh=>c (congrArg not (beq_eq_false_iff_ne.mpr h))
theorem Fq {a b:Int}{r:Prop}(c:(!a == b)=true):(a<b∨a=b∧r)↔a<b:=⟨λh=>h.elim id λh=>(nomatch (congrArg not (beq_iff_eq.mpr h.1)).symm.trans c),.inl⟩
theorem Ft {a b:Int}{r:Prop}(c:¬(!a == b)=true):(a<b∨a=b∧r)↔r:=⟨λh=>h.elim (λh=>(w5 _ (zA c▸h)).elim) And.right,λh=>.inr ⟨zA c,h⟩⟩
theorem Oi {x y dx dy:ao}{a1 a2 Z V W b3:Int}{t1 t2 t3 u1 u2 u3:dS}{Q:Bool→aj→Prop}(hu:A.units<o8) (X:(K P).In s.heap) (hx:s.heap.get? x=some (fy dx #[.int a1 t1,.int a2 t2,.int Z t3])) (hy:s.heap.get? y=some (fy dy #[.int V u1,.int W u2,.int b3 u3]))
  (h:∀tk,Q (decide (a1<V∨a1=V∧(a2<W∨a2=W∧Z<b3))) {s with toks:=tk}):aF (aO prog w) A (keyLt' oneType' (.ref x) (.ref y)) Q E s:=by
 obtain ⟨hh,g,d,t,os⟩:=s;dsimp only at X hx hy h;refine ae (keyLt'_oneType ..) (ae (oneLt'_eq ..) ?_);refine aC (wpAny_cRoomFor hu ?_);have Oj:bz (aO prog w) hh (jk (.ref x)) (.ref 135):=(bz.ld hx).andThen .now;have Ol:bz (aO prog w) hh (qG (.ref x) (.type "tuple")) true:=Oj.andThen (pL X);have Om:bz (aO prog w) hh (jk (.ref y)) (.ref 135):=(bz.ld hy).andThen .now;have YR:bz (aO prog w) hh (qG (.ref y) (.type "tuple")) true:=Om.andThen (pL X);have i1:=Oh (prog:=prog) (w:=w) X;have Oo:CF (.builtin "tuple.__lt__") (.ref x)=pure (.builtin "tuple.__lt__",[.ref x]):=XU.bind _;have fin:∀(Y:af→aj→Prop) (E':af→aj→Prop),(∀tk,Y (.bool (decide (a1<V∨a1=V∧(a2<W∨a2=W∧Z<b3)))) ⟨hh,g,d,tk,os⟩)→aF (aO prog w) A (call (.builtin "tuple.__lt__") ([.ref x]++[.ref y])) Y E' ⟨hh,g,d,t,os⟩:=by
  intro Y E' J;refine iY (nA XU.plain PySem.F.entry_tuple_lt (wV Of Og Ol (PySem.F.args_tuple_lt_2 _ _) ?_));unfold bZ.«tuple.__lt__»;have st:∀{p q:Prop} [Decidable p] [Decidable q],(p↔q)→(∀tk,Y (.bool (decide p)) ⟨hh,g,d,tk,os⟩)→∀tk,Y (.bool (decide q)) ⟨hh,g,d,tk,os⟩:=λh f tk=>decide_eq_decide.mpr h▸f tk;repeat (first | (with_reducible refine CJ ?_) | lk)
  refine Kh (λc=>?_) λc=>?_
  ·have J:=st (Fq c) J;repeat (first | exact J _ | (with_reducible refine zq ?_) | lk)
  have J:=st (Ft c) J;repeat (first | (with_reducible refine CJ ?_) | lk)
  refine Kh (λc=>?_) λc=>?_
  ·have J:=st (Fq c) J;repeat (first | exact J _ | (with_reducible refine zq ?_) | lk)
  have J:=st (Ft c) J;repeat (first | (with_reducible refine CJ ?_) | lk)
  refine Kh (λc=>?_) λc=>?_
  ·repeat (first | exact J _ | (with_reducible refine zq ?_) | lk)
  have J:=st (q:=False) ⟨λh=>w5 _ (zA c▸h),Xf⟩ J;repeat (first | exact J _ | lk)
 unfold callSpecialIfBound? XQ o6;repeat lk
 refine ae (Oo ..) ?_;split
 ·repeat (first | exact h _ | (with_reducible refine fin _ _ λtk=>?_) | (with_reducible refine w6 ?_) | lk)
 ·refine J8 ?_;repeat (first | exact h _ | (with_reducible refine fin _ _ λtk=>?_) | (with_reducible refine w6 ?_) | lk)
end
end Internal.Mine
end
section
open PySem PySem.W PyProof.Rows
namespace Internal.Srt
noncomputable def run {α:Type}(lt:Nat→Nat→Bool):lU α→α:=@λA=>match A with
 |.ret a=>a
 |.ask i j k=>run lt (k (lt i j))
theorem run_bind {α β:Type}(lt:Nat→Nat→Bool) (f:α→lU β):∀t:lU α,run lt (t.bind f)=run lt (f (run lt t)):=@λA=>match A with
 |.ret a=>rfl
 |.ask i j k=>run_bind lt f (k (lt i j))
noncomputable def Valid {α:Type}(n:Nat) (R:α→Prop):lU α→Prop:=@λA=>match A with
 |.ret a=>R a
 |.ask i j k=>i<n∧j<n∧∀b,Valid n R (k b)
theorem Valid.bind {α β:Type}{n:Nat}{R:α→Prop}{V:β→Prop}{f:α→lU β}:∀{t:lU α},Valid n R t→(∀a,R a→Valid n V (f a))→Valid n V (t.bind f):=@λA B C=>match A,B,C with
 |.ret a,h,J=>J a h
 |.ask i j k,h,J=>(El.aK h.1 h.2.1 (λb=>Valid.bind (h.2.2 b) J))
theorem Fu {α:Type}{cmp:Nat→Nat→(Bool→aj→Prop)→aj→Prop}{lt:Nat→Nat→Bool}{Inv:aj→Prop}{n:Nat}{R:α→Prop}{Q:α→aj→Prop}
  (J:∀i j C s,i<n→j<n→Inv s→(∀V,Inv V→C (lt i j) V)→cmp i j C s):∀(t:lU α),Valid n R t→∀s,Inv s→(∀V,Inv V→Q (run lt t) V)→t.kasWp cmp Q s:=@λA B D F G=>match A,B,D,F,G with
 |.ret a,zz,s,hs,W=>W s hs
 |.ask i j k,Y,s,hs,W=>J i j _ s Y.1 Y.2.1 hs λV Z=>Fu J (k (lt i j)) (Y.2.2 _) V Z W
noncomputable def Bd (n:Nat) (p:Array Nat):Prop:=∀q,p.getD q 0<n
theorem Bd.perm {n:Nat}{p J:Array Nat}(h:Bd n p) (W:J.Perm p):Bd n J:=by
 intro q;have h0:=h p.size;have hz:p.getD p.size 0=0:=by simp [o9]
 rw [hz] at h0;by_cases V:q<J.size
 ·have e:J.getD q 0=J[q]:=by simp [o9,V]
  refine ae (e ..) ?_;have hm:J[q]∈p:=W.mem_iff.mp (Array.getElem_mem V);obtain ⟨j,Y,Z⟩:=Array.mem_iff_getElem.mp hm;have:=h j;have e2:p.getD j 0=p[j]:=by simp [o9,Y]
  rw [e2,Z] at this;exact this
 ·have e:J.getD q 0=0:=by simp [o9,V]
  refine ae (e ..) ?_;exact h0
section
variable {n:Nat}
theorem zB {p:Array Nat}(J:Bd n p):∀f k,Valid n (λ_:Nat=>True) (kas_asc p f k):=@λA B=>match A,B with
 |0,k=>trivial
 |f+1,k=>(El.aK (J _) (J _) (λb=>by cases b <;> simp only [if_true,jO,if_false] <;> first | exact trivial | exact zB J f (k+1)))
theorem rC {p:Array Nat}(J:Bd n p) (i j:Nat):Bd n (qM p i j):=J.perm (mirror_perm _ _ _ _)
theorem ur:∀f (p:Array Nat) k q,Bd n p→Valid n (λr:Array Nat×Nat×Nat=>Bd n r.1) (kas_desc f p k q):=@λA B C D F=>match A,B,C,D,F with
 |0,p,k,q,J=>J
 |f+1,p,k,q,J=>by
  refine El.aK (J _) (J _) (λb=>?_);cases b with
  |true=>
   simp only [if_true];split
   ·exact ur f _ _ _ (rC J _ _)
   ·exact ur f _ _ _ J
  |false=>
   simp only [jO,if_false];refine El.aK (J _) (J _) (λc=>?_);cases c with
   |true=>simp only [if_true];exact J
   |false=>simp only [jO,if_false];exact ur f _ _ _ J
theorem Fv {p:Array Nat}(V:Bd n p) (m J:Nat):Valid n (λr:Nat×Array Nat=>Bd n r.2) (Ki m J p):=
 (zB (rC V 0 m) _ _).bind λzz zz=>rC V 0 m
theorem Fw {p:Array Nat}(W:Bd n p) (m J:Nat):Valid n (λr:Nat×Array Nat=>Bd n r.2) (kas_descPart m J p):=
 (ur _ _ _ _ W).bind λr V=>by
  split
  ·exact Fv (rC V _ _) _ _
  ·exact Fv V _ _
theorem v_count {p:Array Nat}(J:Bd n p) (V:Nat):Valid n (λr:Nat×Array Nat=>Bd n r.2) (Kj V p):=
 (zB J _ _).bind λm zz=>by
  split
  ·exact J
  ·split
   ·refine El.aK (J _) (J _) (λb=>?_);cases b with
    |true=>simp only [if_true];exact J
    |false=>simp only [jO,if_false];exact Fw (rC J _ _) _ _
   ·exact Fw J _ _
theorem Fx {p:Array Nat}(J:Bd n p) (k:Nat):∀f l r,Valid n (λ_:Nat=>True) (Kk p k f l r):=@λA B C=>match A,B,C with
 |0,l,r=>trivial
 |f+1,l,r=>by
  show Valid n _ (if l≥r then _ else _)
  split
  ·exact trivial
  ·refine El.aK (J _) (J _) (λb=>?_);cases b <;> simp only [if_true,jO,if_false] <;> exact Fx J k f _ _
theorem Fy:∀f (p:Array Nat) k,Bd n p→Valid n (λr:Array Nat=>Bd n r) (kas_bin f p k):=@λA B C D=>match A,B,C,D with
 |0,p,k,J=>J
 |f+1,p,k,J=>(Fx J k k 0 k).bind λl zz=>Fy f _ _ (J.perm (Km _ _ _))
theorem Oq (V:0<n):Bd n (Kn (kA n)):=λq=>by
 by_cases J:q<n
 ·simp [o9,J]
 ·simp [o9,J,V]
theorem Ox (V:0<n):Valid n (λr:Array Nat=>Bd n r) (w7 n):=
 (v_count (Oq V) n).bind λr J=>by
  split
  ·exact Fy _ _ _ J
  ·exact J
end
section
variable (v:Nat→Nat)
noncomputable def G (p:Array Nat) (q:Nat):Nat:=v (p.getD q 0)
noncomputable def iI (p:Array Nat):Prop:=(p.toList.map v).Nodup
noncomputable def nW (p:Array Nat) (k:Nat):Prop:=∀i j,i<j→j<k→G v p i<G v p j
noncomputable def fc (i j:Nat):Bool:=decide (v i<v j)
variable {v}
theorem iI.perm {p J:Array Nat}(h:iI v p) (V:J.Perm p):iI v J:=(V.toList.map v).nodup_iff.mpr h
theorem iI.ne {p:Array Nat}{i j n:Nat}(h:iI v p) (hz:p.size=n) (hi:i<n) (V:j<n) (J:i≠j):G v p i≠G v p j:=λe=>J <| by
 subst hz;have g:∀{i},i<p.size→(p.toList.map v)[i]? = some (G v p i):=λhi=>by simp [G,o9,hi]
 exact (Ko (by simpa using hi) h).mp (by exact ae (g hi ..) (ae (g V ..) (ae (e ..) rfl)))
theorem iI.lt {p:Array Nat}{i j n:Nat}(h:iI v p) (hz:p.size=n) (hi:i<n) (V:j<n) (J:i≠j) (W:¬G v p i<G v p j):G v p j<G v p i:=
 Nat.lt_of_le_of_ne (CK W) (h.ne hz V hi (kK J))
theorem rD {p J:Array Nat}{i j:Nat}(h:p[i]? = J[j]?):G v p i=G v J j:=by
 unfold G;have e:∀(a:Array Nat) (q:Nat),a.getD q 0=(a[q]?).getD 0:=λa q=>by simp
 exact ae (e ..) (ae (e ..) (ae (h ..) rfl))
theorem Oy {p:Array Nat}{k x:Nat}(hs:k<p.size) (hx:x≤k) (q:Nat):(q<x→G v (CL p k (k-x)) q=G v p q)∧G v (CL p k (k-x)) x=G v p k∧(x≤q→q<k→G v (CL p k (k-x)) (q+1)=G v p q):=by
 have e:=λq=>getElem?_bubble hs (k-x) (J0 k x) q;rw [Nat.sub_sub_self hx] at e;refine El.aK (λh=>rD ((e q).trans ?_)) (rD ((e x).trans (if_pos rfl))) (λJ V=>rD ((e (q+1)).trans ?_))
 ·exact ae (if_neg (ef h) ..) (ae (if_neg λg=>Kq h g.1 ..) rfl)
 ·refine ae (if_neg (lR (sU J)) ..) (ae (if_pos ⟨sU J,V⟩ ..) ?_);rfl
theorem FA {p:Array Nat}{j:Nat}(J:j≤p.size) (k:Nat):(∀x,k+x+1=j→G v (qM p 0 j) k=G v p x)∧(j≤k→G v (qM p 0 j) k=G v p k):=by
 have e:=getElem?_mirror_all (xs:=p) (i:=0) J k;refine ⟨λx h=>rD (e.trans ?_),λh=>rD (e.trans (if_neg λg=>XW h g.2))⟩;refine ae (if_pos ⟨bh _,by exact (dT (cb (bc _ _) (lP _)) (dH h))⟩ ..) ?_
 exact ae (show 0+j-1-k=x by exact (bJ (Lin.ah (.c _ (.c _ (.c _ (.c _ (.c _ .z))))) .z 1 (.c 1 (.aw (.v 2) (.a (.a (.v 3) (.v 1)) (.n 1))) (.c 1 (.aw (.a (.v 0) (.v 3)) (.v 4)) (.c 1 (.aw (.a (.v 4) (.n 1)) (.a (.n 0) (.v 2))) .z))) (.v 0) (.v 1) rfl (cB h) (aT (Lin.ah (.c _ (.c _ (.c _ (.c _ .z)))) .z 1 (.c 1 (.aw (.a (.a (.v 0) (.v 2)) (.n 1)) (.v 3)) (.c 1 (.aw (.a (.n 0) (.v 3)) (.a (.v 1) (.n 1))) .z)) (.v 0) (.v 1) rfl h (aT (Lin.ah (.c _ (.c _ (.c _ .z))) .z 1 (.c 1 (.aw (.a (.a (.v 1) (.v 2)) (.n 1)) (.v 0)) .z) (.n 1) (.a (.n 0) (.v 0)) rfl h)).symm)) (aT (Lin.ah (.c _ (.c _ (.c _ .z))) .z 1 (.c 1 (.aw (.a (.a (.v 1) (.v 2)) (.n 1)) (.v 0)) .z) (.n 1) (.a (.n 0) (.v 0)) rfl h))) (Lin.ah (.c _ (.c _ (.c _ (.c _ (.c _ .z))))) .z 1 (.c 1 (.aw (.a (.a (.v 2) (.v 0)) (.n 1)) (.v 3)) (.c 1 (.aw (.v 4) (.a (.v 1) (.v 2))) (.c 1 (.aw (.a (.n 0) (.v 3)) (.a (.v 4) (.n 1))) .z))) (.v 0) (.v 1) rfl h (aT (Lin.ah (.c _ (.c _ (.c _ (.c _ .z)))) .z 1 (.c 1 (.aw (.a (.a (.v 0) (.v 2)) (.n 1)) (.v 3)) (.c 1 (.aw (.a (.n 0) (.v 3)) (.a (.v 1) (.n 1))) .z)) (.v 0) (.v 1) rfl h (aT (Lin.ah (.c _ (.c _ (.c _ .z))) .z 1 (.c 1 (.aw (.a (.a (.v 1) (.v 2)) (.n 1)) (.v 0)) .z) (.n 1) (.a (.n 0) (.v 0)) rfl h)).symm)).symm (aT (Lin.ah (.c _ (.c _ (.c _ .z))) .z 1 (.c 1 (.aw (.a (.a (.v 1) (.v 2)) (.n 1)) (.v 0)) .z) (.n 1) (.a (.n 0) (.v 0)) rfl h)).symm))) rfl
theorem zC {p:Array Nat}{k:Nat}(h:∀q,q+1<k→G v p q<G v p (q+1)):nW v p k:=by
 intro i j J;induction j with
 |zero=>exact absurd J (wx i)
 |succ j W=>
  intro V;have s:=h j V;rcases nq (ni J) with e | e
  ·exact eY (W e (XX V)) s
  ·clear W J V;subst e;exact s
theorem rE {α:Type}{p:Array Nat}{i j:Nat}{x y:lU α}(h:G v p i<G v p j):run (fc v) (if fc v (p.getD i 0) (p.getD j 0)=true then x else y)=run (fc v) x:=by
 exact congrArg _ (if_pos (decide_eq_true h))
theorem zD {α:Type}{p:Array Nat}{i j:Nat}{x y:lU α}(h:¬G v p i<G v p j):run (fc v) (if fc v (p.getD i 0) (p.getD j 0)=true then x else y)=run (fc v) y:=by
 exact congrArg _ (if_neg λg=>h (of_decide_eq_true g))
theorem zE {P:Nat→Prop}{k m:Nat}(h0:P k) (h:∀q,k+1≤q→q<m→P q):∀q,k≤q→q<m→P q:=λq J V=>by
 rcases nq J with e | e
 ·exact h q e V
 ·clear J V;subst e;exact h0
theorem rF {P:Nat→Prop}(k:Nat):∀q,k≤q→q<k→P q:=λzz J V=>absurd J (Xj V)
theorem zF (p:Array Nat):∀f k,∃m,run (fc v) (kas_asc p f (k+1))=m+1∧k≤m∧m≤k+f∧(∀q,k≤q→q<m→¬G v p (q+1)<G v p q)∧(m<k+f→G v p (m+1)<G v p m):=@λA B=>match A,B with
 |0,k=>(El.kQ k rfl (aI _) (aI _) (rF k) (λh=>absurd h (ij k)))
 |f+1,k=>by
  by_cases h:G v p (k+1)<G v p k
  ·exact El.kQ k (rE h) (aI _) (bc _ _) (rF k) (λzz=>h)
  ·refine El.kO (zF p f (k+1)) λm e W J Y V=>?_;rw [gp k 1 f] at J V;exact El.kQ m ((zD h).trans e) (Cr W) J (zE h Y) V
theorem FC (p:Array Nat) {n:Nat}(hz:p.size=n) (hd:iI v p):∀f k,k+f<n→∃m,run (fc v) (kas_desc f p (k+1) 0)=(p,m+1,0)∧k≤m∧m≤k+f∧(∀q,k≤q→q<m→G v p (q+1)<G v p q):=@λA B C=>match A,B,C with
 |0,k,zz=>(El.iA k rfl (aI _) (aI _) (rF k))
 |f+1,k,J=>by
  by_cases h:G v p (k+1)<G v p k
  ·refine El.gR (FC p hz hd f (k+1) (by exact (Lin.ak (.c _ (.c _ (.c _ .z))) .z 1 (.c 1 (.ak (.a (.v 0) (.a (.v 1) (.n 1))) (.v 2)) .z) (.a (.a (.v 0) (.n 1)) (.v 1)) (.v 2) rfl J))) λm e W V Y=>?_
   rw [gp k 1 f] at V;refine El.iA m ((rE h).trans ?_) (Cr W) V (zE h Y);refine ae (if_neg (ij 0) ..) ?_;exact e
  ·exact El.iA k ((zD h).trans (rE (hd.lt hz (by exact (Lin.ak (.c _ (.c _ (.c _ .z))) .z 1 (.c 1 (.ak (.a (.v 0) (.a (.v 2) (.n 1))) (.v 1)) .z) (.a (.v 0) (.n 1)) (.v 1) rfl J)) (by exact (Lin.ak (.c _ (.c _ (.c _ (.c _ .z)))) .z 1 (.c 1 (.ak (.a (.v 2) (.a (.v 3) (.n 1))) (.v 1)) (.c 1 (.aw (.a (.v 0) (.n 1)) (.a (.v 2) (.n 1))) .z)) (.v 0) (.v 1) rfl J (aT (Lin.ah (.c _ .z) .z 1 .z (.n 1) (.a (.v 0) (.n 1)) rfl)))) (w8 k) h))) (aI _) (bc _ _) (rF k)
theorem OA {p:Array Nat}{m n:Nat}(hz:p.size=n) (hd:iI v p) (hm:m<n) (J:∀q,q<m→G v p (q+1)<G v p q) :
  ∃c Y,run (fc v) (Ki (m+1) n p)=(c+1,Y)∧c<n∧nW v Y (c+1)∧Y.Perm p:=by
 have Z:(qM p 0 (m+1)).Perm p:=mirror_perm _ _ _ _;have jX:=hd.perm Z;have OB:(qM p 0 (m+1)).size=n:=Z.size_eq.trans hz;refine El.kO (zF (v:=v) (qM p 0 (m+1)) (n-(m+1)) m) λc e c1 V c3 c4=>?_;have V:c<n:=by exact (Lin.ak (.c _ (.c _ (.c _ (.c _ .z)))) .z 1 (.c 1 (.ah (.v 0) (.a (.v 2) (.v 3))) (.c 1 (.aw (.a (.v 3) (.a (.v 2) (.n 1))) (.v 1)) .z)) (.v 0) (.v 1) rfl V (aT (Lin.ah (.c _ (.c _ .z)) .z 1 (.c 1 (.ak (.v 0) (.v 1)) .z) (.a (.v 0) (.n 1)) (.v 1) rfl hm)))
 refine El.iB c (qM p 0 (m+1)) ?_ V (zC λq W=>?_) Z
 ·unfold Ki;refine ae (run_bind ..) (ae (e ..) ?_);rfl
 ·have W:=w9 W;by_cases hq:q<m
  ·obtain ⟨x,rfl⟩:∃x,m=q+1+x:=⟨m-(q+1),(Cm hq).symm⟩;refine ae ((FA (az hm (dH hz.symm)) q).1 (x+1) (by exact (bJ (Lin.ah (.c _ (.c _ .z)) .z 1 .z (.a (.a (.v 0) (.a (.v 1) (.n 1))) (.n 1)) (.a (.a (.a (.v 0) (.n 1)) (.v 1)) (.n 1)) rfl) (Lin.ah (.c _ (.c _ .z)) .z 1 .z (.a (.a (.a (.v 0) (.n 1)) (.v 1)) (.n 1)) (.a (.a (.v 0) (.a (.v 1) (.n 1))) (.n 1)) rfl))) ..) (ae ((FA (az hm (dH hz.symm)) (q+1)).1 x rfl ..) ?_)
   exact J x (by exact (Lin.ak (.c _ (.c _ .z)) .z 1 .z (.v 0) (.a (.a (.v 1) (.n 1)) (.v 0)) rfl))
  ·exact jX.lt OB (cb W V) (eY W V) (w8 q) (c3 q (CK hq) W)
theorem OC {p:Array Nat}{n:Nat}(hz:p.size=n+1) (hd:iI v p):∃c Y,run (fc v) (Kj (n+1) p)=(c+1,Y)∧c<n+1∧nW v Y (c+1)∧Y.Perm p:=by
 refine El.kO (zF (v:=v) p n 0) λm e m1 W m3 Z=>?_;rw [cQ] at W Z;have hm:m<n+1:=sU W;have hs:nW v p (m+1):=zC λq J=>
  have J:=w9 J
  hd.lt hz (cb J hm) (eY J hm) (w8 q) (m3 q (bh q) J)
 unfold Kj;refine ae (run_bind ..) (ae (show run (fc v) (kas_asc p (n+1-1) 1)=m+1 from e) ?_);by_cases h1:m=n
 ·clear hz e W Z;subst h1;refine ae (if_pos (beq_self_eq_true _) ..) ?_;exact El.iB m p rfl hm hs (CM _)
 ·refine ae (if_neg (λh=>h1 (ji (eq_of_beq h))) ..) ?_;by_cases V:m+1 > 1
  ·refine ae (if_pos V ..) ?_;exact El.iB m p (rE (hs 0 m (w9 V) (lP m))) hm hs (CM _)
  ·refine ae (if_neg V ..) ?_;have zG:m=0:=Ck.mp (qu (CK V));clear e m1 W m3 hm hs V;subst zG;have hn:0<n:=Nat.pos_of_ne_zero λg=>h1 g.symm;have fN:=Z hn;refine El.gR (FC p hz hd (n-1) 1 (by exact (Lin.ak (.c _ (.c _ .z)) .z 1 (.c 1 (.aw (.a (.v 0) (.n 1)) (.v 1)) .z) (.a (.n 1) (.v 0)) (.a (.v 1) (.n 1)) rfl (aT (Lin.ah (.c _ .z) .z 1 (.c 1 (.ak (.n 0) (.v 0)) .z) (.n 1) (.v 0) rfl hn))))) λk e2 k1 k2 k3=>?_
   unfold kas_descPart;refine ae (run_bind ..) (ae (show n+1-(0+1+1)=n-1 from rfl) (ae (e2 ..) ?_));exact OA hz hd (by exact (Lin.ak (.c _ (.c _ (.c _ .z))) .z 1 (.c 1 (.ah (.v 0) (.a (.n 1) (.v 2))) (.c 1 (.aw (.a (.v 2) (.n 1)) (.v 1)) .z)) (.v 0) (.a (.v 1) (.n 1)) rfl k2 (aT (Lin.ah (.c _ .z) .z 1 (.c 1 (.ak (.n 0) (.v 0)) .z) (.n 1) (.v 0) rfl hn)))) (λq q2=>zE (P:=λq=>G v p (q+1)<G v p q) fN k3 q (bh q) q2)
theorem zH {p:Array Nat}{k n:Nat}(hz:p.size=n) (hd:iI v p) (hk:k<n) (hs:nW v p k):∀f l r,l≤r→r≤k→r≤l+f→(∀q,q<l→G v p q<G v p k)→(∀q,r≤q→q<k→G v p k<G v p q)→
  ∃x,run (fc v) (Kk p k f l r)=x∧x≤k∧(∀q,q<x→G v p q<G v p k)∧(∀q,x≤q→q<k→G v p k<G v p q):=@λA B C D F H J K=>match A,B,C,D,F,H,J,K with
 |0,l,r,h1,Z,h3,a1,a2=>(El.iA l rfl (az h1 Z) a1 (λq W Y=>a2 q (az h3 W) Y))
 |f+1,l,r,h1,Z,h3,a1,a2=>by
  show ∃x,run (fc v) (if l≥r then _ else _)=x∧_
  by_cases V:l≥r
  ·rw [if_pos V];exact El.iA l rfl (az h1 Z) a1 (λq W Y=>a2 q (az V W) Y)
  ·rw [if_neg V];obtain ⟨x,hx,x1,x2,x3⟩:∃x,(l+r) / 2=x∧l≤x∧x<r∧r≤x+(f+1)∧x≤l+f:=(El.kQ _ rfl (by exact (Lin.ah (.c _ (.c _ (.c _ .z))) .z 2 (.c 1 (.ak (.v 0) (.v 2)) (.c 1 (.ak (.a (.v 0) (.v 2)) (.a (.r (.v 1) 2) (.n 2))) .z)) (.v 0) (.v 1) rfl (ee.mp V) (Lin.dv _ _ (by decide)))) (by exact (Lin.ak (.c _ (.c _ (.c _ .z))) .z 2 (.c 1 (.ak (.v 2) (.v 1)) (.c 1 (.ah (.r (.v 0) 2) (.a (.v 2) (.v 1))) .z)) (.v 0) (.v 1) rfl (ee.mp V) (XY _ _))) (by exact (Lin.ah (.c _ (.c _ (.c _ (.c _ .z)))) .z 2 (.c 1 (.ah (.v 0) (.a (.v 3) (.a (.v 2) (.n 1)))) (.c 1 (.ak (.a (.v 3) (.v 0)) (.a (.r (.v 1) 2) (.n 2))) .z)) (.v 0) (.a (.v 1) (.a (.v 2) (.n 1))) rfl h3 (Lin.dv _ _ (by decide)))) (by exact (Lin.ah (.c _ (.c _ (.c _ (.c _ .z)))) .z 2 (.c 1 (.ah (.v 3) (.a (.v 1) (.a (.v 2) (.n 1)))) (.c 1 (.ah (.r (.v 0) 2) (.a (.v 1) (.v 3))) .z)) (.v 0) (.a (.v 1) (.v 2)) rfl h3 (XY _ _))))
   have xk:x<k:=dT x2 Z;refine ae (hx ..) ?_;refine (?_:∃y,run (fc v) (if fc v (p.getD k 0) (p.getD x 0)=true then _ else _)=y∧_);by_cases h:G v p k<G v p x
   ·refine ae (rE h ..) ?_;refine zH hz hd hk hs f l x x1 (et xk) x3.2 a1 λq W Y=>?_;clear hx x1 x2 x3 xk;rcases nq W with e | e
    ·exact eY h (hs _ q e Y)
    ·clear W Y;subst e;exact h
   ·refine ae (zD h ..) ?_;have h':G v p x<G v p k:=hd.lt hz hk (eY xk hk) (lR xk) h;refine zH hz hd hk hs f (x+1) r x2 Z (by exact (Lin.ah (.c _ (.c _ (.c _ .z))) .z 1 (.c 1 (.ah (.v 0) (.a (.v 1) (.a (.v 2) (.n 1)))) .z) (.v 0) (.a (.a (.v 1) (.n 1)) (.v 2)) rfl x3.1)) (λq W=>?_) a2
    clear hx x1 x2 x3 h;rcases nq (ni W) with e | e
    ·exact eY (hs q _ e xk) h'
    ·subst e;exact h'
theorem FD {n:Nat}:∀f (p:Array Nat) k,p.size=n→k+f=n→iI v p→nW v p k→∃W,run (fc v) (kas_bin f p k)=W∧nW v W n∧W.Perm p:=@λA B C D F G H=>match A,B,C,D,F,G,H with
 |0,p,k,hz,hk,hd,hs=>(El.ey p rfl (by refine ae (hk ..).symm ?_;exact hs) (CM _))
 |f+1,p,k,hz,hk,hd,hs=>by
  have Y:k<n:=by exact (Lin.ak (.c _ (.c _ (.c _ .z))) .z 1 (.c 1 (.aw (.a (.v 0) (.a (.v 2) (.n 1))) (.v 1)) .z) (.v 0) (.v 1) rfl hk)
  refine El.gR (zH hz hd Y hs k 0 k (bh _) (aI _) (oW _ _) (λq h=>absurd h (wx q)) (rF k)) λx e x1 x2 x3=>?_;have J:=λq=>Oy (v:=v) (p:=p) (Nat.lt_of_lt_of_eq Y hz.symm) x1 q;refine El.dI (FD (n:=n) f (CL p k (k-x)) (k+1) (by refine ae (bubble_size ..) ?_;exact hz) (by exact (bJ (Lin.ah (.c _ (.c _ (.c _ .z))) .z 1 (.c 1 (.aw (.a (.v 0) (.a (.v 1) (.n 1))) (.v 2)) .z) (.a (.a (.v 0) (.n 1)) (.v 1)) (.v 2) rfl hk) (Lin.ah (.c _ (.c _ (.c _ .z))) .z 1 (.c 1 (.aw (.v 0) (.a (.v 1) (.a (.v 2) (.n 1)))) .z) (.v 0) (.a (.a (.v 1) (.n 1)) (.v 2)) rfl (cB hk)))) (hd.perm (Km _ _ _)) (zC λq V=>by
   have V:=w9 V;clear e;rcases Xl q x with h | h | h
   ·refine ae ((J q).1 h ..) ?_;rcases nq (Nat.succ_le_of_lt h) with g | g
    ·refine ae ((J (q+1)).1 g ..) ?_;exact hs _ _ (lP q) (dT g x1)
    ·refine ae (show q+1=x from g) (ae ((J x).2.1 ..) ?_);exact x2 q h
   ·subst h;refine ae ((J q).2.1 ..) (ae ((J q).2.2 (aI q) V ..) ?_);exact x3 q (aI q) V
   ·cases q with
    |zero=>exact absurd h (wx x)
    |succ q=>
     have h:=ni h;refine ae ((J q).2.2 h (XX V) ..) (ae ((J (q+1)).2.2 (gw h) V ..) ?_);exact hs _ _ (lP q) V)) λW Z s' pm=>?_
  refine El.ey W ?_ s' (pm.trans (Km _ _ _));refine (?_:run (fc v) ((Kk p k k 0 k).bind _)=W);refine ae (run_bind ..) (ae (e ..) ?_);exact Z
theorem OD {n:Nat}(hn:1≤n) (J:∀i j,i<n→j<n→i≠j→v i≠v j):∃p,run (fc v) (w7 n)=p∧p.toList.Perm (kA n)∧(∀i j,i<j→j<n→v (p.getD i 0)<v (p.getD j 0)):=by
 cases n with
 |zero=>exact absurd hn (Xh 0)
 |succ n=>
 have hd:iI v (Kn (kA (n+1))):=Kr.mpr (Zk (λ{i j} hi hj h=>J i j (xa.mp hi) (xa.mp hj) (ef h)) List.pairwise_lt_range);have V:(Kn (kA (n+1))).size=n+1:=Ks;refine El.l7 (OC V hd) λc Z e c1 hs Y=>?_;have hl:∀{q:Array Nat},q.Perm Z→q.toList.Perm (kA (n+1)):=λh=>(h.trans Y).toList;unfold w7;refine ae (run_bind ..) (ae (e ..) ?_);by_cases hc:c+1<n+1
 ·refine ae (if_pos hc ..) ?_;have W:max (c+1) 1=c+1:=wH (cY (bh c));dsimp only;refine ae (W ..) ?_;refine El.dI (FD (n+1-(c+1)) Z (c+1) (Y.size_eq.trans V) (Cm c1) (hd.perm Y) hs) λp2 e2 s2 pm=>?_;exact El.ey p2 e2 (hl pm) s2
 ·refine ae (if_neg hc ..) ?_;have:c=n:=bJ (ni c1) (qu (CK hc));clear hn J hd V e c1 Y hc;subst this;exact El.ey Z rfl (hl (CM _)) hs
end
end Internal.Srt
end
section
open PySem PySem.W PySem.Calls PyProof.Rows
open Mine
namespace Internal.Mine
theorem FE {prog:bT}{w:aR}{A:cD}{E:af→aj→Prop}{s:aj}{a:ao}{vs:List af}{n:Nat}{P:wN→aj→Prop}(ho:s.heap.get? a=some (ew "list" vs.toArray n)) (h2:vs.length<2)
  (h:P (.done (.ret .none)) {s with heap:=Kt s.heap a vs vs.toArray}):aF (aO prog w) A (bZ.«list.sort» ⟨[.ref a],[]⟩) P E s:=by
 refine ae (list_sort_plain ..) ?_;have Z:a<s.heap.objs.size:=ar.lt_size ho;refine aC (listItems_at ho rfl ?_);refine aC (listUpdate_at ho rfl ?_);obtain ⟨e1,V⟩:∃e1,(s.heap.update a (ay.mapSeq λzz=>#[])).get? a=some (ew "list" #[] e1):=⟨_,Ku ho (λzz=>#[])⟩;refine aC (seqEpoch_at V rfl ?_);refine aC (XZ ?_ (by unfold cE;simp;omega))
 refine aC (wpAny_newList ?_);refine eM ?_;have W:(((s.heap.update a (ay.mapSeq λzz=>#[])).push (ew "tuple" vs.toArray 0)).push (ew "list" #[] 0)).get? a=some (ew "list" #[] e1):=by
  rw [ar.get?_push_ne _ _ _ (by refine ae (size_push' ..) (ae (ar.size_update ..) ?_);exact ef (qz Z)),ar.get?_push_ne _ _ _ (by refine ae (ar.size_update ..) ?_;exact ef Z)]
  exact V
 refine (?_:aF (aO prog w) A _ P E {s with heap:=((s.heap.update a (ay.mapSeq λzz=>#[])).push (ew "tuple" vs.toArray 0)).push (ew "list" #[] 0)})
 dsimp only;have hsz:vs.toArray.size<2:=by simpa using h2
 refine ae (if_pos hsz ..) (ae (if_pos hsz ..) ?_);refine aC (bA ?_);refine ae (StateT.run_pure ..) ?_;refine aC (bA ?_);dsimp only;refine aC (seqEpoch_at W rfl ?_);have Y:(vs.toArray.zip vs.toArray).map (·.2)=vs.toArray:=by
  refine ae (List.zip_toArray ..) (ae (List.map_toArray ..) ?_)
  congr 1
  exact List.map_snd_zip (aI _)
 have J:(arrOf (SortSt.mk' general' (vs.toArray.zip vs.toArray) #[] 7 none)).map (·.2)=vs.toArray:=Y;refine aC (listUpdate_at W rfl ?_ (hsz2:=by refine ae (J ..) (ae (Kv ..) ?_);simp;lia))
 simp only [bne_self_eq_false,jO,if_false];refine bA ?_;refine ae (show (λx:Array af=>(arrOf (SortSt.mk' general' (vs.toArray.zip vs.toArray) #[] 7 none)).map (·.2))=λzz=>vs.toArray from funext λzz=>J) ?_;exact h
noncomputable abbrev Led:=List (ao×ay)
noncomputable abbrev Fz:=ao→ay→Prop
noncomputable abbrev bF (vs:List af) (n:Nat):ay:=W.listOf vs.toArray n
noncomputable abbrev jY (vs:List af):ay:={cls:=.type "tuple",data:=.seq vs.toArray}
noncomputable def bB {α β:Type}(R:α→β→Prop):List α→List β→Prop:=@λA B=>match A,B with
 |[],r=>r=[]
 |a::l,r=>match r with
  |[]=>False
  |b::q=>R a b∧bB R l q
section
variable {α β:Type}{R S:α→β→Prop}{l k:List α}{r q:List β}{a:α}{b:β}
theorem bB.iJ:∀{l:List α},bB R l (b::r)→∃a q,l=a::q∧R a b∧bB R q r:=@λA B=>match A,B with
 |[],x=>El.cn (show b::r=[] from x)
 |a::q,x=>(El.bP a q rfl x.1 x.2)
theorem bB.nX:∀{l:List α},bB R l []→l=[]:=@λA B=>match A,B with
 |[],zz=>rfl
 |zz::J,x=>(show False from x).elim
theorem uu {n:Nat}:∀{l:List α},l.length=n+1→∃a q,l=a::q∧q.length=n:=@λA B=>match A,B with
 |[],x=>El.zs x
 |a::q,x=>(El.fM a q rfl (ji x))
theorem bB.one (h:R a b):bB R [a] [b]:=⟨h,rfl⟩
theorem bB.len:∀{l:List α}{r:List β},bB R l r→l.length=r.length:=@λA B C=>match A,B,C with
 |[],zz,x=>(show _=[] from x)▸rfl
 |zz::J,[],x=>(show False from x).elim
 |zz::J,V::W,x=>congrArg jj x.2.len
theorem bB.imp (h:∀a b,R a b→S a b):∀{l:List α}{r:List β},bB R l r→bB S l r:=@λA B C=>match A,B,C with
 |[],zz,x=>x
 |zz::J,[],x=>x
 |zz::J,V::W,x=>⟨h _ _ x.1,x.2.imp h⟩
theorem bB.append:∀{l:List α}{r:List β},bB R l r→bB R k q→bB R (l++k) (r++q):=@λA B C D=>match A,B,C,D with
 |[],zz,x,y=>by refine ae (show _=[] from x) ?_;exact y
 |zz::J,[],x,V=>(show False from x).elim
 |zz::J,V::W,x,y=>⟨x.1,x.2.append y⟩
theorem bB.get:∀{l:List α}{r:List β}{i:Nat},bB R l r→r[i]? = some b→∃a,l[i]? = some a∧R a b:=@λA B C D F=>match A,B,C,D,F with
 |[],zz,J,x,h=>by rw [show _=[] from x] at h;exact El.ns h
 |zz::J,[],V,x,W=>(show False from x).elim
 |a::zz,J::V,0,x,h=>(El.aD a rfl (dC h▸x.1))
 |zz::J,V::W,i+1,x,h=>x.2.get (i:=i) h
theorem bB.split {r1 r2:List β}:∀{l:List α},bB R l (r1++r2)→∃l1 l2,l=l1++l2∧bB R l1 r1∧bB R l2 r2:=by
 induction r1 with
 |nil=>exact λx=>(El.bP [] _ rfl rfl x)
 |cons b r V=>
  intro l x;cases l with
  |nil=>exact El.cn x
  |cons a l=>
   refine El.aP (V x.2) λl1 l2 J y z=>?_;subst J;exact El.bP (a::l1) l2 rfl ⟨x.1,y⟩ z
end
noncomputable abbrev uv (J:ao) (vs:Array af):ay:={cls:=.ref 135,dict:=some J,data:=.seq vs 0}
noncomputable abbrev zI (i j k:Int):ag:=.dict [(.none,.tuple [.int i,.int j,.int k])]
structure mh (o:ay) (ws:List af):Prop where
 c:o.cls=.type "list"
 d:∃k,o.data=.seq ws.toArray k
theorem uw {ws:List af}{k:Nat}:mh (bF ws k) ws:=⟨rfl,k,rfl⟩
class inductive Dat (P:Fz):af→ag→Prop
 |none:Dat P .none .none
 |bool (b:Bool):Dat P (.bool b) (.bool b)
 |int (n:Int) (t:dS):Dat P (.int n t) (.int n)
 |str (n:ai) (t:dS):Dat P (.str n t) (.str n)
 |list {ws:List af}{ds:List ag}{a:ao}{o:ay}:P a o→mh o ws→ws.length=ds.length→(∀(i:Nat) v d,ws[i]? = some v→ds[i]? = some d→Dat P v d)→Dat P (.ref a) (.list ds)
 |tup {ws:List af}{ds:List ag}{a:ao}:P a (jY ws)→ws.length=ds.length→(∀(i:Nat) v d,ws[i]? = some v→ds[i]? = some d→Dat P v d)→Dat P (.ref a) (.tuple ds)
 |mt {a dx:ao}{i j k:Int}{ti tj tk:dS}:P a (uv dx #[.int i ti,.int j tj,.int k tk])→Dat P (.ref a) (zI i j k)
noncomputable abbrev bu (P:Fz):List af→List ag→Prop:=bB (Dat P)
set_option genCtorIdx true in
inductive Tr
 |un
 |dat (d:ag)
 |dl (ds:List ag)
 |ol (ts:List Tr)
 |ot (ts:List Tr)
 |fr (φ:Fz→Led→af→Prop)
noncomputable def rG (a:Option ag) (b:Option (List ag)):Option (List ag):=match a with
 |some d=>match b with
  |some ds=>some (d::ds)
  |none=>none
 |none=>none
noncomputable abbrev pM (φ:Fz→Led→af→Prop):Prop:=∀(P P':Fz) O v,(∀a o,P a o→P' a o)→φ P O v→φ P' O v
mutual
noncomputable def Tr.data:Tr→Option ag:=@λA=>match A with
 |.dat d=>some d
 |.dl ds=>some (.list ds)
 |.ol ts=>(uz ts).map .list
 |.ot ts=>(uz ts).map .tuple
 |.un=>none
 |.fr zz=>none
noncomputable def uz:List Tr→Option (List ag):=@λA=>match A with
 |[]=>some []
 |t::ts=>rG t.data (uz ts)
end
mutual
noncomputable def Rep (P:Fz):Tr→Led→af→Prop:=@λA B C=>match A,B,C with
 |.un,O,zz=>O=[]
 |.dat d,O,v=>O=[]∧Dat P v d
 |.dl ds,O,v=>∃a n ws,v=.ref a∧O=[(a,bF ws n)]∧bu P ws ds
 |.ol us,O,v=>∃a n ws Oz,v=.ref a∧O=(a,bF ws n)::Oz∧bQ P us Oz ws
 |.ot us,O,v=>∃a ws Oz,v=.ref a∧O=(a,jY ws)::Oz∧bQ P us Oz ws
 |.fr φ,O,v=>pM φ∧φ P O v
noncomputable def bQ (P:Fz):List Tr→Led→List af→Prop:=@λA B C=>match A,B,C with
 |[],O,vs=>O=[]∧vs=[]
 |t::ts,O,vs=>match vs with
  |[]=>False
  |v::W=>∃J V,O=J++V∧Rep P t J v∧bQ P ts V W
end
section
variable {P P' Pa:Fz}{vs us ws:List af}{ds es:List ag}{v:af}{d:ag}{O O':Led}{t:Tr}{ts:List Tr}{a:ao}
theorem Dat.mono (x:Dat P v d) (J:∀a o,P a o→P' a o):Dat P' v d:=by
 induction x with
 |none=>exact .none
 |bool b=>exact .bool b
 |int n t=>exact .int n t
 |str n t=>exact .str n t
 |list h q l _ V=>exact .list (J _ _ h) q l V
 |tup h l _ V=>exact .tup (J _ _ h) l V
 |mt h=>exact .mt (J _ _ h)
theorem bu.mono (x:bu P vs ds) (J:∀a o,P a o→P' a o):bu P' vs ds:=x.imp λzz zz h=>h.mono J
theorem zJ:∀{vs:List af}{ds:List ag},vs.length=ds.length→(∀(i:Nat) v d,vs[i]? = some v→ds[i]? = some d→Dat P v d)→bu P vs ds:=@λA B C D=>match A,B,C,D with
 |[],[],zz,J=>rfl
 |v::vs,d::ds,l,f=>⟨f 0 v d rfl rfl,zJ (ji l) λi=>f (i+1)⟩
theorem rH:∀{vs:List af}{ds:List ag},bu P vs ds→∀(i:Nat) v d,vs[i]? = some v→ds[i]? = some d→Dat P v d:=λx i v d V W=>by
 refine El.au (x.get W) λw J Y=>?_;rw [V] at J;cases J;exact Y
theorem Dat.lst {k:Nat}(h:P a (bF ws k)) (x:bu P ws ds):Dat P (.ref a) (.list ds):=.list h uw x.len (rH x)
theorem Dat.FF (h:P a (jY ws)) (x:bu P ws ds):Dat P (.ref a) (.tuple ds):=.tup h x.len (rH x)
theorem Dat.i8 {n:Int}(h:Dat P v (.int n)):∃t,v=.int n t:=by cases h;exact ⟨_,rfl⟩
theorem Dat.OE {n:Bool}(h:Dat P v (.bool n)):v=.bool n:=by cases h;rfl
theorem Dat.listI (h:Dat P v (.list ds)):∃a ws o,v=.ref a∧(P a o∧mh o ws)∧bu P ws ds:=by cases h with | list p q l g=>exact El.gC _ _ _ rfl ⟨p,q⟩ (zJ l g)
theorem Dat.tupI (h:Dat P v (.tuple ds)):∃a ws,v=.ref a∧P a (jY ws)∧bu P ws ds:=by cases h with | tup p l g=>exact El.bP _ _ rfl p (zJ l g)
theorem zK {h:ar}:∀{vs:List af}{ds:List ag},vs.length=ds.length→(∀(i:Nat) v d,vs[i]? = some v→ds[i]? = some d→∃as,xb h v d as)→∃as,ReadsAll h vs ds as:=@λA B C D=>match A,B,C,D with
 |[],[],zz,J=>⟨_,.nil⟩
 |v::vs,d::ds,l,f=>(f 0 v d rfl rfl).elim λzz r=>(zK (ji l) λi v d=>f (i+1) v d).elim λzz q=>⟨_,.cons r q⟩
theorem zL:∀{ds:List ag}{i:Nat}{d:ag},ag.hasDictAll ds=false→ds[i]? = some d→d.hasDict=false:=@λA B C D F=>match A,B,C,D,F with
 |[],zz,J,V,h=>El.ns h
 |e::ds,0,d,g,h=>by
  cases h
  exact (X0.mp (show (e.hasDict || ag.hasDictAll ds)=false by rw [←g,ag.hasDictAll])).1
 |e::ds,i+1,d,g,h=>zL (X0.mp (show (e.hasDict || ag.hasDictAll ds)=false by rw [←g,ag.hasDictAll])).2 (i:=i) h
theorem Dat.reads {h:ar}(x:Dat P v d) (V:∀a o,P a o→h.get? a=some o):d.hasDict=false→∃as,xb h v d as:=by
 induction x with
 |none=>exact λzz=>⟨_,.none⟩
 |bool b=>exact λzz=>⟨_,.bool b⟩
 |int n t=>exact λzz=>⟨_,.int n t⟩
 |str n t=>exact λzz=>⟨_,.str n t⟩
 |list g o l _ J=>exact λn=>(zK l λi v d e1 e2=>J i v d e1 e2 (zL (by rw [←n,ag.hasDict]) e2)).elim λzz q=>o.d.elim λzz d=>⟨_,reads_list_at (V _ _ g) o.c d q⟩
 |tup g l _ J=>exact λn=>(zK l λi v d e1 e2=>J i v d e1 e2 (zL (by rw [←n,ag.hasDict]) e2)).elim λzz q=>⟨_,reads_tuple_at (V _ _ g) rfl rfl q⟩
 |mt _=>exact λn=>(El.tf (show true=false by rw [←n,ag.hasDict]))
mutual
theorem Rep.mono (J:∀a o,P a o→P' a o):∀(t:Tr) {O:Led}{v:af},Rep P t O v→Rep P' t O v:=@λA B C D=>match A,B,C,D with
 |.un,zz,V,x=>x
 |.dat zz,V,W,x=>⟨x.1,x.2.mono J⟩
 |.dl zz,V,W,⟨a,n,ws,e,f,x⟩=>(El.gC a n ws e f (x.mono J))
 |.ol us,zz,V,⟨a,n,ws,Oz,e,f,x⟩=>(El.jS a n ws Oz e f (bQ.mono J us x))
 |.ot us,zz,V,⟨a,ws,Oz,e,f,x⟩=>(El.gC a ws Oz e f (bQ.mono J us x))
 |.fr zz,V,W,x=>⟨x.1,x.1 _ _ _ _ J x.2⟩
theorem bQ.mono (J:∀a o,P a o→P' a o):∀(ts:List Tr) {O:Led}{vs:List af},bQ P ts O vs→bQ P' ts O vs:=@λA B C D=>match A,B,C,D with
 |[],zz,V,x=>x
 |zz::V,W,[],x=>x
 |t::ts,zz,V::W,⟨Y,Z,e,x,y⟩=>(El.bP Y Z e (Rep.mono J t x) (bQ.mono J ts y))
end
theorem bQ.len:∀{ts:List Tr}{O:Led}{vs:List af},bQ P ts O vs→vs.length=ts.length:=@λA B C D=>match A,B,C,D with
 |[],zz,J,x=>x.2▸rfl
 |zz::J,V,[],x=>(show False from x).elim
 |zz::J,V,W::Y,⟨_,Z,zt,zr,y⟩=>congrArg jj y.len
theorem bQ.focus:∀{ts:List Tr}{O:Led}{vs:List af}{i:Nat},bQ P ts O vs→ts[i]? = some t→∃v W Or,vs[i]? = some v∧Rep P t W v∧O.Perm (W++Or)∧
  ∀{P':Fz}{v' t' O'},(∀a o,P a o→P' a o)→Rep P' t' O' v'→∃V,bQ P' (ts.set i t') V (vs.set i v')∧V.Perm (O'++Or):=@λC D F G H J=>match C,D,F,G,H,J with
 |[],zz,zy,zx,zw,h=>El.ns h
 |zz::zy,zx,[],zw,x,zv=>(show False from x).elim
 |u::ts,zz,v::vs,0,⟨W,Y,e,x,y⟩,h=>(El.tL v W Y rfl (dC h▸x) (e▸.refl _) (λ{P' v' t' O'} Z z=>(El.aD (O'++Y) (El.bP O' Y rfl z (bQ.mono Z ts y)) (.refl _))))
 |u::ts,zz,v::vs,i+1,⟨W,Y,e,x,y⟩,h=>by
  refine El.fo (y.focus (i:=i) h) λw A B h1 h2 h3 f=>?_;refine El.tL w A (W++B) h1 h2 (e▸(h3.append_left W).trans (cV ..)) (λ{P' v' t' O'} Z z=>?_);refine El.au (f Z z) λV g1 g2=>?_;exact El.aD (W++V) (El.bP W V rfl (Rep.mono Z u x) g1) ((g2.append_left W).trans (cV ..))
noncomputable abbrev Fz.and (P:Fz) (O:Led):Fz:=λa o=>P a o∨(a,o)∈O
theorem zM {x:Option ag}{y:Option (List ag)}(h:rG x y=some ds):∃d es,x=some d∧y=some es∧ds=d::es:=by
 cases x with
 |none=>exact El.ns h
 |some d=>cases y with
  |none=>exact El.ns h
  |some es=>exact El.bP d es rfl rfl (dC h).symm
theorem map_some {α β:Type}{x:Option α}{f:α→β}{y:β}(h:x.map f=some y):∃a,x=some a∧y=f a:=by
 cases x with
 |none=>exact El.ns h
 |some a=>exact El.aD a rfl (dC h).symm
theorem bind_some {α β:Type}{x:Option α}{f:α→Option β}{y:β}(h:x.bind f=some y):∃a,x=some a∧f a=some y:=by
 cases x with
 |none=>exact El.ns h
 |some a=>exact El.aD a rfl h
mutual
theorem Rep.i9:∀(t:Tr) {O:Led}{v:af}{d:ag},Rep P t O v→t.data=some d→Dat (P.and O) v d:=@λA B C D F G=>match A,B,C,D,F,G with
 |.un,zz,V,W,Y,h=>El.ns h
 |.dat zz,V,W,Y,x,h=>dC h▸x.2.mono λzz zz=>.inl
 |.dl zz,V,W,Y,⟨a,n,ws,e,f,x⟩,h=>by
  cases h
  subst e f;exact .lst (.inr (.head _)) (x.mono λzz zz=>.inl)
 |.ol us,zz,V,W,⟨a,n,ws,Oz,e,f,x⟩,h=>by
  refine El.au (map_some h) λds Z J=>?_;clear h;subst J;subst e f;exact .lst (.inr (.head _)) ((bQ.i9 us x Z).mono λzz zz q=>q.imp_right λq=>.tail _ q)
 |.ot us,zz,V,W,⟨a,ws,Oz,e,f,x⟩,h=>by
  refine El.au (map_some h) λds Z J=>?_;clear h;subst J;subst e f;exact .FF (.inr (.head _)) ((bQ.i9 us x Z).mono λzz zz q=>q.imp_right λq=>.tail _ q)
 |.fr zz,V,W,Y,zv,h=>El.ns h
theorem bQ.i9:∀(ts:List Tr) {O:Led}{vs:List af}{ds:List ag},bQ P ts O vs→uz ts=some ds→bu (P.and O) vs ds:=@λA B C D F G=>match A,B,C,D,F,G with
 |[],zz,V,W,⟨_,e⟩,h=>by cases h;subst e;rfl
 |zz::V,W,[],Y,x,zv=>(show False from x).elim
 |t::ts,zz,V::W,Y,⟨O1,O2,e,x,y⟩,h=>by
  refine El.aP (zM h) λd es Z h2 J=>?_;clear h;subst J;subst e;exact ⟨(Rep.i9 t x Z).mono λzz zz q=>q.imp_right (bO _),(bQ.i9 ts y h2).mono λzz zz q=>q.imp_right (bx _)⟩
end
noncomputable def child (j:Nat):Tr→Option Tr:=@λA=>match A with
 |.ol ts=>ts[j]?
 |.ot ts=>ts[j]?
 |_=>none
noncomputable def ek (t:Tr):List Nat→Option Tr:=@λA=>match A with
 |[]=>some t
 |j::p=>(ek t p).bind (child j)
noncomputable def setC (j:Nat) (u:Tr):Tr→Tr:=@λA=>match A with
 |.ol ts=>.ol (ts.set j u)
 |.ot ts=>.ot (ts.set j u)
 |t=>t
noncomputable def kS (t:Tr):List Nat→Tr→Tr:=@λA B=>match A,B with
 |[],u=>u
 |j::p,u=>match ek t p with
  |some t1=>kS t p (setC j u t1)
  |none=>t
noncomputable abbrev SeqIn (P:Fz) (a:ao) (ws:List af):Prop:=(∃o,P a o∧mh o ws)∨P a (jY ws)
noncomputable def d6 (N:Led) (v:af):List Nat→af→Prop:=@λA B=>match A,B with
 |[],w=>w=v
 |j::p,w=>∃a ws,d6 N v p (.ref a)∧SeqIn (λa o=>(a,o)∈N) a ws∧ws[j]? = some w
theorem d6.mono {N N':Led}(J:∀q∈N,q∈N'):∀{p:List Nat}{w:af},d6 N v p w→d6 N' v p w:=@λA B C=>match A,B,C with
 |[],zz,x=>x
 |zz::p,V,⟨a,ws,x,y,z⟩=>(El.bP a ws (d6.mono J (p:=p) x) (y.imp (λh=>h.imp λzz h=>h.imp_left (J _)) (J _)) z)
noncomputable abbrev uA (N:Led):Prop:=∀a o J,(a,o)∈N→(a,J)∈N→o=J
noncomputable def uB (o:ay):List af:=match o.data with
 |.seq xs zz=>xs.toList
 |_=>[]
theorem OF {N:Led}{ws us:List af}(f:uA N) (x:SeqIn (λa o=>(a,o)∈N) a ws) (y:SeqIn (λa o=>(a,o)∈N) a us):ws=us:=by
 have V:∀{ws:List af},SeqIn (λa o=>(a,o)∈N) a ws→∃o,(a,o)∈N∧uB o=ws:=λx=>x.elim (λ⟨o,h,q⟩=>(El.aD o h (by refine El.ea q.d λk d=>?_;unfold uB;exact ae (d ..) rfl))) λh=>(El.aD _ h rfl)
 refine El.au (V x) λo W J=>?_;clear x;subst J;refine El.au (V y) λZ Y J=>?_;clear y;subst J;exact ae (f _ _ _ W Y ..) rfl
theorem d6.uniq {N:Led}(f:uA N):∀{p:List Nat}{w J:af},d6 N v p w→d6 N v p J→w=J:=@λA B C D F=>match A,B,C,D,F with
 |[],zz,V,x,y=>x.trans y.symm
 |zz::p,V,zx,⟨a,ws,x,y,z⟩,⟨a',W,Y,Z,z'⟩=>by
  cases d6.uniq f (p:=p) x Y
  rw [OF f y Z,z'] at z;exact (dC z).symm
inductive zN (P:Fz) (N:Led) (O:Led) (v:af) (p:List Nat) (u:Tr) (f:Tr→Tr):Prop
 |mk {w:af}{Ou Or:Led}:d6 N v p w→Rep P u Ou w→O.Perm (Ou++Or)→(∀{P':Fz}{u' zO},(∀a o,P a o→P' a o)→Rep P' u' zO w→∃O',Rep P' (f u') O' v∧O'.Perm (zO++Or))→zN P N O v p u f
theorem FG {A B X Y:Led}{p:ao×ay}(J:O.Perm ((p::A)++B)) (V:A.Perm (X++Y)):O.Perm (X++(p::(Y++B))):=
 J.trans (((V.append_right B).cons p).trans (by refine ae (aH ..) ?_;exact nk.symm))
theorem Rep.uC {N:Led}(x:Rep P t O v) (Y:∀q∈O,q∈N):∀{p:List Nat}{u:Tr},ek t p=some u→zN P N O v p u (kS t p):=@λC D F=>match C,D,F with
 |[],u,h=>by cases h;exact .mk rfl x (by rw [bt]) λW y=>(El.aD _ y (by rw [bt]))
 |j::p,u,h=>by
  refine El.au (bind_some (show (ek t p).bind (child j)=some u from h)) λt1 e h'=>?_;have es:∀J,kS t (j::p) J=kS t p (setC j J t1):=λJ=>by refine (?_:(match ek t p with | some t1=>kS t p (setC j J t1) | none=>t)=_);exact ae (e ..) rfl
  cases x.uC Y e with
  |@mk w1 Z Or pv r pe f=>
   have V:∀{a o ws us Oz},w1=.ref a→Z=(a,o)::Oz→SeqIn (λa o=>(a,o)∈N) a ws→bQ P us Oz ws→us[j]? = some u→(∀{P':Fz}{J O'},bQ P' (us.set j J) O' ws→Rep P' (setC j J t1) ((a,o)::O') (.ref a))→zN P N O v (j::p) u (kS t (j::p)):=λ{a o ws us Oz} e1 e2 si y hu mk=>by
    clear r;subst e1 e2;refine El.fo (y.focus hu) λw A B g1 g2 g3 g4=>?_;have hw:ws.set j w=ws:=by clear g2;obtain ⟨hl,e⟩:=fH.mp g1;refine ae (e ..).symm ?_;exact ta hl
    refine .mk (El.bP a ws pv si g1) g2 (FG pe g3) λ{P' J zO} W z=>?_;refine El.au (g4 W z) λYS k1 k2=>?_;rw [hw] at k1;refine El.au (f W (mk k1)) λO3 k3 k4=>?_;exact El.aD O3 (es J▸k3) (k4.trans (FG (.refl _) k2))
   have hO:∀q∈Z,q∈N:=λq hq=>Y q (pe.mem_iff.mpr (bO _ hq));clear e es;cases t1 with
   |ol us=>
    refine El.fL r λa n ws Oz e1 e2 y=>?_;clear r;exact V e1 e2 (.inl (El.aD (bF ws n) (hO _ (by refine ae (e2 ..) ?_;exact .head _)) uw)) y h' λz=>(El.jS a n ws _ rfl rfl z)
   |ot us=>
    refine El.dh r λa ws Oz e1 e2 y=>?_;clear r;exact V e1 e2 (.inr (hO _ (e2▸.head _))) y h' λz=>(El.gC a ws _ rfl rfl z)
   |_=>exact El.ns h'
end
section
variable {α:Type}{D:α→ag}{R:α→α→Prop}{rs ts:List α}{vs:List af}{P:Fz}
theorem OG (as:∀{a b:α},R a b→¬R b a) (W:rs.Perm ts) (hs:ts.Pairwise R):∃v:Nat→Nat,∀i j a b,rs[i]? = some a→rs[j]? = some b→i≠j→v i≠v j∧(v i<v j→R a b):=by
 have Y:∀i:Nat,∃j:Nat,∀a,rs[i]? = some a→ts[j]? = some a:=λi=>by
  cases h:rs[i]? with
  |none=>exact ⟨0,λzz e=>El.ns e⟩
  |some a=>
   refine El.ea (List.mem_iff_getElem?.mp (W.mem_iff.mp (jQ h))) λj e=>?_;exact ⟨j,λzz q=>dC q▸e⟩
 refine El.ea (Classical.skolem.mp Y) λv J=>?_;have nd:rs.Nodup:=W.nodup_iff.mpr (Zl (S:=λa b=>a≠b) (λ{a b} h e=>as h (by subst e;exact h)) hs)
 refine ⟨v,λi j a b hi V n=>⟨λe=>n ?_,λh=>?_⟩⟩
 ·refine (Ko (fH.mp hi).1 nd).mp (hi.trans (.trans ?_ V.symm));exact (J i a hi).symm.trans ((congrArg (ts[·]?) e).trans (J j b V))
 ·obtain ⟨l1,e1⟩:=fH.mp (J i a hi);obtain ⟨l2,e2⟩:=fH.mp (J j b V);have:=JZ.mp hs _ _ l1 l2 h;rw [e1,e2] at this;exact this
theorem FH {z:α}(d:bu P vs (rs.map D)):∀l:List Nat,(∀i∈l,i<rs.length)→bu P (l.map λi=>vs.getD i .none) ((l.map λi=>rs.getD i z).map D):=@λA B=>match A,B with
 |[],zz=>rfl
 |i::l,hl=>by
  have h:=eu (hl i (.head _));refine El.au (d.get (i:=i) (b:=D (rs[i]'(hl i (.head _)))) (by rw [kF,h];rfl)) λv J V=>?_
  refine ⟨?_,FH d l λj W=>hl j (.tail _ W)⟩;refine (?_:Dat P (vs.getD i .none) (D (rs.getD i z)));rw [eX,eX,J,h];exact V
theorem FI {z:α}{cmp:Nat→Nat→(Bool→aj→Prop)→aj→Prop}{Inv:aj→Prop}{Q:Array Nat→aj→Prop}{s:aj}(as:∀{a b:α},R a b→¬R b a) (hd:bu P vs (rs.map D)) (h1:1≤vs.length) (hp:rs.Perm ts) (hs:ts.Pairwise R)
  (OH:∀i j a b (c:Bool) C s,rs[i]? = some a→rs[j]? = some b→Inv s→(c=true→R a b)→(c=false→i=j∨R b a)→(∀J,Inv J→C c J)→cmp i j C s) (hi:Inv s)
  (hQ:∀p J,Inv J→bu P (p.toList.map λi=>vs.getD i .none) (ts.map D)→Q p J):(w7 vs.length).kasWp cmp Q s:=by
 have hl:vs.length=rs.length:=hd.len.trans (bK ..);refine El.ea (OG as hp hs) λv hv=>?_;have V:∀i,i<vs.length→∃a,rs[i]? = some a:=λi h=>⟨_,eu (hl▸h)⟩;refine El.dI (Srt.OD (v:=v) h1 λi j hi W n=>(V i hi).elim λa Z=>(V j W).elim λb hb=>(hv i j a b Z hb n).1) λp ep pp ps=>?_;refine Srt.Fu (lt:=Srt.fc v) (Inv:=Inv) (n:=vs.length) (λi j C J hi W hI hC=>?_) (w7 vs.length) (Srt.Ox h1) _ hi λJ hI=>?_
 ·refine El.ea (V i hi) λa Z=>?_;refine El.ea (V j W) λb hb=>?_;refine OH i j a b (decide (v i<v j)) C J Z hb hI (λh=>?_) (λh=>?_) hC
  ·have h:=of_decide_eq_true h;exact (hv i j a b Z hb λe=>ij _ (e▸h)).2 h
  ·by_cases e:i=j
   ·exact .inl e
   ·have:=hv i j a b Z hb e;exact .inr ((hv j i b a hb Z λq=>e q.symm).2 ((ng this.1).elim (λq=>absurd q (of_decide_eq_false h)) id))
 ·refine ae (ep ..) ?_;rw [hl] at pp ps;refine hQ p J hI ?_;have hm:=FH (z:=z) hd p.toList λi hi=>xa.mp (pp.mem_iff.mp hi);have Y:(p.toList.map (λi=>rs.getD i z)).Perm ts:=by
   have:=pp.map (λi=>rs.getD i z);rw [show (kA rs.length).map (λi=>rs.getD i z)=rs from Xm (by simp) λi h1 h2=>by simp [h2]] at this
   exact this.trans hp
  have hz:p.toList.length=rs.length:=pp.length_eq.trans Ks;have:p.toList.map (λi=>rs.getD i z)=ts:=by
   refine List.Perm.eq_of_pairwise (le:=R) (λa b zz zz h1 h2=>absurd h2 (as h1)) ?_ hs Y;rw [Kr,JZ];intro i j hi W uD;have e:∀k (hk:k<p.toList.length),p.getD k 0=p.toList[k]∧p.toList[k]<rs.length:=λk hk=>⟨by simp [o9,(show k<p.size from hk)],xa.mp (pp.mem_iff.mp (JY hk))⟩
   have lt:=ps i j uD (hz▸W);rw [(e i hi).1,(e j W).1] at lt;have g:∀{k:Nat},k<rs.length→rs[k]? = some (rs.getD k z):=λh=>by rw [eX,eu h];rfl
   exact (hv _ _ _ _ (g (e i hi).2) (g (e j W).2) λq=>absurd lt (by refine ae (q ..) ?_;exact ij _)).2 lt
  exact this▸hm
theorem FJ (J:rs.Perm ts) (h:rs.length<2):rs=ts:=by
 cases rs with
 |nil=>exact J.symm.eq_nil.symm
 |cons c r=>
  cases r with
  |nil=>exact (List.perm_singleton.mp J.symm).symm
  |cons d r=>exact absurd h (XW (oW 2 _))
end
theorem FK {h₀ H:ar}{L D:ao}{m:ai→Option af}{news:List (ao×ay)}{vs:List af}{n:Nat}(F:Fr h₀ L H m) (N:aW h₀ L H news) (ho:H.get? D=some (ew "list" vs.toArray n)) (Y:D≠L) (J:h₀.get? D=none) (V:∀p∈news,p.1≠D) :
  Fr h₀ L (Kt H D vs vs.toArray) m∧∃e2,aW h₀ L (Kt H D vs vs.toArray) ((D,W.listOf vs.toArray e2)::news):=by
 have s1:=ar.SameBut.update H D (ay.mapSeq λzz=>(#[]:Array af));have F1:=((kas_fr F s1 Y J).push (ew "tuple" vs.toArray 0)).push (ew "list" #[] 0);have N1:=(kas_news N s1 V).grown λb x e=>ar.get?_push_of_some (ew "list" #[] 0) (ar.get?_push_of_some (ew "tuple" vs.toArray 0) e);have s2:=ar.SameBut.update (((H.update D (ay.mapSeq λzz=>(#[]:Array af))).push (ew "tuple" vs.toArray 0)).push (ew "list" #[] 0)) D (ay.mapSeq λzz=>vs.toArray);have Z:=ar.get?_push_of_some (ew "list" #[] 0) (ar.get?_push_of_some (ew "tuple" vs.toArray 0) (Ku ho λzz=>#[]));exact ⟨kas_fr F1 s2 Y J,_,(bH.mpr ⟨(El.aK (Ku Z λzz=>vs.toArray) Y J),kas_news N1 s2 V⟩)⟩
inductive Ev
 |ow (t:Tr)
 |bo (i:Nat) (p:List Nat)
noncomputable def Ev.tree (σ:List Tr):Ev→Option Tr:=@λA=>match A with
 |.ow t=>some t
 |.bo i p=>σ[i]?.bind λt=>ek t p
noncomputable def Ev.data (σ:List Tr) (e:Ev):Option ag:=(e.tree σ).bind Tr.data
inductive Lc
 |int (n:Int)
 |str (s:ai)
 |bool (b:Bool)
 |none
set_option genCtorIdx true in
inductive Bi
 |len | max | min
inductive SE
 |nil
 |cons (a r:SE)
 |var (i:Nat)
 |lit (c:Lc)
 |tup (es:SE)
 |lst (es:SE)
 |bin (o:kL) (a b:SE)
 |neg (a:SE)
 |sub (a i:SE)
 |slc (a lo hi:SE)
 |cmp (o:kM) (a b:SE)
 |pq (o p:kM) (a b c:SE)
 |ite (t a b:SE)
 |tv (a:SE)
 |nt (t:SE)
 |an (a b:SE)
 |orr (a b:SE)
 |fn (i:Nat) (es:SE)
 |bi (b:Bi) (es:SE)
 |nY (a:SE)
 |lc (src elt cond:SE)
 |dW (i j:Nat)
 |mp (i m:Nat) (es:SE)
 |new (m:Nat) (es:SE)
 |uE (m:Nat) (r es:SE)
 |uF (i:Nat)
 |has (i j:Nat)
 |zP (i:Nat)
 |pO (i:Nat) (es:SE)
 |zQ (i:Nat) (es:SE)
 |jt (fz:Bool)
 |uG
 |bad
noncomputable abbrev iK:=Bool×(List ag→(ag→Prop)→Prop)
inductive aY
 |tr (t:Tr)
 |any
 |rf (a:ao)
noncomputable abbrev dK:=ao×ao→List aY→List ag→(ag→List aY→Prop)→Prop
structure da where
 f:List iK
 m:List dK
noncomputable def jZ (P:Fz):aY→af→Prop:=@λA B=>match A,B with
 |.tr t,v=>Rep P t [] v
 |.any,zz=>True
 |.rf a,v=>v=.ref a
noncomputable def bR:List ai:=["isjunk","a","b","autojunk","matching_blocks","opcodes","fullbcount","b2j","bjunk","bpopular"]
noncomputable def cX (P:Fz):List d4→List ai→List aY→Prop:=@λA B C=>match A,B,C with
 |[],zz,as=>as=[]
 |e::es,ns,as=>match ns,as with
  |n::ns,a::as=>(∃t,e.key=.str n t)∧lV e.val=true∧jZ P a e.val∧cX P es ns as
  |zz,J=>False
noncomputable def nZ (x:ao×ao) (as:List aY):Fz→Led→af→Prop:=λP O v=>v=.ref x.1∧∃es n,O=[(x.1,fZ 242 x.2),(x.2,fj es n)]∧cX P es bR as
noncomputable abbrev cc (x:ao×ao) (as:List aY):Tr:=.fr (nZ x as)
noncomputable abbrev cj (r:Fz→af→Prop):Tr:=.fr λP O v=>O=[]∧r P v
noncomputable def rI (P:Fz) (x:Option af) (y:Option ag):Prop:=match y with
 |none=>x=none
 |some d=>∃v,x=some v∧Dat P v d
theorem OI {pg J:bT}{w V:aR}{es:List d4}{kv:List (Int×af)}(h:Pairs (ip pg w) es kv):Pairs (ip J V) es kv:=by
 induction h with
 |nil=>exact .nil
 |cons a b _ W=>exact .cons a b W
theorem uH {pg J:bT}{w V:aR}{o:ay}{kv:List (Int×af)}(h:o.IsDictOf (ip pg w) kv):o.IsDictOf (ip J V) kv:=
 h.imp λes h=>h.imp λW h=>(El.l8 h.1 h.2.1 h.2.2.1 (OI h.2.2.2.1) h.2.2.2.2)
structure ju (P:Fz) (n:Nat) (g:Int→Option ag) (o:ay):Prop where
 d:∃kv,(∀(pg:bT) (w:aR),o.IsDictOf (ip pg w) kv)∧kv.length≤n∧∀i,rI P (valueAt kv i) (g i)
noncomputable def uI (S:Int→Bool) (o:ay):Prop:=∀(pg:bT) (w:aR) (h:ar) (a:ao),h.get? a=some o→∃n,h.SetOf (ip pg w) a S n
noncomputable def j4 (n:Nat) (g:Int→Option ag):Fz→Led→af→Prop:=λP O v=>∃a o,v=.ref a∧O=[(a,o)]∧(a == s6)=false∧ju P n g o
noncomputable def ff (g:Int→Option ag):Fz→af→Prop:=λP v=>∃a o n,v=.ref a∧P a o∧(a == s6)=false∧ju P n g o
noncomputable def ja (S:Int→Bool):Fz→af→Prop:=λP v=>∃a o,v=.ref a∧P a o∧uI S o
inductive mj (g:Int→Option ag) (P:Fz):af→Prop
 |mk {q a:ao}{o:ay}{n:Nat}:P q (fR "dict.get" a)→P a o→(a == s6)=false→ju P n g o→mj g P (.ref q)
inductive n5 (S:Int→Bool) (P:Fz):af→Prop
 |mk {q a:ao}{o:ay}:P q (fR "set.__contains__" a)→P a o→uI S o→n5 S P (.ref q)
noncomputable def zR (fz:Bool):Tr:=match fz with
 |true=>cj (ff λzz=>none)
 |false=>.fr (j4 0 λzz=>none)
noncomputable def n6 (b:Nat×Nat×Nat):ag:=.tuple [.int b.1,.int b.2.1,.int b.2.2]
noncomputable def d7 (b:Nat×Nat×Nat):ag:=zI b.1 b.2.1 b.2.2
inductive zS (σ:List Tr) (i:Nat) (k:List ag→Prop):Prop
 |mk {bl:List (Nat×Nat×Nat)}:σ[i]? = some (.dl (bl.map n6))→bl.length<2 ^ 24→k (bl.map d7)→zS σ i k
inductive zU (σ:List Tr) (i j:Nat) (k:Tr→Prop):Prop
 |mk {x:ao×ao}{as:List aY}{t:Tr}:σ[i]? = some (cc x as)→as[j]? = some (.tr t)→k t→zU σ i j k
noncomputable abbrev bw (d:ag):Ev:=.ow (.dat d)
noncomputable def one (f:Ev→Prop):List Ev→Prop:=@λA=>match A with
 |[]=>False
 |e::r=>match r with
  |[]=>f e
  |zz::J=>False
noncomputable def two (f:Ev→Ev→Prop):List Ev→Prop:=@λA=>match A with
 |[]=>False
 |a::r=>one (λb=>f a b) r
noncomputable def aZ (c:Bool) (P R:Prop):Prop:=match c with
 |true=>P
 |false=>R
noncomputable def wD (o:Option ag) (k:ag→Prop):Prop:=match o with
 |some d=>k d
 |none=>False
noncomputable def intOf (e:Ev):Option Int:=match e with
 |.ow t=>match t with
  |.dat d=>match d with
   |.int n=>some n
   |_=>none
  |_=>none
 |.bo zz J=>none
noncomputable def boolOf (e:Ev):Option Bool:=match e with
 |.ow t=>match t with
  |.dat d=>match d with
   |.bool n=>some n
   |_=>none
  |_=>none
 |.bo zz J=>none
noncomputable def bC (e:Ev) (k:Int→Prop):Prop:=match intOf e with
 |some n=>k n
 |none=>False
noncomputable def j5 (e:Ev) (k:Bool→Prop):Prop:=match boolOf e with
 |some n=>k n
 |none=>False
noncomputable def zV (d:ag):Option (List ag):=match d with
 |.list ds=>some ds
 |_=>none
noncomputable def uJ (t:Tr):Option (List ag):=match t with
 |.dl ds=>some ds
 |_=>none
noncomputable def n7 (σ:List Tr) (e:Ev):Option (List ag):=match e with
 |.ow t=>t.data.bind zV
 |.bo i p=>(σ[i]?.bind λt=>ek t p).bind uJ
noncomputable def jb (σ:List Tr) (e:Ev) (k:List ag→Prop):Prop:=match n7 σ e with
 |some ds=>k ds
 |none=>False
noncomputable def wT (o:Option Tr) (k:Tr→Prop):Prop:=match o with
 |some t=>k t
 |none=>False
noncomputable abbrev small (n:Nat):Prop:=n≤cE
inductive fA {α:Type}(v:α) (k:α→Prop):Prop
 |mk {w:α}:v=w→k w→fA v k
theorem fA.out {α:Type}{v:α}{k:α→Prop}(h:fA v k):k v:=by
 cases h with | mk e h=>exact e▸h
noncomputable def FL (σ:List Tr) (a b:Ev) (k:Ev→Prop):Prop:=jb σ a λxs=>jb σ b λys=>small (xs.length+ys.length)∧fA (xs++ys) λzs=>k (.ow (.dl zs))
noncomputable def zW (σ:List Tr) (a b:Ev) (k:Ev→Prop):Prop:=match intOf a with
 |some x=>bC b λy=>k (bw (.int (x+y)))
 |none=>FL σ a b k
noncomputable def OJ (a:Ev) (k:List ag→Prop):Prop:=match a with
 |.ow t=>match uJ t with
  |some xs=>k xs
  |none=>False
 |.bo zz J=>False
noncomputable def mulL (a b:Ev) (k:Ev→Prop):Prop:=OJ a λxs=>bC b λy=>(0≤y∧y<2 ^ 20∧xs.length*y.toNat≤2 ^ 24)∧fA (c9 y.toNat xs).flatten λzs=>k (.ow (.dl zs))
noncomputable def zX (a b:Ev) (k:Ev→Prop):Prop:=match intOf a with
 |some x=>bC b λy=>x.natAbs<2 ^ 30∧k (bw (.int (x*y)))
 |none=>mulL a b k
noncomputable def uK (σ:List Tr) (o:kL) (a b:Ev) (k:Ev→Prop):Prop:=match o with
 |.Add=>zW σ a b k
 |.Sub=>bC a λx=>bC b λy=>k (bw (.int (x-y)))
 |.Mult=>zX a b k
 |.FloorDiv=>bC a λx=>bC b λy=>(0<y∧y<2 ^ 30)∧k (bw (.int (x / y)))
 |.Mod=>bC a λx=>bC b λy=>0<y∧k (bw (.int (x % y)))
 |_=>False
noncomputable abbrev dX (d:ag):Prop:=SeqAt.shaped d=true
noncomputable def zY (σ:List Tr) (a b:Ev) (k:Bool→Prop):Prop:=wD (a.data σ) λx=>wD (b.data σ) λy=>(dX x∧dX y)∧fA (ag.eqv x y) k
noncomputable def FN (x y:ag) (k:Bool→Prop):Prop:=match y with
 |.none=>(match x with
  |.none=>k true
  |_=>k false)
 |.list zz=>(match x with
  |.none=>k false
  |_=>False)
 |_=>False
noncomputable def zZ (σ:List Tr) (a b:Ev) (k:Bool→Prop):Prop:=wD (a.data σ) λx=>wD (b.data σ) λy=>FN x y k
noncomputable def uL (σ:List Tr) (o:kM) (a b:Ev) (k:Bool→Prop):Prop:=match o with
 |.Eq=>zY σ a b k
 |.NotEq=>zY σ a b λc=>k (!c)
 |.Lt=>bC a λx=>bC b λy=>k (decide (x<y))
 |.LtE=>bC a λx=>bC b λy=>k (decide (x≤y))
 |.Gt=>bC a λx=>bC b λy=>k (decide (y<x))
 |.GtE=>bC a λx=>bC b λy=>k (decide (y≤x))
 |.Is=>zZ σ a b k
 |.IsNot=>zZ σ a b λc=>k (!c)
 |_=>False
inductive iL {α:Type}(xs:List α) (n:Int) (k:Nat→α→Prop):Prop
 |mk {j:Nat}{x:α}:kN n xs.length=some j→xs[j]? = some x→-(2 ^ 63)≤n∧n<2 ^ 63→k j x→iL xs n k
noncomputable def z4 (i:Nat) (p:List Nat) (ts:List Tr) (n:Int) (k:Ev→Prop):Prop:=iL ts n λj t=>match t with
 |.dat d=>k (bw d)
 |.un=>False
 |.fr zz=>False
 |_=>k (.bo i (j::p))
set_option genCtorIdx true in
inductive Sq
 |fz (ds:List ag)
 |ow (ts:List Tr)
 |bo (i:Nat) (p:List Nat) (ts:List Tr)
noncomputable def OK (d:ag):Option Sq:=match d with
 |.list ds=>some (.fz ds)
 |.tuple ds=>some (.fz ds)
 |_=>none
noncomputable def rJ (f:List Tr→Sq) (t:Tr):Option Sq:=match t with
 |.dat d=>OK d
 |.dl ds=>some (.fz ds)
 |.ol ts=>some (f ts)
 |.ot ts=>some (f ts)
 |_=>none
noncomputable def uM (σ:List Tr) (e:Ev):Option Sq:=match e with
 |.ow t=>rJ .ow t
 |.bo i p=>(σ[i]?.bind λt=>ek t p).bind (rJ (.bo i p))
noncomputable def pP (σ:List Tr) (a i:Ev) (k:Ev→Prop):Prop:=bC i λn=>match uM σ a with
 |none=>False
 |some q=>match q with
  |.fz ds=>iL ds n λzz d=>k (bw d)
  |.ow ts=>iL ts n λzz t=>k (.ow t)
  |.bo i p ts=>z4 i p ts n k
noncomputable def fS (xs:List ag) (lo hi:Option Int):List ag:=
 (sliceRange (td lo hi none xs.length).1 (td lo hi none xs.length).2.1 (td lo hi none xs.length).2.2).filterMap (xs[·]?)
noncomputable def z5 (l:List Ev) (k:Option Int→Prop):Prop:=match l with
 |[]=>k none
 |e::r=>match r with
  |[]=>bC e λn=>k (some n)
  |zz::J=>False
noncomputable def FO (σ:List Tr) (a:Ev) (lo hi:Option Int) (k:Ev→Prop):Prop:=jb σ a λxs=>small xs.length∧fA (fS xs lo hi) λys=>k (.ow (.dl ys))
noncomputable def FP (σ:List Tr) (a:Ev) (k:Bool→Prop):Prop:=wD (a.data σ) λd=>match d with
 |.bool b=>k b
 |.int n=>k (decide (n≠0))
 |.none=>k false
 |.str x=>x.length<1000∧k (decide (x.length≠0))
 |.list ds=>small ds.length∧k (!ds.isEmpty)
 |_=>False
noncomputable def ml:List Ev→Bool:=@λA=>match A with
 |[]=>true
 |.ow zz::r=>ml r
 |.bo zz J::V=>false
noncomputable def FQ:ag→Bool:=@λA=>match A with
 |.list zz=>false
 |.tuple zz=>false
 |.dict zz=>false
 |_=>true
noncomputable def mq (σ:List Tr):List Ev→Option (List ag):=@λA=>match A with
 |[]=>some []
 |e::r=>rG (e.data σ) (mq σ r)
noncomputable def OL (fr:Bool) (d:ag):Ev:=match fr with
 |false=>bw d
 |true=>match d with
  |.list ys=>.ow (.dl ys)
  |d=>bw d
noncomputable def z6 (fs:da) (σ:List Tr) (i:Nat) (es:List Ev) (k:Ev→Prop):Prop:=match fs.f[i]? with
 |none=>False
 |some f=>match mq σ es with
  |none=>False
  |some ds=>match ml es with
   |true=>f.2 ds λd=>k (OL f.1 d)
   |false=>f.2 ds λd=>FQ d=true∧k (bw d)
inductive iM (ms:List dK) (σ:List Tr) (m:Nat) (vs:List Ev) (x:ao×ao) (as:List aY) (k:ag→List aY→Prop):Prop
 |mk {ds:List ag}{sp:dK}:ms[m]? = some sp→mq σ vs=some ds→ml vs=true→sp x as ds k→iM ms σ m vs x as k
inductive uN (σ:List Tr) (i j:Nat) (k:Ev→Prop):Prop
 |mk {x:ao×ao}{as:List aY}{S:Int→Bool}:σ[i]? = some (cc x as)→as[j]? = some (.tr (cj (ja S)))→k (.ow (cj (n5 S)))→uN σ i j k
inductive uO (σ:List Tr) (i:Nat) (k:Ev→Prop):Prop
 |mk {g:Int→Option ag}:σ[i]? = some (cj (ff g))→k (.ow (cj (mj g)))→uO σ i k
inductive n8 (σ:List Tr) (vs:List Ev) (k:Int→Prop):Prop
 |mk {c:Int}:mq σ vs=some [.int c]→ml vs=true→k c→n8 σ vs k
inductive n9 (σ:List Tr) (vs:List Ev) (k:Int→ag→Prop):Prop
 |mk {c:Int}{d:ag}:mq σ vs=some [.int c,d]→ml vs=true→k c d→n9 σ vs k
inductive kT (σ:List Tr) (i:Nat) (kg:(Int→Option ag)→Prop) (kh:(Int→Bool)→Prop):Prop
 |get {g:Int→Option ag}:σ[i]? = some (cj (mj g))→kg g→kT σ i kg kh
 |has {S:Int→Bool}:σ[i]? = some (cj (n5 S))→kh S→kT σ i kg kh
inductive uP (σ:List Tr) (i:Nat) (k:(Int→Option ag)→Prop):Prop
 |mk {g:Int→Option ag}:σ[i]? = some (cj (ff g))→k g→uP σ i k
inductive jc (σ:List Tr) (i:Nat) (k:ao×ao→List aY→Prop):Prop
 |mk {x:ao×ao}{as:List aY}:σ[i]? = some (cc x as)→k x as→jc σ i k
inductive z7 (k:ao×ao→List aY→Prop):Ev→Prop
 |mk {x:ao×ao}{as:List aY}:k x as→z7 k (.ow (cc x as))
noncomputable def FR (σ:List Tr) (b:Bi) (es:List Ev) (k:Ev→Prop):Prop:=match b with
 |.len=>one (λe=>wD (e.data σ) λd=>match d with
  |.list ds=>small ds.length∧fA ds.length λn=>k (bw (.int n))
  |.tuple ds=>small ds.length∧fA ds.length λn=>k (bw (.int n))
  |_=>False) es
 |.max=>two (λa b=>bC a λx=>bC b λy=>k (bw (.int (max x y)))) es
 |.min=>two (λa b=>bC a λx=>bC b λy=>k (bw (.int (min x y)))) es
noncomputable def z8 (σ:List Tr) (e:Ev) (k:Bool→Prop):Prop:=wD (e.data σ) λd=>match d with
 |.list zz=>k true
 |.int zz=>k false
 |.str zz=>k false
 |.tuple zz=>k false
 |_=>False
noncomputable def FT:Lc→ag:=@λA=>match A with
 |.int n=>.int n
 |.str s=>.str s
 |.bool b=>.bool b
 |.none=>.none
noncomputable def trees:List Ev→Option (List Tr):=@λA=>match A with
 |[]=>some []
 |e::r=>match e with
  |.ow t=>(trees r).map (t::·)
  |.bo zz J=>none
noncomputable def rK:List Tr→Option (List ag):=@λA=>match A with
 |[]=>some []
 |t::r=>match t with
  |.dat d=>rG (some d) (rK r)
  |_=>none
noncomputable def pQ (es:List Ev) (f:List ag→Ev) (g:List Tr→Ev) (k:Ev→Prop):Prop:=match trees es with
 |none=>False
 |some ts=>match rK ts with
  |some ds=>k (f ds)
  |none=>k (g ts)
noncomputable def j6 (elt cond:ag→(Ev→Prop)→Prop):List ag→(List ag→Prop)→Prop:=@λA B=>match A,B with
 |[],k=>k []
 |d::ds,k=>cond d λc=>j5 c λc=>aZ c (elt d λe=>match e with
  |.ow t=>wD t.data λy=>j6 elt cond ds λys=>k (y::ys)
  |.bo zz J=>False) (j6 elt cond ds k)
noncomputable def den (fs:da):SE→List Tr→(List Ev→Prop)→Prop:=@λA B C=>match A,B,C with
 |.nil,zz,k=>k []
 |.cons a r,σ,k=>den fs a σ λva=>den fs r σ λW=>k (va++W)
 |.var i,σ,k=>match σ[i]? with
  |none=>False
  |some t=>match t with
   |.un=>False
   |.fr zz=>False
   |.dat d=>k [bw d]
   |_=>k [.bo i []]
 |.lit c,zz,k=>k [bw (FT c)]
 |.tup es,σ,k=>den fs es σ λvs=>vs.length≤100∧pQ vs (λds=>bw (.tuple ds)) (λts=>.ow (.ot ts)) λe=>k [e]
 |.lst es,σ,k=>den fs es σ λvs=>vs.length≤100∧pQ vs (λds=>.ow (.dl ds)) (λts=>.ow (.ol ts)) λe=>k [e]
 |.bin o a b,σ,k=>den fs a σ (one λva=>den fs b σ (one λvb=>uK σ o va vb λe=>k [e]))
 |.neg a,σ,k=>den fs a σ (one λva=>bC va λn=>k [bw (.int (-n))])
 |.sub a i,σ,k=>den fs a σ (one λva=>den fs i σ (one λY=>pP σ va Y λe=>k [e]))
 |.slc a lo hi,σ,k=>den fs a σ (one λva=>den fs lo σ λZ=>z5 Z λl=>den fs hi σ λvh=>z5 vh λh=>FO σ va l h λe=>k [e])
 |.cmp o a b,σ,k=>den fs a σ (one λva=>den fs b σ (one λvb=>uL σ o va vb λc=>k [bw (.bool c)]))
 |.pq o p a b c,σ,k=>den fs a σ (one λva=>den fs b σ (one λvb=>uL σ o va vb λt=>aZ t (den fs c σ (one λvc=>uL σ p vb vc λu=>k [bw (.bool u)])) (k [bw (.bool false)])))
 |.ite t a b,σ,k=>den fs t σ (one λJ=>j5 J λc=>aZ c (den fs a σ k) (den fs b σ k))
 |.tv a,σ,k=>den fs a σ (one λva=>FP σ va λc=>k [bw (.bool c)])
 |.nt t,σ,k=>den fs t σ (one λJ=>j5 J λc=>k [bw (.bool (!c))])
 |.an a b,σ,k=>den fs a σ (one λva=>j5 va λc=>aZ c (den fs b σ k) (k [bw (.bool false)]))
 |.orr a b,σ,k=>den fs a σ (one λva=>j5 va λc=>aZ c (k [bw (.bool true)]) (den fs b σ k))
 |.fn i es,σ,k=>den fs es σ λvs=>z6 fs σ i vs λe=>k [e]
 |.bi b es,σ,k=>den fs es σ λvs=>FR σ b vs λe=>k [e]
 |.nY a,σ,k=>den fs a σ (one λe=>z8 σ e λc=>k [bw (.bool c)])
 |.lc src elt cond,σ,k=>den fs src σ (one λvs=>jb σ vs λds=>small ds.length∧j6 (λd k=>den fs elt [.dat d] (one k)) (λd k=>den fs cond [.dat d] (one k)) ds λys=>k [.ow (.dl ys)])
 |.dW i j,σ,k=>zU σ i j λt=>k [.ow t]
 |.mp i m es,σ,k=>jc σ i λx as=>den fs es σ λvs=>iM fs.m σ m vs x as λd V=>V=as∧k [bw d]
 |.new m es,σ,k=>den fs es σ λvs=>∀x,iM fs.m σ m vs x [] λd as=>d=.none∧k [.ow (cc x as)]
 |.uE m r es,σ,k=>den fs r σ (one (z7 λx as=>den fs es σ λvs=>iM fs.m σ m vs x as λd zz=>k [bw d]))
 |.uF i,σ,k=>zS σ i λrs=>k [.ow (.dl rs)]
 |.has i j,σ,k=>uN σ i j λe=>k [e]
 |.zP i,σ,k=>uO σ i λe=>k [e]
 |.pO i es,σ,k=>kT σ i (λg=>den fs es σ λvs=>n9 σ vs λc d=>k [bw ((g c).getD d)]) λS=>den fs es σ λvs=>n8 σ vs λc=>k [bw (.bool (S c))]
 |.zQ i es,σ,k=>uP σ i λg=>den fs es σ λvs=>n9 σ vs λc d=>k [bw ((g c).getD d)]
 |.jt fz,zz,k=>k [.ow (zR fz)]
 |.uG,zz,k=>k [.ow (cj (ja λzz=>false))]
 |.bad,zz,zy=>False
theorem OM {e:Ev}{n:Int}(h:intOf e=some n):e=bw (.int n):=by
 cases e with
 |bo _ _=>exact El.ns h
 |ow t=>cases t with
  |dat d=>cases d with
   |int n=>cases h;rfl
   |_=>exact El.ns h
  |_=>exact El.ns h
theorem oa {e:Ev}{k:Int→Prop}(h:bC e k):∃n,e=bw (.int n)∧k n:=by
 unfold bC at h;cases e1:intOf e with
 |none=>rw [e1] at h;exact h.elim
 |some n=>rw [e1] at h;exact El.aD n (OM e1) h
theorem eP {o:Option ag}{k:ag→Prop}(h:wD o k):∃d,o=some d∧k d:=by
 cases o with
 |none=>exact h.elim
 |some d=>exact El.aD d rfl h
theorem pR {σ:List Tr}{e:Ev}{k:List ag→Prop}(h:jb σ e k):∃ds,n7 σ e=some ds∧k ds:=by
 unfold jb at h;cases e1:n7 σ e with
 |none=>rw [e1] at h;exact h.elim
 |some n=>rw [e1] at h;exact El.aD n rfl h
theorem ON {σ:List Tr}{t:Tr}{ds:List ag}(h:n7 σ (.ow t)=some ds):t.data=some (.list ds):=by
 refine El.au (bind_some h) λd V J=>?_;cases d with
 |list _=>clear h;cases J;exact V
 |_=>exact El.ns J
theorem OO {t:Tr}{ds:List ag}(h:uJ t=some ds):t=.dl ds:=by
 cases t with
 |dl _=>cases h;rfl
 |_=>exact El.ns h
theorem OP {o:Option Tr}{k:Tr→Prop}(h:wT o k):∃d,o=some d∧k d:=by
 cases o with
 |none=>exact h.elim
 |some d=>exact El.aD d rfl h
theorem aZ.by {c:Bool}{P R:Prop}(h:c=true→P) (g:c=false→R):aZ c P R:=by
 cases c with
 |true=>exact h rfl
 |false=>exact g rfl
theorem aZ.dec {p:Prop} [Decidable p] {P R:Prop}(h:p→P) (g:¬p→R):aZ (decide p) P R:=.by (λe=>h (of_decide_eq_true e)) λe=>g (of_decide_eq_false e)
structure Cx where
 pg:bT
 w:aR
 A:cD
 h₀:ar
 L:ao
 env:cL
 P:Fz
 xs:List ai
 X:Led
 rd:(ai→Option af)→Led→Nat→af→Prop
noncomputable abbrev br:=af×Ev
noncomputable def gW (C:Cx) (m:ai→Option af) (N K ZL:Led) (e:Ev) (O:Led) (v:af):Prop:=match e with
 |.ow t=>Rep (C.P.and ZL) t O v
 |.bo i p=>O=[]∧∃w,C.rd m K i w∧d6 N w p v
noncomputable def cC (C:Cx) (m:ai→Option af) (N K ZL:Led):List br→Led→Prop:=@λA B=>match A,B with
 |[],O=>O=[]
 |q::τ,O=>∃J V,O=J++V∧gW C m N K ZL q.2 J q.1∧cC C m N K ZL τ V
inductive Sp (C:Cx) (σ:List Tr) (τ:List br) (m:ai→Option af) (N K ZL:Led):Prop
 |mk {Os Ot:Led}{vs:List af}:(N.map (·.1)).Nodup→N.Perm (Ot++(Os++(K++ZL)))→bQ (C.P.and ZL) σ Os vs→σ.length=C.xs.length→
  (∀(i:Nat) v t,vs[i]? = some v→σ[i]? = some t→t≠.un→C.rd m K i v)→cC C m N K ZL τ Ot→(∀q∈C.X,q∈ZL)→Sp C σ τ m N K ZL
noncomputable abbrev Fs:=(ai→Option af)×Led
inductive At (C:Cx) (σ:List Tr) (τ:List br) (K:Fs) (h:ar):Prop
 |mk {N ZL:Led}:Fr C.h₀ C.L h K.1→aW C.h₀ C.L h N→Sp C σ τ K.1 N K.2 ZL→At C σ τ K h
structure Cx.Ok (C:Cx):Prop where
 hh:C.A.handled=none
 hu:C.A.units+64<o8
 sub:∀a o,C.P a o→C.h₀.get? a=some o
 uq:∀{m K i v v'},C.rd m K i v→C.rd m K i v'→v=v'
 ldn:∀{i x m} {N K:Led}{v:af}{Q:af→aj→Prop}{s:aj},C.xs[i]? = some x→Fr C.h₀ C.L s.heap m→aW C.h₀ C.L s.heap N→(∀q∈K,q∈N)→C.rd m K i v→Q v s→aF (aO C.pg C.w) C.A (loadName C.env x) Q (λzz zz=>False) s
 z9:∀x∈C.xs,(x == ("__debug__":ai))=false
theorem Cx.Ok.ld {C:Cx}(J:C.Ok) {i x m} {N K:Led}{v:af}{Q:af→aj→Prop}{s:aj}(p:aE) (hx:C.xs[i]? = some x) (F:Fr C.h₀ C.L s.heap m) (V:aW C.h₀ C.L s.heap N) (W:∀q∈K,q∈N) (Y:C.rd m K i v) (Z:Q v s):aF (aO C.pg C.w) C.A (dg (.Name x p) C.env) Q (λzz zz=>False) s:=
 wpAny_Name (J.ldn hx F V W Y Z) (J.z9 x (jQ hx))
section
variable {C:Cx}{σ:List Tr}{τ τ':List br}{m:ai→Option af}{N K ZL:Led}{v w:af}{e:Ev}{t u:Tr}{d:ag}{i:Nat}{p:List Nat}{x:ai}
theorem Aa (h:(N.map (·.1)).Nodup):uA N:=by
 intro a o o' J V;induction N with
 |nil=>exact El.nm J
 |cons q r Y=>
  refine El.aa (cu.mp h) λW Z=>?_;clear h;rcases cU.mp J with e1 | e1
  ·rcases cU.mp V with e2 | e2
   ·exact (qB (e1.trans e2.symm)).2
   ·exact (W (e1▸bL.mpr (El.aD _ e2 rfl))).elim
  ·rcases cU.mp V with e2 | e2
   ·exact (W (e2▸bL.mpr (El.aD _ e1 rfl))).elim
   ·exact Y Z e1 e2
theorem and_mono {P:Fz}{Z J:Led}(V:∀q∈Z,q∈J):∀a o,P.and Z a o→P.and J a o:=λzz zz q=>q.imp_right (V _)
theorem gW.mono {N' bp O:Led}(J:∀q∈N,q∈N') (Z:∀q∈ZL,q∈bp):∀{e:Ev},gW C m N K ZL e O v→gW C m N' K bp e O v:=@λA B=>match A,B with
 |.ow t,x=>Rep.mono (and_mono Z) t x
 |.bo zz V,x=>⟨x.1,x.2.imp λzz q=>⟨q.1,q.2.mono J⟩⟩
theorem cC.mono {N' bp:Led}(J:∀q∈N,q∈N') (Z:∀q∈ZL,q∈bp):∀{τ:List br}{O:Led},cC C m N K ZL τ O→cC C m N' K bp τ O:=@λA B D=>match A,B,D with
 |[],zz,x=>x
 |zz::τ,V,x=>x.imp λzz x=>x.imp λzz x=>(El.aK x.1 (x.2.1.mono J Z) (x.2.2.mono J Z))
theorem cC.split:∀{τ:List br}{O:Led},cC C m N K ZL (τ++τ') O→∃V W,O=V++W∧cC C m N K ZL τ V∧cC C m N K ZL τ' W:=@λD F G=>match D,F,G with
 |[],zz,x=>(El.bP [] _ rfl rfl x)
 |zz::τ,zy,x=>by
  refine El.aP x λA B J y z=>?_;clear x;subst J;refine El.aP (cC.split (τ:=τ) z) λY Z J y2 z2=>?_;clear z;subst J;exact El.bP (A++Y) Z (aH ..).symm (El.bP A Y rfl y y2) z2
theorem cC.join {J:Led}(y:cC C m N K ZL τ' J):∀{τ:List br}{O:Led},cC C m N K ZL τ O→cC C m N K ZL (τ++τ') (O++J):=@λD F G=>match D,F,G with
 |[],zz,x=>by refine ae (show _=[] from x) ?_;exact y
 |zz::τ,W,x=>by
  refine El.aP x λA B V x1 x2=>?_;clear x;subst V;exact El.bP A (B++J) (aH ..) x1 (cC.join y (τ:=τ) x2)
theorem Sp.more {Os Ot T N' bp:Led}{vs:List af}(nd:(N'.map (·.1)).Nodup) (pm:N'.Perm (Ot++(Os++(K++bp)))) (rs:bQ (C.P.and ZL) σ Os vs) (J:σ.length=C.xs.length) (mp:∀(i:Nat) v t,vs[i]? = some v→σ[i]? = some t→t≠.un→C.rd m K i v) (V:cC C m N' K bp τ Ot) (hx:∀q∈C.X,q∈ZL) (hz:∀q∈ZL,q∈bp):Sp C σ τ m N' K bp:=
 .mk nd pm (bQ.mono (and_mono hz) σ rs) J mp V λq h=>hz q (hx q h)
theorem Rep.jd {P:Fz}{a:ao}{n:Nat}{ws:List af}{ds:List ag}(h:bu P ws ds):Rep P (.dl ds) [(a,bF ws n)] (.ref a):=(El.gC a n ws rfl rfl h)
theorem Rep.rL {P:Fz}{a:ao}{n:Nat}{ws:List af}{us:List Tr}{O:Led}(h:bQ P us O ws):Rep P (.ol us) ((a,bF ws n)::O) (.ref a):=(El.jS a n ws O rfl rfl h)
theorem Rep.OQ {P:Fz}{a:ao}{ws:List af}{us:List Tr}{O:Led}(h:bQ P us O ws):Rep P (.ot us) ((a,jY ws)::O) (.ref a):=(El.gC a ws O rfl rfl h)
theorem d6.step {a:ao}{ws:List af}{j:Nat}(h:d6 N v p (.ref a)) (s:SeqIn (λa o=>(a,o)∈N) a ws) (e:ws[j]? = some w):d6 N v (j::p) w:=(El.bP a ws h s e)
theorem uQ {D:ao}{o:ay}(nd:(N.map (·.1)).Nodup) (ne:∀p∈N,@Ne Nat p.1 D):(((D,o)::N).map (·.1)).Nodup:=
 cu.mpr ⟨λh=>(bL.mp h).elim λq J=>ne q J.1 J.2,nd⟩
theorem Sp.uR {D:ao}{o:ay}(S:Sp C σ τ m N K ZL) (ne:∀p∈N,@Ne Nat p.1 D) (r:Rep (C.P.and ZL) t [(D,o)] (.ref D)):Sp C σ ((.ref D,.ow t)::τ) m ((D,o)::N) K ZL:=by
 cases S with
 |@mk Os Ot vs nd pm rs J mp V hx=>exact .mk (uQ nd ne) (pm.cons _) rs J mp (El.bP [(D,o)] Ot rfl r (V.mono (λzz=>.tail _) λzz h=>h)) hx
theorem Sp.push {D:ao}{o:ay}(S:Sp C σ τ m N K ZL) (lt:∀p∈N,p.1<D) (r:Rep (C.P.and ZL) t [(D,o)] (.ref D)):Sp C σ ((.ref D,.ow t)::τ) m ((D,o)::N) K ZL:=S.uR (λp J=>ef (lt p J)) r
theorem Sp.mr (S:Sp C σ τ m N K ZL) (r:gW C m N K ZL e [] v):Sp C σ ((v,e)::τ) m N K ZL:=by
 cases S with
 |@mk Os Ot vs nd pm rs J mp V hx=>exact .mk nd pm rs J mp (El.bP [] Ot rfl r V) hx
theorem Sp.dM (S:Sp C σ τ m N K ZL) (r:Dat (C.P.and ZL) v d):Sp C σ ((v,bw d)::τ) m N K ZL:=S.mr ⟨rfl,r⟩
theorem Sp.uS (S:Sp C σ τ m N K ZL) (r:C.rd m K i v) (q:d6 N v p w):Sp C σ ((w,.bo i p)::τ) m N K ZL:=S.mr ⟨rfl,v,r,q⟩
theorem FU (h:ek .un p=some u):u=.un:=by
 induction p generalizing u with
 |nil=>cases h;rfl
 |cons j p J=>refine El.au (bind_some h) λt V W=>?_;cases J V;exact El.ns W
inductive Part (C:Cx) (m:ai→Option af) (N K ZL:Led) (i:Nat) (p:List Nat) (u:Tr):Prop
 |mk {v w:af}{Ou rest:Led}:C.rd m K i v→d6 N v p w→Rep (C.P.and ZL) u Ou w→N.Perm (Ou++rest)→uA N→Part C m N K ZL i p u
theorem Sp.part (S:Sp C σ τ m N K ZL) (h:(σ[i]?.bind λt=>ek t p)=some u) (hu:u≠.un):Part C m N K ZL i p u:=by
 refine El.au (bind_some h) λt hs V=>?_;cases S with
 |@mk Os Ot vs nd pm rs ln mp tm hx=>
  refine El.fo (rs.focus hs) λv O Or Y r Z zz=>?_;have W:N.Perm (O++(Ot++(Or++(K++ZL)))):=pm.trans ((((Z.append_right (K++ZL)).append_left Ot).trans (by refine ae (aH ..) ?_;exact cV ..)))
  cases r.uC (λq hq=>W.mem_iff.mpr (bO _ hq)) V with
  |@mk w Ou YT pv r1 J f=>exact .mk (mp i v t Y hs λe=>hu (FU (e▸V))) pv r1 (W.trans ((J.append_right _).trans (by rw [aH]))) (Aa nd)
theorem Sp.sub (S:Sp C σ τ m N K ZL):∀q∈ZL,q∈N:=by
 cases S with
 |mk nd pm rs V mp W hx=>exact λq J=>pm.mem_iff.mpr (bx _ (bx _ (bx _ J)))
theorem Sp.d8 (S:Sp C σ τ m N K ZL):∀q∈K,q∈N:=by
 cases S with
 |mk nd pm rs V mp W hx=>exact λq J=>pm.mem_iff.mpr (bx _ (bx _ (bO _ J)))
theorem Sp.gT {q:ao×ay}(S:Sp C σ τ m N K ZL) (J:q∈K) (V:q∈ZL):False:=by
 cases S with
 |mk nd pm rs W mp Y hx=>
  have n:=(pm.map (·.1)).nodup_iff.mp nd;rw [bG,bG,bG] at n;exact (fJ.mp (fJ.mp (fJ.mp n).2.1).2.1).2.2 _ (bL.mpr (El.aD q J rfl)) _ (bL.mpr (El.aD q V rfl)) rfl
inductive FV (C:Cx) (σ:List Tr) (τ:List br) (m:ai→Option af) (N K ZL:Led) (v:af) (e:Ev):Prop
 |mk {O Os Ot:Led}{vs:List af}:gW C m N K ZL e O v→(∀q∈O,q∈N)→(∀{e':Ev}{w:af}{O' Z:Led},O.Perm (O'++Z)→(∀hz:∀q∈ZL,q∈Z++ZL,gW C m N K (Z++ZL) e' O' w)→Sp C σ ((w,e')::τ) m N K (Z++ZL))→Sp C σ τ m N K (O++ZL)→FV C σ τ m N K ZL v e
theorem FW {O O' Z Ot Os:Led}(h:O.Perm (O'++Z)):((O++Ot)++(Os++(K++ZL))).Perm ((O'++Ot)++(Os++(K++(Z++ZL)))):=by
 refine ((h.append_right Ot).append_right _).trans ?_;refine ae (aH ..) (ae (aH ..) (ae (aH ..) ?_));refine .append_left _ ((cV ..).trans (.append_left _ ((cV ..).trans (.append_left _ (cV ..)))))
theorem Sp.top (S:Sp C σ ((v,e)::τ) m N K ZL):FV C σ τ m N K ZL v e:=by
 cases S with
 |@mk Os Ot vs nd pm rs Y mp J hx=>
  refine El.aP J ?_;clear J;intro O Or V r J;subst V;have hz:∀{Z:Led},∀q∈ZL,q∈Z++ZL:=λ{Z} q W=>bx _ W;exact .mk (Os:=Os) (Ot:=Or) (vs:=vs) r (λq W=>pm.mem_iff.mpr (bO _ (bO _ W)))
   (λ{e' w O' Z} hp hr=>.more (T:=[]) nd (pm.trans (FW hp)) rs Y mp (El.bP O' Or rfl (hr hz) (J.mono (λzz h=>h) hz)) hx hz)
   (.more (T:=[]) nd (pm.trans (FW (O':=[]) (.refl _))) rs Y mp (J.mono (λzz h=>h) hz) hx hz)
theorem Sp.kU (S:Sp C σ ((v,bw d)::τ) m N K ZL):Dat (C.P.and ZL) v d∧Sp C σ τ m N K ZL:=by
 cases S.top with
 |mk r _ _ V=>refine El.aa r ?_;clear r;intro J r;clear a a_1;subst J;exact ⟨r,V⟩
inductive FX (C:Cx) (σ:List Tr) (τ:List br) (m:ai→Option af) (N K ZL:Led) (v:af) (e:Ev):Prop
 |mk {bp:Led}:(∀q∈ZL,q∈bp)→Sp C σ τ m N K bp→(∀t,e=.ow t→∀d,t.data=some d→Dat (C.P.and bp) v d)→(∀d,e.data σ=some d→Dat (C.P.and N) v d)→FX C σ τ m N K ZL v e
theorem gW.part (V:C.Ok) {O:Led}(S:Sp C σ τ m N K ZL) (x:gW C m N K ZL (.bo i p) O v) (h:(σ[i]?.bind λt=>ek t p)=some u) (hu:u≠.un):∃J rest,Rep (C.P.and ZL) u J v∧N.Perm (J++rest):=by
 refine El.tH x λzz w b c=>?_;clear x;cases S.part h hu with
 |mk e1 e2 e3 W f=>
  cases V.uq b e1
  cases c.uniq f e2
  exact El.fM _ _ e3 W
theorem Sp.pop (Y:C.Ok) (S:Sp C σ ((v,e)::τ) m N K ZL):FX C σ τ m N K ZL v e:=by
 cases S.top with
 |@mk O Os Ot vs r Z _ S'=>
  have hz:∀q∈ZL,q∈O++ZL:=λq V=>bx _ V;have i9:∀{t:Tr}{J:Led}{d:ag},Rep (C.P.and ZL) t J v→(∀q∈J,q∈N)→t.data=some d→Dat (C.P.and N) v d:=λ{t J d} r h g=>(Rep.i9 t r g).mono λzz zz q=>q.elim (λq=>q.imp_right (S.sub _)) λq=>.inr (h _ q);refine .mk hz S' ?_ ?_
  ·rintro t rfl d h
   exact (Rep.i9 t r h).mono λzz zz q=>q.elim (λq=>q.imp_right (hz _)) λq=>.inr (bO _ q)
  ·intro d h;cases e with
   |ow t=>exact i9 r Z h
   |bo i p=>
    refine El.au (bind_some h) λu h1 W=>?_;refine El.dP (gW.part Y S r h1 λe=>by rw [e] at W;exact El.ns W) λJ rest e3 e4=>?_
    exact i9 e3 (λq V=>e4.mem_iff.mpr (bO _ V)) W
theorem Sp.slot (S:Sp C σ τ m N K ZL) (hs:σ[i]? = some t) (hu:t≠.un):∃v,C.rd m K i v∧∀d,t=.dat d→Dat (C.P.and ZL) v d:=by
 cases S with
 |@mk Os Ot vs nd pm rs V mp W hx=>
  refine El.dh (rs.focus hs) λv O zz J r zz=>?_;exact El.aD v (mp i v t J hs hu) (λd e=>by clear hs hu;subst e;exact r.2)
theorem Sp.uT {D:ao}{o:ay}(S:Sp C σ τ m N K ZL) (lt:∀p∈N,p.1<D):Sp C σ τ m ((D,o)::N) K ((D,o)::ZL):=by
 cases S with
 |@mk Os Ot vs nd pm rs J mp V hx=>
  refine .more (T:=[]) (uQ nd λp W=>ef (lt p W)) ((pm.cons _).trans ?_) rs J mp (V.mono (λzz=>.tail _) λzz=>.tail _) hx λzz=>.tail _;refine ae (aH ..).symm (ae (aH ..).symm (ae (aH ..).symm (ae (aH ..).symm ?_)));exact nk.symm
theorem Sp.eH {k:Int→Prop}(S:Sp C σ ((v,e)::τ) m N K ZL) (h:bC e k):∃n t,v=.int n t∧k n∧Sp C σ τ m N K ZL:=by
 refine El.au (oa h) λn J h=>?_;subst J;refine El.ea S.kU.1.i8 λt J=>?_;subst J;exact El.bP n t rfl h S.kU.2
inductive FY (C:Cx) (σ:List Tr) (τ:List br) (m:ai→Option af) (N K ZL:Led) (ds:List ag):af→Prop
 |mk {bp:Led}{a:ao}{o:ay}{ws:List af}:(∀q∈ZL,q∈bp)→Sp C σ τ m N K bp→C.P.and N a o∧mh o ws→bu (C.P.and bp) ws ds→FY C σ τ m N K ZL ds (.ref a)
theorem Sp.og (Y:C.Ok) {ds:List ag}(S:Sp C σ ((v,e)::τ) m N K ZL) (h:n7 σ e=some ds):FY C σ τ m N K ZL ds v:=by
 cases e with
 |ow t=>
  cases S.pop Y with
  |mk hz V f _=>
   refine El.dh ((f t rfl _ (ON h)).listI) λa ws n J p g=>?_;clear S f;subst J;exact .mk hz V (p.imp_left λp=>p.imp_right (V.sub _)) g
 |bo i p=>
  refine El.au (bind_some (show ((σ[i]?.bind λt=>ek t p).bind uJ)=some ds from h)) λu e0 h=>?_;obtain rfl:=OO h;cases S.top with
  |mk r _ _ V=>
   refine El.dP (gW.part Y S r e0 λe=>nomatch e) λOu rest e3 Z=>?_;refine El.aa r λJ zz=>?_;clear r;clear a_1;subst J;refine El.dh e3 λa n ws J W hd=>?_;clear e3;clear S;subst J;subst W;exact .mk (λzz h=>h) V ⟨.inr (Z.mem_iff.mpr (.head _)),uw⟩ hd
end
noncomputable def notStar (e:Expr):Bool:=!(e.ctorIdx == 22)
noncomputable def kW (e:Expr):Bool:=!(e.ctorIdx == 26)
noncomputable def rM (e:Expr):Bool:=!(e.ctorIdx == 7)
noncomputable def jv (e:Expr):Bool:=!(e.ctorIdx == 8 || (e.ctorIdx == 9 || e.ctorIdx == 10))
inductive Vw:Expr→Type
 |nm (x:ai) (p:aE):Vw (.Name x p)
 |cst (q:Const) (n:Nat) (p:aE):Vw (.Constant q n p)
 |tup (es:List Expr) (k:Nat) (p:aE):Vw (.Tuple es k p)
 |lst (es:List Expr) (p:aE):Vw (.List es p)
 |bin (a:Expr) (o:kL) (b:Expr) (p:aE):Vw (.BinOp a o b p)
 |un (o:UnaryOp) (a:Expr) (p:aE):Vw (.UnaryOp o a p)
 |cmp (a:Expr) (os:List kM) (bs:List Expr) (p:aE):Vw (.Compare a os bs p)
 |ite (t a b:Expr) (p:aE):Vw (.IfExp t a b p)
 |sub (v i:Expr) (p:aE):Vw (.Subscript v i p)
 |call (c:Expr) (as:List Expr) (OR:List Keyword) (p:aE):Vw (.Call c as OR p)
 |lc (el:Expr) (gs:List Comprehension) (s:gN) (p:aE):Vw (.ListComp el gs s p)
 |bo (o:BoolOp) (es:List Expr) (p:aE):Vw (.BoolOp o es p)
 |dW (r:Expr) (m:ai) (p:aE):Vw (.Attribute r m p)
 |slc (l u st:Option Expr) (p:aE):Vw (.Slice l u st p)
 |jt (p:aE):Vw (.Dict [] [] p)
 |OS (e:Expr):Vw e
noncomputable def view:(e:Expr)→Vw e:=@λA=>match A with
 |.Name x p=>.nm x p
 |.Constant q n p=>.cst q n p
 |.Tuple es k p=>.tup es k p
 |.List es p=>.lst es p
 |.BinOp a o b p=>.bin a o b p
 |.UnaryOp o a p=>.un o a p
 |.Compare a os bs p=>.cmp a os bs p
 |.IfExp t a b p=>.ite t a b p
 |.Subscript v i p=>.sub v i p
 |.Call c as J p=>.call c as J p
 |.ListComp el V s p=>.lc el V s p
 |.BoolOp o es p=>.bo o es p
 |.Attribute r m p=>.dW r m p
 |.Slice l u st p=>.slc l u st p
 |.Dict [] [] p=>.jt p
 |e=>.OS e
section
variable {M:Expr→Type}
noncomputable def dE (e:Expr) (d:M e) (f:∀x p,M (.Name x p)):M e:=match view e with
 |.nm x p=>f x p
 |_=>d
noncomputable def OT (e:Expr) (d:M e) (f:∀p,M (.List [] p)):M e:=match view e with
 |.lst es p=>match es with
  |[]=>f p
  |zz::J=>d
 |_=>d
noncomputable def FZ (e:Expr) (d:M e) (f:∀p,M (.Dict [] [] p)):M e:=match view e with
 |.jt p=>f p
 |_=>d
noncomputable def F0 (e:Expr) (d:M e) (f:∀q n p,M (.Constant q n p)):M e:=match view e with
 |.cst q n p=>f q n p
 |_=>d
noncomputable def tupK (e:Expr) (d:M e) (f:∀es k p,M (.Tuple es k p)):M e:=match view e with
 |.tup es k p=>f es k p
 |_=>d
noncomputable def mw (e:Expr) (d:M e) (f:∀r m p,M (.Attribute r m p)):M e:=match view e with
 |.dW r m p=>f r m p
 |_=>d
noncomputable def pS (e:Expr) (d:M e) (f:∀c as p,M (.Call c as [] p)):M e:=match view e with
 |.call c as J p=>match J with
  |[]=>f c as p
  |k::r=>d
 |_=>d
noncomputable def d8 (e:Expr) (d:M e) (f:∀v i p,M (.Subscript v i p)):M e:=match view e with
 |.sub v i p=>f v i p
 |_=>d
noncomputable def OU (e:Expr) (d:M e) (f:∀l u p,M (.Slice l u none p)):M e:=match view e with
 |.slc l u st p=>match st with
  |none=>f l u p
  |some k=>d
 |_=>d
end
noncomputable def wh {α:Type}(b:Bool) (d:α) (f:b=true→α):α:=match b,f with
 |true,f=>f rfl
 |false,zz=>d
noncomputable def wd {α:Type}(p:Prop) [Decidable p] (d:α) (f:p→α):α:=wh (decide p) d λh=>f (of_decide_eq_true h)
noncomputable def F4 (k:Const):Option Lc:=match k with
 |.int n=>some (.int n)
 |.str n=>some (.str n)
 |.bool n=>some (.bool n)
 |.none=>some .none
 |_=>none
noncomputable def kX:Bi→ai:=@λA=>match A with
 |.len=>ai.ofString "len"
 |.max=>ai.ofString "max"
 |.min=>ai.ofString "min"
noncomputable def F5:Bi→String:=@λA=>match A with
 |.len=>"len"
 |.max=>"max"
 |.min=>"min"
noncomputable abbrev my:List ai:=[kX .len,kX .max,kX .min,ai.ofString "isinstance",ai.ofString "list",ai.ofString "range",ai.ofString "enumerate",ai.ofString "map",ai.ofString "set"]
noncomputable def d9 (sc:gN) (x:ai):Bool:=decide (sc.names.lookup x=some .globalImplicit) && !(x == ("__debug__":ai))
noncomputable def uU (sc:gN) (x:ai):Bool:=decide (sc.kind=.function) && (sc.names.all (λy=>decide (y.2≠.cell) && decide (y.2≠.free)) && (sc.names.all (λy=>!decide (y.2=.local) || decide (sc.names.lookup y.1=some .local)) && (decide (sc.names.lookup x=some .local) && !(x == ("__debug__":ai)))))
noncomputable def c6 (x:ai):(l:List ai)→Option {i:Nat // l[i]? = some x}:=@λA=>match A with
 |[]=>none
 |y::r=>wd (y=x) ((c6 x r).map λi=>⟨i.1+1,i.2⟩) λh=>some ⟨0,congrArg some h⟩
theorem cT {a b:Bool}(h:(a && b)=true):a=true∧b=true:=oV.mp h
theorem oj {a:Bool}(h:(!a)=true):a=false:=by cases a <;> first | rfl | exact El.ft h
theorem gK {p:Prop} [Decidable p] (h:decide p=true):p:=of_decide_eq_true h
theorem mz {sc:gN}{x:ai}(h:d9 sc x=true):sc.names.lookup x=some .globalImplicit∧(x == ("__debug__":ai))=false:=⟨gK (cT h).1,oj (cT h).2⟩
noncomputable abbrev Wp (C:Cx) {α:Type}(c:fY α) (Q:α→aj→Prop) (s:aj):Prop:=aF (aO C.pg C.w) C.A c Q (λzz zz=>False) s
noncomputable abbrev Nx (C:Cx) (σ:List Tr) (τ:List br) (K:Fs) (s:aj) (Q:af→aj→Prop) (k:Ev→Prop):Prop:=∀v e h' tk,At C σ ((v,e)::τ) K h'→k e→Q v {s with heap:=h',toks:=tk}
theorem OV {x:Int}(h:x.natAbs<2 ^ 30):bZ.Int.intBits x≤64:=by
 unfold bZ.Int.intBits;split
 ·decide
 ·rename_i e;have e:x≠0:=λq=>e (by refine ae (q ..) ?_;rfl)
  exact az ((Nat.log2_lt (Int.natAbs_ne_zero.mpr e)).mpr h) (by decide)
section
variable {C:Cx}{σ:List Tr}{τ:List br}{K:Fs}{v w va vb:af}{e ea eb:Ev}{d:ag}{h:ar}{Q:af→aj→Prop}{s:aj}{k:Ev→Prop}
theorem At.val (a:At C σ τ K h) (r:∀P:Fz,Dat P v d):At C σ ((v,bw d)::τ) K h:=by
 cases a with | mk F N S=>exact .mk F N (S.dM (r _))
theorem At.int (a:At C σ τ K h) {n:Int}{t:dS}:At C σ ((.int n t,bw (.int n))::τ) K h:=a.val λzz=>.int _ _
theorem At.bool (a:At C σ τ K h) {n:Bool}:At C σ ((.bool n,bw (.bool n))::τ) K h:=a.val λzz=>.bool _
theorem At.eH {f:Int→Prop}(a:At C σ ((v,e)::τ) K h) (g:bC e f):∃n t,v=.int n t∧f n∧At C σ τ K h:=by
 cases a with
 |mk F N S=>
  refine El.aP (S.eH g) ?_;clear g;intro n t J g V;clear S;subst J;exact El.bP n t rfl g (.mk F N V)
theorem kY {P:Fz}{a:ao}{o:ay}{ws:List af}(J:∀a o,P a o→h.get? a=some o) (p:P a o∧mh o ws):h.IsList a ws.toArray:=(El.ey o (J _ _ p.1) p.2.c p.2.d)
theorem At.bR {m:ai→Option af}{N:Led}(J:C.Ok) (F:Fr C.h₀ C.L h m) (V:aW C.h₀ C.L h N):∀a o,C.P.and N a o→h.get? a=some o:=λzz zz p=>p.elim (λp=>F.keep _ _ (J.sub _ _ p)) λp=>V.get p
theorem At.read (J:C.Ok) (a:At C σ ((v,e)::τ) K h) (g:e.data σ=some d):At C σ τ K h∧(dX d→∃as,xb h v d as):=by
 cases a with
 |mk F N S=>cases S.pop J with | mk _ V _ f=>exact ⟨.mk F N V,λn=>(f d g).reads (At.bR J F N) (ag.hasDict_of_canLay _ (SeqAt.canLay_of_shaped n))⟩
theorem OW (J:C.Ok) (h:FL σ ea eb k) (a:At C σ ((vb,eb)::(va,ea)::τ) K s.heap) (Y:Nx C σ τ K s Q k):Wp C (Kw .Add va vb) Q s:=by
 cases a with
 |mk F N S=>
  refine El.au (pR h) λxs e1 Z=>?_;refine El.dI (pR Z) λys e2 hz hk=>?_;have hk:=hk.out;cases S.og J e2 with
  |mk z1 S1 p1 V=>
   clear S;cases S1.og J e1 with
   |mk z2 S2 p2 W=>
    exact kmk_add_lit F N (kY (At.bR J F N) p2) (kY (At.bR J F N) p1) rfl (λD h' F' N' lt=>Y _ _ _ _ (.mk F' N' (S2.push lt (.jd (W.append (V.mono (and_mono z2)))))) hk) (by refine ae (W.len ..) (ae (V.len ..) ?_);exact hz)
theorem OX (xs:List af) (n:Nat):(X1 (λx1 x2=>x1++x2) #[] (c9 (if xs.toArray.isEmpty=true then 0 else n) xs.toArray))=(c9 n xs).flatten.toArray:=by
 have J:∀(n:Nat) (acc:Array af),X1 (λx1 x2=>x1++x2) acc (c9 n xs.toArray)=(acc.toList++(c9 n xs).flatten).toArray:=by
  intro n;induction n with
  |zero=>intro acc;simp
  |succ n V=>intro acc;exact ae (wJ ..) (ae (qx ..) (ae (V ..) (ae (wJ ..) (ae (Kx ..) (ae (Array.toList_append ..) (ae (aH ..) rfl))))))
 split
 ·rename_i e;have:xs=[]:=by simpa using e
  clear J e;subst this;simp
 ·refine ae (J ..) ?_;simp
theorem F6 {P:Fz}{ws:List af}{xs:List ag}(h:bu P ws xs):∀n,bu P (c9 n ws).flatten (c9 n xs).flatten:=@λA=>match A with
 |0=>rfl
 |n+1=>by refine ae (wJ ..) (ae (wJ ..) (ae (Kx ..) (ae (Kx ..) ?_)));exact bB.append h (F6 h n)
theorem OY (hC:C.Ok) (h:mulL ea eb k) (a:At C σ ((vb,eb)::(va,ea)::τ) K s.heap) (Y:Nx C σ τ K s Q k):Wp C (Kw .Mult va vb) Q s:=by
 cases ea with
 |bo _ _=>exact h.elim
 |ow t=>cases t with
  |dl xs=>
   refine El.aP (a.eH (show bC eb _ from h)) ?_;clear a;intro x u J V a;subst J;obtain ⟨hz,hk⟩:=V;have hk:=hk.out;cases a with
   |mk F N S=>cases S.top with
    |mk r Z _ S1=>
     refine El.dh r λl n ws J V W=>?_;clear r;clear S;subst J;clear a;subst V;refine mul_list F N (k:=n) (l:=l) (items:=ws.toArray) (N _ (Z _ (.head _))).1 (by exact (Lin.aA .z (.c _ .z) 1 (.c 1 (.aA (.n 0) (.v 0)) .z) (.g (.n 9223372036854775808)) (.v 0) rfl hz.1)) (by exact (Lin.aM .z (.c _ .z) 1 (.c 1 (.aM (.v 0) (.n 1048576)) .z) (.v 0) (.n 9223372036854775808) rfl hz.2.1)) (by refine ae (eN ..) (ae (W.len ..) ?_);exact hz.2.2) λh' F' N'=>?_
     rw [OX] at N';exact Y _ _ _ _ (.mk F' N' (S1.push (λp hp=>ar.lt_size (N p hp).1) (.jd (F6 (W.mono (and_mono λzz h=>.tail _ h)) _)))) hk
  |_=>exact h.elim
theorem OZ (Y:C.Ok) {o:kL}(h:uK σ o ea eb k) (a:At C σ ((vb,eb)::(va,ea)::τ) K s.heap) (W:Nx C σ τ K s Q k):Wp C (Kw o va vb) Q s:=by
 have two:∀{f:Int→Int→Prop},(bC ea λx=>bC eb λy=>f x y)→∃x t y u,va=.int x t∧vb=.int y u∧f x y∧At C σ τ K s.heap:=λ{f} g=>by
  refine El.au (oa g) ?_;clear g;intro x J g;clear h;subst J;refine El.aP (a.eH g) ?_;clear g a;intro y u J g a;subst J;refine El.aP (a.eH (f:=λz=>z=x) rfl) ?_;clear a;intro x' t J Z a;subst J;exact El.tM x t y u (by exact ae (Z ..) rfl) rfl g a
 cases o with
 |Add=>
  have h:zW σ ea eb k:=h;unfold zW at h;cases e1:intOf ea with
  |none=>rw [e1] at h;exact OW Y h a W
  |some x=>
   rw [e1] at h;refine El.jR (two (f:=λx y=>k (bw (.int (x+y)))) (by unfold bC;refine ae (e1 ..) ?_;exact h)) ?_
   clear a;intro x t y u J V g a;clear two;subst J;subst V;exact add_int (W _ _ _ _ a.int g)
 |Sub=>
  refine El.jR (two h) ?_;clear a;intro x t y u J V g a;clear two;subst J;subst V;exact sub_int (W _ _ _ _ a.int g)
 |Mult=>
  have h:zX ea eb k:=h;unfold zX at h;cases e1:intOf ea with
  |none=>rw [e1] at h;exact OY Y h a W
  |some x=>
   rw [e1] at h;refine El.jR (two (f:=λx y=>x.natAbs<2 ^ 30∧k (bw (.int (x*y)))) (by unfold bC;refine ae (e1 ..) ?_;exact h)) ?_
   clear a;intro x t y u J V g a;clear two;subst J;subst V;exact mul_int (W _ _ _ _ a.int g.2) (.of_left (OV g.1))
 |FloorDiv=>
  refine El.jR (two h) ?_;clear a;intro x t y u J V g a;clear two;subst J;subst V;exact floordiv_int (qt g.1.1) (by refine ae (Int.fdiv_eq_ediv_of_nonneg x (sT g.1.1) ..) ?_;exact W _ _ _ _ a.int g.2) (.inl (PyProof.noPylong_small (by omega)))
 |Mod=>
  refine El.jR (two h) ?_;clear a;intro x t y u J V g a;clear two;subst J;subst V;exact mod_int' (qt g.1) (by refine ae (Int.fmod_eq_emod_of_nonneg x (sT g.1) ..) ?_;exact W _ _ _ _ a.int g.2)
 |_=>exact h.elim
theorem At.pop (J:C.Ok) (a:At C σ ((v,e)::τ) K h):At C σ τ K h:=by
 cases a with | mk F N S=>cases S.pop J with | mk _ V _ _=>exact .mk F N V
theorem O0 {P:Fz}{x y:ag}{f:Bool→Prop}{R:Bool→aj→Prop}(J:Dat P va x) (W:Dat P vb y) (h:FN x y f) (V:∀c,f c→R c s):Wp C (isSame va vb) R s:=by
 cases W with
 |none=>cases J <;> exact X2 rfl (V _ h)
 |list _ _ _ _=>cases J with
  |none=>exact X2 rfl (V _ h)
  |_=>exact h.elim
 |_=>exact h.elim
theorem Ab (Y:C.Ok) {o:kM}{f:Bool→Prop}(h:uL σ o ea eb f) (a:At C σ ((vb,eb)::(va,ea)::τ) K s.heap) (W:∀c,f c→Q (.bool c) s):Wp C (compareOp o va vb) Q s:=by
 have two:∀{f:Int→Int→Prop},(bC ea λx=>bC eb λy=>f x y)→∃x t y u,va=.int x t∧vb=.int y u∧f x y:=λ{f} g=>by
  refine El.au (oa g) ?_;clear g;intro x J g;clear h;subst J;refine El.aP (a.eH g) ?_;clear g a;intro y u J g a;subst J;refine El.aP (a.eH (f:=λz=>z=x) rfl) ?_;clear a;intro x' t J g' a;subst J;exact El.jS x t y u (by exact ae (g' ..) rfl) rfl g
 have rd:∀{g:Bool→Prop},zY σ ea eb g→∃x y as bs,xb s.heap va x as∧xb s.heap vb y bs∧dX x∧dX y∧g (ag.eqv x y):=λ{g} h=>by
  refine El.au (eP h) λx e1 h=>?_;refine El.au (eP h) λy e2 h=>?_;have r2:=a.read Y e2;exact ⟨x,y,_,_,((r2.1.read Y e1).2 h.1.1).choose_spec,(r2.2 h.1.2).choose_spec,h.1.1,h.1.2,h.2.out⟩
 have Z:∀{f:Bool→Prop}{R:Bool→aj→Prop},zZ σ ea eb f→(∀c,f c→R c s)→Wp C (isSame va vb) R s:=λ{f R} h hR=>by
  refine El.au (eP h) λx e1 h=>?_;refine El.au (eP h) λy e2 h=>?_;cases a with
  |mk F N S=>cases S.pop Y with
   |mk _ S1 _ g2=>cases S1.pop Y with
    |mk _ _ _ g1=>exact O0 (g1 x e1) (g2 y e2) h hR
 cases o with
 |Eq=>
  obtain ⟨x,y,as,bs,r1,r2,s1,s2,g⟩:=rd h;exact eq_dataH r1 r2 s1 s2 Y.hu (W _ g)
 |NotEq=>
  obtain ⟨x,y,as,bs,r1,r2,s1,s2,g⟩:=rd (g:=λc=>f (!c)) h;exact ne_dataH r1 r2 s1 s2 Y.hu (W _ g)
 |Lt=>
  refine El.fL (two h) λx t y u J V g=>?_;clear a two rd Z;subst J;subst V;exact lt_int (W _ g)
 |Gt=>
  refine El.fL (two h) λx t y u J V g=>?_;clear a two rd Z;subst J;subst V;exact gt_int (W _ g)
 |LtE=>
  refine El.fL (two h) λx t y u J V g=>?_;clear a two rd Z;subst J;subst V;exact le_int (W _ g)
 |GtE=>
  refine El.fL (two h) λx t y u J V g=>?_;clear a two rd Z;subst J;subst V;exact ge_int (W _ g)
 |Is=>exact aC (Z (R:=λc s=>Wp C (pure (.bool c)) Q s) h λc g=>bA (W _ g))
 |IsNot=>exact aC (Z (R:=λc s=>Wp C (pure (.bool (!c))) Q s) (f:=λc=>f (!c)) h λc g=>bA (W _ g))
 |_=>exact h.elim
theorem F7 {l:ao}{ws:List af}{n:Int}{u:dS}{j:Nat}{x:af}(hl:s.heap.IsList l ws.toArray) (W:-(2 ^ 63)≤n∧n<2 ^ 63) (J:kN n ws.length=some j) (hx:ws[j]? = some x) (Y:Q x s):Wp C (CN (.ref l) (.int n u)) Q s:=by
 have V:ws.toArray[j]? = some x:=by rw [qN];exact hx
 unfold kN at J;by_cases h0:n<0
 ·simp only [if_pos h0] at J;split at J
  ·rename_i hc;clear hx;cases J;exact wpAny_getItem_list_neg hl h0 (by have:=of_decide_eq_true (oV.mp hc).1;refine ae (eN ..) ?_;omega) W.1 V Y
  ·exact El.ns J
 ·simp only [if_neg h0] at J;split at J
  ·clear hx;cases J;exact wpAny_getItem_list hl (gn.mp h0) W.2 V Y
  ·exact El.ns J
theorem F8 {J:Expr}{a b:af}(V:kW J=true):subscripted J false a b=operate [a,b] (CN a b):=by
 cases J <;> first | rfl | exact El.ft V
theorem O4 {P:Fz}{l:ao}{ws:List af}{n:Int}{u:dS}{j:Nat}{x:af}(hP:∀a o,P a o→s.heap.get? a=some o) (p:SeqIn P l ws) (W:-(2 ^ 63)≤n∧n<2 ^ 63) (Y:kN n ws.length=some j) (hx:ws[j]? = some x) (Z:Q x s):Wp C (CN (.ref l) (.int n u)) Q s∧∀{V J:Expr},kW J=true→Wp C (CO V J (.ref l) (.int n u)) Q s:=by
 rcases p with ⟨c,p⟩ | p
 ·have hl:=kY hP p;exact ⟨F7 hl W Y hx Z,λhn=>tail_any hl.typeIs X3.lookup (F7 hl W Y hx Z) (F8 hn)⟩
 ·exact ⟨Zm (El.kP _ (hP _ _ p) rfl 0 rfl) W.1 W.2 Y (by rw [qN];exact hx) Z,λhn=>item_tupleT (El.kP _ (hP _ _ p) rfl 0 rfl) W.1 W.2 Y hx Z (F8 hn)⟩
inductive pU (C:Cx) (σ:List Tr) (τ:List br) (m:ai→Option af) (N K:Led) (n:Int) (k:Ev→Prop):af→Prop
 |mk {bp:Led}{a:ao}{ws:List af}{j:Nat}{w:af}{e:Ev}:SeqIn (C.P.and N) a ws→Sp C σ ((w,e)::τ) m N K bp→kN n ws.length=some j→ws[j]? = some w→-(2 ^ 63)≤n∧n<2 ^ 63→k e→pU C σ τ m N K n k (.ref a)
theorem pV {m:ai→Option af}{N K ZL:Led}{n:Int}{ds:List ag}{a:ao}{ws:List af}(p:SeqIn (C.P.and N) a ws) (S:Sp C σ τ m N K ZL) (g:bu (C.P.and ZL) ws ds) (J:iL ds n λzz d=>k (bw d)):pU C σ τ m N K n k (.ref a):=by
 cases J with
 |mk V W Y Z=>exact (g.get W).elim λx q=>.mk p (S.dM q.2) (g.len▸V) q.1 Y Z
theorem F9 {m:ai→Option af}{N K ZL Oz:Led}{n:Int}{ts:List Tr}{a:ao}{o:ay}{ws:List af}(p:SeqIn (C.P.and N) a ws) (g:bQ (C.P.and ZL) ts Oz ws) (f:∀{w:af}{t:Tr}{O' Z:Led},((a,o)::Oz).Perm (O'++Z)→Rep (C.P.and ZL) t O' w→Sp C σ ((w,.ow t)::τ) m N K (Z++ZL)) (J:iL ts n λzz t=>k (.ow t)):pU C σ τ m N K n k (.ref a):=by
 cases J with
 |mk V W Y h4=>
  refine El.fo (g.focus W) λx O1 Or g1 g2 g3 zz=>?_;exact .mk p (f ((g3.cons _).trans nk.symm) g2) (g.len▸V) g1 Y h4
theorem Ac {P:Fz}{us:List Tr}{O:Led}{f:List Tr→Sq}{t:Tr}{N:Led}(h:Rep P t O v) (e:rJ f t=some (f us)) (J:∀ds,f us≠.fz ds) (hi:∀ts,f ts=f us→ts=us) (V:∀q∈O,q∈N):∃a o ws Oz,v=.ref a∧O=(a,o)::Oz∧bQ P us Oz ws∧SeqIn (λa o=>(a,o)∈N) a ws:=by
 cases t with
 |dat d=>clear h;cases d <;> first | exact (J _ (dC e).symm).elim | cases e
 |dl ds=>exact (J _ (dC e).symm).elim
 |ol ts=>
  refine El.fL h λa n ws Oz e1 e2 y=>?_;clear h;clear J;cases hi _ (dC e);exact El.tM a _ ws Oz e1 e2 y (.inl (El.aD (bF ws n) (V _ (by refine ae (e2 ..) ?_;exact .head _)) uw))
 |ot ts=>
  refine El.dh h λa ws Oz e1 e2 y=>?_;clear h;clear J;cases hi _ (dC e);exact El.tM a _ ws Oz e1 e2 y (.inr (V _ (e2▸.head _)))
 |_=>exact El.ns e
theorem Sp.pick (hC:C.Ok) {m:ai→Option af}{N K ZL:Led}{n:Int}(S:Sp C σ ((v,e)::τ) m N K ZL) (h:pP σ e (bw (.int n)) k):pU C σ τ m N K n k v:=by
 have h:(match uM σ e with
 |none=>False
 |some q=>match q with
  |.fz ds=>iL ds n λzz d=>k (bw d)
  |.ow ts=>iL ts n λzz t=>k (.ow t)
  |.bo i p ts=>z4 i p ts n k):=h
 cases e with
 |ow t=>
  cases t with
  |dat d=>
   refine El.aa S.kU λr V=>?_;clear S;cases d with
   |list ds=>
    refine El.dh r.listI λa ws c J p g=>?_;subst J;exact pV (.inl ⟨c,p.imp_left λp=>p.imp_right (V.sub _)⟩) V g h
   |tuple ds=>
    refine El.aP r.tupI λa ws J p g=>?_;subst J;exact pV (.inr (p.imp_right (V.sub _))) V g h
   |_=>exact h.elim
  |dl ds=>cases S.og hC (ds:=ds) rfl with | mk z V p g=>exact pV (.inl ⟨_,p⟩) V g h
  |ol ts=>
   cases S.top with
   |mk r Z f _=>
    refine El.jR (Ac (f:=.ow) r rfl (λzz e=>by cases e) (λzz e=>by clear S h r;cases e;rfl) Z) ?_
    clear a;intro a o ws Oz J W y q;clear S;subst J;clear Z;subst W;exact F9 (q.imp (λ⟨n,h⟩=>⟨n,h.imp_left .inr⟩) .inr) y (λhp r=>f hp λhz=>Rep.mono (and_mono hz) _ r) h
  |ot ts=>
   cases S.top with
   |mk r Z f _=>
    refine El.jR (Ac (f:=.ow) r rfl (λzz e=>by cases e) (λzz e=>by clear S h r;cases e;rfl) Z) ?_
    clear a;intro a o ws Oz J W y q;clear S;subst J;clear Z;subst W;exact F9 (q.imp (λ⟨n,h⟩=>⟨n,h.imp_left .inr⟩) .inr) y (λhp r=>f hp λhz=>Rep.mono (and_mono hz) _ r) h
  |_=>exact h.elim
 |bo i p=>
  cases e0:(σ[i]?.bind λt=>ek t p) with
  |none=>rw [show uM σ (.bo i p)=none from by refine (?_:Ky _ _=none);refine ae (e0 ..) ?_;rfl] at h;exact h.elim
  |some u=>
   rw [show uM σ (.bo i p)=rJ (.bo i p) u from by refine (?_:Ky _ _=_);refine ae (e0 ..) ?_;rfl] at h
   have deep:∀{us:List Tr},rJ (.bo i p) u=some (.bo i p us)→u≠.un→z4 i p us n k→pU C σ τ m N K n k v:=λ{us} es hu ob=>by
    cases S.top with
    |mk r _ _ V=>
     refine El.dP (gW.part hC S r e0 hu) λOu rest r3 r4=>?_;refine El.jR (Ac (f:=.bo i p) r3 es (λzz e=>by cases e) (λzz e=>by clear S h e0 es ob r;cases e;rfl) λq hq=>r4.mem_iff.mpr (bO _ hq)) ?_
     clear a;intro a o ws Oz J W y q;clear S r3;subst J;subst W;refine El.tH r λzz w b c=>?_;clear r;cases ob with
     |@mk j t' h1 h2 h3 Y=>
      refine El.fo (y.focus h2) λx O1 Or g1 g2 g3 zz=>?_;have pp:SeqIn (C.P.and N) a ws:=q.imp (λ⟨n,h⟩=>⟨n,h.imp_left .inr⟩) .inr;have go:k (.bo i (j::p))→pU C σ τ m N K n k (.ref a):=λY=>.mk pp (V.uS b (.step c q g1)) (y.len▸h1) g1 h3 Y;clear h2;cases t' with
      |dat d=>exact .mk pp (V.dM (g2.2.mono (and_mono λzz h=>bx _ h))) (y.len▸h1) g1 h3 Y
      |un=>exact Y.elim
      |fr φ=>exact Y.elim
      |_=>exact go Y
   cases u with
   |dl ds=>clear deep;cases S.og hC (ds:=ds) (by refine (?_:Ky _ _=_);refine ae (e0 ..) ?_;rfl) with | mk z V q g=>exact pV (.inl ⟨_,q⟩) V g h
   |dat d=>
    cases S.top with
    |mk r _ _ V=>
     refine El.dP (gW.part hC S r e0 λe=>nomatch e) λOu rest r3 r4=>?_;clear e0 deep;cases d with
     |list ds=>
      refine El.dh r3.2.listI ?_;clear a;intro a ws c J p g;subst J;exact pV (.inl ⟨c,p.imp_left λp=>p.imp_right (S.sub _)⟩) V (g.mono (and_mono λzz h=>bx _ h)) h
     |tuple ds=>
      refine El.aP r3.2.tupI ?_;clear a;intro a ws J p g;subst J;exact pV (.inr (p.imp_right (S.sub _))) V (g.mono (and_mono λzz h=>bx _ h)) h
     |_=>exact h.elim
   |ol us=>exact deep rfl (λe=>nomatch e) h
   |ot us=>exact deep rfl (λe=>nomatch e) h
   |_=>exact h.elim
theorem item_at (W:C.Ok) {n:Int}{u:dS}(h:pP σ ea (bw (.int n)) k) (a:At C σ ((va,ea)::τ) K s.heap) (Y:Nx C σ τ K s Q k):Wp C (CN va (.int n u)) Q s∧∀{V J:Expr},kW J=true→Wp C (CO V J va (.int n u)) Q s:=by
 cases a with
 |mk F N S=>cases S.pick W h with
  |mk p Z h1 h2 h3 h4=>exact O4 (At.bR W F N) p h3 h1 h2 (Y _ _ _ _ (.mk F N Z) h4)
theorem O5 (Z:C.Ok) {V J:Expr}(hn:kW J=true) (h:pP σ ea eb k) (a:At C σ ((vb,eb)::(va,ea)::τ) K s.heap) (hQ:Nx C σ τ K s Q k):Wp C (CO V J va vb) Q s:=by
 refine El.au (oa (show bC eb _ from h)) λn W h'=>?_;subst W;refine El.aP (a.eH (f:=λx=>x=n) rfl) λzz u W Y a1=>?_;clear a;subst W;subst Y;exact (item_at Z h a1 hQ).2 hn
end
theorem Ad {α β:Type}{R:α→β→Prop}{l:List α}{r:List β}(x:bB R l r):∀is:List Nat,bB R (is.filterMap (l[·]?)) (is.filterMap (r[·]?)):=@λA=>match A with
 |[]=>rfl
 |i::is=>by
  refine ae (CP ..) (ae (CP ..) ?_);cases e:r[i]? with
  |none=>
   rw [show l[i]? = none from JW (x.len▸List.getElem?_eq_none_iff.mp e)];exact Ad x is
  |some b=>
   refine El.au (x.get e) λa J h=>?_;refine ae (J ..) ?_;exact ⟨h,Ad x is⟩
theorem O6 {P:Fz}{ws:List af}{ds:List ag}(x:bu P ws ds) (lo hi:Option Int):bu P (CQ ws.toArray lo hi none).toList (fS ds lo hi):=by
 have e:(CQ ws.toArray lo hi none).toList=(sliceRange (td lo hi none ds.length).1 (td lo hi none ds.length).2.1 (td lo hi none ds.length).2.2).filterMap (ws[·]?):=by
  unfold CQ;refine ae (eN ..) (ae (x.len ..) ?_);simp only [qN]
 refine ae (e ..) ?_;exact Ad x _
section
variable {C:Cx}{σ:List Tr}{τ:List br}{K:Fs}{v w va vb:af}{e ea eb:Ev}{d:ag}{h:ar}{Q:af→aj→Prop}{s:aj}{k:Ev→Prop}
theorem O7 (hC:C.Ok) {J:Expr}{lo hi:Option Expr}{p:aE}{ol V:Option Int}{W Y:af}(pl:IsPart W ol) (ph:IsPart Y V) (h:FO σ ea ol V k) (a:At C σ ((va,ea)::τ) K s.heap) (hQ:Nx C σ τ K s Q k) :
  Wp C (CO J (.Slice lo hi none p) va (.ref s.heap.objs.size)) Q {s with heap:=s.heap.push {cls:=.type "slice",data:=.fields #[W,Y,.none]}}:=by
 refine El.dI (pR (show jb σ ea _ from h)) λxs e1 hz hk=>?_;have hk:=hk.out;cases a with
 |mk F N S=>
  cases S.og hC e1 with
  |@mk bp l n ws z S1 p1 d1=>
   have hl:s.heap.IsList l ws.toArray:=kY (At.bR hC F N) p1;refine tail_any (T:="list") (ar.IsList.typeIs (s:={s with heap:=s.heap.push {cls:=.type "slice",data:=.fields #[W,Y,.none]}}) (hl.push _)) X3.lookup (wpAny_getItem_list_slice (hl.push _) (ar.IsSliceOf.new ..) pl ph .none (by simp) ?_ (by refine ae (eN ..) (ae (d1.len ..) ?_);exact hz)) rfl
   have Z:∀b o,s.heap.get? b=some o→(s.heap.push {cls:=.type "slice",data:=.fields #[W,Y,.none]}).get? b=some o:=λzz zz e=>ar.get?_push_of_some _ e;have F2:=F.push {cls:=.type "slice",data:=.fields #[W,Y,.none]};have N2:=N.grown Z;have N1:=aW.push F2 N2 {cls:=.type "list",data:=.seq (CQ ws.toArray ol V none)};exact hQ _ _ _ _ (.mk (F2.push _) N1 (S1.push (t:=.dl (fS xs ol V)) (λp hp=>ar.lt_size (N2 p hp).1) (Rep.jd (n:=0) (O6 d1 ol V)))) hk
theorem Ga {m:ai→Option af}{N K ZL:Led}:∀{vs:List af}{es:List Ev}{ts:List Tr}{O:Led},vs.length=es.length→trees es=some ts→cC C m N K ZL (vs.zip es) O→bQ (C.P.and ZL) ts O vs:=@λA B D F G H J=>match A,B,D,F,G,H,J with
 |[],[],zz,Y,Z,V,x=>by cases V;exact ⟨x,rfl⟩
 |v::vs,e::es,ts,zz,hl,V,x=>by
  cases e with
  |bo i p=>exact El.ns V
  |ow t=>
   refine El.au (map_some (show (trees es).map (t::·)=some ts from V)) λus e1 W=>?_;clear V;subst W;exact x.imp λzz x=>x.imp λzz x=>(El.aK x.1 x.2.1 (Ga (ji hl) e1 x.2.2))
 |[],zz::Y,Z,zw,hl,zv,zu=>El.zs hl
 |zz::Y,[],Z,zw,hl,zv,zu=>El.sz hl
theorem Gb {P:Fz}:∀{ts:List Tr}{O:Led}{vs:List af}{ds:List ag},bQ P ts O vs→rK ts=some ds→bu P vs ds∧O=[]:=@λA B C D F G=>match A,B,C,D,F,G with
 |[],zz,V,W,x,h=>by cases h;exact ⟨x.2▸rfl,x.1⟩
 |zz::V,W,[],Y,x,Z=>(show False from x).elim
 |t::ts,O,v::vs,ds,x,h=>by
  cases t with
  |dat d=>
   refine El.aP (zM (show rG (some d) (rK ts)=some ds from h)) λd' es e1 e2 J=>?_;clear h;subst J;cases e1
   refine El.aP x λO1 O2 J r y=>?_;clear x;subst J;refine El.aa (Gb y e2) λy z=>?_;exact ⟨⟨r.2,y⟩,by refine ae (r.1 ..) (ae (z ..) ?_);rfl⟩
  |_=>exact El.ns h
inductive Ae (C:Cx) (σ:List Tr) (τ:List br) (m:ai→Option af) (N K ZL:Led) (vs:List af) (f:List ag→Ev) (g:List Tr→Ev) (k:Ev→Prop):Prop
 |ds {ds:List ag}:bu (C.P.and ZL) vs ds→Sp C σ τ m N K ZL→k (f ds)→Ae C σ τ m N K ZL vs f g k
 |ts {ts:List Tr}:(∀{D o T},(∀p∈N,p.1<D)→(∀O,bQ (C.P.and ZL) ts O vs→Rep (C.P.and ZL) T ((D,o)::O) (.ref D))→Sp C σ ((.ref D,.ow T)::τ) m ((D,o)::N) K ZL)→k (g ts)→Ae C σ τ m N K ZL vs f g k
theorem Sp.Ge {m:ai→Option af}{N K ZL:Led}{vs:List af}{es:List Ev}{f:List ag→Ev}{g:List Tr→Ev}(hl:vs.length=es.length) (S:Sp C σ (vs.zip es++τ) m N K ZL) (h:pQ es f g k):Ae C σ τ m N K ZL vs f g k:=by
 unfold pQ at h;cases e1:trees es with
 |none=>rw [e1] at h;exact h.elim
 |some ts=>
  rw [e1] at h;dsimp only at h;cases S with
  |@mk Os Ot us nd pm rs V mp W hx=>
   refine El.aP W.split λl1 l2 J x1 x2=>?_;clear W;subst J;have r:=Ga hl e1 x1;cases e2:rK ts with
   |some ds=>
    rw [e2] at h;refine El.aa (Gb r e2) λy z=>?_;subst z;exact .ds y (.mk nd pm rs V mp x2 hx) h
   |none=>
    rw [e2] at h;exact .ts (ts:=ts) (λ{D o T} lt q=>.mk (uQ nd λp Y=>ef (lt p Y)) (pm.cons _) rs V mp (El.bP ((D,o)::l1) l2 rfl (q _ r) (x2.mono (λzz=>.tail _) λzz h=>h)) hx) h
theorem O8 {vs:List af}{es:List Ev}(hl:vs.length=es.length) (hz:es.length≤100) (h:pQ es (λds=>.ow (.dl ds)) (λts=>.ow (.ol ts)) k) (a:At C σ (vs.zip es++τ) K s.heap) (J:Nx C σ τ K s Q k):Wp C (newList vs) Q s:=by
 cases a with
 |mk F N S=>
  refine newList_K F N (λD h' V N' lt=>?_) (hl▸az hz (by decide))
  cases S.Ge hl h with
  |ds y W g=>exact J _ _ _ _ (.mk V N' (W.push lt (.jd y))) g
  |ts f g=>exact J _ _ _ _ (.mk V N' (f lt λO r=>Rep.rL r)) g
theorem O9 {vs:List af}{es:List Ev}(hl:vs.length=es.length) (hz:es.length≤100) (h:pQ es (λds=>bw (.tuple ds)) (λts=>.ow (.ot ts)) k) (a:At C σ (vs.zip es++τ) K s.heap) (J:Nx C σ τ K s Q k):Wp C (Kb vs) Q s:=by
 cases a with
 |mk F N S=>
  refine kup_newTuple F N (λD h' V N' lt=>?_) (hl▸az hz (by decide))
  cases S.Ge hl h with
  |ds y W g=>exact J _ _ _ _ (.mk V N' ((W.uT lt).dM (.FF (.inr (.head _)) (y.mono (and_mono λzz=>.tail _))))) g
  |ts f g=>exact J _ _ _ _ (.mk V N' (f lt λO r=>Rep.OQ r)) g
theorem Pb (W:C.Ok) {Q:Bool→aj→Prop}{f:Bool→Prop}(h:FP σ e f) (a:At C σ ((v,e)::τ) K s.heap) (V:∀b h' tk,At C σ τ K h'→f b→Q b {s with heap:=h',toks:=tk}):Wp C (truthy v) Q s:=by
 refine El.au (eP (show wD (e.data σ) _ from h)) λd e1 h=>?_;cases a with
 |mk F N S=>
  cases S.pop W with
  |mk _ Y _ r=>
   have r:=r d e1;have a:At C σ τ K s.heap:=.mk F N Y;clear e1;cases d with
   |bool b=>cases r.OE;exact w6 (V _ _ _ a h)
   |int n=>
    refine El.ea r.i8 λt J=>?_;clear S a_1 r;subst J;refine truthy_int (V _ _ _ a ?_);refine ae (show (n != 0)=decide (n≠0) from by by_cases c:n=0 <;> simp [c]) ?_
    exact h
   |none=>clear S a_1;cases r;exact truthy_none (V _ _ _ a h)
   |str x=>
    cases r
    refine P.truthy_str (by have:=h.1;omega) (V _ _ _ a ?_)
    refine ae (show ((x.length:Int) != 0)=decide (x.length≠0) from by by_cases c:x.length=0 <;> simp [c]) ?_
    exact h.2
   |list ds=>
    refine El.dh r.listI λl ws n J p g=>?_;clear S a_1 r;subst J;refine wpAny_truthy_list (kY (At.bR W F N) p) (by refine ae (eN ..) (ae (g.len ..) ?_);exact Cj (m9.mpr h.1) (by decide)) (V _ _ _ a ?_)
    refine ae (show ws.toArray.isEmpty=ds.isEmpty from by have:=g.len;clear p g;cases ws <;> cases ds <;> first | rfl | exact nomatch this) ?_
    exact h.2
   |_=>exact h.elim
end
set_option genCtorIdx true in
inductive Ow
 |fr | own | deep | mA
abbrev Tg:=List (Nat×Ow)
inductive It
 |seq (e:SE)
 |mB (a b:SE)
 |rN (e:SE)
 |uV (i m:Nat) (es:SE)
inductive j7
 |nm (i:Nat) (o:Ow)
 |du (i j:Nat)
 |tp (is:Tg)
 |om (i j:Nat)
inductive SS
 |nil
 |seq (a r:SS)
 |fz (i:Nat)
 |asg (i:Nat) (o:Ow) (e:SE)
 |kZ (is:Tg) (e:SE)
 |eQ (is:Tg) (es:SE)
 |uW (is:Tg) (i:Nat)
 |aug (i:Nat) (o:kL) (e:SE)
 |app (r e:SE)
 |ext (r e:SE)
 |set (r j e:SE)
 |uX (r1 j1 r2 j2 e:SE)
 |rO (r j:SE) (o:kL) (e:SE)
 |cO (t:SE) (a b:SS)
 |dY (is:Tg) (tup:Bool) (it:It) (body:SS)
 |k6 (t:SE) (body:SS)
 |ret (e:SE)
 |cM (gs:List j7) (e:SE)
 |uY (i j n:Nat) (o:Ow) (e:SE)
 |oq (i m:Nat) (es:SE)
 |uZ (is:Tg) (i:Nat)
 |u4 (i:Nat)
 |Af (i j:Nat)
 |Ag (i j n:Nat)
 |Ah (x d e:Nat)
 |Ai (x i:Nat)
 |Aj
 |brk
 |cnt
 |bad
inductive Fl
 |nx | brk | cnt
 |ret (e:Ev)
noncomputable abbrev KS:=Fl→List Tr→Prop
noncomputable def toOl (t:Tr):Tr:=match t with
 |.dl ds=>.ol (ds.map .dat)
 |t=>t
noncomputable def k7 (σ:List Tr) (i:Nat) (k:List Tr→Prop):Prop:=match σ[i]? with
 |some t=>wD t.data λd=>k (σ.set i (.dat d))
 |none=>False
noncomputable def iN (σ:List Tr) (v:Ev) (k:Tr→List Tr→Prop):Prop:=match v with
 |.ow t=>k t σ
 |.bo j p=>wD (Ev.data σ (.bo j p)) λd=>k7 σ j λJ=>k (.dat d) J
noncomputable def jw (σ:List Tr) (i:Nat) (o:Ow) (t:Tr) (k:List Tr→Prop):Prop:=match o with
 |.fr=>wD t.data λd=>k (σ.set i (.dat d))
 |.own=>k (σ.set i t)
 |.deep=>k (σ.set i (toOl t))
 |.mA=>k (σ.set i t)
noncomputable def eI:Tg→List Tr→List Tr→(List Tr→Prop)→Prop:=@λA B C D=>match A,B,C,D with
 |[],ts,σ,k=>match ts with
  |[]=>k σ
  |zz::V=>False
 |q::is,ts,σ,k=>match ts with
  |[]=>False
  |t::ts=>jw σ q.1 q.2 t λJ=>eI is ts J k
noncomputable def rP (l:List (ag×ag)):Option (List Tr):=match l with
 |[]=>none
 |p::r=>match r with
  |[]=>(match p.2 with
   |.tuple ds=>some (ds.map .dat)
   |_=>none)
  |zz::J=>none
noncomputable def pW (d:ag):Option (List Tr):=match d with
 |.tuple ds=>some (ds.map .dat)
 |.dict l=>rP l
 |_=>none
noncomputable def mC (t:Tr):Option (List Tr):=match t with
 |.dat d=>pW d
 |.ot ts=>some ts
 |_=>none
noncomputable def wL (o:Option (List Tr)) (k:List Tr→Prop):Prop:=match o with
 |some t=>k t
 |none=>False
noncomputable def Pd (is:Tg) (σ:List Tr) (v:Ev) (k:List Tr→Prop):Prop:=iN σ v λt J=>wL (mC t) λts=>eI is ts J k
noncomputable abbrev fw (n:Nat):Prop:=n<2 ^ 24
noncomputable def rQ (t u:Tr) (k:Tr→Prop):Prop:=match t with
 |.dl ds=>wD u.data λd=>fw ds.length∧k (.dl (ds++[d]))
 |.ol ts=>fw ts.length∧k (.ol (ts++[u]))
 |_=>False
noncomputable def Ak (t:Tr) (xs:List ag) (k:Tr→Prop):Prop:=match t with
 |.dl ds=>fw (ds.length+xs.length)∧k (.dl (ds++xs))
 |.ol ts=>fw (ts.length+xs.length)∧k (.ol (ts++xs.map .dat))
 |_=>False
noncomputable def u5 (t:Tr) (j:Nat) (u:Tr) (k:Tr→Prop):Prop:=match t with
 |.dl ds=>wD u.data λd=>k (.dl (ds.set j d))
 |.ol ts=>k (.ol (ts.set j u))
 |_=>False
noncomputable def gX (σ:List Tr) (i:Nat) (p:List Nat) (f:Tr→(Tr→Prop)→Prop) (k:List Tr→Prop):Prop:=match σ[i]? with
 |some t=>wT (ek t p) λu=>f u λJ=>k (σ.set i (kS t p J))
 |none=>False
noncomputable def pX (v:Ev) (k:Nat→List Nat→Prop):Prop:=match v with
 |.bo i p=>k i p
 |.ow zz=>False
noncomputable def u6 (t:Tr):Option Nat:=match t with
 |.dl ds=>some ds.length
 |.ol ts=>some ts.length
 |_=>none
noncomputable def rR (σ:List Tr) (i:Nat) (p:List Nat) (P:Prop):Prop:=match (σ[i]?.bind λt=>ek t p).bind u6 with
 |some _=>P
 |none=>False
inductive ou (t:Tr) (n:Int) (k:Nat→Prop):Prop
 |mk {l:Nat}:u6 t=some l→0≤n∧n<2 ^ 63∧n<l→k n.toNat→ou t n k
noncomputable def rS (σ:List Tr) (i:Nat) (k:ag→List Tr→Prop):Prop:=match σ[i]? with
 |some t=>match t with
  |.dl ds=>match ds with
   |d::r=>fw r.length∧k d (σ.set i (.dl r))
   |[]=>False
  |_=>False
 |none=>False
noncomputable def dc (turn:ag→List Tr→KS→Prop) (k:KS):List ag→List Tr→Prop:=@λA B=>match A,B with
 |[],σ=>k .nx σ
 |d::ds,σ=>turn d σ λf J=>match f with
  |.nx=>dc turn k ds J
  |.cnt=>dc turn k ds J
  |.brk=>k .nx J
  |.ret e=>k (.ret e) J
noncomputable def ox (is:Tg) (tup:Bool) (d:ag) (σ:List Tr) (k:List Tr→Prop):Prop:=match tup with
 |true=>wL (pW d) λts=>eI is ts σ k
 |false=>eI is [.dat d] σ k
noncomputable def j8 (a b:Int):List ag:=(kA (b-a).toNat).map λi=>.int (a+(i:Nat))
noncomputable def mD (n:Nat):List ag→List ag:=@λA=>match A with
 |[]=>[]
 |d::ds=>.tuple [.int n,d]::mD (n+1) ds
noncomputable def pY (d:ag):Option (List ag):=match d with
 |.list ds=>some ds
 |.tuple ds=>some ds
 |_=>none
noncomputable def Gf (fs:da) (tup:Bool) (it:It) (σ:List Tr) (k:List ag→List Tr→Prop):Prop:=match it with
 |.seq e=>den fs e σ (one λv=>iN σ v λt J=>wD t.data λd=>match pY d with
  |some ds=>k ds J
  |none=>False)
 |.mB a b=>den fs a σ (one λva=>bC va λx=>den fs b σ (one λvb=>bC vb λy=>(-(2 ^ 62)<x∧x<2 ^ 62∧-(2 ^ 62)<y∧y<2 ^ 62)∧k (j8 x y) σ))
 |.rN e=>den fs e σ (one λv=>iN σ v λt J=>wD t.data λd=>match zV d with
  |some ds=>tup=true∧k (mD 0 ds) J
  |none=>False)
 |.uV i m es=>jc σ i λx as=>den fs es σ λvs=>iM fs.m σ m vs x as λd as=>match pY d with
  |some ds=>k ds (σ.set i (cc x as))
  |none=>False
inductive mE (t:List Tr→(Bool→Prop)→Prop) (body:List Tr→KS→Prop) (σ:List Tr) (k:KS):Prop
 |mk (J:Nat→List Tr→Prop) (n:Nat):J n σ→(∀n dZ,J n dZ→t dZ λc=>aZ c (body dZ λf oy=>match f with
  |.nx=>∃n',n'<n∧J n' oy
  |.cnt=>∃n',n'<n∧J n' oy
  |.brk=>k .nx oy
  |.ret e=>k (.ret e) oy) (k .nx dZ))→mE t body σ k
noncomputable def Am (ts:List Tr) (k:Tr→Tr→Prop):Prop:=match ts with
 |[]=>False
 |a::r=>match r with
  |[]=>False
  |b::q=>match q with
   |[]=>k a b
   |zz::J=>False
noncomputable def An (o:kL) (x y:Int) (k:Int→Prop):Prop:=match o with
 |.Add=>k (x+y)
 |.Sub=>k (x-y)
 |_=>False
noncomputable def k8 (as:List aY) (j:Nat) (a:aY):List aY:=if j<as.length then as.set j a else as++[a]
inductive rT (σ:List Tr) (i j:Nat) (a:aY) (k:List Tr→Prop):Prop
 |mk {x:ao×ao}{as:List aY}:σ[i]? = some (cc x as)→j≤as.length∧j<10→k (σ.set i (cc x (k8 as j a)))→rT σ i j a k
inductive k9:Tr→Prop
 |dat (d:ag):k9 (.dat d)
 |fz {r:Fz→af→Prop}:(∀(P P':Fz) v,(∀a o,P a o→P' a o)→r P v→r P' v)→(∀P v,r P v→lV v=true)→k9 (cj r)
noncomputable def iF:Tr→Bool:=@λA=>match A with
 |.un=>false
 |.fr zz=>false
 |_=>true
noncomputable def Ao (t:Tr) (k:Tr→Prop):Prop:=match t.data with
 |some d=>k (.dat d)
 |none=>k9 t∧k t
inductive u7 (σ:List Tr) (i j:Nat) (k:List Tr→Prop):Prop
 |mk {n:Nat}{g:Int→Option ag}:σ[j]? = some (.fr (j4 n g))→k ((σ.set j (cj (ff g))).set i (cj (ff g)))→u7 σ i j k
inductive u9 (σ:List Tr) (t:Tr) (i j:Nat) (k:List Tr→Prop):Prop
 |mk {n:Nat}{g:Int→Option ag}{c:Int}{d:ag}:t=.dat d→σ[j]? = some (.dat (.int c))→σ[i]? = some (.fr (j4 n g))→n<2 ^ 24→k (σ.set i (.fr (j4 (n+1) λx=>if x=c then some d else g x)))→u9 σ t i j k
structure gf (P:Fz) (a:ao) (n:Nat) (g:Int→Option (List ag)) (l:Option (Int×ao)) (o:ay) (ls:Led) (kv:List (Int×af)):Prop where
 lo:(a == s6)=false
 d:∀(pg:bT) (w:aR),o.IsDictOf (ip pg w) kv
 n:kv.length≤n
 no:∀c,g c=none→valueAt kv c=none
 ye:∀c ds,g c=some ds→∃b ws k,valueAt kv c=some (.ref b)∧(b,bF ws k)∈ls∧bu P ws ds
 inj:∀c c' b,valueAt kv c=some (.ref b)→valueAt kv c'=some (.ref b)→c=c'
 pt:∀c b,l=some (c,b)→valueAt kv c=some (.ref b)
noncomputable def fB (a:ao) (n:Nat) (g:Int→Option (List ag)) (l:Option (Int×ao)):Fz→Led→af→Prop:=λP O v=>v=.ref a∧∃o ls kv,O=(a,o)::ls∧gf P a n g l o ls kv
noncomputable def lg (g:Int→Option (List ag)) (c:Int) (d:List ag):Int→Option (List ag):=λx=>if x=c then some d else g x
noncomputable def pZ (a:ao) (g:Int→Option ag):Fz→af→Prop:=λP v=>v=.ref a∧ff g P v
noncomputable def vd (a:ao):Fz→af→Prop:=λzz v=>v=.ref a
inductive ve (σ:List Tr) (i j n:Nat) (k:List Tr→Prop):Prop
 |mk {x:ao×ao}{as:List aY}:σ[i]? = some (cc x as)→j≤as.length∧j<10→(∀a,k ((σ.set i (cc x (k8 as j (.rf a)))).set n (.fr (fB a 0 (λYU=>none) none))))→ve σ i j n k
inductive vf (σ:List Tr) (x d e:Nat) (k:List Tr→Prop):Prop
 |mk {a:ao}{n:Nat}{g:Int→Option (List ag)}{l:Option (Int×ao)}{c:Int}:σ[d]? = some (.fr (fB a n g l))→σ[e]? = some (.dat (.int c))→n<2 ^ 24→(∀b,k ((σ.set d (.fr (fB a (n+1) (lg g c ((g c).getD [])) (some (c,b))))).set x (cj (vd b))))→vf σ x d e k
inductive vi (σ:List Tr) (x i:Nat) (k:List Tr→Prop):Prop
 |mk {d:Nat}{a:ao}{n:Nat}{g:Int→Option (List ag)}{c:Int}{b:ao}{ds:List ag}{dv:ag}:σ[x]? = some (cj (vd b))→σ[i]? = some (.dat dv)→σ[d]? = some (.fr (fB a n g (some (c,b))))→g c=some ds→ds.length<2 ^ 24→k (σ.set d (.fr (fB a n (lg g c (ds++[dv])) none)))→vi σ x i k
inductive vk (σ:List Tr) (k:List Tr→Prop):Prop
 |mk {i j d:Nat}{a:ao}{n:Nat}{g:Int→Option (List ag)}{l:Option (Int×ao)}{x:ao×ao}{as:List aY}:d≠i→σ[i]? = some (cc x as)→as[j]? = some (.rf a)→σ[d]? = some (.fr (fB a n g l))→k ((σ.set d (cj (pZ a λc=>(g c).map .list))).set i (cc x (as.set j (.tr (cj (ff λc=>(g c).map .list))))))→vk σ k
noncomputable def Gg (σ:List Tr) (t:Tr) (k:List Tr→Prop):j7→Prop:=@λA=>match A with
 |.nm i o=>jw σ i o t k
 |.du i j=>rT σ i j (.tr t) k
 |.tp is=>wL (mC t) λts=>eI is ts σ k
 |.om i j=>u9 σ t i j k
noncomputable def mF (t:Tr) (k:List Tr→Prop):List j7→List Tr→Prop:=@λA B=>match A,B with
 |[],σ=>k σ
 |g::J,σ=>Gg σ t (mF t k J) g
inductive vm (σ:List Tr) (i:Nat) (k:ag→List Tr→Prop):Prop
 |mk {r:List ag}{d:ag}:σ[i]? = some (.dl (r++[d]))→fw r.length→k d (σ.set i (.dl r))→vm σ i k
inductive Ap (σ:List Tr) (i:Nat) (k:List Tr→Prop):Prop
 |mk {bl total:List (Nat×Nat×Nat)}:σ[i]? = some (.dl (bl.map d7))→bl.Perm total→total.Pairwise (λa b=>a.1<b.1)→total.length<64→k (σ.set i (.dl (total.map d7)))→Ap σ i k
noncomputable def oz (fs:da) (r j:SE) (u:Tr) (σ:List Tr) (k:List Tr→Prop):Prop:=den fs r σ (one λw=>pX w λi p=>den fs j σ (one λJ=>bC J λn=>gX σ i p (λt k=>ou t n λj=>u5 t j u k) k))
noncomputable def bq (fs:da):SS→List Tr→KS→Prop:=@λA B C=>match A,B,C with
 |.nil,σ,k=>k .nx σ
 |.seq a r,σ,k=>bq fs a σ λf J=>match f with
  |.nx=>bq fs r J k
  |f=>k f J
 |.fz i,σ,k=>k7 σ i λJ=>k .nx J
 |.asg i o e,σ,k=>den fs e σ (one λv=>iN σ v λt J=>jw J i o t λJ=>k .nx J)
 |.kZ is e,σ,k=>den fs e σ (one λv=>Pd is σ v λJ=>k .nx J)
 |.eQ is es,σ,k=>den fs es σ λvs=>wL (trees vs) λts=>ts.length≤3∧eI is.reverse ts.reverse σ λJ=>k .nx J
 |.uW is i,σ,k=>rS σ i λd J=>wL (pW d) λts=>eI is ts J λJ=>k .nx J
 |.aug i o e,σ,k=>match σ[i]? with
  |some t=>bC (.ow t) λx=>den fs e σ (one λv=>bC v λy=>An o x y λz=>k .nx (σ.set i (.dat (.int z))))
  |none=>False
 |.app r e,σ,k=>den fs r σ (one λw=>pX w λi p=>rR σ i p (den fs e σ (one λv=>iN σ v λu J=>gX J i p (λt=>rQ t u) λJ=>k .nx J)))
 |.ext r e,σ,k=>den fs r σ (one λw=>pX w λi p=>rR σ i p (den fs e σ (one λv=>jb σ v λxs=>gX σ i p (λt=>Ak t xs) λJ=>k .nx J)))
 |.set r j e,σ,k=>den fs e σ (one λv=>iN σ v λu J=>oz fs r j u J λJ=>k .nx J)
 |.uX r1 j1 r2 j2 e,σ,k=>den fs e σ (one λv=>iN σ v λt W=>wL (mC t) λts=>Am ts λt1 t2=>oz fs r1 j1 t1 W λY=>oz fs r2 j2 t2 Y λV=>k .nx V)
 |.rO r j o e,σ,k=>den fs r σ (one λw=>pX w λi p=>den fs j σ (one λvj=>pP σ w vj λold=>bC old λx=>den fs e σ (one λv=>bC v λy=>bC vj λn=>An o x y λz=>gX σ i p (λt k=>ou t n λj=>u5 t j (.dat (.int z)) k) λJ=>k .nx J)))
 |.cO t a b,σ,k=>den fs t σ (one λv=>j5 v λc=>aZ c (bq fs a σ k) (bq fs b σ k))
 |.dY is tup it body,σ,k=>Gf fs tup it σ λds J=>dc (λd σ k=>ox is tup d σ λJ=>bq fs body J k) k ds J
 |.k6 t body,σ,k=>mE (λσ f=>den fs t σ (one λv=>j5 v f)) (bq fs body) σ k
 |.ret e,σ,k=>den fs e σ (one λv=>k (.ret v) σ)
 |.cM gs e,σ,k=>den fs e σ (one λv=>iN σ v λt J=>Ao t λt'=>mF t' (λJ=>k .nx J) gs J)
 |.uY i j n o e,σ,k=>den fs e σ (one λv=>iN σ v λt J=>iF t=true∧rT J i j .any λV=>jw V n o t λZ=>k .nx Z)
 |.oq i m es,σ,k=>jc σ i λx as=>den fs es σ λvs=>iM fs.m σ m vs x as λzz as=>k .nx (σ.set i (cc x as))
 |.uZ is i,σ,k=>vm σ i λd J=>wL (pW d) λts=>eI is ts J λJ=>k .nx J
 |.Ag i j n,σ,k=>ve σ i j n λJ=>k .nx J
 |.Ah x d e,σ,k=>vf σ x d e λJ=>k .nx J
 |.Ai x i,σ,k=>vi σ x i λJ=>k .nx J
 |.Aj,σ,k=>vk σ λJ=>k .nx J
 |.Af i j,σ,k=>u7 σ i j λJ=>k .nx J
 |.u4 i,σ,k=>Ap σ i λJ=>k .nx J
 |.brk,σ,k=>k .brk σ
 |.cnt,σ,k=>k .cnt σ
 |.bad,zz,zy=>False
structure Fn where
 nm:ai
 val:af
 spec:iK
structure Mn where
 nm:ai
 val:af
 spec:dK
structure c7 where
 f:List Fn
 m:List Mn
noncomputable abbrev specs (fs:c7):da:=⟨fs.f.map Fn.spec,fs.m.map Mn.spec⟩
noncomputable abbrev Keeps (h h':ar):Prop:=∀b o,h.get? b=some o→h'.get? b=some o
noncomputable def j9 (C:Cx) (x:ai) (g:af):Prop:=∀(env:cL) (p:aE) (m:ai→Option af) (Q:af→aj→Prop) (s:aj),env.globals=iZ→env.builtins=builtinsNs→env.scope.kind=.function→env.kindOf x=some .globalImplicit→(x == ("__debug__":ai))=false→Fr C.h₀ C.L s.heap m→Q g s→Wp C (dg (.Name x p) env) Q s
noncomputable def oA (C:Cx) (g:af):Prop:=∀(env:cL) (pos:aE) (x:Expr) (r:List Expr) (Q:af→aj→Prop) (s:aj),(∀y∈x::r,notStar y=true)→Wp C (qO (iu pos (fK (x::r) env))) (λvs J=>Keeps C.h₀ J.heap∧Wp C (call g vs) Q J) s→Wp C (CR pos g [] (iu pos (fK (x::r) env)) []) Q s
noncomputable def Pe (fr:Bool) (P:Fz) (T:Led) (u:af) (d:ag):Prop:=match fr with
 |false=>Dat (P.and T) u d
 |true=>∃a n ws ys J,u=.ref a∧d=.list ys∧T=(a,bF ws n)::J∧bu (P.and J) ws ys
noncomputable def Aq (C:Cx) (f:List af→fY af) (sp:iK):Prop:=∀(P:Fz) (m:ai→Option af) (vs:List af) (ds:List ag) (k:ag→Prop) (s:aj) (Q:af→aj→Prop),Fr C.h₀ C.L s.heap m→(∀a o,P a o→a≠C.L∧s.heap.get? a=some o)→bu P vs ds→sp.2 ds k→
 (∀u d (T:Led) h' tk,Fr C.h₀ C.L h' m→(∀b o,b≠C.L→s.heap.get? b=some o→h'.get? b=some o)→(∀p∈T,h'.get? p.1=some p.2∧s.heap.get? p.1=none)→(T.map (·.1)).Nodup→Pe sp.1 P T u d→k d→Q u {s with heap:=h',toks:=tk})→Wp C (f vs) Q s
noncomputable abbrev adr (O:Led):List ao:=O.map (·.1)
noncomputable def Ar (C:Cx) (f:af) (sp:dK):Prop:=∀(P:Fz) (m:ai→Option af) (x:ao×ao) (as:List aY) (O:Led) (vs:List af) (ds:List ag) (k:ag→List aY→Prop) (s:aj) (R:iX→aj→Prop),Fr C.h₀ C.L s.heap m→(∀a o,P a o→a≠C.L∧s.heap.get? a=some o∧a∉adr O)→nZ x as P O (.ref x.1)→aW C.h₀ C.L s.heap O→(adr O).Nodup→bu P vs ds→sp x as ds k→
 (∀u d J (O' T:Led) h' tk,Fr C.h₀ C.L h' m→(∀b o,b≠C.L→b∉adr O→s.heap.get? b=some o→h'.get? b=some o)→adr O'=adr O→(∀p∈O'++T,h'.get? p.1=some p.2)→(∀p∈T,s.heap.get? p.1=none)→(adr T).Nodup→nZ x J (P.and T) O' (.ref x.1)→Dat (P.and T) u d→k d J→R (.ok (.ret u)) {s with heap:=h',toks:=tk})→gz (aO C.pg C.w) C.A (.call f ⟨.ref x.1::vs,[]⟩) R s
inductive vn (h₀:ar) (L:ao) (h:ar) (m:ai→Option af) (x dx:ao) (es:List d4) (n:Nat) (P:Fz) (as:List aY):Prop
 |mk:Fr h₀ L h m→h.get? x=some (fZ 242 dx)→h.get? dx=some (fj es n)→cX P es bR as→vn h₀ L h m x dx es n P as
noncomputable def Gh (C:Cx) (nm:ai) (f:af):Prop:=(∀(m:ai→Option af) (x V:ao) (es:List d4) (n:Nat) (P:Fz) (as:List aY) (pl:fY Bool) (Q:af×List af→aj→Prop) (s:aj),vn C.h₀ C.L s.heap m x V es n P as→Q (f,[.ref x]) s→Wp C (getMethod (.ref x) nm pl) Q s)∧
 ∀(env:cL) (pos:aE) (r:List Expr) (first:List af) (Q:af→aj→Prop) (s:aj),Keeps C.h₀ s.heap→(∀y∈r,notStar y=true)→Wp C (qO (iu pos (fK r env))) (λvs J=>Keeps C.h₀ J.heap∧Wp C (call f (first++vs)) Q J) s→Wp C (CR pos f first (iu pos (fK r env)) []) Q s
structure Gi (C:Cx):Prop where
 get:∀{m:ai→Option af}{x dx:ao}{es:List d4}{n:Nat}{P:Fz}{as:List aY}{j:Nat}{nm:ai}{e:d4}{Q:af→aj→Prop}{s:aj},vn C.h₀ C.L s.heap m x dx es n P as→bR[j]? = some nm→es[j]? = some e→Q e.val {s with toks:=s.toks+1}→Wp C (nB (.ref x) nm true) Q s
 set:∀{m:ai→Option af}{x dx:ao}{es:List d4}{n:Nat}{P:Fz}{as:List aY}{j:Nat}{nm:ai}{v:af}{rest:Led}{Q:Unit→aj→Prop}{s:aj},vn C.h₀ C.L s.heap m x dx es n P as→aW C.h₀ C.L s.heap ((dx,fj es n)::rest)→(∀p∈rest,p.1≠dx)→bR[j]? = some nm→j≤as.length→lV v=true→
  (∀h' vo n' tk,Fr C.h₀ C.L h' m→aW C.h₀ C.L h' ((dx,fj vo n')::rest)→(∀(P':Fz) as a,cX P' es bR as→jZ P' a v→cX P' vo bR (k8 as j a))→Q () {s with heap:=h',toks:=tk})→Wp C (setAttr (.ref x) nm v) Q s
noncomputable def As (C:Cx) (sp:dK):Prop:=∀(P:Fz) (m:ai→Option af) (vs:List af) (ds:List ag) (k:ao×ao→List aY→Prop) (s:aj) (Q:af→aj→Prop),Fr C.h₀ C.L s.heap m→(∀a o,P a o→a≠C.L∧s.heap.get? a=some o)→bu P vs ds→(∀x,sp x [] ds λd as=>d=.none∧k x as)→
 (∀x as (O T:Led) h' tk,Fr C.h₀ C.L h' m→(∀b o,b≠C.L→s.heap.get? b=some o→h'.get? b=some o)→(∀p∈O++T,h'.get? p.1=some p.2∧s.heap.get? p.1=none)→(adr (O++T)).Nodup→nZ x as (P.and T) O (.ref x.1)→k x as→Q (.ref x.1) {s with heap:=h',toks:=tk})→Wp C (call (.ref 242) vs) Q s
inductive rU (h:ar) (D:ao) (ws:List af):Prop
 |tup:IsTup h D ws.toArray→rU h D ws
 |mt {dx:ao}:h.get? D=some (uv dx ws.toArray)→rU h D ws
noncomputable def Pf (C:Cx):Prop:=∀(env:cL) (J:List Expr) (k:Nat) (pos:aE) (y V:ao) (ws:List af) (m:ai→Option af) (N:Led) (Q:Unit→aj→Prop) (s:aj),Fr C.h₀ C.L s.heap m→aW C.h₀ C.L s.heap N→s.heap.get? y=some (uv V ws.toArray)→(iq J env).length=ws.length→(iq J env).findIdx? (·.1)=none→(∀h',Fr C.h₀ C.L h' m→aW C.h₀ C.L h' N→Wp C (s9 ((iq J env).map (·.2)) ws) Q {s with heap:=h'})→Wp C (gA (.Tuple J k pos) env (.ref y)) Q s
noncomputable def Gj (C:Cx):Prop:=∀(P:Fz) (m:ai→Option af) (D:ao) (n:Nat) (ws:List af) (rest:Led) (bl total:List (Nat×Nat×Nat)) (Q:af→aj→Prop) (s:aj),Fr C.h₀ C.L s.heap m→aW C.h₀ C.L s.heap ((D,bF ws n)::rest)→(∀q∈rest,q.1≠D)→(∀a o,P a o→C.h₀.get? a=some o∨(a,o)∈rest)→bu P ws (bl.map d7)→bl.Perm total→total.Pairwise (λa b=>a.1<b.1)→total.length<64→
 (∀h' tk J n',Fr C.h₀ C.L h' m→aW C.h₀ C.L h' ((D,bF J n')::rest)→bu P J (total.map d7)→Q .none {s with heap:=h',toks:=tk})→Wp C (call (.builtin "list.sort") [.ref D]) Q s
noncomputable abbrev p7:ay:=methodObj (.ref 89) (.ref 135)
structure Gk (C:Cx):Prop where
 get:∀{m:ai→Option af}{N:Led}{Q:af→aj→Prop}{s:aj},Fr C.h₀ C.L s.heap m→aW C.h₀ C.L s.heap N→(∀q h' tk,Fr C.h₀ C.L h' m→aW C.h₀ C.L h' ((q,p7)::N)→(∀p∈N,p.1<q)→Q (.ref q) {s with heap:=h',toks:=tk})→Wp C (nB (.ref 135) (ai.ofString "_make") true) Q s
 run:∀{P:Fz}{m:ai→Option af}{N:Led}{q l:ao}{n:Nat}{ws:List af}{bl:List (Nat×Nat×Nat)}{Q:af→aj→Prop}{s:aj},Fr C.h₀ C.L s.heap m→aW C.h₀ C.L s.heap N→(q,p7)∈N→(∀a o,P a o→s.heap.get? a=some o)→s.heap.get? l=some (bF ws n)→bu P ws (bl.map n6)→bl.length<2 ^ 24→
  (∀D h' tk fT n' (T:Led),Fr C.h₀ C.L h' m→(∀b o,s.heap.get? b=some o→h'.get? b=some o)→h'.get? D=some (bF fT n')→s.heap.get? D=none→(∀q∈T,h'.get? q.1=some q.2∧s.heap.get? q.1=none∧q.1≠D)→(adr T).Nodup→bu (λa o=>(a,o)∈T) fT (bl.map d7)→Q (.ref D) {s with heap:=h',toks:=tk})→
  Wp C (call (.type "map") [.ref q,.ref l]) (λmv rV=>Keeps C.h₀ rV.heap∧Wp C (call (.type "list") [mv]) Q rV) s
structure oB (C:Cx):Prop where
 nl:C.h₀.NoLimit
 mu:Pf C
 so:Gj C
 mm:Gk C
 gm:j9 C (ai.ofString "Match") (.ref 135)
structure vp (C:Cx) (fs:c7):Prop where
 fn:∀(i:Nat) f,fs.f[i]? = some f→Aq C (λvs=>call f.val vs) f.spec∧j9 C f.nm f.val∧oA C f.val
 gl:∀x∈my,∀v,Kz x=some v→j9 C x v
 mt:∀(i:Nat) f,fs.m[i]? = some f→Ar C f.val f.spec∧Gh C f.nm f.val∧(f.nm=ai.ofString "__init__"→As C f.spec∧j9 C (ai.ofString "SequenceMatcher") (.ref 242)∧oA C (.ref 242))
 du:Gi C
 df:oB C
theorem dR {e:Expr}{r:List Expr}{env:cL}(h:notStar e=true):fK (e::r) env=(false,dg e env)::fK r env:=by
 cases e <;> first | rfl | exact El.ft h
theorem mG {env:cL}{pos:aE}:∀{r:List Expr},(∀y∈r,notStar y=true)→((iu pos (fK r env)).any (·.1))=false:=@λA B=>match A,B with
 |[],zz=>rfl
 |y::r,J=>by
  refine ae (dR (J y (.head _)) ..) ?_;exact mG (r:=r) λz hz=>J z (.tail _ hz)
section
variable {C:Cx}{σ:List Tr}{τ:List br}{K:Fs}{v w va vb:af}{e ea eb:Ev}{d:ag}{h:ar}{Q:af→aj→Prop}{s:aj}{k:Ev→Prop}{m:ai→Option af}{N ZL:Led}
theorem Dat.atom {P P':Fz}{u:af}(h:Dat P u d) (J:FQ d=true):Dat P' u d:=by
 cases h with
 |none=>exact .none
 |bool b=>exact .bool b
 |int n t=>exact .int n t
 |str n t=>exact .str n t
 |list _ _ _=>exact El.ft J
 |tup _ _ _=>exact El.ft J
 |mt _=>exact El.ft J
theorem Sp.over {K:Led}{a:br}{τ₁:List br}(S:Sp C σ (a::τ₁++τ) m N K ZL):Sp C σ (τ₁++a::τ) m N K ZL:=by
 cases S with
 |@mk Os Ot vs nd pm rs W mp V hx=>
  refine El.aP V λA zz J x y=>?_;clear V;subst J;refine El.aP y.split ?_;clear y;intro B D J y z;subst J;exact .mk nd (pm.trans (.append_right _ (cV _ _ _))) rs W mp (cC.join (τ':=a::τ) (El.bP A D rfl x z) y) hx
theorem Sp.under {K:Led}{a:br}{τ₁:List br}(S:Sp C σ (τ₁++a::τ) m N K ZL):Sp C σ (a::τ₁++τ) m N K ZL:=by
 cases S with
 |@mk Os Ot vs nd pm rs Y mp W hx=>
  obtain ⟨A,zz,J,x,B,D,V,y,z⟩:=W.split;clear W;subst J;subst V;exact .mk nd (pm.trans (.append_right _ (cV _ _ _))) rs Y mp (El.bP B _ rfl y (cC.join z x)) hx
theorem Sp.mH {K:Led}(W:C.Ok):∀{vs:List af}{es:List Ev}{ds:List ag}{ZL:Led},vs.length=es.length→Sp C σ (vs.zip es++τ) m N K ZL→mq σ es=some ds→∃bp,(∀q∈ZL,q∈bp)∧Sp C σ τ m N K bp∧bu (C.P.and N) vs ds∧(ml es=true→bu (C.P.and bp) vs ds):=@λA B D F G H J=>match A,B,D,F,G,H,J with
 |[],[],ds,ZL,zz,S,h=>by cases h;exact El.iA ZL (λzz h=>h) S rfl (λzz=>rfl)
 |v::vs,e::es,ds,ZL,l,S,h=>by
  refine El.aP (zM h) λd Z e1 e2 V=>?_;clear h;subst V;cases S.pop W with
  |mk z1 S1 f g=>
   refine El.gR (Sp.mH W (ji l) S1 e2) λbp Y S2 r1 r2=>?_;refine El.iA bp (λq hq=>Y q (z1 q hq)) S2 ⟨g d e1,r1⟩ (λho=>?_);cases e with
   |bo i p=>exact El.ft ho
   |ow t=>exact ⟨(f t rfl d e1).mono (and_mono Y),r2 ho⟩
 |[],zz::zy,zx,zw,l,zv,zu=>El.zs l
 |zz::zy,[],zx,zw,l,zv,zu=>El.sz l
theorem Sp.grow {T K:Led}(S:Sp C σ τ m N K ZL) (Y:(T.map (·.1)).Nodup) (hd:∀p∈T,∀q∈N,p.1≠q.1):Sp C σ τ m (T++N) K (T++ZL):=by
 cases S with
 |@mk Os Ot vs nd pm rs Z mp tm hx=>
  refine .more (T:=[]) ?_ ((pm.append_left T).trans ?_) rs Z mp (tm.mono (λzz h=>bx _ h) λzz h=>bx _ h) hx λzz h=>bx _ h
  ·refine ae (bG ..) ?_;refine fJ.mpr (El.aK Y nd (λa V b W e=>?_));refine El.au (bL.mp V) λp hp J=>?_;clear V;subst J;refine El.au (bL.mp W) λq hq J=>?_;clear W;subst J;exact hd p hp q hq e
  ·exact (cV _ _ _).trans (.append_left _ ((cV _ _ _).trans (.append_left _ (cV _ _ _))))
theorem rW {h₀:ar}{L:ao}(F:Fr h₀ L h m) {a:ao}(e:h.get? a=none):a≠L∧h₀.get? a=none:=by
 refine ⟨λq=>?_,?_⟩
 ·refine El.l6 F.ns λV a1 a2 J W=>?_;rw [q,J] at e;exact El.sn e
 ·cases q:h₀.get? a with
  |none=>rfl
  |some o=>rw [F.keep _ _ q] at e;exact El.sn e
theorem At.Gl {φ:Fs}(V:C.Ok) {J:ar}{m:ai→Option af}{N:Led}(F:Fr C.h₀ C.L J m) (W:aW C.h₀ C.L J N):∀a o,C.P.and N a o→a≠C.L∧J.get? a=some o:=λa o p=>p.elim (λp=>⟨λe=>by
  have:=V.sub _ _ p;rw [e,ar.get?_none_of_le F.above] at this;exact (El.ns this),F.keep _ _ (V.sub _ _ p)⟩) λp=>⟨(W _ p).2.1,(W _ p).1⟩
theorem Pg {fs:c7}(hC:C.Ok) (hG:vp C fs) {i:Nat}{f:Fn}(hf:fs.f[i]? = some f) {vs:List af}{es:List Ev}(hl:vs.length=es.length) (h:z6 (specs fs) σ i es k) (a:At C σ (vs.zip es++τ) K s.heap) (hQ:Nx C σ τ K s Q k):Wp C (call f.val vs) Q s:=by
 have Gm:=(hG.fn i f hf).1;unfold z6 at h;rw [show (specs fs).f[i]? = some f.spec by rw [kF,hf];rfl] at h
 dsimp only at h;cases e1:mq σ es with
 |none=>rw [e1] at h;exact h.elim
 |some ds=>
  rw [e1] at h;dsimp only at h;cases a with
  |@mk N0 _ F N S=>
   refine El.gR (S.mH hC hl e1) λbp zz S' r1 r2=>?_;have hN:=At.Gl (φ:=K) hC F N;have news:∀{h':ar}{T:Led},(∀b o,b≠C.L→s.heap.get? b=some o→h'.get? b=some o)→(∀p∈T,h'.get? p.1=some p.2∧s.heap.get? p.1=none)→aW C.h₀ C.L h' (T++N0):=λkp V p J=>(cF.mp J).elim (λJ=>⟨(V p J).1,rW F (V p J).2⟩) λJ=>⟨kp _ _ (N p J).2.1 (N p J).1,(N p J).2⟩;have Y:∀{h':ar}{T:Led},(∀p∈T,h'.get? p.1=some p.2∧s.heap.get? p.1=none)→∀p∈T,∀q∈N0,p.1≠q.1:=λV p J q hq e=>by have:=(V p J).2;rw [e,(N q hq).1] at this;exact El.sn this
   cases e2:ml es with
   |true=>
    rw [e2] at h;refine Gm (C.P.and bp) K.1 vs ds _ s Q F (λa o q=>hN a o (q.imp_right (S'.sub _))) (r2 e2) h λu d T h' tk F' kp V nd hd hk=>hQ _ _ _ _ ?_ hk;cases W:f.spec.1 with
    |false=>
     rw [W] at hd;exact .mk F' (news kp V) ((S'.grow nd (Y V)).dM ((show Dat _ u d from hd).mono λa o q=>q.elim (λq=>q.imp_right λq=>bx _ q) λq=>.inr (bO _ q)))
    |true=>
     rw [W] at hd;refine El.yh hd ?_;clear hd;intro a n ws ys T1 Z dq iG hd;subst Z;clear hk;subst dq;subst iG;have n1:=cu.mp nd;exact .mk F' (news kp V)
      ((S'.grow n1.2 λp J=>Y V p (.tail _ J)).uR (λp J=>(cF.mp J).elim (λJ e=>n1.1 (e▸bL.mpr (El.aD p J rfl))) λJ e=>Y V _ (.head _) p J e.symm) (.jd (hd.mono λa o q=>q.elim (λq=>q.imp_right λq=>bx _ q) λq=>.inr (bO _ q))))
   |false=>
    rw [e2] at h;refine Gm _ K.1 vs ds _ s Q F hN r1 h λu d T h' tk F' kp V nd hd hk=>hQ _ _ _ _ (.mk F' (news kp V) ((S'.grow nd (Y V)).dM ?_)) hk.2;have ha:=hk.1;cases W:f.spec.1 with
    |true=>
     rw [W] at hd;refine El.yh hd ?_;clear hd;intro a n ws ys T1 Z dq iG hd;subst Z;clear hk;subst dq;clear V nd;subst iG;exact El.ft ha
    |false=>
     rw [W] at hd;exact (show Dat _ u d from hd).atom ha
theorem Gn {vs:List af}{es:List Ev}(hl:vs.length=es.length) (a:At C σ (vs.zip es++τ) K h) {f:Ev→Prop}(g:one f es):∃v e,vs=[v]∧At C σ ((v,e)::τ) K h∧f e:=by
 cases es with
 |nil=>exact g.elim
 |cons e r=>cases r with
  |cons=>exact g.elim
  |nil=>cases vs with
   |nil=>exact nomatch hl
   |cons v r=>cases r with
    |nil=>exact El.bP v e rfl a g
    |cons=>exact El.sz (ji hl)
theorem Gp {vs:List af}{es:List Ev}(hl:vs.length=es.length) (a:At C σ (vs.zip es++τ) K h) {f:Int→Int→Prop}(g:two (λa b=>bC a λx=>bC b λy=>f x y) es):∃x t y u,vs=[.int x t,.int y u]∧At C σ τ K h∧f x y:=by
 cases es with
 |nil=>exact g.elim
 |cons e r=>cases vs with
  |nil=>exact El.zs hl
  |cons v vs=>
   have V:At C σ (vs.zip r++(v,e)::τ) K h:=by cases a with | mk F N S=>exact .mk F N S.over
   refine El.aP (Gn (ji hl) V g) ?_;clear g;intro w e2 J a2 g;clear hl a V;subst J;refine El.au (oa g) ?_;clear g;intro x J g;subst J;refine El.aP (a2.eH g) ?_;clear g;intro y u J g W;subst J;refine El.aP (W.eH (f:=λz=>z=x) rfl) λz t J e3 Y=>?_;subst J;exact El.jS z t y u rfl Y (e3▸g)
theorem Ph (V:C.Ok) {b:Bi}{vs:List af}{es:List Ev}(hl:vs.length=es.length) (h:FR σ b es k) (a:At C σ (vs.zip es++τ) K s.heap) (W:Nx C σ τ K s Q k):Wp C (call (.builtin (F5 b)) vs) Q s:=by
 cases b with
 |len=>
  refine El.aP (Gn hl a h) λv e J a0 g=>?_;clear hl a;subst J;refine El.au (eP g) λd e1 g=>?_;cases a0 with
  |mk F N S=>cases S.pop V with
   |mk _ Z _ r=>
    have r:=r d e1;have a2:At C σ τ K s.heap:=.mk F N Z;clear e1;cases d with
    |list ds=>
     refine El.dh r.listI λl ws n J p q=>?_;subst J;refine len_list (kY (At.bR V F N) p) (by refine ae (eN ..) (ae (q.len ..) ?_);exact Cj (m9.mpr g.1) (by decide)) ?_
     refine ae (eN ..) (ae (q.len ..) ?_);exact W _ _ _ _ a2.int g.2.out
    |tuple ds=>
     refine El.aP r.tupI λl ws J p q=>?_;subst J;refine len_tuple (El.kP _ (At.bR V F N _ _ p) rfl 0 rfl) (by refine ae (eN ..) (ae (q.len ..) ?_);exact Cj (m9.mpr g.1) (by decide)) ?_
     refine ae (eN ..) (ae (q.len ..) ?_);exact W _ _ _ _ a2.int g.2.out
    |_=>exact g.elim
 |max=>
  refine El.fL (Gp hl a h) λx t y u J a0 g=>?_;clear a;subst J;cases a0 with
  |mk F N S=>
   refine max_two_N V.hh F N λh' tk Y N'=>?_;rw [show (if y > x then y else x)=max x y from by rw [Int.max_def];split <;> split <;> omega]
   exact W _ _ _ _ (At.mk Y N' S).int g
 |min=>
  refine El.fL (Gp hl a h) λx t y u J a0 g=>?_;clear a;subst J;cases a0 with
  |mk F N S=>
   refine min_two_N V.hh F N λh' tk Y N'=>?_;rw [show (if y<x then y else x)=min x y from by rw [Int.min_def];split <;> split <;> omega]
   exact W _ _ _ _ (At.mk Y N' S).int g
theorem Pj (W:C.Ok) {f:Bool→Prop}(h:z8 σ e f) (a:At C σ ((v,e)::τ) K s.heap) (V:∀c h' tk,At C σ τ K h'→f c→Q (.bool c) {s with heap:=h',toks:=tk}):Wp C (call (.builtin "isinstance") [v,.type "list"]) Q s:=by
 refine El.au (eP (show wD (e.data σ) _ from h)) λd e1 g=>?_;cases a with
 |mk F N S=>cases S.pop W with
  |mk _ Y _ r=>
   have r:=r d e1;have a1:At C σ τ K s.heap:=.mk F N Y;clear e1;cases d with
   |list ds=>
    refine El.dh r.listI λb ws n J p zz=>?_;clear S a_1 r;subst J;exact IsiPair.list_list (At.bR W F N _ _ p.1) p.2.c (V _ _ _ a1 g)
   |tuple ds=>
    refine El.aP r.tupI λb ws J p zz=>?_;clear S a_1 r;subst J;exact IsiPair.tuple_list (At.bR W F N _ _ p) rfl (V _ _ _ a1 g)
   |int n=>cases r;exact IsiPair.int_list (V _ _ _ a1 g)
   |str n=>cases r;exact IsiPair.str_list (V _ _ _ a1 g)
   |_=>exact g.elim
end
theorem Gq:∀{a b:Led},(a.map (·.1)).Nodup→(∀p∈a,p∈b)→∃c,b.Perm (a++c):=@λA B C D=>match A,B,C,D with
 |[],b,zz,zy=>⟨b,.refl _⟩
 |p::a,b,V,hs=>by
  refine El.q9 (X4 (hs p (.head _))) λs t J=>?_;subst J;refine El.aa (cu.mp V) λY Z=>?_;refine El.ea (Gq (b:=s++t) Z λq W=>by
   have:=hs q (.tail _ W);rcases cF.mp this with h | h
   ·exact bO _ h
   ·clear V hs this;rcases cU.mp h with rfl | h
    ·exact (Y (bL.mpr (El.aD _ W rfl))).elim
    ·exact bx _ h) λc hc=>?_
  exact ⟨c,nk.trans (hc.cons _)⟩
theorem Pk {sc:gN}{env:cL}(h:∀y∈sc.names,y.2≠.free):relabel sc env=sc:=by
 have:(sc.names.map λ(n,k)=>if (k == KA.free && env.scope.kind == .function && env.kindOf n == some .cell) then (n,KA.cell) else (n,k))=sc.names:=by
  refine (List.map_congr_left (g:=id) λy J=>?_).trans (KC _);obtain ⟨n,k⟩:=y;have:(k == KA.free)=false:=beq_eq_false_iff_ne.mpr (h _ J);simp [this]
 refine (?_:{sc with names:=_}=sc)
 exact ae (this ..) rfl
noncomputable abbrev p8 (C:Cx) (env:cL) (x:ai) (ZL:Led) (v:af) (A:ao) (o:ay):Cx:={C with env:=env,xs:=[x],X:=ZL,rd:=λzz K i w=>i=0∧w=v∧(A,o)∈K}
theorem Pl {C:Cx}(V:C.Ok) {env:cL}{x:ai}{ZL:Led}{v:af}{A:ao}{o:ay}{J:ai→Option af}(Z:env.locals=A) (h2:env.scope.kind=.function) (h3:env.kindOf x=some .local) (h4:(x == ("__debug__":ai))=false) (h5:LCg.NsObj o J) (h6:J x=some v):(p8 C env x ZL v A o).Ok:=
 ⟨V.hh,V.hu,V.sub,λa b=>a.2.1.trans b.2.1.symm,λ{i y m N K w Q s} hi F N' hk r hQ=>by
  refine El.cH r ?_;clear r;intro W Y r;subst W;clear F;subst Y;cases (show some x=some y from hi)
  have ns:s.heap.Ns A J:=h5.ns (N'.get (hk _ r));rw [←Z] at ns;exact wpAny_loadName_local h2 h3 ns h6 hQ,λy hy=>dk.mp hy▸h4⟩
theorem Pm {C:Cx}{fs:c7}(J:vp C fs) {env:cL}{x:ai}{ZL:Led}{v:af}{A:ao}{o:ay}:vp (p8 C env x ZL v A o) fs:=⟨J.fn,J.gl,J.mt,⟨J.du.get,J.du.set⟩,⟨J.df.nl,J.df.mu,J.df.so,⟨J.df.mm.get,J.df.mm.run⟩,J.df.gm⟩⟩
theorem Gr {I A D:ao}:∀{l:Led},(∀p∈l,@Ne Nat p.1 I∧@Ne Nat p.1 A∧@Ne Nat p.1 D)→LCg.Off3 I A D l:=@λB C=>match B,C with
 |[],zz=>trivial
 |p::r,h=>⟨h p (.head _),Gr λq J=>h q (.tail _ J)⟩
theorem Au {D:ao}:∀{l:Led},LCg.Off1 D l→∀p∈l,@Ne Nat p.1 D:=@λA B C F=>match A,B,C,F with
 |[],zz,J,h=>El.nm h
 |q::r,x,p,h=>(cU.mp h).elim (λe=>e▸x.1) (Au x.2 p)
section
variable {C:Cx}{σ:List Tr}{τ:List br}{K:Led}{v w:af}{d:ag}{s:aj}{Q:af→aj→Prop}{m:ai→Option af}{N ZL:Led}
theorem Pn {env:cL}{x:ai}{A I D:ao}{W Z oD:ay}{K:Led}(S:Sp C σ τ m N K ZL) (off:LCg.Off3 I A D N) (ne:(@Ne Nat I A)∧(@Ne Nat I D)∧(@Ne Nat A D)) (hd:Dat (C.P.and ZL) v d) :
  ∃K',(A,W)∈K'∧(∀q∈(I,Z)::(A,W)::(D,oD)::N,q∈K'∨q∈ZL)∧Sp (p8 C env x ZL v A W) [.dat d] [] m ((I,Z)::(A,W)::(D,oD)::N) K' ZL:=by
 cases S with
 |@mk Os Ot vs nd pm rs ln mp tm hx=>
  have J:=LCg.Off3.mem off;have no:∀a:ao,(∀p∈N,p.1≠a)→a∉N.map (·.1):=λa h q=>by refine El.au (bL.mp q) λp V e=>?_;exact h p V e
  have Y:((I,Z)::(A,W)::(D,oD)::N).Perm (((I,Z)::(A,W)::(D,oD)::(Ot++(Os++K)))++ZL):=by
   refine .cons _ (.cons _ (.cons _ (pm.trans ?_)));refine (?_:(Ot++(Os++(K++ZL))).Perm ((Ot++(Os++K))++ZL));rw [aH,aH]
  refine El.ey _ (.tail _ (.head _)) (λq hq=>cF.mp (Y.mem_iff.mp hq)) (.mk (Os:=[]) (Ot:=[]) (vs:=[v]) ?_ Y (El.iB [] [] rfl ⟨rfl,hd⟩ rfl rfl) rfl ?_ rfl λzz h=>h)
  ·refine cu.mpr ⟨λh=>?_,cu.mpr ⟨λh=>?_,cu.mpr ⟨no _ λp V=>(J p V).2.2,nd⟩⟩⟩
   ·rcases cU.mp h with h | h
    ·exact ne.1 h
    ·rcases cU.mp h with h | h
     ·exact ne.2.1 h
     ·exact no _ (λp V=>(J p V).1) h
   ·rcases cU.mp h with h | h
    ·exact ne.2.2 h
    ·exact no _ (λp V=>(J p V).2.1) h
  ·intro i w t h1 h2 _;clear h2;cases i with
   |zero=>cases h1;exact El.aK rfl rfl (.tail _ (.head _))
   |succ i=>exact El.ns h1
theorem Po {env:cL}{x:ai}{A I D:ao}{J Z oD:ay}{K K' N' bp:Led}{u:af}{y:ag}{dZ:List Tr}{t:Tr}(hC:(p8 C env x ZL v A J).Ok) (S:Sp C σ τ m N K ZL) (nd:(((I,Z)::(A,J)::(D,oD)::N).map (·.1)).Nodup) (hK:∀q∈(I,Z)::(A,J)::(D,oD)::N,q∈K'∨q∈ZL) (S':Sp (p8 C env x ZL v A J) dZ [(u,.ow t)] m N' K' bp) (hy:t.data=some y) :
  ∃T,N'.Perm (((I,Z)::(A,J)::(D,oD)::N)++T)∧Sp C σ τ m (N++T) K (ZL++T)∧Dat (C.P.and (ZL++T)) u y∧LCg.Off3 I A D (N++T):=by
 cases S'.pop hC with
 |@mk YV z1 S2 f g=>
  have z2:=S2.sub;have hd:=f t rfl y hy;have hN:∀q∈(I,Z)::(A,J)::(D,oD)::N,q∈N':=λq hq=>(hK q hq).elim (S'.d8 q) λh=>S2.sub q (by cases S2 with | mk _ _ _ _ _ _ hx=>exact hx q h)
  refine El.ea (Gq nd hN) λT pT=>?_;have V:((((I,Z)::(A,J)::(D,oD)::N)++T).map (·.1)).Nodup:=(pT.map _).nodup_iff.mp (by cases S' with | mk nd _ _ _ _ _ _=>exact nd)
  rw [bG] at V;refine El.cH (fJ.mp V) λzz Pp gT=>?_;have S3:Sp C σ τ m (N++T) K (ZL++T):=by
   cases S with
   |@mk Os Ot vs Av pm rs ln mp tm hx=>
    refine .more (T:=[]) ?_ ((pm.append_right T).trans ?_) rs ln mp (tm.mono (λzz h=>bO _ h) λzz h=>bO _ h) hx λzz h=>bO _ h
    ·refine ae (bG ..) ?_;exact fJ.mpr (El.aK Av Pp (λa W b hb=>gT a (.tail _ (.tail _ (.tail _ W))) b hb))
    ·rw [aH,aH,aH]
  refine El.iA T pT S3 (hd.mono λa o q=>q.imp_right λq=>?_) (Gr λp hp=>?_)
  ·rcases cF.mp (pT.mem_iff.mp (z2 _ q)) with h | h
   ·exact bO _ ((hK _ h).resolve_left λh=>S2.gT h q)
   ·exact bx _ h
  ·refine El.aa (cu.mp (show (I::A::D::(N.map (·.1))).Nodup from nd)) λn1 n2=>?_;refine El.aa (cu.mp n2) λn2 n3=>?_;refine El.aa (cu.mp n3) λn3 zz=>?_;have Y:∀a∈[I,A,D],a∉N.map (·.1)→p.1≠a:=λa W hn e=>by
    rcases cF.mp hp with h | h
    ·exact hn (e▸bL.mpr (El.aD p h rfl))
    ·refine gT a ?_ _ (bL.mpr (El.aD p h rfl)) e.symm;clear nd hK hN pT V gT n1 hn e;rcases cU.mp W with rfl | W
     ·exact .head _
     ·rcases cU.mp W with rfl | W
      ·exact .tail _ (.head _)
      ·cases dk.mp W;exact .tail _ (.tail _ (.head _))
   exact El.aK (Y I (.head _) λh=>n1 (.tail _ (.tail _ h))) (Y A (.tail _ (.head _)) λh=>n2 (.tail _ h)) (Y D (.tail _ (.tail _ (.head _))) n3)
end
structure Al (C:Cx) (fs:c7):Prop where
 ok:C.Ok
 g:vp C fs
 e1:C.env.globals=iZ
 e2:C.env.builtins=builtinsNs
 e3:C.env.scope.kind=.function
noncomputable def aU (C:Cx) (fs:c7) (ir:SE) (x:Expr):Prop:=∀(σ:List Tr) (k:List Ev→Prop),den (specs fs) ir σ k→∀(τ:List br) (K:Fs) (Q:af→aj→Prop) (s:aj),At C σ τ K s.heap→Nx C σ τ K s Q (λe=>k [e])→Wp C (dg x C.env) Q s
noncomputable def eJ (C:Cx) (fs:c7) (ir:SE) (x:Expr):Prop:=∀(σ:List Tr) (k:List Ev→Prop),den (specs fs) ir σ k→∀(τ:List br) (K:Fs) (Q:Bool→aj→Prop) (s:aj),At C σ τ K s.heap→(∀b h' tk,At C σ τ K h'→k [bw (.bool b)]→Q b {s with heap:=h',toks:=tk})→Wp C (isTrue x C.env (dg x C.env)) Q s
noncomputable def fg (C:Cx) (fs:c7) (ir:SE) (xs:List Expr):Prop:=∀(σ:List Tr) (k:List Ev→Prop),den (specs fs) ir σ k→∀(pos:aE) (τ:List br) (K:Fs) (Q:List af→aj→Prop) (s:aj),At C σ τ K s.heap→(∀vs es h' tk,vs.length=es.length→At C σ (vs.zip es++τ) K h'→k es→Q vs {s with heap:=h',toks:=tk})→Wp C (qO (iu pos (fK xs C.env))) Q s
section
variable {C:Cx}{fs:c7}{σ:List Tr}{τ:List br}{K:Led}{m:ai→Option af}{N ZL:Led}{s:aj}{Q:af→aj→Prop}{x:ai}{s2:gN}{el:Expr}{elt cond:SE}{k:Ev→Prop}
noncomputable abbrev p9 (fs:c7) (x:ai) (s2:gN) (P:Cx→Prop):Prop:=∀J:Cx,Al J fs→J.env.scope=s2→J.xs=[x]→P J
theorem Gs (hA:Al C fs) {Cn I D:ao}{W oI oD:ay}{V:ai→Option af}{v:af}{d:ag}{h:ar}(hs:s2.kind=.function) (hf:∀y∈s2.names,y.2≠.free) (hx:s2.names.lookup x=some .local) (lh:(x == ("__debug__":ai))=false)
  (F:Fr C.h₀ C.L h m) (NN:aW C.h₀ C.L h ((I,oI)::(Cn,W)::(D,oD)::N)) (S:Sp C σ τ m N K ZL) (hd:Dat (C.P.and ZL) v d) (hC:LCg.NsObj W V) (hv:V x=some v) (off:LCg.Off3 I Cn D N) (ne:(@Ne Nat I Cn)∧(@Ne Nat I D)∧(@Ne Nat Cn D)) :
  ∃J,Al J fs∧J.env=qP s2 [] Cn C.env∧J.env.scope=s2∧J.xs=[x]∧J.pg=C.pg∧J.w=C.w∧J.A=C.A∧∃K',At J [.dat d] [] (m,K') h∧
   ∀{h' u t y Y},At J Y [(u,.ow t)] (m,K') h'→t.data=some y→∃T,Fr C.h₀ C.L h' m∧aW C.h₀ C.L h' ((I,oI)::(Cn,W)::(D,oD)::(N++T))∧Sp C σ τ m (N++T) K (ZL++T)∧Dat (C.P.and (ZL++T)) u y∧LCg.Off3 I Cn D (N++T):=by
 obtain ⟨K',k1,k2,S'⟩:=Pn (x:=x) (env:=qP s2 [] Cn C.env) S off ne hd;have e3:(qP s2 [] Cn C.env).scope=s2:=Pk hf;have Z:=Pl hA.ok (env:=qP s2 [] Cn C.env) (ZL:=ZL) (v:=v) rfl (by refine ae (e3 ..) ?_;exact hs) (by refine (?_:(qP s2 [] Cn C.env).scope.names.lookup x=_);refine ae (e3 ..) ?_;exact hx) lh hC hv
 refine ⟨(p8 C (qP s2 [] Cn C.env) x ZL v Cn W),⟨Z,Pm hA.g,hA.e1,hA.e2,by refine (?_:(qP s2 [] Cn C.env).scope.kind=_);refine ae (e3 ..) ?_;exact hs⟩,rfl,e3,rfl,rfl,rfl,rfl,K',.mk F NN S',λ{h' u t y Y} a hy=>?_⟩
 cases a with
 |mk F' N' Sx=>
  have nd:(((I,oI)::(Cn,W)::(D,oD)::N).map (·.1)).Nodup:=by cases S' with | mk nd _ _ _ _ _ _=>exact nd
  refine El.gR (Po Z S nd k2 Sx hy) λT pT S3 oE oF=>?_;exact El.kQ T F' (λq hq=>N' q (pT.mem_iff.mpr hq)) S3 oE oF
theorem Gu {C J:Cx}(V:J.pg=C.pg) (W:J.w=C.w) (Y:J.A=C.A) {α:Type}{c:fY α}{Q:α→aj→Prop}{E:af→aj→Prop}{s:aj}(h:Wp J c Q s):aF (aO C.pg C.w) C.A c Q E s:=fX (by refine ae (V ..).symm (ae (W ..).symm (ae (Y ..).symm ?_));exact h) (λzz zz x=>x) λ_ _ (x:False)=>x.elim
theorem Gv {W:Cx}{env:cL}(hE:aU W fs elt el) (a5:W.pg=C.pg) (a6:W.w=C.w) (a7:W.A=C.A) (a2:W.env=env) {d:ag}{Z:Fs}{J:ar}{V:Nat}{R:ag→Prop}{E:af→aj→Prop}(g:den (specs fs) elt [.dat d] (one λe=>match e with
   |.ow t=>wD t.data R
   |.bo zz zy=>False)) (a:At W [.dat d] [] Z J) (hQ:∀u t y h' Y,At W [.dat d] [(u,.ow t)] Z h'→t.data=some y→R y→Q u {s with heap:=h',toks:=Y}):aF (aO C.pg C.w) C.A (dg el env) Q E {s with heap:=J,toks:=V}:=by
 subst a2;refine Gu a5 a6 a7 (hE _ _ g [] Z Q {s with heap:=J,toks:=V} a λu e h' Y a g=>?_)
 cases e with
 |bo _ _=>exact g.elim
 |ow t=>exact (eP g).elim λy e=>hQ u t y h' Y a e.1 e.2
theorem Gw (hA:Al C fs) (hE:p9 fs x s2 λC=>aU C fs elt el) {ax:ao}{its:Array af}{ws:List af}{ds:List ag}(hs:s2.kind=.function) (hf:∀y∈s2.names,y.2≠.free) (hx:s2.names.lookup x=some .local) (lh:(x == ("__debug__":ai))=false) (hi:its=ws.toArray)
  (hQ:∀{D h tk N' bp ys yd},Fr C.h₀ C.L h m→aW C.h₀ C.L h ((D,bF ys ys.length)::N')→(∀p∈N',@Ne Nat p.1 D)→Sp C σ τ m N' K bp→bu (C.P.and bp) ys yd→k (.ow (.dl yd))→Q (.ref D) {s with heap:=h,toks:=tk}) :
  ∀(rs:List ag) (i:Nat) (pre:List ag) (ys:List af) (yd:List ag) (N ZL:Led),ds=pre++rs→i=pre.length→Sp C σ τ m N K ZL→bu (C.P.and ZL) ws ds→bu (C.P.and ZL) ys yd→LCg.SrcAt C.h₀ ax its N→
   j6 (λd k=>den (specs fs) elt [.dat d] (one k)) (λd k=>one k [bw (.bool true)]) rs (λr=>k (.ow (.dl (yd++r))))→
   LCg.CompRest C.pg C.w C.A C.h₀ C.L m C.env el x s2 [] s (LCg.SrcAt C.h₀ ax its) (λi v=>its[i]? = some v) (LCg.FinE C.h₀ C.L m s Q) rs.length i ys N:=@λB G H J M O U V W X Y Z b c=>match B,G,H,J,M,O,U,V,W,X,Y,Z,b,c with
 |[],i,pre,ys,yd,N,ZL,zz,zy,S,hw,hy,rX,h=>LCg.CompRest.zero λD hh tk F NN off=>hQ F NN (λp hp=>Au off p hp) S hy (by have:k (.ow (.dl (yd++[]))):=h;rwa [bt] at this)
 |d::rs,i,pre,ys,yd,N,ZL,e1,e2,S,hw,hy,rX,h=>by
  refine LCg.CompRest.succ λv I oI Cn oC D m₂ hh tk E' hv hC Aw F NN off ne=>?_;clear b;subst hi;rw [qN] at hv;have Ax:Dat (C.P.and ZL) v d:=rH hw _ _ _ hv (by rw [e1,e2,wF (aI _),wA];rfl)
  obtain ⟨C',a1,a2,a3,a4,a5,a6,a7,K',at',back⟩:=Gs hA hs hf hx lh F NN S Ax hC Aw off ne;refine Gv (R:=λy=>j6 (λd k=>den (specs fs) elt [.dat d] (one k)) (λd k=>one k [bw (.bool true)]) rs λys=>k (.ow (.dl (yd++(y::ys))))) (hE C' a1 a3 a4) a5 a6 a7 a2 h at' λu t y h' lq a e4 g=>?_;refine El.kO (back a e4) λT F' N' S3 oE oF=>?_;have zT:∀a o,C.P.and ZL a o→C.P.and (ZL++T) a o:=λzz zz q=>q.imp_right (bO _);have next:LCg.SrcAt C.h₀ ax ws.toArray (N++T):=rX.imp_right λ⟨o,ho,r⟩=>(El.aD o (bO _ ho) r);exact El.tN h' lq (N++T) rfl F' N' oF next (Gw hA hE hs hf hx lh rfl hQ rs (i+1) (pre++[d]) (ys++[u]) (yd++[y]) (N++T) (ZL++T) (by refine ae (e1 ..) (ae (aH ..) ?_);rfl) (by refine ae (e2 ..) (ae (aJ ..) ?_);rfl) S3 (hw.mono zT) (bB.append (hy.mono zT) (.one oE)) next (by simpa only [aH,X5] using g))
theorem Gx (hA:Al C fs) {ct:Expr}(hT:p9 fs x s2 λC=>eJ C fs cond ct) (hE:p9 fs x s2 λC=>aU C fs elt el) {ax:ao}{its:Array af}{ws:List af}{ds:List ag}(hs:s2.kind=.function) (hf:∀y∈s2.names,y.2≠.free) (hx:s2.names.lookup x=some .local) (lh:(x == ("__debug__":ai))=false) (hi:its=ws.toArray)
  (hQ:∀{D h tk N' bp ys yd},Fr C.h₀ C.L h m→aW C.h₀ C.L h ((D,bF ys ys.length)::N')→(∀p∈N',@Ne Nat p.1 D)→Sp C σ τ m N' K bp→bu (C.P.and bp) ys yd→k (.ow (.dl yd))→Q (.ref D) {s with heap:=h,toks:=tk}) :
  ∀(rs:List ag) (i:Nat) (pre:List ag) (ys:List af) (yd:List ag) (N ZL:Led),ds=pre++rs→i=pre.length→Sp C σ τ m N K ZL→bu (C.P.and ZL) ws ds→bu (C.P.and ZL) ys yd→LCg.SrcAt C.h₀ ax its N→
   j6 (λd k=>den (specs fs) elt [.dat d] (one k)) (λd k=>den (specs fs) cond [.dat d] (one k)) rs (λr=>k (.ow (.dl (yd++r))))→
   LCt.CompRestT C.pg C.w C.A C.h₀ C.L m C.env ct el x s2 [] s (LCg.SrcAt C.h₀ ax its) (λi v=>its[i]? = some v) (LCg.FinE C.h₀ C.L m s Q) rs.length i ys N:=@λB G H J M O U V W X Y Z c e=>match B,G,H,J,M,O,U,V,W,X,Y,Z,c,e with
 |[],i,pre,ys,yd,N,ZL,zz,zy,S,hw,hy,rX,h=>LCt.CompRestT.zero λD hh tk F NN off=>hQ F NN (λp hp=>Au off p hp) S hy (by have:k (.ow (.dl (yd++[]))):=h;rwa [bt] at this)
 |d::rs,i,pre,ys,yd,N,ZL,e1,e2,S,hw,hy,rX,h=>by
  refine LCt.CompRestT.succ λv I oI Cn oC D m₂ hh tk E' hv hC Aw F NN off ne=>?_;clear c;subst hi;rw [qN] at hv;have Ax:Dat (C.P.and ZL) v d:=rH hw _ _ _ hv (by rw [e1,e2,wF (aI _),wA];rfl)
  obtain ⟨C',a1,a2,a3,a4,a5,a6,a7,K',at',back⟩:=Gs hA hs hf hx lh F NN S Ax hC Aw off ne;have go:∀{T:Led}{vq:List af}{vt:List ag},Sp C σ τ m (N++T) K (ZL++T)→bu (C.P.and (ZL++T)) vq vt→j6 (λd k=>den (specs fs) elt [.dat d] (one k)) (λd k=>den (specs fs) cond [.dat d] (one k)) rs (λr=>k (.ow (.dl (vt++r))))→LCg.SrcAt C.h₀ ax ws.toArray (N++T)∧LCt.CompRestT C.pg C.w C.A C.h₀ C.L m C.env ct el x s2 [] s (LCg.SrcAt C.h₀ ax ws.toArray) (λi v=>ws.toArray[i]? = some v) (LCg.FinE C.h₀ C.L m s Q) rs.length (i+1) vq (N++T):=λ{T vq vt} S3 Pq g=>
   have next:=rX.imp_right λ⟨o,ho,r⟩=>(El.aD o (bO _ ho) r)
   ⟨next,Gx hA hT hE hs hf hx lh rfl hQ rs (i+1) (pre++[d]) vq vt (N++T) (ZL++T) (by refine ae (e1 ..) (ae (aH ..) ?_);rfl) (by refine ae (e2 ..) (ae (aJ ..) ?_);rfl) S3 (hw.mono λzz zz q=>q.imp_right (bO _)) Pq next g⟩
  refine Gu a5 a6 a7 (a2▸hT C' a1 a3 a4 _ _ h [] (m,K') _ {s with heap:=hh,toks:=tk} at' λb h1 Gy Gz g=>?_)
  have g:aZ b _ _:=g;cases b with
  |false=>
   refine ae (if_neg kI ..) ?_;refine El.kO (back (Gz.val (v:=.none) (d:=.none) λzz=>.none) rfl) λT F' N' S3 zz oF=>?_;exact El.rj h1 Gy (N++T) rfl F' N' oF (go S3 (hy.mono λzz zz q=>q.imp_right (bO _)) g)
  |true=>
   refine ae (if_pos rfl ..) ?_;refine Gv (R:=λy=>j6 (λd k=>den (specs fs) elt [.dat d] (one k)) (λd k=>den (specs fs) cond [.dat d] (one k)) rs λys=>k (.ow (.dl (yd++(y::ys))))) (hE C' a1 a3 a4) a5 a6 a7 rfl g Gz λu t y h' lq a e4 g=>?_;refine El.kO (back a e4) λT F' N' S3 oE oF=>?_;exact El.rj h' lq (N++T) rfl F' N' oF (go S3 (bB.append (hy.mono λzz zz q=>q.imp_right (bO _)) (.one oE)) (by simpa only [aH,X5] using g))
end
section
variable {C:Cx}{fs:c7}{σ:List Tr}{x y a b c t:Expr}{p:aE}{ia ib ic it:SE}{xs:List Expr}
theorem Pr:aU C fs .bad x:=λzz zz h=>(show False from h).elim
theorem Pt:eJ C fs .bad x:=λzz zz h=>(show False from h).elim
theorem GA (V:Al C fs) {i:Nat}{x:ai}(hx:C.xs[i]? = some x):aU C fs (.var i) (.Name x p):=by
 intro σ k h τ K Q s a J;have h:(match σ[i]? with | none=>False | some t=>match t with | .un=>False | .fr _=>False | .dat d=>k [bw d] | _=>k [.bo i []]):=h
 cases e:σ[i]? with
 |none=>rw [e] at h;exact h.elim
 |some t=>
  rw [e] at h;cases a with
  |mk F N S=>
   have go:t≠.un→(∀{v},C.rd K.1 K.2 i v→(∀d,t=.dat d→Dat (C.P.and _) v d)→Q v s)→Wp C (dg (.Name x p) C.env) Q s:=λhu g=>(S.slot e hu).elim λv r=>V.ok.ld p hx F N S.d8 r.1 (g r.1 r.2);have bo:∀{v},C.rd K.1 K.2 i v→k [.bo i []]→Q v s:=λr h=>J _ _ _ _ (.mk F N (S.uS (p:=[]) r (show d6 _ _ [] _ from rfl))) h;cases t with
   |un=>exact h.elim
   |fr _=>exact h.elim
   |dat d=>exact go (λe=>nomatch e) λr hd=>J _ _ _ _ (.mk F N (S.dM (hd d rfl))) h
   |_=>exact go (λe=>nomatch e) λr zz=>bo r h
theorem Pu {c:Lc}{q:Const}{n:Nat}(h:F4 q=some c):aU C fs (.lit c) (.Constant q n p):=by
 intro σ k g τ K Q s a J;cases q with
 |int n=>cases h;exact X6 (J _ _ _ _ a.int g)
 |str n=>cases h;exact Constant_str (J _ _ _ _ (a.val λzz=>.str _ _) g)
 |bool n=>cases h;exact wpAny_Constant_bool (J _ _ _ _ a.bool g)
 |none=>cases h;exact wpAny_Constant_none (J _ _ _ _ (a.val λzz=>.none) g)
 |_=>exact El.ns h
theorem Ay:fg C fs .nil []:=λσ k h pos τ K Q s a J=>lW (J [] [] _ _ rfl a h)
theorem Az (V:notStar y=true) (W:aU C fs ia y) (Y:fg C fs ib xs):fg C fs (.cons ia ib) (y::xs):=λσ k h pos τ K Q s J Z=>jl (W σ _ h τ K _ s J λv e V t1 a1 g1=>Y σ _ g1 pos _ K _ _ a1 λvs es h2 t2 l2 a2 g2=>Z (v::vs) (e::es) _ _ (congrArg jj l2) (by cases a2 with | mk F N S=>exact .mk F N S.under) g2) (dR V)
theorem Pw {k:Nat}(h:fg C fs ia xs):aU C fs (.tup ia) (.Tuple xs k p):=λσ k g τ K Q s a J=>Tuple_ (h σ _ g p τ K _ s a λvs es W t1 l1 a1 g1=>O9 l1 g1.1 g1.2 a1 λv e V t2 a2 g2=>J v e V t2 a2 g2)
theorem GC (h:fg C fs ia xs):aU C fs (.lst ia) (.List xs p):=λσ k g τ K Q s a J=>List_ (h σ _ g p τ K _ s a λvs es W t1 l1 a1 g1=>O8 l1 g1.1 g1.2 a1 λv e V t2 a2 g2=>J v e V t2 a2 g2)
theorem Px {o:kL}(V:C.Ok) (W:aU C fs ia a) (Y:aU C fs ib b):aU C fs (.bin o ia ib) (.BinOp a o b p):=λσ k h τ K Q s J Z=>wpAny_BinOp (W σ _ h τ K _ s J λva ea h1 t1 a1 g1=>Y σ _ g1 _ K _ _ a1 λvb eb h2 t2 a2 g2=>OZ V g2 a2 λv e h3 t3 a3 g3=>Z v e h3 t3 a3 g3)
theorem Py (W:aU C fs ia a):aU C fs (.neg ia) (.UnaryOp .USub a p):=λσ k h τ K Q s J Y=>UnaryOp_ (W σ _ h τ K _ s J λva ea Z t1 a1 g1=>by
 refine El.aP (a1.eH (show bC ea _ from g1)) λn t V g a2=>?_;clear a1;subst V;exact neg_int (Y _ _ _ _ a2.int g))
theorem GD (W:C.Ok) {o:kM}(Z:aU C fs ia a) (hb:aU C fs ib b) {k:List Ev→Prop}(h:den (specs fs) (.cmp o ia ib) σ k) {τ:List br}{K:Fs}{Q:af→aj→Prop}{s:aj}(Y:At C σ τ K s.heap) (hQ:∀c h' tk,At C σ τ K h'→k [bw (.bool c)]→Q (.bool c) {s with heap:=h',toks:=tk}) :
  Wp C (dg a C.env) (λva J=>Wp C (dg b C.env) (λvb V=>Wp C (compareOp o va vb) Q V) J) s:=
 Z σ _ h τ K _ s Y λva ea h1 t1 a1 g1=>hb σ _ g1 _ K _ _ a1 λvb eb h2 t2 a2 g2=>Ab W g2 a2 λc g3=>hQ _ _ _ ((a2.pop W).pop W) g3
theorem Pz (V:C.Ok) {o:kM}(hm:(!CS o b)=true) (W:aU C fs ia a) (Y:aU C fs ib b):aU C fs (.cmp o ia ib) (.Compare a [o] [b] p):=λσ k h τ K Q s J Z=>wpAny_Compare1 (GD V W Y h J λc h1 t1 a1 g1=>Z _ _ _ _ a1.bool g1) (oj hm)
theorem PA (V:C.Ok) {o:kM}(hm:(!CS o b)=true) (W:aU C fs ia a) (Y:aU C fs ib b):eJ C fs (.cmp o ia ib) (.Compare a [o] [b] p):=λσ k h τ K Q s J Z=>wpAny_isTrue_Compare1 (GD V W Y h J λc h1 t1 a1 g1=>w6 (Z _ _ _ a1 g1)) (oj hm)
theorem PB (J:C.Ok) {o r:kM}(hm:(!lastMarks [o,r] [b,c])=true) (Z:aU C fs ia a) (hb:aU C fs ib b) (hc:aU C fs ic c):aU C fs (.pq o r ia ib ic) (.Compare a [o,r] [b,c] p):=by
 refine λσ k h τ K Q s V W=>Compare_chain (Z σ _ h τ K _ s V λva ea h1 t1 a1 g1=>chain_link (hb σ _ g1 _ K _ _ a1 λvb eb h2 t2 a2 g2=>Ab J g2 a2 λt g3=>w6 ?_)) (oj hm);cases t with
 |true=>exact chain_last (hc σ _ g3 _ K _ _ a2 λvc ec h4 t4 Y g4=>Ab J g4 Y λu g5=>W _ _ _ _ (((Y.pop J).pop J).pop J).bool g5)
 |false=>exact W _ _ _ _ ((a2.pop J).pop J).bool g3
theorem GF {c:Bool}{P R:Prop}{α:Type}{a b:fY α}{Q:α→aj→Prop}{s:aj}(h:aZ c P R) (J:P→Wp C a Q s) (V:R→Wp C b Q s):if c then Wp C a Q s else Wp C b Q s:=by
 cases c with
 |true=>exact J h
 |false=>exact V h
theorem GG {c:Bool}{P R J V:Prop}(h:aZ c P R) (W:P→J) (Y:R→V):if c then J else V:=by
 cases c with
 |true=>exact W h
 |false=>exact Y h
theorem PC (Y:eJ C fs it t) (Z:aU C fs ia a) (hb:aU C fs ib b):aU C fs (.ite it ia ib) (.IfExp t a b p):=λσ k h τ K Q s J W=>IfExp_ (Y σ _ h τ K _ s J λc h1 t1 a1 g1=>GF g1 (λg=>Z σ _ g τ K _ _ a1 λv e V t2 a2 g2=>W v e V t2 a2 g2) λg=>hb σ _ g τ K _ _ a1 λv e V t2 a2 g2=>W v e V t2 a2 g2)
theorem PD (V:C.Ok) (W:kW b=true) (Y:aU C fs ia a) (Z:aU C fs ib b):aU C fs (.sub ia ib) (.Subscript a b p):=λσ k h τ K Q s J hQ=>Subscript_ (Y σ _ h τ K _ s J λva ea h1 t1 a1 g1=>Z σ _ g1 _ K _ _ a1 λvb eb h2 t2 a2 g2=>O5 V W (show pP σ ea eb (λe=>k [e]) from g2) a2 λv e h3 t3 a3 g3=>hQ v e h3 t3 a3 g3)
noncomputable def rY (C:Cx) (fs:c7) (ir:SE) (l:Option Expr):Prop:=∀(σ:List Tr) (g:Option Int→Prop),den (specs fs) ir σ (λJ=>z5 J g)→∀(τ:List br) (K:Fs) (Q:af→aj→Prop) (s:aj),At C σ τ K s.heap→(∀v o h' tk,IsPart v o→At C σ τ K h'→g o→Q v {s with heap:=h',toks:=tk})→Wp C (evalPart l C.env) Q s
theorem PE:rY C fs .nil none:=λσ g h τ K Q s a J=>X7 (J _ _ _ _ .none a h)
theorem PF (Y:aU C fs ia a):rY C fs ia (some a):=λσ g h τ K Q s J Z=>evalPart_some_step (Y σ _ h τ K Q s J λv e h' tk W g'=>by
 refine El.aP (W.eH (show bC e λn=>g (some n) from g')) λn t V g2 a2=>?_;clear W;subst V;exact Z _ _ _ _ (.int _ _) a2 g2)
theorem PG (V:C.Ok) {l u:Option Expr}{p2:aE}(W:aU C fs ia a) (hl:rY C fs ib l) (hu:rY C fs ic u):aU C fs (.slc ia ib ic) (.Subscript a (.Slice l u none p2) p):=by
 refine λσ k h τ K Q s J Y=>Subscript_ (W σ _ h τ K _ s J λva ea h1 t1 a1 g1=>wpAny_Slice ?_);refine hl σ _ g1 _ K _ _ a1 λvl ol h2 t2 pl a2 g2=>?_;refine hu σ _ g2 _ K _ _ a2 λvh oh Z t3 ph a3 g3=>X7 ?_;exact O7 (s:={s with heap:=Z,toks:=t3}) V pl ph g3 a3 λv e h4 t4 a4 g4=>Y v e h4 t4 a4 g4
theorem At.keeps {τ:List br}{K:Fs}{h:ar}(a:At C σ τ K h):Keeps C.h₀ h:=by
 cases a with | mk F N S=>exact F.keep
theorem AA (J:Al C fs) {f:ai}{fp:aE}{g:af}(hg:j9 C f g) (V:oA C g) (Z:d9 C.env.scope f=true) {k:Ev→Prop}{D:List Ev→Prop}(st:∀y∈x::xs,notStar y=true) (hx:fg C fs ia (x::xs)) (h:den (specs fs) ia σ D) {τ:List br}{K:Fs}{Q:af→aj→Prop}{s:aj}(W:At C σ τ K s.heap)
  (hQ:∀vs es h' tk,vs.length=es.length→At C σ (vs.zip es++τ) K h'→D es→Wp C (call g vs) Q {s with heap:=h',toks:=tk}):Wp C (dg (.Call (.Name f fp) (x::xs) [] p) C.env) Q s:=by
 cases W with
 |mk F N S=>
  refine El.aa (mz Z) λY h2=>?_;exact pb (hg C.env fp _ _ s J.e1 J.e2 J.e3 Y h2 F (V C.env p x xs _ s st (hx σ _ h p τ K _ s (.mk F N S) λvs es Y t1 l1 a1 g1=>⟨a1.keeps,hQ vs es Y t1 l1 a1 g1⟩)))
theorem AB {id:String}:oA C (.builtin id):=λenv pos x r Q s J h=>
 callWith_builtin1 (fX h (λzz zz x=>x.2) λzz zz x=>x) (dR (J _ (.head _))) (mG λy V=>J y (.tail _ V))
theorem AD {T:String}:oA C (.type T):=λenv pos x r Q s J h=>Zn (fX h (λzz zz x=>x.2) λzz zz e=>e) (dR (J x (.head _))) (mG λy V=>J y (.tail _ V))
theorem PH (J:Al C fs) (b:Bi):j9 C (kX b) (.builtin (F5 b)):=by
 cases b with
 |len=>exact J.g.gl _ (.head _) _ rfl
 |max=>exact J.g.gl _ (.tail _ (.head _)) _ rfl
 |min=>exact J.g.gl _ (.tail _ (.tail _ (.head _))) _ rfl
theorem PI (J:Al C fs) {b:Bi}{f:ai}{fp:aE}(e:f=kX b) (W:d9 C.env.scope f=true) (st:∀y∈x::xs,notStar y=true) (hx:fg C fs ia (x::xs)):aU C fs (.bi b ia) (.Call (.Name f fp) (x::xs) [] p):=by
 subst e;exact λσ k h τ K Q s V Y=>AA (k:=λzz=>True) J (PH J b) AB W st hx h V λvs es h1 t1 l1 a1 g1=>Ph J.ok l1 g1 a1 λv e Z t2 a2 g2=>Y v e Z t2 a2 g2
theorem PJ (V:Al C fs) {f:Fn}{i:Nat}{z:ai}{fp:aE}(J:fs.f[i]? = some f∧f.nm=z) (Z:d9 C.env.scope z=true) (st:∀y∈x::xs,notStar y=true) (hx:fg C fs ia (x::xs)):aU C fs (.fn i ia) (.Call (.Name z fp) (x::xs) [] p):=by
 refine El.aa J ?_;clear J;intro J W;subst W;exact λσ k h τ K Q s Y hQ=>AA (k:=λzz=>True) V (V.g.fn i f J).2.1 (V.g.fn i f J).2.2 Z st hx h Y λvs es h1 t1 l1 a1 g1=>Pg (s:={s with heap:=h1,toks:=t1}) (Q:=Q) V.ok V.g J l1 g1 a1 λv e h2 t2 a2 g2=>hQ v e h2 t2 a2 g2
theorem PK (J:Al C fs) {fp zp:aE}{x z:ai}(e1:x=ai.ofString "isinstance") (e2:z=ai.ofString "list") (hb:d9 C.env.scope x=true) (hz:d9 C.env.scope z=true) (Z:notStar a=true) (ha:aU C fs ia a):aU C fs (.nY ia) (.Call (.Name x fp) [a,.Name z zp] [] p):=by
 subst e1 e2;intro σ k h τ K Q s V hQ;have W:=V;cases V with
 |mk F N S=>
  refine El.aa (mz hb) λY h2=>?_;refine pb (J.g.gl (ai.ofString "isinstance") (.tail _ (.tail _ (.tail _ (.head _)))) _ rfl C.env fp _ _ s J.e1 J.e2 J.e3 Y h2 F (AB C.env p a _ _ s (bH.mpr ⟨Z,cR.mpr rfl⟩) ?_));refine jl (ha σ _ h τ K _ s W λv e Y t1 a1 g1=>?_) (dR Z);have kp:=a1.keeps;have go:=Pj J.ok (s:={s with heap:=Y,toks:=t1}) (Q:=Q) (show z8 σ e (λc=>k [bw (.bool c)]) from g1) a1 λc h2 t2 a2 g2=>hQ _ _ _ _ a2.bool g2
  cases a1 with
  |mk F N S=>
   refine El.aa (mz hz) λz1 z2=>?_;exact jl (J.g.gl (ai.ofString "list") (.tail _ (.tail _ (.tail _ (.tail _ (.head _))))) _ rfl C.env zp _ _ _ J.e1 J.e2 J.e3 z1 z2 F (lW ⟨kp,go⟩)) (dR rfl)
theorem AE {iter:Expr}{env:cL}(h:rM iter=true):∀x,X8 iter env x=pure x:=λx=>by
 cases iter <;> first | rfl | exact El.ft h
theorem GH {sc:gN}{x:ai}(h:uU sc x=true):sc.kind=.function∧(∀y∈sc.names,y.2≠.cell)∧(∀y∈sc.names,y.2≠.free)∧(∀y∈sc.names,y.2=.local→sc.names.lookup y.1=some .local)∧sc.names.lookup x=some .local∧(x == ("__debug__":ai))=false:=by
 have W:=cT h;have V:=cT W.2;have Y:=cT V.2;have Z:=cT Y.2;refine El.pn (gK W.1) (λy J=>gK (cT (qQ.mp V.1 y J)).1) (λy J=>gK (cT (qQ.mp V.1 y J)).2) (λy J e=>?_) (gK Z.1) (oj Z.2);have:=qQ.mp Y.1 y J;rw [decide_eq_true e] at this;exact gK this
section
variable {src elt cond:SE}{el iter ct:Expr}{x:ai}{px pos:aE}{s2:gN}
theorem GI {K:Fs}{τ:List br}{D:ao}{h:ar}{tk:Nat}{N' bp:Led}{ys:List af}{J:List ag}{s:aj}{Q:af→aj→Prop}{k:List Ev→Prop}(V:∀v e h' tk,At C σ ((v,e)::τ) K h'→k [e]→Q v {s with heap:=h',toks:=tk}) (F:Fr C.h₀ C.L h K.1) (N:aW C.h₀ C.L h ((D,bF ys ys.length)::N')) (ne:∀p∈N',@Ne Nat p.1 D) (S:Sp C σ τ K.1 N' K.2 bp) (hd:bu (C.P.and bp) ys J) (hk:k [.ow (.dl J)]):Q (.ref D) {s with heap:=h,toks:=tk}:=V _ _ _ _ (.mk F N (S.uR ne (.jd hd))) hk
inductive SrcL (C:Cx) (σ:List Tr) (τ:List br) (K:Fs) (h:ar) (ds:List ag):af→Prop
 |mk {N ZL:Led}{a:ao}{ws:List af}:Fr C.h₀ C.L h K.1→aW C.h₀ C.L h N→Sp C σ τ K.1 N K.2 ZL→bu (C.P.and ZL) ws ds→LCg.SrcAt C.h₀ a ws.toArray N→SrcL C σ τ K h ds (.ref a)
theorem GJ (J:C.Ok) {K:Fs}{τ:List br}{v:af}{e:Ev}{h:ar}{ds:List ag}(a:At C σ ((v,e)::τ) K h) (e1:n7 σ e=some ds):SrcL C σ τ K h ds v:=by
 cases a with
 |mk F N S=>cases S.og J e1 with
  |mk z V p d=>exact .mk F N V d (p.1.imp (λq=>(El.ey _ (J.sub _ _ q) p.2.c p.2.d)) λq=>(El.ey _ q p.2.c p.2.d))
theorem PL {J:Int}(ha:J=0) (Y:Al C fs) (hs:uU s2 x=true) (hi:rM iter=true) (hS:aU C fs src iter) (hE:p9 fs x s2 λC=>aU C fs elt el):aU C fs (.lc src elt (.lit (.bool true))) (.ListComp el [⟨.Name x px,iter,[],J⟩] s2 pos):=by
 subst ha;refine El.pk (GH hs) λZ h2 h3 h4 h5 h6=>?_;intro σ k h τ K Q s V hQ;have a:=V;cases V with
 |mk W _ _=>
  refine LCg.ListComp_U W (X9 h3) h2 Z h4 h5 (hS σ _ h τ K _ s a λv e h' tk a' g=>?_) (AE hi);refine El.dI (pR (show jb σ e _ from g)) λds e1 hz g=>?_;cases GJ Y.ok a' e1 with
  |@mk N ZL ax ws F NN S hd p=>
   have rest:∀g:ar,LCg.CompRest C.pg C.w C.A C.h₀ C.L K.1 C.env el x s2 [] {{s with heap:=h',toks:=tk} with heap:=g} (LCg.SrcAt C.h₀ ax ws.toArray) (λi v=>ws.toArray[i]? = some v) (LCg.FinE C.h₀ C.L K.1 {{s with heap:=h',toks:=tk} with heap:=g} Q) ws.toArray.size 0 [] N:=λg'=>by
    refine ae (eN ..) (ae (hd.len ..) ?_);exact Gw Y (k:=λe=>k [e]) hE Z h3 h5 h6 rfl (s:={{s with heap:=h',toks:=tk} with heap:=g'}) (λF N ne S hd hk=>GI (s:={{s with heap:=h',toks:=tk} with heap:=g'}) hQ F N ne S hd hk) ds 0 [] [] [] N ZL rfl rfl S hd rfl p g
   have sz:ws.toArray.size≤cE:=by refine ae (eN ..) (ae (hd.len ..) ?_);exact hz
   exact .inl ⟨ax,ws.toArray,N,rfl,Y.ok.hh,F,NN,p,sz,λ_ ⟨g,e⟩=>e▸rest g⟩
theorem PM {J:Int}(ha:J=0) (Y:Al C fs) (hs:uU s2 x=true) (hi:rM iter=true) (hS:aU C fs src iter) (hE:p9 fs x s2 λC=>aU C fs elt el) (hT:p9 fs x s2 λC=>eJ C fs cond ct):aU C fs (.lc src elt cond) (.ListComp el [⟨.Name x px,iter,[ct],J⟩] s2 pos):=by
 subst ha;refine El.pk (GH hs) λZ h2 h3 h4 h5 h6=>?_;intro σ k h τ K Q s V hQ;have a:=V;cases V with
 |mk W _ _=>
  refine LCt.ListComp_T W (X9 h3) h2 Z h4 h5 (hS σ _ h τ K _ s a λv e h' tk a' g=>?_) (AE hi);refine El.dI (pR (show jb σ e _ from g)) λds e1 hz g=>?_;cases GJ Y.ok a' e1 with
  |@mk N ZL ax ws F NN S hd p=>
   have rest:∀g:ar,LCt.CompRestT C.pg C.w C.A C.h₀ C.L K.1 C.env ct el x s2 [] {{s with heap:=h',toks:=tk} with heap:=g} (LCg.SrcAt C.h₀ ax ws.toArray) (λi v=>ws.toArray[i]? = some v) (LCg.FinE C.h₀ C.L K.1 {{s with heap:=h',toks:=tk} with heap:=g} Q) ws.toArray.size 0 [] N:=λg'=>by
    refine ae (eN ..) (ae (hd.len ..) ?_);exact Gx Y (k:=λe=>k [e]) hT hE Z h3 h5 h6 rfl (s:={{s with heap:=h',toks:=tk} with heap:=g'}) (λF N ne S hd hk=>GI (s:={{s with heap:=h',toks:=tk} with heap:=g'}) hQ F N ne S hd hk) ds 0 [] [] [] N ZL rfl rfl S hd rfl p g
   have sz:ws.toArray.size≤cE:=by refine ae (eN ..) (ae (hd.len ..) ?_);exact hz
   exact .inl ⟨ax,ws.toArray,N,rfl,Y.ok.hh,F,NN,p,sz,λ_ ⟨g,e⟩=>e▸rest g⟩
end
theorem vu (V:C.Ok) (W:∀env:cL,isTrue x env (dg x env)=(do let v ←dg x env;standAt x.pos;holding [v] (truthy v))) (hx:aU C fs ia x):eJ C fs (.tv ia) x:=λσ k h τ K Q s J Y=>isTrue_plain (hx σ _ h τ K _ s J λva ea h1 t1 a1 g1=>Pb V g1 a1 λb Z t2 a2 g2=>Y b Z t2 a2 g2) (W _)
theorem PN (V:eJ C fs ia a):eJ C fs (.nt ia) (.UnaryOp .Not a p):=λσ k h τ K Q s J W=>isTrue_not (V σ _ h τ K _ s J λb Y t1 a1 g1=>W _ Y t1 a1 g1)
theorem PO (W:eJ C fs ia a):eJ C fs ia (.BoolOp .And [a] p):=λσ k h τ K Q s J V=>isTrue_and (W σ _ h τ K _ s J λc Y t1 a1 g1=>by
 cases c with
 |true=>exact isTrue_and_nil (V _ _ _ a1 g1)
 |false=>exact V _ _ _ a1 g1)
theorem PQ (W:eJ C fs ia a) (Y:eJ C fs ib (.BoolOp .And xs p)):eJ C fs (.an ia ib) (.BoolOp .And (a::xs) p):=λσ k h τ K Q s J V=>isTrue_and (W σ _ h τ K _ s J λc Z t1 a1 g1=>GG g1 (λg=>Y σ _ g τ K _ _ a1 λu h2 t2 a2 g2=>V _ _ _ a2 g2) λg=>V _ _ _ a1 g)
theorem PR (W:eJ C fs ia a):eJ C fs ia (.BoolOp .Or [a] p):=λσ k h τ K Q s J V=>isTrue_or (W σ _ h τ K _ s J λc Y t1 a1 g1=>by
 cases c with
 |true=>exact V _ _ _ a1 g1
 |false=>exact isTrue_or_nil (V _ _ _ a1 g1))
theorem PS (W:eJ C fs ia a) (Y:eJ C fs ib (.BoolOp .Or xs p)):eJ C fs (.orr ia ib) (.BoolOp .Or (a::xs) p):=λσ k h τ K Q s J V=>isTrue_or (W σ _ h τ K _ s J λc Z t1 a1 g1=>GG g1 (λg=>V _ _ _ a1 g) λg=>Y σ _ g τ K _ _ a1 λu h2 t2 a2 g2=>V _ _ _ a2 g2)
end
noncomputable abbrev qa (o:Expr):Prop:=∀(name:ai) (env:cL) (m:fY af),attributeBase o name env m=m
theorem GK {env:cL}{pos:aE}:∀{r:List Expr},(∀y∈r,notStar y=true)→((iu pos (fK r env)).all (!·.1))=true:=@λA B=>match A,B with
 |[],zz=>rfl
 |y::r,J=>by
  refine ae (dR (J y (.head _)) ..) ?_;exact GK (r:=r) λz hz=>J z (.tail _ hz)
theorem lr {M:nE}{A:cD}{E:af→aj→Prop}{s:aj}{env:cL}{o:Expr}{J:List Expr}{name:ai}{V pos:aE}{Q:af→aj→Prop}(hb:∀y∈J,notStar y=true) (hl:J.length<30) (hr:qa o) (he:(V.endLine == pos.line)=true)
  (h:aF M A (dg o env) (λW Y=>aF M A (getMethod W name (do return (←importBound o env).getD true)) (λfx Z=>aF M A (CR pos fx.1 fx.2 (iu pos (fK J env)) []) Q E Z) E Y) E s) :
  aF M A (dg (.Call (.Attribute o name V) J [] pos) env) Q E s:=by
 have h1:Yb J.length (iu pos (fK J env)) []=true:=by
  unfold Yb;refine ae (GK hb ..) ?_;exact decide_eq_true (show J.length+0<30 from hl)
 refine MethodCall_ h ?_;refine (?_:(attributeBase o name env (dg o env)>>=λW=>standAt V.atName>>=λzz=>methodCall o name V pos env W J.length (iu pos (fK J env)) [])=_);refine ae (hr ..) ?_;refine congrArg (λg=>dg o env>>=λW=>standAt V.atName>>=λzz=>g W) (funext λW=>?_);unfold methodCall;refine ae (h1 ..) ?_;have hp:methodCallPos true o env V pos=pure pos:=if_pos he;refine ae (hp ..) ?_;rfl
structure Cx.St (C:Cx):Prop where
 st:∀{i:Nat}{x:ai}{m:ai→Option af}{N K:Led}{v:af}{Q:Unit→aj→Prop}{s:aj},C.xs[i]? = some x→Fr C.h₀ C.L s.heap m→aW C.h₀ C.L s.heap N→(∀h' tk m',Fr C.h₀ C.L h' m'→aW C.h₀ C.L h' N→(∀j w,j≠i→C.rd m K j w→C.rd m' K j w)→C.rd m' K i v→Q () {s with heap:=h',toks:=tk})→Wp C (xc C.env x v) Q s
noncomputable abbrev cI (τ:List br):Prop:=∀q∈τ,∃t,q.2=.ow t
section
variable {C:Cx}{σ:List Tr}{τ τ':List br}{m m':ai→Option af}{N N' K ZL:Led}{v w:af}{t u:Tr}{d:ag}{i:Nat}{p:List Nat}
theorem cC.any (ho:cI τ):∀{O:Led},cC C m N K ZL τ O→cC C m' N' K ZL τ O:=by
 induction τ with
 |nil=>exact λx=>x
 |cons q τ J=>
  rintro O ⟨A,B,e,x,y⟩
  refine El.ea (ho q (.head _)) λt V=>?_;refine El.bP A B e ?_ (J (λq W=>ho q (.tail _ W)) y);rw [V] at x ⊢;exact x
theorem Sp.PT (S:Sp C σ ((v,.ow t)::τ) m N K ZL) (ho:cI τ) (hi:i<C.xs.length) (Y:∀j w,j≠i→C.rd m K j w→C.rd m' K j w) (h2:C.rd m' K i v):∃bp,Sp C (σ.set i t) τ m' N K bp:=by
 cases S with
 |@mk Os Ot vs nd pm rs Z mp J hx=>
  refine El.aP J ?_;clear J;intro V Or W r J;subst W;obtain ⟨u,hu⟩:∃u,σ[i]? = some u:=⟨_,eu (Z▸hi)⟩;refine El.fo (rs.focus hu) λw A B e1 zz e3 f=>?_;have hz:∀q∈ZL,q∈A++ZL:=λzz h=>bx _ h;refine El.au (f (P':=C.P.and (A++ZL)) (t':=t) (O':=V) (and_mono hz) (Rep.mono (and_mono hz) t r)) λO' g1 g2=>?_;refine ⟨A++ZL,.mk (Os:=O') (Ot:=Or) nd ?_ g1 (by refine ae (qR ..) ?_;exact Z) (λj x y a b c=>?_) ((J.mono (λzz h=>h) hz).any ho) λq h=>hz q (hx q h)⟩
  ·refine pm.trans ?_;have:((V++Or)++(Os++(K++ZL))).Perm (Or++((V++B)++(K++(A++ZL)))):=by
    refine (J1.append_right _).trans ?_;refine ae (aH ..) ?_;refine .append_left _ ?_;refine ae (aH V B ..) ?_;refine .append_left _ ((e3.append_right _).trans ?_);refine ae (aH ..) ?_;exact (cV _ _ _).trans (.append_left _ (cV _ _ _))
   exact this.trans (.append_left _ (g2.symm.append_right _))
  ·by_cases e:j=i
   ·clear hi Y hu f g1 b;subst e;rw [CT (by clear zz;obtain ⟨hl,_⟩:=fH.mp e1;exact hl)] at a
    cases a;exact h2
   ·have e':i≠j:=λq=>e q.symm;rw [pd e'] at a b;exact Y j x e (mp j x y a b c)
theorem Sp.deep (S:Sp C σ ((v,.ow t)::τ) m N K ZL):Sp C σ ((v,.ow (toOl t))::τ) m N K ZL:=by
 cases t with
 |dl ds=>
  cases S with
  |@mk Os Ot vs nd pm rs Z mp J hx=>
   refine El.aP J ?_;clear J;intro Ov Or V W J;subst V;obtain ⟨a,n,ws,rfl,rfl,h⟩:=W;refine .mk nd pm rs Z mp (El.bP _ Or rfl (Rep.rL (O:=[]) ?_) J) hx;have Y:∀{ws:List af}{ds:List ag},bu (C.P.and ZL) ws ds→bQ (C.P.and ZL) (ds.map .dat) [] ws:=by
    intro ws ds;induction ds generalizing ws with
    |nil=>exact λh=>⟨rfl,by cases ws with | nil=>rfl | cons=>exact El.sz h.len⟩
    |cons d ds ih=>exact λh=>by cases ws with
     |nil=>exact El.zs h.len
     |cons w ws=>exact El.bP [] [] rfl ⟨rfl,h.1⟩ (ih h.2)
   exact Y h
 |_=>exact S
theorem Sp.k7 (S:Sp C σ τ m N K ZL) (hi:σ[i]? = some t) (hd:t.data=some d):∃bp,(∀q∈ZL,q∈bp)∧Sp C (σ.set i (.dat d)) τ m N K bp∧∀{v w:af}{p:List Nat}{u:Tr}{e:ag},C.rd m K i v→d6 N v p w→ek t p=some u→u.data=some e→C.Ok→Dat (C.P.and bp) w e:=by
 cases S with
 |@mk Os Ot vs nd pm rs W mp Y hx=>
  refine El.fo (rs.focus hi) λw A B e1 r e3 f=>?_;have hz:∀q∈ZL,q∈A++ZL:=λzz h=>bx _ h;have V:t≠.un:=λe=>by rw [e] at hd;exact El.ns hd
  have J:Dat (C.P.and (A++ZL)) w d:=(Rep.i9 t r hd).mono λzz zz q=>q.elim (λq=>q.imp_right (hz _)) λq=>.inr (bO _ q);refine El.au (f (P':=C.P.and (A++ZL)) (v':=w) (t':=.dat d) (O':=[]) (and_mono hz) ⟨rfl,J⟩) λO' g1 g2=>?_;have hs:vs.set i w=vs:=by clear r J g1;obtain ⟨hl,e⟩:=fH.mp e1;refine ae (e ..).symm ?_;exact ta hl
  rw [hs] at g1;have Z:N.Perm (A++(Ot++(B++(K++ZL)))):=pm.trans ((((e3.append_right (K++ZL)).append_left Ot).trans (by refine ae (aH ..) ?_;exact cV ..)))
  refine El.ey (A++ZL) hz (.mk (Os:=O') (Ot:=Ot) nd (pm.trans (.append_left _ ?_)) g1 (by refine ae (qR ..) ?_;exact W) (λj x y a b c=>?_) (Y.mono (λzz h=>h) hz) λq h=>hz q (hx q h)) (λ{v' w' p u e} hr hp hu he hC=>?_)
  ·refine (e3.append_right _).trans ?_;refine ae (aH ..) ?_;exact (cV _ _ _).trans ((sW B (cV _ _ _)).trans (g2.symm.append_right _))
  ·by_cases e:j=i
   ·clear f g1 hs b;subst e;rw [e1] at a;cases a;exact mp j _ t e1 hi V
   ·have e':i≠j:=λq=>e q.symm;rw [pd e'] at b;exact mp j x y a b c
  ·clear J hs;cases hC.uq hr (mp i w t e1 hi V);cases r.uC (λq hq=>Z.mem_iff.mpr (bO _ hq)) hu with
   |mk pv r1 pe _=>
    cases pv.uniq (Aa nd) hp
    exact (Rep.i9 u r1 he).mono λzz zz q=>q.elim (λq=>q.imp_right (hz _)) λq=>.inr (bO _ (pe.mem_iff.mpr (bO _ q)))
theorem AF {σ:List Tr}{i:Nat}{k:List Tr→Prop}(h:k7 σ i k):∃t d,σ[i]? = some t∧t.data=some d∧k (σ.set i (.dat d)):=by
 unfold Mine.k7 at h;cases e:σ[i]? with
 |none=>rw [e] at h;exact h.elim
 |some t=>
  rw [e] at h;refine El.au (eP h) λd J V=>?_;exact El.bP t d rfl J V
theorem mI {φ:Fs}{h:ar}{e:Ev}{k:Tr→List Tr→Prop}(Y:C.Ok) (hk:iN σ e k) (a:At C σ ((v,e)::τ) φ h) (ho:cI τ):∃t J,At C J ((v,.ow t)::τ) φ h∧k t J:=by
 cases e with
 |ow t=>exact El.fM t σ a hk
 |bo j p=>
  refine El.au (eP (show wD (Ev.data σ (.bo j p)) _ from hk)) λd e1 hk=>?_;refine El.aP (AF hk) λt d0 e2 e3 hk=>?_;refine El.au (bind_some e1) λu Z e5=>?_;refine El.au (bind_some (show (σ[j]?.bind λt=>ek t p)=some u from Z)) λt' W e7=>?_;rw [e2] at W;cases W;cases a with
  |mk F N S=>
   cases S.top with
   |mk r _ _ S0=>
    refine El.tH r λV w b c=>?_;clear r;clear a a_1;subst V;refine El.dI (S0.k7 (i:=j) e2 e3) λbp zz S1 f=>?_;exact El.fM _ _ (.mk F N (S1.dM (f b c e7 e5 Y))) hk
theorem PU {φ:Fs}{h:ar}{e:Ev}{k:Tr→List Tr→Prop}(Z:C.Ok) (hk:iN σ e k) (a:At C σ ((v,e)::(w,.bo i p)::τ) φ h) (ho:cI τ):∃t J,At C J ((v,.ow t)::(w,.bo i p)::τ) φ h∧k t J:=by
 cases e with
 |ow t=>exact El.fM t σ a hk
 |bo j W=>
  refine El.au (eP (show wD (Ev.data σ (.bo j W)) _ from hk)) λd e1 hk=>?_;refine El.aP (AF hk) λt d0 e2 e3 hk=>?_;refine El.au (bind_some e1) λu e4 e5=>?_;refine El.au (bind_some (show (σ[j]?.bind λt=>ek t W)=some u from e4)) λt' Y e7=>?_;rw [e2] at Y;cases Y;cases a with
  |mk F N S=>
   cases S.top with
   |mk r _ _ S0=>
    refine El.tH r λV w' b c=>?_;clear r;clear a a_1;subst V;refine El.dI (S0.k7 (i:=j) e2 e3) λbp zz S1 f=>?_;exact El.fM _ _ (.mk F N (S1.dM (f b c e7 e5 Z))) hk
end
section
variable {prog:bT}{w:aR}{A:cD}{E:af→aj→Prop}{s:aj}{h₀:ar}{L D b:ao}{m:ai→Option af}{rest:Led}{n n2:Nat}{vs us:List af}{v:af}
theorem AG {Q:af→aj→Prop}(F:Fr h₀ L s.heap m) (N:aW h₀ L s.heap ((D,bF vs n)::rest)) (ne:∀q∈rest,q.1≠D) (hz:vs.length<2 ^ 24) (h:∀h',Fr h₀ L h' m→aW h₀ L h' ((D,bF (vs++[v]) (n+1))::rest)→Q .none {s with heap:=h'}):aF (aO prog w) A (call (.builtin "list.append") [.ref D,v]) Q E s:=by
 have e:(vs++[v]).toArray=vs.toArray.push v:=by simp
 unfold bF at h;rw [e] at h;exact append_K F N (.head ne) h (by unfold cE;refine ae (eN ..) ?_;exact et hz)
theorem PV (l:ao) (items:Array af) (n:Nat) (b:ao) (o:ay) (us:List af) (q:mh o us) (Z:¬(!items.isEmpty && bZ.List.listTooLong (items.size+us.toArray.size))=true) (V:items.size≤cE) (W:items.size+us.toArray.size≤cE+1) :
  Meets (bZ.«list.extend» ⟨[.ref l,.ref b],[]⟩) (λzz R s=>s.heap.get? l=some {cls:=.type "list",dict:=none,data:=.seq items n,slots:=#[]}∧s.heap.get? b=some o∧R (.ok (.ret af.none)) {s with heap:=s.heap.update l (ay.mapSeq λx=>x++us.toArray),toks:=s.toks}):=
 .of_wp λprog w A R s h=>by
  obtain ⟨hp,g,d,tk,os⟩:=s;refine El.cH h ?_;clear h;intro hl Y h;obtain ⟨c,dd,oo,sl⟩:=o;obtain ⟨hc,k,hd⟩:=q;cases hc;cases hd
  generalize us.toArray=it at *;have f3:=sub_list_list;have f4:=sub_tuple_list;have J:(items++it).size≤cE+1:=by refine ae (Array.size_append ..) ?_;exact W
  wp_walk using (xd hl rfl (hz:=V) (_hz':=J)),Yc hl,Yc Y
  exact El.aD _ rfl h
theorem GL {Q:af→aj→Prop}(F:Fr h₀ L s.heap m) (N:aW h₀ L s.heap ((D,bF vs n)::rest)) (ne:∀q∈rest,q.1≠D) (Y:s.heap.get? b=some o) (q:mh o us) (hz:vs.length+us.length<2 ^ 24)
  (h:∀h' n',Fr h₀ L h' m→aW h₀ L h' ((D,bF (vs++us) n')::rest)→Q .none {s with heap:=h'}):aF (aO prog w) A (call (.builtin "list.extend") [.ref D,.ref b]) Q E s:=by
 have hm:=N _ (.head _);have J:vs.toArray.size+us.toArray.size≤cE:=by unfold cE;simp only [eN];exact et hz
 refine call_meets Yd (El.aD _ hm.1 rfl) PySem.F.entry_list_extend (PySem.F.args_list_extend_2 _ _) (PV D vs.toArray n b o us q (extend_door J) (az (bc _ _) J) (gw J)) (El.aK hm.1 Y ?_);have V:(s.heap.update D (ay.mapSeq λx=>x++us.toArray)).get? D=some (bF (vs++us) (if (vs.toArray++us.toArray).size == vs.toArray.size then n else n+1)):=by
  rw [ar.get?_update_self _ hm.1 (by refine ae (mapSeq_app ..) ?_;rfl)]
  refine (?_:some (ay.mapSeq _ (W.listOf vs.toArray n))=_);unfold W.listOf;refine ae (mapSeq_app ..) ?_;unfold bF W.listOf;exact ae (List.append_toArray ..) rfl
 exact h _ _ (F.change (ar.SameBut.update ..) hm.2.1 hm.2.2) (N.setIn (own:=[]) (λzz h=>El.nm h) ne (ar.SameBut.update ..) V)
theorem GN {k:Int}{u:dS}{Q:Unit→aj→Prop}(F:Fr h₀ L s.heap m) (N:aW h₀ L s.heap ((D,bF vs n)::rest)) (ne:∀q∈rest,q.1≠D) (h0:0≤k) (J:k<2 ^ 63) (hk:k<vs.length)
  (h:∀h',Fr h₀ L h' m→aW h₀ L h' ((D,bF (vs.set k.toNat v) n)::rest)→Q () {s with heap:=h'}):aF (aO prog w) A (th (.ref D) (.int k u) v) Q E s:=by
 have z:=N _ (.head _);have hz:(vs.set k.toNat v).toArray.size=vs.toArray.size:=by simp
 refine ki_setAt z.1 h0 J (by refine ae (eN ..) ?_;exact hk) (h _ (F.change (ar.SameBut.update ..) z.2.1 z.2.2) (ki_turn (pre:=[]) _ N (λzz h=>El.nm h) ne (by simp) (if_pos (beq_iff_eq.mpr hz))))
end
inductive Wr (C:Cx) (σ:List Tr) (τ:List br) (m:ai→Option af) (N K ZL:Led) (i:Nat) (p:List Nat) (u:Tr):af→Prop
 |mk {a:ao}{n:Nat}{ws:List af}{Oz Ot rest:Led}:N.Perm ((a,bF ws n)::rest)→(∀q∈rest,q.1≠a)→Rep (C.P.and ZL) u ((a,bF ws n)::Oz) (.ref a)→cC C m N K ZL τ Ot→
   (∀{fT:List af}{n':Nat}{u':Tr}{GO Ot':Led}{τ':List br},Rep (C.P.and ZL) u' ((a,bF fT n')::GO) (.ref a)→cC C m ((a,bF fT n')::rest) K ZL τ' Ot'→(Oz++Ot).Perm (GO++Ot')→∀t,σ[i]? = some t→Sp C (σ.set i (kS t p u')) τ' m ((a,bF fT n')::rest) K ZL)→Wr C σ τ m N K ZL i p u (.ref a)
section
variable {C:Cx}{σ:List Tr}{τ τ':List br}{m m':ai→Option af}{N N' K ZL:Led}{v w:af}{t u:Tr}{d:ag}{i:Nat}{p:List Nat}
theorem Sp.write (hC:C.Ok) (S:Sp C σ ((w,.bo i p)::τ) m N K ZL) (W:σ[i]? = some t) (hu:ek t p=some u) (hl:u6 u≠none):Wr C σ τ m N K ZL i p u w:=by
 cases S with
 |@mk Os Ot vs nd pm rs ln mp tm hx=>
  refine El.aP tm ?_;clear tm;intro zz Or cS dq tm;subst cS;obtain ⟨rfl,wv,b,c⟩:=dq;refine El.fo (rs.focus W) λx A B e1 r e3 f=>?_;have nu:t≠.un:=λe=>by clear W r;subst e;cases FU hu;exact hl rfl
  rw [hC.uq b (mp i x t e1 W nu)] at c;have pA:N.Perm (A++(Or++(B++(K++ZL)))):=pm.trans ((((e3.append_right (K++ZL)).append_left Or).trans (by refine ae (aH ..) ?_;exact cV ..)))
  cases r.uC (λq Y=>pA.mem_iff.mpr (bO _ Y)) hu with
  |@mk w' Ou V pv r1 pe g=>
   cases c.uniq (Aa nd) pv
   have Z:∀{a:ao}{n:Nat}{ws:List af}{Oz:Led},w=.ref a→Ou=(a,bF ws n)::Oz→Wr C σ τ m N K ZL i p u w:=λ{a n ws Oz} ea eo=>by
    clear c pv;subst ea eo;have pN:N.Perm ((a,bF ws n)::(Oz++(V++(Or++(B++(K++ZL)))))):=pA.trans ((pe.append_right _).trans (by refine ae (aH ..) ?_;rfl))
    have rZ:=(pN.map (·.1)).nodup_iff.mp nd;refine El.aa (cu.mp rZ) λn1 n2=>?_;refine .mk (Oz:=Oz) (Ot:=Or) pN (λq Y e=>n1 (e▸bL.mpr (El.aD q Y rfl))) r1 tm λ{fT n' u' J Ot' τ'} r' PW hp t' GP=>?_;rw [W] at GP;cases GP;refine El.au (g (λzz zz h=>h) r') λO1 g1 g2=>?_;refine El.au (f (v':=x) (λzz zz h=>h) g1) λO2 f1 f2=>?_;have hs:vs.set i x=vs:=by obtain ⟨hl,e⟩:=fH.mp e1;refine ae (e ..).symm ?_;exact ta hl
    rw [hs] at f1;refine .mk (Os:=O2) (Ot:=Ot') (uQ n2 λq Y e=>n1 (e▸bL.mpr (El.aD q Y rfl))) ?_ f1 (by refine ae (qR ..) ?_;exact ln) (λj y z b1 c1 d1=>?_) PW hx
    ·have e5:(Oz++(V++(Or++(B++(K++ZL))))).Perm (Ot'++(J++(V++(B++(K++ZL))))):=by
      have q1:(Oz++(V++(Or++(B++(K++ZL))))).Perm ((Oz++Or)++(V++(B++(K++ZL)))):=by
       refine ae (aH ..) ?_;exact .append_left _ (cV _ _ _)
      have q2:((J++Ot')++(V++(B++(K++ZL)))).Perm (Ot'++(J++(V++(B++(K++ZL))))):=by
       refine ae (aH ..) ?_;exact cV _ _ _
      exact q1.trans ((hp.append_right _).trans q2)
     refine (e5.cons _).trans ?_;have q3:(O2++(K++ZL)).Perm ((a,bF fT n')::(J++(V++(B++(K++ZL))))):=(f2.append_right _).trans (((g2.append_right B).append_right _).trans (by simp only [aH,Cw];exact .refl _))
     exact nk.symm.trans (.append_left Ot' q3.symm)
    ·by_cases e:j=i
     ·subst e;rw [e1] at b1;cases b1;exact mp j _ t e1 W nu
     ·have e':i≠j:=λq=>e q.symm;rw [pd e'] at c1;exact mp j y z b1 c1 d1
   clear hu;cases u with
   |dl ds=>refine El.dh r1 λa n ws ea eo zz=>?_;clear r1;exact Z ea eo
   |ol us=>refine El.fL r1 λa n ws Oz ea eo zz=>?_;clear r1;exact Z ea eo
   |_=>exact (hl rfl).elim
theorem AH {f:Tr→(Tr→Prop)→Prop}{k:List Tr→Prop}(h:gX σ i p f k):∃t u,σ[i]? = some t∧ek t p=some u∧f u λJ=>k (σ.set i (kS t p J)):=by
 unfold gX at h;cases e:σ[i]? with
 |none=>rw [e] at h;exact h.elim
 |some t=>
  rw [e] at h;refine El.au (OP h) λu V W=>?_;exact El.bP t u rfl V W
theorem Sp.r5 {a:ao}{n:Nat}{ws:List af}{ds:List ag}{Oz:Led}(h:Rep (C.P.and ZL) (.dl ds) ((a,bF ws n)::Oz) (.ref a)):Oz=[]∧bu (C.P.and ZL) ws ds:=by
 refine El.dh h ?_;clear h;intro W n' J e1 e2 h;cases e1
 injection e2 with e2 e3
 have V:=congrArg (λq=>uB q.2) e2;exact ⟨e3,(show ws=J from V)▸h⟩
theorem Sp.AI {a:ao}{n:Nat}{ws:List af}{us:List Tr}{Oz:Led}(h:Rep (C.P.and ZL) (.ol us) ((a,bF ws n)::Oz) (.ref a)):bQ (C.P.and ZL) us Oz ws:=by
 refine El.fL h ?_;clear h;intro Y n' J V e1 e2 h;cases e1
 injection e2 with e2 e3
 have W:=congrArg (λq=>uB q.2) e2;exact (show ws=J from W)▸e3▸h
theorem bQ.snoc {P:Fz}{J:Led}{x:af}(h:Rep P u J x):∀{ts:List Tr}{O:Led}{vs:List af},bQ P ts O vs→bQ P (ts++[u]) (O++J) (vs++[x]):=@λC D F G=>match C,D,F,G with
 |[],zz,V,⟨e1,e2⟩=>by subst e1 e2;exact El.iB J [] (bt _).symm h rfl rfl
 |zz::V,W,[],x=>(show False from x).elim
 |t::ts,zz,V::W,⟨A,B,e,r,y⟩=>(El.bP A (B++J) (by exact ae (e ..) (ae (aH ..) rfl)) r (bQ.snoc h y))
theorem AJ {P:Fz}:∀{ws:List af}{ds:List ag},bu P ws ds→bQ P (ds.map .dat) [] ws:=@λA B C=>match A,B,C with
 |[],[],zz=>⟨rfl,rfl⟩
 |w::ws,d::ds,h=>(El.bP [] [] rfl ⟨rfl,h.1⟩ (AJ h.2))
 |[],zz::J,h=>El.zs h.len
 |zz::J,[],h=>El.sz h.len
theorem bQ.join {P:Fz}{V:Led}{us:List af}{J:List Tr}(h:bQ P J V us):∀{ts:List Tr}{O:Led}{vs:List af},bQ P ts O vs→bQ P (ts++J) (O++V) (vs++us):=@λC D F G=>match C,D,F,G with
 |[],zz,W,⟨e1,e2⟩=>by subst e1 e2;exact h
 |zz::W,Y,[],x=>(show False from x).elim
 |t::ts,zz,W::Y,⟨A,B,e,r,y⟩=>(El.bP A (B++V) (by exact ae (e ..) (ae (aH ..) rfl)) r (bQ.join h y))
theorem GQ {P:Fz}{x:af}(h:Dat P x d):∀{ws:List af}{ds:List ag}(j:Nat),bu P ws ds→bu P (ws.set j x) (ds.set j d):=@λA B C D=>match A,B,C,D with
 |[],zz,J,y=>by refine ae (show _=[] from y) ?_;rfl
 |zz::J,[],V,y=>(show False from y).elim
 |w::ws,e::ds,0,y=>⟨h,y.2⟩
 |w::ws,e::ds,j+1,y=>⟨y.1,GQ h j y.2⟩
theorem fC {h₀ h:ar}{L:ao}(x:aW h₀ L h N) (e:N.Perm N'):aW h₀ L h N':=λq J=>x q (e.mem_iff.mpr J)
end
section
variable {C:Cx}{σ:List Tr}{τ:List br}{φ:Fs}{v w:af}{t u:Tr}{s:aj}{i:Nat}{p:List Nat}{k:List Tr→Prop}
noncomputable abbrev Nw (C:Cx) (τ:List br) (φ:Fs) (s:aj) {α:Type}(a:α) (Q:α→aj→Prop) (k:List Tr→Prop):Prop:=∀J h' tk,At C J τ φ h'→k J→Q a {s with heap:=h',toks:=tk}
theorem PX (Y:C.Ok) {Q:af→aj→Prop}(h:gX σ i p (λt=>rQ t u) k) (a:At C σ ((v,.ow u)::(w,.bo i p)::τ) φ s.heap) (ho:cI τ) (hQ:Nw C τ φ s (.none:af) Q k):∃D,w=.ref D∧Wp C (call (.builtin "list.append") [.ref D,v]) Q s:=by
 refine El.aP (AH h) λt x W h2 h=>?_;cases a with
 |mk F N S=>
  cases x with
  |dl ds=>
   refine El.dI (eP (show wD u.data _ from h)) λd e1 hz h=>?_;cases S.pop Y with
   |mk z Z f _=>
    have hd:=f u rfl d e1;clear S;cases Z.write Y W h2 (λe=>El.sn e) with
    |@mk a n ws Oz Ot rest pN ne r V g=>
     refine El.aa (Sp.r5 r) λJ hw=>?_;clear r;subst J;refine El.aD a rfl (AG F (fC N pN) ne (by refine ae (hw.len ..) ?_;exact hz) λh' F' N'=>hQ _ _ _ (.mk F' N' (g (.jd (bB.append hw (.one hd))) (V.any ho) (.refl _) t W)) h)
  |ol ts=>
   refine El.aa h ?_;clear h;intro hz h;have Z:=S.over (τ₁:=[_]);clear S;cases Z.write Y W h2 (λe=>El.sn e) with
   |@mk a n ws Oz Ot rest pN ne r V g=>
    have hw:=Sp.AI r;refine El.aP V ?_;clear V;intro Ov Or J rv V;subst J;exact El.aD a rfl (AG F (fC N pN) ne (by rw [hw.len];exact hz) λh' F' N'=>hQ _ _ _ (.mk F' N' (g (.rL (hw.snoc rv)) (V.any ho) (by rw [aH]) t W)) h)
  |_=>exact h.elim
theorem PY (V:C.Ok) {Q:af→aj→Prop}{e:Ev}{xs:List ag}(he:n7 σ e=some xs) (h:gX σ i p (λt=>Ak t xs) k) (a:At C σ ((v,e)::(w,.bo i p)::τ) φ s.heap) (ho:cI τ) (hQ:Nw C τ φ s (.none:af) Q k):∃D,w=.ref D∧Wp C (call (.builtin "list.extend") [.ref D,v]) Q s:=by
 refine El.aP (AH h) λt x W h2 h=>?_;cases a with
 |mk F N S=>
  cases S.og V he with
  |@mk bp b nb us z S1 Z Y=>
   have J:=At.bR V F N _ _ Z.1;cases x with
   |dl ds=>
    refine El.aa h ?_;clear h;intro hz h;clear S;cases S1.write V W h2 (λe=>El.sn e) with
    |@mk a n ws Oz Ot rest pN ne r tm g=>
     refine El.aa (Sp.r5 r) λcS hw=>?_;clear r;subst cS;exact El.aD a rfl (GL F (fC N pN) ne J Z.2 (by refine ae (hw.len ..) (ae (Y.len ..) ?_);exact hz) λh' n' F' N'=>hQ _ _ _ (.mk F' N' (g (.jd (bB.append hw Y)) (tm.any ho) (.refl _) t W)) h)
   |ol ts=>
    refine El.aa h ?_;clear h;intro hz h;clear S;cases S1.write V W h2 (λe=>El.sn e) with
    |@mk a n ws Oz Ot rest pN ne r tm g=>
     have hw:=Sp.AI r;exact El.aD a rfl (GL F (fC N pN) ne J Z.2 (by rw [hw.len,Y.len];exact hz) λh' n' F' N'=>hQ _ _ _ (.mk F' N' (g (.rL (bQ.join (AJ Y) hw)) (tm.any ho) (by rw [bt]) t W)) h)
   |_=>exact h.elim
end
theorem PZ {α:Type}(a b c d:List α):((a++b)++(c++d)).Perm ((c++b)++(a++d)):=by
 refine ae (aH ..) (ae (aH ..) ?_);exact (sW a (cV b c d)).trans ((cV a c _).trans (.append_left c (cV a b d)))
section
variable {C:Cx}{σ:List Tr}{τ:List br}{φ:Fs}{v w:af}{t u:Tr}{s:aj}{i:Nat}{p:List Nat}{k:List Tr→Prop}
theorem vv (ho:cI τ):cI ((v,.ow t)::τ):=bH.mpr ⟨⟨t,rfl⟩,ho⟩
theorem At.swap {e J:Ev}{h:ar}(a:At C σ ((v,e)::(w,J)::τ) φ h):At C σ ((w,J)::(v,e)::τ) φ h:=by
 cases a with | mk F N S=>exact .mk F N (S.over (τ₁:=[_]))
theorem GR (Z:C.Ok) {Q:Unit→aj→Prop}{n0:Int}{tk:dS}(h:gX σ i p (λt k=>ou t n0 λj=>u5 t j u k) k) (a:At C σ ((v,.ow u)::(w,.bo i p)::τ) φ s.heap) (ho:cI τ) (hQ:Nw C τ φ s () Q k):Wp C (th w (.int n0 tk) v) Q s:=by
 refine El.aP (AH h) λt x h1 h2 h=>?_;cases h with
 |@mk l e1 J h=>
  cases a with
  |mk F N S=>
   cases x with
   |dl ds=>
    refine El.au (eP (show wD u.data _ from h)) λd e2 h=>?_;cases e1
    cases S.pop Z with
    |mk z S1 f _=>
     have hd:=f u rfl d e2;clear S;cases S1.write Z h1 h2 (λe=>El.sn e) with
     |@mk a n ws Oz Ot rest pN ne r W g=>
      refine El.aa (Sp.r5 r) λV hw=>?_;clear r;subst V;exact GN F (fC N pN) ne J.1 J.2.1 (by refine ae (hw.len ..) ?_;exact J.2.2) λh' F' N'=>hQ _ _ _ (.mk F' N' (g (.jd (GQ hd _ hw)) (W.any ho) (.refl _) t h1)) h
   |ol ts=>
    cases e1
    cases (S.over (τ₁:=[_])).write Z h1 h2 (λe=>El.sn e) with
    |@mk a n ws Oz Ot rest pN ne r W g=>
     have hw:=Sp.AI r;refine El.aP W ?_;clear W;intro Ov Or V rv W;subst V;have fN:n0.toNat<ts.length:=by exact (Lin.ak (.c _ (.c _ .z)) (.c _ .z) 1 (.c 1 (.aM (.v 0) (.o (.v 1))) (.c 1 (.bW (.o (.v 0)) (.v 0)) .z)) (.v 0) (.v 1) rfl J.2.2 (jh (Lin.aA .z (.c _ .z) 1 (.c 1 (.aA (.n 0) (.v 0)) .z) (.n 0) (.v 0) rfl J.1)))
     obtain ⟨old,Y⟩:∃o,ts[n0.toNat]? = some o:=⟨_,eu fN⟩;refine El.fo (hw.focus Y) λy A B e3 r3 e4 f=>?_;refine El.au (f (v':=v) (t':=u) (O':=Ov) (λzz zz h=>h) rv) λO' f1 f2=>?_;refine GN F (fC N pN) ne J.1 J.2.1 (by refine ae (hw.len ..) ?_;exact J.2.2) λh' F' N'=>?_
     have S3:=g (n':=n) (τ':=(y,.ow old)::τ) (Ot':=A++Or) (.rL f1) (El.bP A Or rfl r3 (W.any ho)) ?_ t h1
     ·cases S3.pop Z with | mk _ S4 _ _=>exact hQ _ _ _ (.mk F' N' S4) h
     ·exact (e4.append_right _).trans ((PZ A B Ov Or).trans (f2.symm.append_right _))
   |_=>exact El.ns e1
theorem ka (Y:C.Ok) (Z:C.St) {x:ai}{o:Ow}{Q:Unit→aj→Prop}(hx:C.xs[i]? = some x) (h:jw σ i o t k) (a:At C σ ((v,.ow t)::τ) φ s.heap) (ho:cI τ) (hQ:∀V W h' tk,At C V τ W h'→k V→Q () {s with heap:=h',toks:=tk}):Wp C (xc C.env x v) Q s:=by
 have hi:i<C.xs.length:=(fH.mp hx).1;have J:∀{t':Tr},At C σ ((v,.ow t')::τ) φ s.heap→k (σ.set i t')→Wp C (xc C.env x v) Q s:=λ{t'} a h=>by
  cases a with
  |mk F N S=>
   exact Z.st (K:=φ.2) hx F N λh' tk m' F' N' r1 r2=>by
    refine El.ea (S.PT ho hi r1 r2) λbp S'=>?_;exact hQ _ (m',φ.2) _ _ (.mk F' N' S') h
 cases o with
 |fr=>
  refine El.au (eP (show wD t.data _ from h)) λd e1 h=>?_;cases a with
  |mk F N S=>cases S.pop Y with | mk _ S1 f _=>exact J (.mk F N (S1.dM (f t rfl d e1))) h
 |own=>exact J a h
 |mA=>exact J a h
 |deep=>cases a with | mk F N S=>exact J (.mk F N S.deep) h
noncomputable abbrev jx (vs:List af) (ts:List Tr):List br:=vs.zip (ts.map .ow)
theorem AK (ho:cI τ):∀{vs:List af}{ts:List Tr},cI (jx vs ts++τ):=@λA B=>match A,B with
 |[],zz=>ho
 |zz::J,[]=>ho
 |zz::vs,t::ts=>bH.mpr ⟨⟨t,rfl⟩,AK ho (vs:=vs) (ts:=ts)⟩
theorem GS (Z:C.Ok) (hS:C.St) {f:ai→af→fY Unit}(hf:∀x v Q s,Wp C (xc C.env x v) Q s→Wp C (f x v) Q s):∀{is:Tg}{xs:List ai}{vs:List af}{ts:List Tr}{σ:List Tr}{φ:Fs}{s:aj}{Q:Unit→aj→Prop},bB (λ(q:Nat×Ow) x=>C.xs[q.1]? = some x) is xs→vs.length=ts.length→eI is ts σ k→At C σ (jx vs ts++τ) φ s.heap→cI τ→
  (∀V W h' tk,At C V τ W h'→k V→Q () {s with heap:=h',toks:=tk})→Wp C (s9 (xs.map λx=>f x) vs) Q s:=@λA B D F G H J K L M N O P R=>match A,B,D,F,G,H,J,K,L,M,N,O,P,R with
 |[],zz,vs,ts,σ,φ,s,Q,hx,hl,h,a,ho,Y=>by
  refine ae (show _=[] from hx) ?_;cases ts with
  |cons=>exact h.elim
  |nil=>cases vs with
   |cons=>exact El.sz hl
   |nil=>exact KD (Y _ _ _ _ a h)
 |q::is,[],zz,zy,zx,zw,zv,zu,hx,zt,zr,zp,zo,zn=>(show False from hx).elim
 |q::is,x::xs,vs,ts,σ,φ,s,Q,hx,hl,h,a,ho,Y=>by
  cases ts with
  |nil=>exact h.elim
  |cons t ts=>cases vs with
   |nil=>exact El.zs hl
   |cons v vs=>
    exact CU (hf _ _ _ _ (ka Z hS hx.1 (show jw σ q.1 q.2 t (λV=>eI is ts V k) from h) a (AK ho) λV W h' tk a' g=>GS Z hS hf hx.2 (ji hl) g a' ho Y))
end
section
variable {P P':Fz}{ns:List ai}{es:List d4}{as:List aY}
theorem jZ.mono (J:∀a o,P a o→P' a o):∀{a:aY}{v:af},jZ P a v→jZ P' a v:=@λA B C=>match A,B,C with
 |.tr t,zz,x=>Rep.mono J t x
 |.any,zz,x=>x
 |.rf zz,V,x=>x
theorem cX.mono (V:∀a o,P a o→P' a o):∀{es:List d4}{ns:List ai}{as:List aY},cX P es ns as→cX P' es ns as:=@λA B C D=>match A,B,C,D with
 |[],zz,J,x=>x
 |zz::J,[],W,x=>(show False from x).elim
 |zz::J,W::Y,[],x=>(show False from x).elim
 |zz::J,W::Y,Z::zu,x=>(El.cy x.1 x.2.1 (x.2.2.1.mono V) (cX.mono V x.2.2.2))
theorem cX.get {a:aY}:∀{es:List d4}{ns:List ai}{as:List aY}{j:Nat},cX P es ns as→as[j]? = some a→∃e,es[j]? = some e∧jZ P a e.val:=@λA B C D F G=>match A,B,C,D,F,G with
 |[],zz,as,J,x,h=>by rw [show as=[] from x] at h;exact El.ns h
 |zz::J,[],V,W,x,Y=>(show False from x).elim
 |zz::J,V::W,[],Y,x,Z=>(show False from x).elim
 |e::zz,J::V,W::Y,0,x,h=>(El.aD e rfl (dC h▸x.2.2.1))
 |zz::es,J::V,W::Y,j+1,x,h=>cX.get (es:=es) (j:=j) x.2.2.2 h
theorem r6 {x:ao×ao}:pM (nZ x as):=λzz zz zz zz h q=>⟨q.1,q.2.imp λzz q=>q.imp λzz q=>⟨q.1,q.2.mono h⟩⟩
end
section
variable {C:Cx}{σ:List Tr}{τ:List br}{m:ai→Option af}{N N' K ZL bp:Led}{i:Nat}{x:ao×ao}{as:List aY}
theorem d6.keep {v:af}(J:∀a ws,SeqIn (λa o=>(a,o)∈N) a ws→SeqIn (λa o=>(a,o)∈N') a ws):∀{p:List Nat}{w:af},d6 N v p w→d6 N' v p w:=@λA B C=>match A,B,C with
 |[],zz,x=>x
 |zz::p,V,⟨a,ws,x,y,z⟩=>(El.bP a ws (d6.keep J (p:=p) x) (J _ _ y) z)
theorem cC.keep (J:∀a ws,SeqIn (λa o=>(a,o)∈N) a ws→SeqIn (λa o=>(a,o)∈N') a ws) (Z:∀q∈ZL,q∈bp):∀{τ:List br}{O:Led},cC C m N K ZL τ O→cC C m N' K bp τ O:=@λD F G=>match D,F,G with
 |[],zz,x=>x
 |q::τ,zz,⟨A,B,e,x,y⟩=>(El.bP A B e (by
   cases h:q.2 with
   |ow t=>rw [h] at x;exact Rep.mono (and_mono Z) t x
   |bo i p=>rw [h] at x;exact ⟨x.1,x.2.imp λzz q=>⟨q.1,q.2.keep J⟩⟩) (cC.keep J Z y))
theorem GU {rest M:Led}{es:List d4}{n:Nat}(V:N.Perm ((x.1,fZ 242 x.2)::(x.2,fj es n)::rest)) (W:∀q∈rest,q∈M):∀a ws,SeqIn (λa o=>(a,o)∈N) a ws→SeqIn (λa o=>(a,o)∈M) a ws:=λa ws h=>by
 have J:∀{o:ay},(a,o)∈N→o≠fZ 242 x.2→o≠fj es n→(a,o)∈M:=λh n1 n2=>by
  rcases cU.mp (V.mem_iff.mp h) with e | h
  ·exact (n1 (qB e).2).elim
  ·rcases cU.mp h with e | h
   ·exact (n2 (qB e).2).elim
   ·exact W _ h
 rcases h with ⟨k,h⟩ | h
 ·exact .inl (El.aD k (J h.1 (λe=>nomatch h.2.c.symm.trans (congrArg ay.cls e)) (λe=>absurd (h.2.c.symm.trans (congrArg ay.cls e)) (show af.type "list"≠.type "dict" by decide))) h.2)
 ·exact .inr (J h (λe=>nomatch congrArg ay.cls e) λe=>nomatch congrArg ay.data e)
theorem P0 {A B D E F G:Led}:(A++(B++(D++(E++(F++G))))).Perm (D++((B++E)++(F++(A++G)))):=by
 refine ae (aH B E ..) ?_;refine (cV A B _).trans ?_;refine (sW B ((cV A D _).trans (.append_left D ((cV A E _).trans (.append_left E (cV A F G)))))).trans ?_;exact cV B D _
theorem P2 {O O' T rest:Led}(Z:(adr N).Nodup) (V:N.Perm (O++rest)) (ha:adr O'=adr O) (hT:(adr T).Nodup) (hd:∀p∈T,∀q∈N,p.1≠q.1):(adr (T++(O'++rest))).Nodup:=by
 have e:adr (O'++rest)=adr (O++rest):=by refine (?_:lX _ _=lX _ _);refine ae (bG ..) (ae (bG ..) ?_);exact congrArg (·++_) ha
 refine (?_:(lX _ _).Nodup);refine ae (bG ..) ?_;refine fJ.mpr (El.aK hT (by refine (?_:(adr (O'++rest)).Nodup);refine ae (e ..) ?_;exact (V.map _).nodup_iff.mp Z) (λa W b Y=>?_))
 refine El.au (bL.mp W) λp h3 J=>?_;clear W;subst J;refine El.au (bL.mp ((V.map (·.1)).mem_iff.mpr (show b∈adr (O++rest) from e▸Y))) λq h4 J=>?_;clear Y;subst J;exact hd p h3 q h4
inductive GV (C:Cx) (σ:List Tr) (τ:List br) (m:ai→Option af) (N K ZL:Led) (i:Nat) (x:ao×ao) (as:List aY):Prop
 |mk {es:List d4}{n:Nat}{rest:Led}:C.rd m K i (.ref x.1)→cX (C.P.and ZL) es bR as→N.Perm ((x.1,fZ 242 x.2)::(x.2,fj es n)::rest)→(∀q∈ZL,q∈rest)→
  (∀{jy:List aY}{O' T:Led},nZ x jy (C.P.and (T++ZL)) O' (.ref x.1)→adr O'=[x.1,x.2]→(adr T).Nodup→(∀p∈T,∀q∈N,p.1≠q.1)→Sp C (σ.set i (cc x jy)) τ m (T++(O'++rest)) K (T++ZL))→GV C σ τ m N K ZL i x as
theorem Sp.inst (S:Sp C σ τ m N K ZL) (hi:σ[i]? = some (cc x as)):GV C σ τ m N K ZL i x as:=by
 cases S with
 |@mk Os Ot vs nd pm rs Z mp tm hx=>
  refine El.fo (rs.focus hi) λv A B e1 J e3 f=>?_;obtain ⟨_,rfl,es,n,rfl,ha⟩:=J;have V:N.Perm ((x.1,fZ 242 x.2)::(x.2,fj es n)::(Ot++(B++(K++ZL)))):=pm.trans ((((e3.append_right (K++ZL)).append_left Ot).trans (by refine ae (aH ..) ?_;exact cV ..)))
  refine .mk (mp i _ _ e1 hi λe=>nomatch e) ha V (λq h=>bx _ (bx _ (bx _ h))) λ{W O' T} hI hO hT hd=>?_;have hz:∀q∈ZL,q∈T++ZL:=λzz h=>bx _ h;refine El.au (f (P':=C.P.and (T++ZL)) (v':=.ref x.1) (t':=cc x W) (O':=O') (and_mono hz) ⟨r6,hI⟩) λGW g1 g2=>?_;have hs:vs.set i (.ref x.1)=vs:=by obtain ⟨hl,e⟩:=fH.mp e1;refine ae (e ..).symm ?_;exact ta hl
  rw [hs] at g1;refine .mk (P2 (O:=[(x.1,fZ 242 x.2),(x.2,fj es n)]) nd V hO hT hd) (P0.trans (.append_left _ (g2.symm.append_right _))) g1 (by refine ae (qR ..) ?_;exact Z) (λj y z Y c1 d1=>?_) (tm.keep (GU V λq h=>bx _ (bx _ h)) hz) λq h=>hz q (hx q h)
  by_cases e:j=i
  ·clear f g1 hs c1;subst e;rw [e1] at Y;cases Y;exact mp j _ _ e1 hi λe=>nomatch e
  ·have e':i≠j:=λq=>e q.symm;rw [pd e'] at c1;exact mp j y z Y c1 d1
inductive GX (C:Cx) (σ:List Tr) (τ:List br) (m:ai→Option af) (N K ZL:Led) (x:ao×ao) (as:List aY):af→Prop
 |mk {es:List d4}{n:Nat}{rest:Led}:cX (C.P.and ZL) es bR as→N.Perm ((x.1,fZ 242 x.2)::(x.2,fj es n)::rest)→(∀q∈ZL,q∈rest)→Sp C σ τ m rest K ZL→GX C σ τ m N K ZL x as (.ref x.1)
theorem Sp.cc {v:af}(S:Sp C σ ((v,.ow (cc x as))::τ) m N K ZL):GX C σ τ m N K ZL x as v:=by
 cases S with
 |@mk Os Ot vs nd pm rs Z mp J hx=>
  refine El.aP J ?_;clear J;intro zz Or V W J;subst V;obtain ⟨_,rfl,es,n,rfl,ha⟩:=W;have Y:N.Perm ((x.1,fZ 242 x.2)::(x.2,fj es n)::(Or++(Os++(K++ZL)))):=pm.trans (by refine ae (aH ..) ?_;exact .refl _)
  exact .mk ha Y (λq h=>bx _ (bx _ (bx _ h))) (.mk (cu.mp (cu.mp ((Y.map (·.1)).nodup_iff.mp nd)).2).2 (.refl _) rs Z mp (J.keep (GU Y λzz h=>h) λzz h=>h) hx)
end
section
variable {C:Cx}{fs:c7}{σ:List Tr}{τ:List br}{K:Fs}{s:aj}{Q:af→aj→Prop}{xs:List Expr}{ia:SE}{xp p ap pp:aE}{i mi:Nat}{xn nm:ai}{x:ao×ao}{as:List aY}{g:Mn}
theorem P4 (J:Al C fs) {j:Nat}(hx:C.xs[i]? = some xn) (Y:bR[j]? = some nm):aU C fs (.dW i j) (.Attribute (.Name xn xp) nm p):=by
 intro σ k h τ K Q s a Z;cases (show zU σ i j (λt=>k [.ow t]) from h) with
 |@mk y as t h1 h2 h3=>cases a with
  |mk F N S=>cases S.inst h1 with
   |@mk es n rest r V W _ _=>
    refine El.au (V.get h2) λe he hv=>?_;exact CV (J.ok.ld xp hx F N S.d8 r (J.g.du.get ⟨F,(N _ (W.mem_iff.mpr (.head _))).1,(N _ (W.mem_iff.mpr (.tail _ (.head _)))).1,V⟩ Y he (Z _ (.ow t) s.heap _ (.mk F N (S.mr hv)) h3)))
theorem GY {f:af}{sp:dK}(hC:C.Ok) (hm:Ar C f sp) {m:ai→Option af}{N rest ZL:Led}{es:List d4}{n:Nat}{vs:List af}{ds:List ag}{k:ag→List aY→Prop}(F:Fr C.h₀ C.L s.heap m) (W:aW C.h₀ C.L s.heap N) (nd:(adr N).Nodup) (pN:N.Perm ((x.1,fZ 242 x.2)::(x.2,fj es n)::rest)) (hz:∀q∈ZL,q∈rest) (ha:cX (C.P.and ZL) es bR as) (hd:bu (C.P.and ZL) vs ds) (hs:sp x as ds k)
  (hQ:∀u d V (O' T:Led) h' tk,Fr C.h₀ C.L h' m→aW C.h₀ C.L h' (T++(O'++rest))→adr O'=[x.1,x.2]→(adr T).Nodup→(∀p∈T,∀q∈N,p.1≠q.1)→nZ x V (C.P.and (T++ZL)) O' (.ref x.1)→Dat (C.P.and (T++ZL)) u d→k d V→Q u {s with heap:=h',toks:=tk}):Wp C (call f (.ref x.1::vs)) Q s:=by
 have Y:(x.1::x.2::adr rest).Nodup:=(pN.map (λq:ao×ay=>q.1)).nodup_iff.mp nd;have Z:∀q∈rest,q.1∉[x.1,x.2]:=λq J h=>by
  have J:q.1∈adr rest:=bL.mpr (El.aD q J rfl);refine El.aa (cu.mp Y) λn1 n2=>?_;rcases cU.mp h with e | h
  ·exact n1 (e▸.tail _ J)
  ·exact (cu.mp n2).1 (dk.mp h▸J)
 have P5:∀{q:ao×ay},q∈[(x.1,fZ 242 x.2),(x.2,fj es n)]→q∈N:=λh=>pN.mem_iff.mpr (bO rest h);have inR:∀{q:ao×ay},q∈rest→q∈N:=λh=>pN.mem_iff.mpr (.tail _ (.tail _ h));have nO:aW C.h₀ C.L s.heap [(x.1,fZ 242 x.2),(x.2,fj es n)]:=λq J=>W q (P5 J);refine iY (hm (C.P.and ZL) m x as _ vs ds k s _ F (λa o q=>?_) (El.rg rfl es n rfl ha) nO ((fJ.mp (show (([x.1,x.2]:List ao)++adr rest).Nodup from Y)).1) hd hs λu d V O' T h' tk F' kp eO hO hT nT hI hu hk=>?_)
 ·rcases q with q | q
  ·refine El.aK (λe=>?_) (F.keep _ _ (hC.sub _ _ q)) (λh=>?_)
   ·have:=hC.sub _ _ q;rw [e,ar.get?_none_of_le F.above] at this;exact El.ns this
   ·refine El.au (bL.mp h) λp hp e=>?_;have:=(nO p hp).2.2;have e:p.1=a:=e;rw [e,hC.sub _ _ q] at this;exact El.sn this
  ·exact El.aK (W _ (inR (hz _ q))).2.1 (W _ (inR (hz _ q))).1 (Z _ (hz _ q))
 ·refine hQ u d V O' T h' tk F' (λq J=>?_) eO nT (λq J r hr e=>?_) (r6 _ _ _ _ (λa o q=>q.elim (λq=>q.imp_right λq=>bx _ q) λq=>.inr (bO _ q)) hI) (hu.mono λa o q=>q.elim (λq=>q.imp_right λq=>bx _ q) λq=>.inr (bO _ q)) hk
  ·rcases cF.mp J with J | J
   ·exact ⟨hO q (bx _ J),rW F (hT q J)⟩
   ·rcases cF.mp J with J | J
    ·refine El.au (bL.mp (show q.1∈adr [(x.1,fZ 242 x.2),(x.2,fj es n)] from eO▸bL.mpr (El.aD q J rfl))) λr hr e=>?_;exact ⟨hO q (bO _ J),(show r.1=q.1 from e)▸(nO r hr).2⟩
    ·exact ⟨kp _ _ (W _ (inR J)).2.1 (Z q J) (W _ (inR J)).1,(W _ (inR J)).2⟩
  ·have:=hT q J;rw [e,(W r hr).1] at this;exact El.sn this
theorem Sp.nd {m:ai→Option af}{N K ZL:Led}(S:Sp C σ τ m N K ZL):(adr N).Nodup:=by
 cases S with
 |mk nd _ _ _ _ _ _=>exact nd
theorem AL (W:Al C fs) (hx:C.xs[i]? = some xn) (hm:fs.m[mi]? = some g∧g.nm=nm) (hE:fg C fs ia xs) (st:∀y∈xs,notStar y=true) (hl:xs.length<30) (he:(ap.endLine == pp.line)=true) {k:ag→List aY→Prop}(h1:σ[i]? = some (cc x as)) (h:den (specs fs) ia σ λvs=>iM (specs fs).m σ mi vs x as k) (a:At C σ τ K s.heap) (hQ:∀u d J h' tk,At C (σ.set i (cc x J)) ((u,bw d)::τ) K h'→k d J→Q u {s with heap:=h',toks:=tk}):Wp C (dg (.Call (.Attribute (.Name xn xp) nm ap) xs [] pp) C.env) Q s:=by
 refine El.aa hm ?_;clear hm;intro hm Z;subst Z;refine El.cH (W.g.mt mi g hm) λm1 m2 zz=>?_;have a':=a;cases a' with
 |mk F N S=>cases S.inst h1 with
  |@mk es n rest r ha Y _ _=>
   refine lr st hl (λzz zz zz=>rfl) he (W.ok.ld xp hx F N S.d8 r (m2.1 _ _ _ _ _ _ _ _ _ s ⟨F,(N _ (Y.mem_iff.mpr (.head _))).1,(N _ (Y.mem_iff.mpr (.tail _ (.head _)))).1,ha⟩ (m2.2 _ _ _ _ _ s F.keep st (hE σ _ h _ τ K _ s a λvs ws h2 t2 l2 a2 g2=>⟨a2.keeps,?_⟩))));cases g2 with
   |@mk ds sp e1 e2 e3 g3=>
    have e1:(specs fs).m[mi]? = some sp:=e1;rw [show (specs fs).m[mi]? = some g.spec by rw [kF,hm];rfl] at e1
    cases e1
    cases a2 with
    |mk F2 N2 S2=>
     refine El.gR (S2.mH W.ok l2 e2) λbp zz S3 zz r2=>?_;cases S3.inst h1 with
     |@mk es n rest r ha Y hz V=>
      exact GY (s:={s with heap:=h2,toks:=t2}) W.ok m1 F2 N2 S3.nd Y hz ha (r2 e3) g3 λu d J O' T h' tk F' N' eO nT hd hI hu hk=>hQ u d J h' tk (.mk F' N' ((V hI eO nT hd).dM hu)) hk
theorem set_same {α:Type}{l:List α}{i:Nat}{x:α}(h:l[i]? = some x):l.set i x=l:=by
 obtain ⟨hl,e⟩:=fH.mp h;refine ae (e ..).symm ?_;exact ta hl
theorem P6 (V:Al C fs) (hx:C.xs[i]? = some xn) (hm:fs.m[mi]? = some g∧g.nm=nm) (W:fg C fs ia xs) (st:∀y∈xs,notStar y=true) (hl:xs.length<30) (Y:(ap.endLine == pp.line)=true):aU C fs (.mp i mi ia) (.Call (.Attribute (.Name xn xp) nm ap) xs [] pp):=by
 intro σ k h τ K Q s a Z;cases (show jc σ i _ from h) with
 |@mk x as J h2=>exact AL V hx hm W st hl Y J h2 a λu d jy h' tk a2 g2=>Z u _ h' tk (by rw [g2.1,set_same J] at a2;exact a2) g2.2
theorem P7 (Z:Al C fs) {fp:aE}{y:Expr}(hm:fs.m[mi]? = some g∧g.nm=ai.ofString "__init__") (hn:nm=ai.ofString "SequenceMatcher") (hb:d9 C.env.scope nm=true) (st:∀z∈y::xs,notStar z=true) (hE:fg C fs ia (y::xs)):aU C fs (.new mi ia) (.Call (.Name nm fp) (y::xs) [] p):=by
 subst hn;refine El.aa hm ?_;clear hm;intro hm e;refine El.cH ((Z.g.mt mi g hm).2.2 e) λn1 n2 n3=>?_;refine λσ k h τ K Q s a hQ=>AA (k:=λzz=>True) Z n2 n3 hb st hE h a λvs es h1 t1 l1 a1 g1=>?_;have g1:∀x,iM (specs fs).m σ mi es x [] λd as=>d=.none∧k [.ow (cc x as)]:=g1;have ms:(specs fs).m[mi]? = some g.spec:=by rw [kF,hm];rfl
 have W:∃ds,mq σ es=some ds∧ml es=true:=by
  cases g1 (0,0) with
  |mk _ b c _=>exact El.aD _ b c
 refine El.au W λds e1 e2=>?_;clear W;cases a1 with
 |@mk N0 _ F N S=>
  refine El.gR (S.mH Z.ok l1 e1) λbp zz S' zz r2=>?_;have hN:=At.Gl (φ:=K) Z.ok F N;refine n1 (C.P.and bp) K.1 vs ds (λx as=>k [.ow (cc x as)]) {s with heap:=h1,toks:=t1} Q F (λa o q=>hN a o (q.imp_right (S'.sub _))) (r2 e2) (λx=>?_) λx as O T h' tk F' kp hO nd hI hk=>?_
  ·cases g1 x with
   |mk a b c d=>
    rw [e1] at b;cases b;cases ms.symm.trans a
    exact d
  ·refine El.cH (fJ.mp (show ((adr O)++(adr T)).Nodup by refine ae (bG ..).symm ?_;exact nd)) λnO nT gT=>?_
   have Y:∀p∈O++T,∀q∈N0,p.1≠q.1:=λp J q V e=>by have:=(hO p J).2;rw [e,(N q V).1] at this;exact El.sn this
   have S2:=S'.grow nT λp J=>Y p (bx _ J);refine hQ _ (.ow (cc x as)) h' tk (.mk (N:=O++(T++N0)) (ZL:=T++bp) F' (λp J=>?_) ?_) hk
   ·rw [←aH] at J;rcases cF.mp J with J | J
    ·exact ⟨(hO p J).1,rW F (hO p J).2⟩
    ·exact ⟨kp _ _ (N p J).2.1 (N p J).1,(N p J).2⟩
   ·cases S2 with
    |@mk Os Ot us P8 pm rs ln mp tm hx=>
     refine .mk ?_ ((pm.append_left O).trans (by rw [aH])) rs ln mp (El.bP O Ot rfl ⟨r6,r6 _ _ _ _ (λa o q=>q.elim (λq=>q.imp_right λq=>bx _ q) λq=>.inr (bO _ q)) hI⟩ (tm.mono (λzz h=>bx _ h) λzz h=>h)) hx
     refine (?_:(lX _ _).Nodup);refine ae (bG ..) ?_;refine fJ.mpr (El.aK nO P8 (λa ha b hb e=>?_));subst e;refine El.au (bL.mp hb) λq V eq=>?_;rcases cF.mp V with V | V
     ·exact gT a ha a (bL.mpr (El.aD q V eq)) rfl
     ·refine El.au (bL.mp ha) λp J ep=>?_;exact Y p (bO _ J) q V (ep.trans eq.symm)
theorem P9 (V:Al C fs) {ir:SE}{r:Expr}(hm:fs.m[mi]? = some g∧g.nm=nm) (hr:qa r) (hR:aU C fs ir r) (hE:fg C fs ia xs) (st:∀y∈xs,notStar y=true) (hl:xs.length<30) (he:(ap.endLine == pp.line)=true):aU C fs (.uE mi ir ia) (.Call (.Attribute r nm ap) xs [] pp):=by
 refine El.aa hm ?_;clear hm;intro hm W;subst W;refine El.cH (V.g.mt mi g hm) λm1 m2 zz=>?_;refine λσ k h τ K Q s a hQ=>lr st hl hr he (hR σ _ h τ K _ s a λv e h1 t1 a1 g1=>?_);cases (show z7 _ e from g1) with
 |@mk x as g5=>
  have a':=a1;cases a' with
  |mk F N S=>cases S.cc with
   |@mk es n rest Y J _ _=>
    refine m2.1 _ _ _ _ _ _ _ _ _ _ ⟨F,(N _ (J.mem_iff.mpr (.head _))).1,(N _ (J.mem_iff.mpr (.tail _ (.head _)))).1,Y⟩ (m2.2 _ _ _ _ _ _ F.keep st (hE σ _ g5 _ _ K _ _ a1 λvs ws h2 t2 l2 a2 g2=>⟨a2.keeps,?_⟩));cases g2 with
    |@mk ds sp e1 e2 e3 g3=>
     have e1:(specs fs).m[mi]? = some sp:=e1;rw [show (specs fs).m[mi]? = some g.spec by rw [kF,hm];rfl] at e1
     cases e1
     cases a2 with
     |mk F2 N2 S2=>
      refine El.gR (S2.mH V.ok l2 e2) λbp zz S3 zz r2=>?_;clear g5 g1 a1 S S2;cases S3.cc with
      |@mk es n rest Y J hz S4=>
       refine GY (s:={s with heap:=h2,toks:=t2}) V.ok m1 F2 N2 S3.nd J hz Y (r2 e3) g3 λu d jy O' T h' tk F' N' eO nT hd hI hu hk=>hQ u _ h' tk (.mk (N:=T++rest) F' (λq Z=>N' q ?_) ((S4.grow nT λp hp q Z=>hd p hp q (J.mem_iff.mpr (.tail _ (.tail _ Z)))).dM hu)) hk
       exact (cF.mp Z).elim (bO _) λh=>bx _ (bx _ h)
theorem Qa (J:Al C fs) {f1 f2 f3 Y:ai}{p1 p2 p3 p4 p5 p6:aE}(e1:f1=ai.ofString "list") (e2:f2=ai.ofString "map") (e3:f3=ai.ofString "Match") (e4:Y=ai.ofString "_make") (b1:d9 C.env.scope f1=true) (b2:d9 C.env.scope f2=true) (b3:d9 C.env.scope f3=true) (hx:C.xs[i]? = some xn):aU C fs (.uF i) (.Call (.Name f1 p1) [.Call (.Name f2 p2) [.Attribute (.Name f3 p3) Y p4,.Name xn xp] [] p5] [] p6):=by
 subst e1 e2 e3 e4;intro σ k h τ K Q s a hQ;cases (show zS σ i (λrs=>k [.ow (.dl rs)]) from h) with
 |@mk bl h1 h2 h3=>cases a with
  |@mk N0 _ F N S=>
   refine El.aa (mz b1) λa1 a2=>?_;refine El.aa (mz b2) λa3 a4=>?_;refine El.aa (mz b3) λa5 a6=>?_;refine pb (J.g.gl (ai.ofString "list") (.tail _ (.tail _ (.tail _ (.tail _ (.head _))))) _ rfl C.env p1 _ _ s J.e1 J.e2 J.e3 a1 a2 F (AD C.env p6 _ [] _ s (cR.mpr rfl) (jl ?_ (dR rfl))));refine pb (J.g.gl (ai.ofString "map") (.tail _ (.tail _ (.tail _ (.tail _ (.tail _ (.tail _ (.tail _ (.head _)))))))) _ rfl C.env p2 _ _ s J.e1 J.e2 J.e3 a3 a4 F (AD C.env p5 _ [.Name xn xp] _ s (bH.mpr ⟨rfl,cR.mpr rfl⟩) (jl ?_ (dR rfl))));refine CV (J.g.df.gm C.env p3 _ _ s J.e1 J.e2 J.e3 a5 a6 F (J.g.df.mm.get F N λq h' tk W N' lt=>?_));have Z:=S.uT (o:=p7) lt;refine El.au (Z.slot h1 λe=>nomatch e) λv r zz=>?_;refine jl (J.ok.ld xp hx W N' Z.d8 r (lW ⟨W.keep,?_⟩)) (dR rfl);cases Z.part (i:=i) (p:=[]) (u:=.dl (bl.map n6)) (by refine ae (h1 ..) ?_;rfl) λe=>nomatch e with
   |mk r2 pv rp pm _=>
    cases J.ok.uq r r2
    clear r r2;cases (show _=v from pv);refine El.dh rp λl n ws cS dq hd=>?_;clear rp;subst cS;subst dq;have at':=At.bR J.ok W N';refine fX (J.g.df.mm.run (s:={s with heap:=h',toks:=tk}) (Q:=Q) W N' (.head _) (λa o p=>at' a o (p.imp_right (Z.sub _))) (N' _ (pm.mem_iff.mpr (.head _))).1 hd h2 λD h2 vw fT n' T F2 kp hD nD hT nT hw=>?_) (λmv rV h=>lW h) λzz zz e=>e
    have off:∀p∈T,∀q'∈(q,p7)::N0,p.1≠q'.1:=λp V q' hq e=>by have:=(hT p V).2.1;rw [e,(N' q' hq).1] at this;exact El.sn this
    refine hQ _ (.ow (.dl (bl.map d7))) h2 vw (.mk F2 (N:=(D,bF fT n')::(T++(q,p7)::N0)) (λp V=>?_) ((Z.grow nT off).uR (λp V e=>?_) (.jd (hw.mono λa o p=>.inr (bO _ p))))) h3
    ·rcases cU.mp V with rfl | V
     ·exact ⟨hD,rW W nD⟩
     ·rcases cF.mp V with V | V
      ·exact ⟨(hT p V).1,rW W (hT p V).2.1⟩
      ·exact ⟨kp _ _ (N' p V).1,(N' p V).2⟩
    ·rcases cF.mp V with V | V
     ·exact (hT p V).2.2 e
     ·have:=nD;rw [←show p.1=D from e,(N' p V).1] at this;exact El.sn this
end
section
variable {P P':Fz}{v:af}{o:ay}{g:Int→Option ag}{n:Nat}{S:Int→Bool}
theorem rI.mono {x:Option af}{y:Option ag}(h:rI P x y) (J:∀a o,P a o→P' a o):rI P' x y:=by
 cases y with
 |none=>exact h
 |some d=>exact h.imp λv h=>⟨h.1,h.2.mono J⟩
theorem ju.mono (h:ju P n g o) (J:∀a o,P a o→P' a o):ju P' n g o:=⟨h.d.imp λkv h=>(El.aK h.1 h.2.1 (λi=>(h.2.2 i).mono J))⟩
theorem GZ:pM (j4 n g):=λzz zz zz zz J q=>q.imp λa q=>q.imp λo q=>(El.cy q.1 q.2.1 q.2.2.1 (q.2.2.2.mono J))
theorem lu {r:Fz→af→Prop}(h:∀(P P':Fz) v,(∀a o,P a o→P' a o)→r P v→r P' v):pM λP O v=>O=[]∧r P v:=λzz zz zz zz J q=>⟨q.1,h _ _ _ J q.2⟩
theorem r7:∀(P P':Fz) v,(∀a o,P a o→P' a o)→ff g P v→ff g P' v:=λzz zz zz J q=>q.imp λa q=>q.imp λo q=>q.imp λn q=>(El.cy q.1 (J _ _ q.2.1) q.2.2.1 (q.2.2.2.mono J))
theorem G0:∀(P P':Fz) v,(∀a o,P a o→P' a o)→ja S P v→ja S P' v:=λzz zz zz J q=>q.imp λa q=>q.imp λo q=>(El.aK q.1 (J _ _ q.2.1) q.2.2)
theorem Qb:∀(P P':Fz) v,(∀a o,P a o→P' a o)→mj g P v→mj g P' v:=λzz zz zz J q=>by
 cases q with | mk a b c d=>exact .mk (J _ _ a) (J _ _ b) c (d.mono J)
theorem Qc:∀(P P':Fz) v,(∀a o,P a o→P' a o)→n5 S P v→n5 S P' v:=λzz zz zz J q=>by
 cases q with | mk a b c=>exact .mk (J _ _ a) (J _ _ b) c
end
section
variable {C:Cx}{fs:c7}{σ:List Tr}{τ:List br}{K:Fs}{s:aj}{Q:af→aj→Prop}{i j:Nat}{xn nm:ai}{x:ao×ao}{as:List aY}{m:ai→Option af}{N KL ZL:Led}{v:af}
theorem Sp.kc {r:Fz→af→Prop}(S:Sp C σ τ m N KL ZL) (hi:σ[i]? = some (cj r)):∃v,C.rd m KL i v∧r (C.P.and ZL) v:=by
 cases S.part (i:=i) (p:=[]) (u:=cj r) (by refine ae (hi ..) ?_;rfl) λe=>nomatch e with
 |mk rd J V _ _=>
  cases (show _=_ from J)
  exact El.aD _ rd V.2.2
theorem Sp.vx {r:Fz→af→Prop}{D:ao}{o:ay}(S:Sp C σ τ m N KL ZL) (lt:∀p∈N,p.1<D) (J:pM λP O v=>O=[]∧r P v) (h:r (C.P.and ((D,o)::ZL)) (.ref D)):Sp C σ ((.ref D,.ow (cj r))::τ) m ((D,o)::N) KL ((D,o)::ZL):=(S.uT lt).mr (El.aK J rfl h)
theorem G1 {h:ar}{id:String}{b:ao}(F:Fr C.h₀ C.L h m) (J:aW C.h₀ C.L h N):Fr C.h₀ C.L (h.push (fR id b)) m∧aW C.h₀ C.L (h.push (fR id b)) ((h.objs.size,fR id b)::N)∧∀p∈N,p.1<h.objs.size:=
 (El.aK (F.push _) (J.push F _) (λp V=>ar.lt_size (J p V).1))
theorem Qd (hC:C.Ok) {S:Int→Bool}{a:ao}{o:ay}(F:Fr C.h₀ C.L s.heap m) (hN:aW C.h₀ C.L s.heap N) (J:Sp C σ τ m N KL ZL) (hp:C.P.and ZL a o) (ho:uI S o)
  (hQ:∀q h' tk N' bp,Fr C.h₀ C.L h' m→aW C.h₀ C.L h' N'→Sp C σ ((.ref q,.ow (cj (n5 S)))::τ) m N' KL bp→Q (.ref q) {s with heap:=h',toks:=tk}):Wp C (nB (.ref a) "__contains__" true) Q s:=by
 have hx:=At.bR hC F hN a o (hp.imp_right (J.sub _));refine El.yh (ho C.pg C.w s.heap a hx) λn o' es ep st V hc W zz=>?_;cases hx.symm.trans V
 clear V;obtain ⟨c,od,dt,sl⟩:=o;refine El.cH hc λY Z iG=>?_;clear hc;subst Y;subst Z;subst iG;simp only at W;subst W;obtain ⟨hh,g,d,t,os⟩:=s;refine El.cH (G1 (id:="set.__contains__") (b:=a) F hN) λF' N' lt=>?_;exact MU hx (hQ _ _ _ _ _ F' N' (J.vx lt (lu Qc) (.mk (.inr (.head _)) (hp.imp_right (qA _)) ho)))
theorem Qe (hC:C.Ok) {g:Int→Option ag}{a:ao}{o:ay}{n:Nat}(F:Fr C.h₀ C.L s.heap m) (hN:aW C.h₀ C.L s.heap N) (J:Sp C σ τ m N KL ZL) (hp:C.P.and ZL a o) (lo:(a == s6)=false) (ho:ju (C.P.and ZL) n g o)
  (hQ:∀q h' tk N' bp,Fr C.h₀ C.L h' m→aW C.h₀ C.L h' N'→Sp C σ ((.ref q,.ow (cj (mj g)))::τ) m N' KL bp→Q (.ref q) {s with heap:=h',toks:=tk}):Wp C (nB (.ref a) "get" true) Q s:=by
 have hx:=At.bR hC F hN a o (hp.imp_right (J.sub _));refine El.au ho.d λkv hd zz=>?_;refine El.aP (hd C.pg C.w) λes ep hc V zz=>?_;clear hd;obtain ⟨c,od,dt,sl⟩:=o;refine El.cH hc λW Y Z=>?_;clear hc;subst W;subst Y;subst Z;simp only at V;subst V;obtain ⟨hh,gg,d,t,os⟩:=s;refine El.cH (G1 (id:="dict.get") (b:=a) F hN) λF' N' lt=>?_;exact MY hx (hQ _ _ _ _ _ F' N' (J.vx lt (lu Qb) (.mk (.inr (.head _)) (hp.imp_right (qA _)) lo (ho.mono λa o q=>q.imp_right (qA _)))))
theorem G2 {P:Fz}{x:Option af}{y:Option ag}{v:af}{d:ag}(h:rI P x y) (V:Dat P v d):Dat P (x.getD v) (y.getD d):=by
 cases y with
 |none=>refine ae (show x=none from h) ?_;exact V
 |some d=>refine El.au h λu J hu=>?_;clear h;subst J;exact hu
theorem G3 {M:nE}{A:cD}{E:af→aj→Prop}{s:aj}{id:String}{q:ao}{pos:aE}{env:cL}{first:List af}{e:Expr}{rest:List Expr}{Q:af→aj→Prop}
  (h:aF M A (qO (iu pos (fK (e::rest) env))) (λvs V=>(∃a,zj id a q V.heap)∧aF M A (call (.ref q) (first++vs)) Q E V) E s)
  (W:fK (e::rest) env=(false,dg e env)::fK rest env) (J:(iu pos (fK rest env)).any (·.1)=false) :
  aF M A (CR pos (.ref q) first (iu pos (fK (e::rest) env)) []) Q E s:=by
 rw [W] at h ⊢;exact callWith_of (P:=λh=>∃a,zj id a q h) (by refine (?_:((false || (iu pos (fK rest env)).any (·.1)) || false)=false);refine ae (J ..) ?_;rfl) (λh X=>X.elim λa X=>Nr h X) (evalArgs_plain h)
variable {ia:SE}{ea:Expr}{xs:List Expr}{p xp ap:aE}
theorem Qf (Z:Al C fs) (hx:C.xs[i]? = some xn) (st:∀y∈ea::xs,notStar y=true) (hE:fg C fs ia (ea::xs)) {k:List Ev→Prop}(h:kT σ i (λg=>den (specs fs) ia σ λvs=>n9 σ vs λc d=>k [bw ((g c).getD d)]) λS=>den (specs fs) ia σ λvs=>n8 σ vs λc=>k [bw (.bool (S c))])
  (a:At C σ τ K s.heap) (hQ:Nx C σ τ K s Q λe=>k [e]):Wp C (dg (.Call (.Name xn xp) (ea::xs) [] p) C.env) Q s:=by
 cases h with
 |@get g h1 h2=>cases a with
  |mk F N S=>
   refine El.au (S.kc h1) λv rd r=>?_;cases r with
   |@mk q a o n b1 b2 b3 b4=>
    refine pb (Z.ok.ld xp hx F N S.d8 rd (G3 (id:="dict.get") (first:=[]) (hE σ _ h2 p τ K _ s (.mk F N S) λvs es h' tk l1 a1 g2=>?_) (dR (st _ (.head _))) (mG λy hy=>st y (.tail _ hy))))
    cases g2 with
    |@mk c d e1 e2 g3=>cases a1 with
     |mk F2 N2 S2=>
      refine El.gR (S2.mH Z.ok l1 e1) λbp zz Y zz r2=>?_;refine El.au (Y.kc h1) λv' J r'=>?_;cases Z.ok.uq rd J
      have V:=At.bR Z.ok F2 N2;refine El.aP ((r2 e2).iJ) λv1 vr W d1 dr=>?_;clear l1 S2 r2;subst W;refine El.aP dr.iJ λv2 G4 W d2 Qg=>?_;subst W;obtain rfl:=Qg.nX;cases d1
      clear b1 rd J;cases r' with
      |@mk _ a' o' n' c1 c2 c3 c4=>
       have hq:=V _ _ (c1.imp_right (Y.sub _));have ho:=V _ _ (c2.imp_right (Y.sub _));refine El.dI c4.d λkv hd zz ht=>?_;exact ⟨⟨a',hq⟩,Np (s:={s with heap:=h',toks:=tk}) hq (ar.dictOf_iff.mpr (El.aD o' ho (hd C.pg C.w))).mapOf c3 (hQ _ _ h' _ (.mk F2 N2 (Y.dM (G2 (ht c) d2))) g3)⟩
 |@has S0 h1 h2=>cases a with
  |mk F N S=>
   refine El.au (S.kc h1) λv rd r=>?_;cases r with
   |@mk q a o b1 b2 b4=>
    refine pb (Z.ok.ld xp hx F N S.d8 rd (G3 (id:="set.__contains__") (first:=[]) (hE σ _ h2 p τ K _ s (.mk F N S) λvs es h' tk l1 a1 g2=>?_) (dR (st _ (.head _))) (mG λy hy=>st y (.tail _ hy))))
    cases g2 with
    |@mk c e1 e2 g3=>cases a1 with
     |mk F2 N2 S2=>
      refine El.gR (S2.mH Z.ok l1 e1) λbp zz Y zz r2=>?_;refine El.au (Y.kc h1) λv' J r'=>?_;cases Z.ok.uq rd J
      have V:=At.bR Z.ok F2 N2;refine El.aP ((r2 e2).iJ) λv1 vr W d1 dr=>?_;clear l1 S2 zz r2;subst W;obtain rfl:=dr.nX;cases d1
      clear b1 rd J;cases r' with
      |@mk _ a' o' c1 c2 c4=>
       have hq:=V _ _ (c1.imp_right (Y.sub _));have ho:=V _ _ (c2.imp_right (Y.sub _));refine El.ea (c4 C.pg C.w h' a' ho) λn hs=>?_;exact ⟨⟨a',hq⟩,Nq (s:={s with heap:=h',toks:=tk}) hq hs (hQ _ _ h' _ (.mk F2 N2 (Y.dM (.bool _))) g3)⟩
theorem AM {α:Type}{l:List α}{i:Nat}{x:α}(h:l[i]? = some x):l.set i x=l:=by
 obtain ⟨hl,e⟩:=fH.mp h;refine ae (e ..).symm ?_;exact ta hl
theorem Sp.lay {t t':Tr}(S:Sp C σ τ m N KL ZL) (hi:σ[i]? = some t) (J:t≠.un) (h:∀O v,Rep (C.P.and ZL) t O v→Rep (C.P.and (O++ZL)) t' [] v):∃bp,Sp C (σ.set i t') τ m N KL bp:=by
 cases S with
 |@mk Os Ot vs nd pm rs V mp W hx=>
  refine El.fo (rs.focus hi) λw A B e1 r e3 f=>?_;have hz:∀q∈ZL,q∈A++ZL:=λzz h=>bx _ h;refine El.au (f (P':=C.P.and (A++ZL)) (v':=w) (t':=t') (O':=[]) (and_mono hz) (h A w r)) λO' g1 g2=>?_;rw [AM e1] at g1;refine ⟨A++ZL,.mk (Os:=O') (Ot:=Ot) nd (pm.trans (.append_left _ ?_)) g1 (by refine ae (qR ..) ?_;exact V) (λj x y a b c=>?_) (W.mono (λzz h=>h) hz) λq h=>hz q (hx q h)⟩
  ·refine (e3.append_right _).trans ?_;refine ae (aH ..) ?_;exact (cV _ _ _).trans ((sW B (cV _ _ _)).trans (g2.symm.append_right _))
  ·by_cases e:j=i
   ·clear f g1 b;subst e;rw [e1] at a;cases a;exact mp j _ t e1 hi J
   ·have Y:i≠j:=λq=>e q.symm;rw [pd Y] at b;exact mp j x y a b c
inductive G5 (C:Cx) (σ:List Tr) (τ:List br) (m:ai→Option af) (N KL ZL:Led) (i n:Nat) (g:Int→Option ag):Prop
 |mk {a:ao}{o:ay}{rest:Led}:C.rd m KL i (.ref a)→N.Perm ((a,o)::rest)→(∀q∈rest,q.1≠a)→(∀q∈ZL,q∈rest)→ju (C.P.and ZL) n g o→(∀o' n' g',ju (C.P.and ZL) n' g' o'→Sp C (σ.set i (.fr (j4 n' g'))) τ m ((a,o')::rest) KL ZL)→G5 C σ τ m N KL ZL i n g
theorem Sp.od {n:Nat}{g:Int→Option ag}(S:Sp C σ τ m N KL ZL) (hi:σ[i]? = some (.fr (j4 n g))):G5 C σ τ m N KL ZL i n g:=by
 cases S with
 |@mk Os Ot vs nd pm rs ln mp tm hx=>
  refine El.fo (rs.focus hi) λv A B e1 Z e3 f=>?_;obtain ⟨_,a,o,rfl,rfl,lo,hd⟩:=Z;have pA:N.Perm ((a,o)::(Ot++(B++(KL++ZL)))):=pm.trans ((((e3.append_right (KL++ZL)).append_left Ot).trans (by refine ae (aH ..) ?_;exact cV ..)))
  have J:=(pA.map (·.1)).nodup_iff.mp nd;refine .mk (mp i _ _ e1 hi λe=>nomatch e) pA (λq hq e=>(cu.mp J).1 (bL.mpr (El.aD q hq e))) (λq h=>bx _ (bx _ (bx _ h))) hd λY n' g' jX=>?_;refine El.au (f (P':=C.P.and ZL) (v':=.ref a) (t':=.fr (j4 n' g')) (O':=[(a,Y)]) (λzz zz h=>h) ⟨GZ,a,Y,rfl,rfl,lo,jX⟩) λGW g1 g2=>?_;rw [AM e1] at g1;refine .mk J (Os:=GW) (Ot:=Ot) ?_ g1 (by refine ae (qR ..) ?_;exact ln) (λj y z b1 c1 d1=>?_) (tm.keep (λb ws hq=>?_) λzz h=>h) hx
  ·refine (?_:([(a,Y)]++(Ot++(B++(KL++ZL)))).Perm _);refine (cV _ _ _).trans (.append_left Ot ?_);refine ae (aH ..).symm ?_;exact g2.symm.append_right _
  ·by_cases e:j=i
   ·clear f g1 c1;subst e;rw [e1] at b1;cases b1;exact mp j _ _ e1 hi λe=>nomatch e
   ·have e':i≠j:=λq=>e q.symm;rw [pd e'] at c1;exact mp j y z b1 c1 d1
  ·refine El.au hd.d λkv hk zz=>?_;refine El.aP (hk C.pg C.w) λes ep hc V zz=>?_;have W:∀{u:ay},(b,u)∈N→u.data≠o.data→(b,u)∈(a,Y)::(Ot++(B++(KL++ZL))):=λh n1=>(cU.mp (pA.mem_iff.mp h)).elim (λe=>(n1 (congrArg ay.data (qB e).2)).elim) (qA _);rcases hq with ⟨k,h⟩ | h
   ·exact .inl (El.aD k (W h.1 (by refine El.ea h.2.d λzz d=>?_;refine ae (V ..) (ae (d ..) ?_);exact λe=>nomatch e)) h.2)
   ·exact .inr (W h (by refine ae (V ..) ?_;exact λe=>nomatch e))
theorem Qh (J:Al C fs) (hx:C.xs[i]? = some xn) (Y:bR[j]? = some nm) {z:ai}(hz:z=ai.ofString "__contains__") {k:List Ev→Prop}(h:uN σ i j λe=>k [e]) (a:At C σ τ K s.heap) (Z:Nx C σ τ K s Q λe=>k [e]):Wp C (dg (.Attribute (.Attribute (.Name xn xp) nm p) z ap) C.env) Q s:=by
 subst hz;cases h with
 |mk h1 h2 h3=>cases a with
  |mk F N S=>cases S.inst h1 with
   |@mk es n rest r V W _ _=>
    obtain ⟨e,he,zz,zz,b,o,ev,hp,ho⟩:=V.get h2;refine Attribute_any_ (CV (J.ok.ld xp hx F N S.d8 r (J.g.du.get ⟨F,(N _ (W.mem_iff.mpr (.head _))).1,(N _ (W.mem_iff.mpr (.tail _ (.head _)))).1,V⟩ Y he ?_)));refine ae (ev ..) ?_;exact Qd J.ok F N S hp ho λq h' tk N' bp F' n' S'=>Z _ _ h' tk (.mk F' n' S') h3
theorem Qi (V:Al C fs) (hx:C.xs[i]? = some xn) {z:ai}(hz:z=ai.ofString "get") {k:List Ev→Prop}(h:uO σ i λe=>k [e]) (a:At C σ τ K s.heap) (W:Nx C σ τ K s Q λe=>k [e]):Wp C (dg (.Attribute (.Name xn xp) z ap) C.env) Q s:=by
 subst hz;cases h with
 |mk Y Z=>cases a with
  |mk F N S=>
   refine El.yg (S.kc Y) λv rd b o n J hp lo ho=>?_;subst J;exact CV (V.ok.ld xp hx F N S.d8 rd (Qe V.ok F N S hp lo ho λq h' tk N' bp F' n' S'=>W _ _ h' tk (.mk F' n' S') Z))
theorem Qj (V:Al C fs) (hx:C.xs[i]? = some xn) {z:ai}(hz:z=ai.ofString "get") (st:∀y∈ea::xs,notStar y=true) (hl:(ea::xs).length<30) (he:(ap.endLine == p.line)=true) (hE:fg C fs ia (ea::xs)) {k:List Ev→Prop}(h:uP σ i λg=>den (specs fs) ia σ λvs=>n9 σ vs λc d=>k [bw ((g c).getD d)])
  (a:At C σ τ K s.heap) (hQ:Nx C σ τ K s Q λe=>k [e]):Wp C (dg (.Call (.Attribute (.Name xn xp) z ap) (ea::xs) [] p) C.env) Q s:=by
 subst hz;cases h with
 |@mk g h1 h2=>cases a with
  |mk F N S=>
   refine El.yg (S.kc h1) λv rd b o n J hp lo ho=>?_;subst J;have hb:=At.bR V.ok F N _ _ (hp.imp_right (S.sub _));refine El.dI ho.d λkv hd zz zz=>?_;have hD:=(ar.dictOf_iff.mpr (El.aD o hb (hd C.pg C.w))).mapOf;refine lr st hl (λzz zz zz=>rfl) he (V.ok.ld xp hx F N S.d8 rd (Ye hD.typeIs Yg Yh PySem.F.type_dict_get hD.noDict (xe (hE σ _ h2 p τ K _ s (.mk F N S) λvs es h' tk l1 a1 g2=>?_) (dR (st _ (.head _))) (mG λy hy=>st y (.tail _ hy)))));cases g2 with
   |@mk c d e1 e2 g3=>cases a1 with
    |mk F2 N2 S2=>
     refine El.gR (S2.mH V.ok l1 e1) λbp zz W zz r2=>?_;refine El.yg (W.kc h1) λv' Y b' o' n' ev c2 c3 c4=>?_;cases (V.ok.uq rd Y).trans ev
     refine El.aP ((r2 e2).iJ) λv1 vr J d1 dr=>?_;clear l1 S2 r2;subst J;refine El.aP dr.iJ λv2 G4 J d2 Z=>?_;subst J;obtain rfl:=Z.nX;cases d1
     have AN:=At.bR V.ok F2 N2 _ _ (c2.imp_right (W.sub _));refine El.dI c4.d λYW jX zz ht=>?_;have hM:=(ar.dictOf_iff.mpr (El.aD o' AN (jX C.pg C.w))).mapOf;exact call_meetsIn (s:={s with heap:=h',toks:=tk}) Yh hM.typeIs PySem.F.entry_dict_get (PySem.F.args_dict_get_3 _ _ _) (XE (ip C.pg C.w) _ (s7 C.pg C.w _ _) c3 _) (El.aD _ hM (hQ _ _ h' _ (.mk F2 N2 (W.dM (G2 (ht c) d2))) g3))
theorem G6 (V:Al C fs) {fz:Bool}{k:List Ev→Prop}(h:k [.ow (zR fz)]) (a:At C σ τ K s.heap) (W:Nx C σ τ K s Q λe=>k [e]):Wp C (dg (.Dict [] [] p) C.env) Q s:=by
 cases a with
 |mk F N S=>
  refine newDict_K F N V.g.df.nl λd h' o J N' lt lo zz zz hi zz=>?_;have hd:∀P:Fz,ju P 0 (λzz=>none) o:=λP=>⟨[],λzz zz=>uH hi,aI _,λzz=>rfl⟩;refine W _ (.ow (zR fz)) h' _ ?_ h;clear h;cases fz with
  |true=>exact .mk J N' (S.vx lt (lu r7) ⟨_,_,0,rfl,.inr (.head _),lo,hd _⟩)
  |false=>exact .mk J N' (S.push lt ⟨GZ,_,_,rfl,rfl,lo,hd _⟩)
end
section
variable {C:Cx}{fs:c7}{σ:List Tr}{τ:List br}{K:Fs}{s:aj}{Q:af→aj→Prop}{i j:Nat}{xn nm z:ai}{m:ai→Option af}{N KL ZL:Led}{v:af}{p fp xp ap:aE}
theorem Qk (J:Bool):uI (λzz=>false) {cls:=.type "set",dict:=none,data:=.set #[] 0 (.fresh 0 0 J)}:=λpg w h a e=>⟨0,(setObjOf_fresh (knd:=ip pg w) J).setOf e (by decide)⟩
theorem Ql (J:Al C fs) (hz:z=ai.ofString "set") (W:d9 C.env.scope z=true) {k:List Ev→Prop}(h:k [.ow (cj (ja λzz=>false))]) (a:At C σ τ K s.heap) (Y:Nx C σ τ K s Q λe=>k [e]):Wp C (dg (.Call (.Name z fp) [] [] p) C.env) Q s:=by
 subst hz;cases a with
 |mk F N S=>
  refine El.aa (mz W) λZ h2=>?_;refine pb (J.g.gl (ai.ofString "set") (by decide +kernel) (.type "set") rfl C.env fp _ _ s J.e1 J.e2 J.e3 Z h2 F (PySem.callWith_type rfl (PySem.evalArgs_none (kse_new F N λD h' V F' N' lt zz zz=>?_))))
  exact Y _ (.ow (cj (ja λzz=>false))) h' _ (.mk F' N' (S.vx lt (lu G0) (El.bP _ _ rfl (.inr (.head _)) (Qk V)))) h
end
theorem gf.mono {P P':Fz}{a:ao}{n:Nat}{g:Int→Option (List ag)}{l:Option (Int×ao)}{o:ay}{ls:Led}{kv:List (Int×af)}(h:gf P a n g l o ls kv) (J:∀a o,P a o→P' a o):gf P' a n g l o ls kv:=
 ⟨h.lo,h.d,h.n,h.no,λc ds e=>by
  refine El.dh (h.ye c ds e) λb ws k V W Y=>?_;exact (El.gC b ws k V W (Y.mono J)),h.inj,h.pt⟩
theorem vy {a:ao}{n:Nat}{g:Int→Option (List ag)}{l:Option (Int×ao)}:pM (fB a n g l):=λzz zz zz zz J q=>⟨q.1,by
 refine El.l6 q.2 λo ls kv e h=>?_;exact (El.DA o ls kv e (h.mono J))⟩
theorem gf.jt {P:Fz}{a:ao}{n:Nat}{g:Int→Option (List ag)}{l:Option (Int×ao)}{o:ay}{ls:Led}{kv:List (Int×af)}{ZL:Led}(h:gf (P.and ZL) a n g l o ls kv):ju (P.and (((a,o)::ls)++ZL)) n (λc=>(g c).map .list) o:=
 ⟨kv,h.d,h.n,λc=>by
  cases e:g c with
  |none=>exact h.no c e
  |some ds=>
   refine El.dh (h.ye c ds e) λb ws k J V W=>?_;exact ⟨_,J,.lst (.inr (bO _ (.tail _ V))) (W.mono λa o q=>q.imp_right (bx _))⟩⟩
section
variable {C:Cx}{σ:List Tr}{τ:List br}{φ:Fs}{i:Nat}
theorem Qm {a:ao}{g:Int→Option ag}:∀(P P':Fz) v,(∀a o,P a o→P' a o)→pZ a g P v→pZ a g P' v:=λzz zz zz J q=>⟨q.1,r7 _ _ _ J q.2⟩
theorem cX.turn {P:Fz}{a0 a1:aY}(h:∀v,jZ P a0 v→jZ P a1 v):∀{es:List d4}{ns:List ai}{as:List aY}{j:Nat},cX P es ns as→as[j]? = some a0→cX P es ns (as.set j a1):=@λA B C D F G=>match A,B,C,D,F,G with
 |[],zz,as,j,x,e=>by
  rw [show as=[] from x] at e;exact El.ns e
 |zz::J,[],V,W,x,Y=>(show False from x).elim
 |zz::J,V::W,[],Y,x,Z=>(show False from x).elim
 |zz::J,V::W,a::as,0,⟨x1,x2,x3,x4⟩,e=>by
  clear G;cases e;exact El.cy x1 x2 (h _ x3) x4
 |zz::J,V::W,a::as,j+1,⟨x1,x2,x3,x4⟩,e=>(El.cy x1 x2 x3 (cX.turn h x4 (j:=j) e))
theorem Qn {a:ao}{n j d:Nat}{g:Int→Option (List ag)}{l:Option (Int×ao)}{x:ao×ao}{as:List aY}{h:ar}(ne:d≠i) (hi:σ[i]? = some (cc x as)) (hj:as[j]? = some (.rf a)) (hd:σ[d]? = some (.fr (fB a n g l))) (A:At C σ τ φ h) :
  At C ((σ.set d (cj (pZ a λc=>(g c).map .list))).set i (cc x (as.set j (.tr (cj (ff λc=>(g c).map .list)))))) τ φ h:=by
 cases A with
 |mk F N S=>
  obtain ⟨bp,Z⟩:=S.lay (t':=cj (pZ a λc=>(g c).map .list)) hd (λe=>nomatch e) λO v r=>by
   refine El.ra r λzz V o ls kv W T=>?_;clear r;subst V;subst W;exact ⟨lu Qm,rfl,rfl,a,o,n,rfl,(.inr (.head _)),T.lo,T.jt⟩
  refine El.au (Z.kc (i:=d) (CT (fH.mp hd).1)) λw rd r=>?_;have Y:(σ.set d (cj (pZ a λc=>(g c).map .list)))[i]? = some (cc x as):=by rw [pd ne];exact hi
  cases Z.inst Y with
  |@mk es m rest YX ha pN hz J=>
   refine .mk F (fC N pN) (J (T:=[]) (O':=[(x.1,fZ 242 x.2),(x.2,fj es m)]) (El.rg rfl es m rfl (ha.turn (λv q=>?_) hj)) rfl iw λzz h=>El.nm h);refine ae (show v=.ref a from q) ?_;exact El.aK (lu r7) rfl (r.1▸r.2)
end
structure Pc where
 fs:c7
 sc:gN
 xs:List ai
structure Pc.At (q:Pc) (C:Cx):Prop where
 al:Al C q.fs
 sc:C.env.scope=q.sc
 xs:C.xs=q.xs
structure Sd (q:Pc) (e:Expr) where
 ir:SE
 ok:∀C,q.At C→aU C q.fs ir e
structure Td (q:Pc) (e:Expr) where
 ir:SE
 ok:∀C,q.At C→eJ C q.fs ir e
structure Ld (q:Pc) (es:List Expr) where
 ir:SE
 ok:∀C,q.At C→fg C q.fs ir es
 st:∀y∈es,notStar y=true
structure Od (q:Pc) (e:Option Expr) where
 ir:SE
 ok:∀C,q.At C→rY C q.fs ir e
noncomputable def bD {q:Pc}{e:Expr}:Sd q e:=⟨.bad,λzz zz=>Pr⟩
noncomputable def oG {q:Pc}{e:Expr}:Td q e:=⟨.bad,λzz zz=>Pt⟩
noncomputable def G7 (x:ai):(fs:List Fn)→Option {p:Nat×Fn // fs[p.1]? = some p.2∧p.2.nm=x}:=@λA=>match A with
 |[]=>none
 |f::r=>wd (f.nm=x) ((G7 x r).map λi=>⟨(i.1.1+1,i.1.2),i.2⟩) λh=>some ⟨(0,f),rfl,h⟩
noncomputable def r8 (x:ai):(J:List Mn)→Option {p:Nat×Mn // J[p.1]? = some p.2∧p.2.nm=x}:=@λA=>match A with
 |[]=>none
 |f::r=>wd (f.nm=x) ((r8 x r).map λi=>⟨(i.1.1+1,i.1.2),i.2⟩) λh=>some ⟨(0,f),rfl,h⟩
noncomputable def Qo (x:ai):Option {b:Bi // x=kX b}:=wd (x=kX .len) (wd (x=kX .max) (wd (x=kX .min) none λh=>some ⟨.min,h⟩) λh=>some ⟨.max,h⟩) λh=>some ⟨.len,h⟩
section
variable {q:Pc}(f:∀e,Sd q e) (g:∀e,Td q e) (F:∀(s:gN) (x:ai),(∀e,Sd ⟨q.fs,s,[x]⟩ e)×(∀e,Td ⟨q.fs,s,[x]⟩ e))
noncomputable def Qp (x:ai) (p:aE):Sd q (.Name x p):=match c6 x q.xs with
 |some i=>⟨.var i.1,λC h=>GA h.al (by refine ae (h.xs ..) ?_;exact i.2)⟩
 |none=>bD
noncomputable def jz:∀es,Option (Ld q es):=@λA=>match A with
 |[]=>some ⟨.nil,λzz zz=>Ay,λzz h=>El.nm h⟩
 |e::r=>wh (notStar e) none λh=>(jz r).map λl=>⟨.cons (f e).ir l.ir,λC a=>Az h ((f e).ok C a) (l.ok C a),bH.mpr ⟨h,l.st⟩⟩
noncomputable def vz:∀o,Od q o:=@λA=>match A with
 |none=>⟨.nil,λzz zz=>PE⟩
 |some e=>⟨(f e).ir,λC a=>PF ((f e).ok C a)⟩
noncomputable def Qq (a:Expr) (os:List kM) (bs:List Expr) (p:aE):Sd q (.Compare a os bs p):=match os,bs with
 |[o],[b]=>wh (!CS o b) bD λh=>⟨.cmp o (f a).ir (f b).ir,λC i=>Pz i.al.ok h ((f a).ok C i) ((f b).ok C i)⟩
 |[o,r],[b,c]=>wh (!lastMarks [o,r] [b,c]) bD λh=>⟨.pq o r (f a).ir (f b).ir (f c).ir,λC i=>PB i.al.ok h ((f a).ok C i) ((f b).ok C i) ((f c).ok C i)⟩
 |zz,J=>bD
noncomputable def Qr (a:Expr) (os:List kM) (bs:List Expr) (p:aE):Td q (.Compare a os bs p):=match os,bs with
 |[o],[b]=>wh (!CS o b) oG λh=>⟨.cmp o (f a).ir (f b).ir,λC i=>PA i.al.ok h ((f a).ok C i) ((f b).ok C i)⟩
 |zz,J=>oG
noncomputable def Qs (v i:Expr) (p:aE):Sd q (.Subscript v i p):=wh (kW i)
 (OU (M:=λi=>Sd q (.Subscript v i p)) i bD λl u p2=>⟨.slc (f v).ir (vz f l).ir (vz f u).ir,λC h=>PG h.al.ok ((f v).ok C h) ((vz f l).ok C h) ((vz f u).ok C h)⟩)
 λJ=>⟨.sub (f v).ir (f i).ir,λC h=>PD h.al.ok J ((f v).ok C h) ((f i).ok C h)⟩
noncomputable def Qt (x:ai) (fp:aE) (as:List Expr) (p:aE) (hx:x=ai.ofString "isinstance") (hg:d9 q.sc x=true):Sd q (.Call (.Name x fp) as [] p):=match as with
 |[a,z]=>dE (M:=λz=>Sd q (.Call (.Name x fp) [a,z] [] p)) z bD λz zp=>wd (z=ai.ofString "list") bD λhz=>wh (d9 q.sc z) bD λJ=>wh (notStar a) bD λV=>⟨.nY (f a).ir,λC h=>PK h.al hx hz (h.sc▸hg) (h.sc▸J) V ((f a).ok C h)⟩
 |_=>bD
noncomputable def Qu (x:ai) (fp:aE) (as:List Expr) (p:aE) (hx:x=ai.ofString "SequenceMatcher") (hg:d9 q.sc x=true):Sd q (.Call (.Name x fp) as [] p):=match as with
 |[]=>bD
 |y::r=>match jz f (y::r),r8 (ai.ofString "__init__") q.fs.m with
  |some l,some i=>⟨.new i.1.1 l.ir,λC h=>P7 h.al i.2 hx (h.sc▸hg) l.st (l.ok C h)⟩
  |zz,J=>bD
noncomputable def Qv (x:ai) (fp:aE) (as:List Expr) (p:aE) (hx:x=ai.ofString "list") (hg:d9 q.sc x=true):Sd q (.Call (.Name x fp) as [] p):=match as with
 |[y]=>pS (M:=λy=>Sd q (.Call (.Name x fp) [y] [] p)) y bD λc bs J=>dE (M:=λc=>Sd q (.Call (.Name x fp) [.Call c bs [] J] [] p)) c bD λf2 p2=>match bs with
  |[u,v]=>mw (M:=λu=>Sd q (.Call (.Name x fp) [.Call (.Name f2 p2) [u,v] [] J] [] p)) u bD λr m W=>dE (M:=λr=>Sd q (.Call (.Name x fp) [.Call (.Name f2 p2) [.Attribute r m W,v] [] J] [] p)) r bD λV Y=>dE (M:=λv=>Sd q (.Call (.Name x fp) [.Call (.Name f2 p2) [.Attribute (.Name V Y) m W,v] [] J] [] p)) v bD λxn xp=>wd (f2=ai.ofString "map") bD λe2=>wd (V=ai.ofString "Match") bD λe3=>wd (m=ai.ofString "_make") bD λZ=>wh (d9 q.sc f2) bD λb2=>wh (d9 q.sc V) bD λb3=>match c6 xn q.xs with
   |some i=>⟨.uF i.1,λC h=>Qa h.al hx e2 e3 Z (h.sc▸hg) (h.sc▸b2) (h.sc▸b3) (by refine ae (h.xs ..) ?_;exact i.2)⟩
   |none=>bD
  |_=>bD
 |_=>bD
noncomputable def Qw (r:Expr) (m:ai) (ap:aE) (as:List Expr) (p:aE):Sd q (.Call (.Attribute r m ap) as [] p):=match as with
 |[]=>bD
 |y::ys=>wd (m=ai.ofString "get") bD λhm=>wh (decide ((y::ys).length<30) && (ap.endLine == p.line)) bD λJ=>dE (M:=λr=>Sd q (.Call (.Attribute r m ap) (y::ys) [] p)) r bD λx xp=>match c6 x q.xs,jz f (y::ys) with
  |some i,some l=>⟨.zQ i.1 l.ir,λC h σ k g τ K Q s a=>Qj h.al (by refine ae (h.xs ..) ?_;exact i.2) hm l.st (gK (cT J).1) (cT J).2 (l.ok C h) g a⟩
  |zz,V=>bD
noncomputable def Qx (x:ai) (fp:aE) (as:List Expr) (p:aE):Sd q (.Call (.Name x fp) as [] p):=match as with
 |[]=>bD
 |y::ys=>match c6 x q.xs,jz f (y::ys) with
  |some i,some l=>⟨.pO i.1 l.ir,λC h σ k g τ K Q s a=>Qf h.al (by refine ae (h.xs ..) ?_;exact i.2) l.st (l.ok C h) g a⟩
  |zz,J=>bD
noncomputable def Qy (x:ai) (fp:aE) (as:List Expr) (p:aE):Sd q (.Call (.Name x fp) as [] p):=wh (d9 q.sc x) (Qx f x fp as p) λhg=>wd (x=ai.ofString "isinstance") (wd (x=ai.ofString "SequenceMatcher") (wd (x=ai.ofString "list")
 (match as with
 |[]=>wd (x=ai.ofString "set") bD λhx=>⟨.uG,λC h σ k g τ K Q s a=>Ql h.al hx (h.sc▸hg) g a⟩
 |y::r=>match jz f (y::r) with
  |none=>bD
  |some l=>match Qo x with
   |some b=>⟨.bi b.1 l.ir,λC h=>PI h.al b.2 (h.sc▸hg) l.st (l.ok C h)⟩
   |none=>match G7 x q.fs.f with
    |some i=>⟨.fn i.1.1 l.ir,λC h=>PJ h.al i.2 (h.sc▸hg) l.st (l.ok C h)⟩
    |none=>bD)
 λhx=>Qv x fp as p hx hg) λhx=>Qu f x fp as p hx hg) λhx=>Qt f x fp as p hx hg
noncomputable def Qz (x:ai) (xp:aE) (m:ai) (p:aE):Sd q (.Attribute (.Name x xp) m p):=match c6 x q.xs with
 |none=>bD
 |some i=>match c6 m bR with
  |some j=>⟨.dW i.1 j.1,λC h=>P4 h.al (by refine ae (h.xs ..) ?_;exact i.2) j.2⟩
  |none=>wd (m=ai.ofString "get") bD λhm=>⟨.zP i.1,λC h σ k g τ K Q s a=>Qi h.al (by refine ae (h.xs ..) ?_;exact i.2) hm g a⟩
noncomputable def QA (r:Expr) (m:ai) (p:aE):Sd q (.Attribute r m p):=dE (M:=λr=>Sd q (.Attribute r m p)) r (mw (M:=λr=>Sd q (.Attribute r m p)) r bD λr2 J p2=>dE (M:=λr2=>Sd q (.Attribute (.Attribute r2 J p2) m p)) r2 bD λx xp=>wd (m=ai.ofString "__contains__") bD λhm=>match c6 x q.xs,c6 J bR with
 |some i,some j=>⟨.has i.1 j.1,λC h σ k g τ K Q s a=>Qh h.al (by refine ae (h.xs ..) ?_;exact i.2) j.2 hm g a⟩
 |zz,V=>bD) λx xp=>Qz x xp m p
noncomputable def QB (r:Expr) (m:ai) (ap:aE) (as:List Expr) (p:aE):Sd q (.Call (.Attribute r m ap) as [] p):=match r8 m q.fs.m,jz f as with
 |some i,some l=>wh (decide (as.length<30) && (ap.endLine == p.line)) bD λJ=>dE (M:=λr=>Sd q (.Call (.Attribute r m ap) as [] p)) r
  (pS (M:=λr=>Sd q (.Call (.Attribute r m ap) as [] p)) r bD λc bs p2=>dE (M:=λc=>Sd q (.Call (.Attribute (.Call c bs [] p2) m ap) as [] p)) c bD λx fp=>match bs with
   |[]=>bD
   |z::bs=>⟨.uE i.1.1 (f (.Call (.Name x fp) (z::bs) [] p2)).ir l.ir,λC h=>P9 h.al i.2 (λzz zz zz=>rfl) ((f (.Call (.Name x fp) (z::bs) [] p2)).ok C h) (l.ok C h) l.st (gK (cT J).1) (cT J).2⟩)
  λx xp=>match c6 x q.xs with
  |some j=>⟨.mp j.1 i.1.1 l.ir,λC h=>P6 h.al (by refine ae (h.xs ..) ?_;exact j.2) i.2 (l.ok C h) l.st (gK (cT J).1) (cT J).2⟩
  |none=>bD
 |some zz,none=>bD
 |none,zz=>Qw f r m ap as p
noncomputable def QC (el:Expr) (Y:List Comprehension) (s2:gN) (pos:aE):Sd q (.ListComp el Y s2 pos):=match Y with
 |[⟨t,iter,J,V⟩]=>dE (M:=λt=>Sd q (.ListComp el [⟨t,iter,J,V⟩] s2 pos)) t bD λx px=>wd (V=0) bD λZ=>wh (uU s2 x) bD λhs=>wh (rM iter) bD λhi=>match J with
  |[]=>⟨.lc (f iter).ir ((F s2 x).1 el).ir (.lit (.bool true)),λC h=>PL Z h.al hs hi ((f iter).ok C h) λW a b c=>((F s2 x).1 el).ok W ⟨a,b,c⟩⟩
  |[ct]=>⟨.lc (f iter).ir ((F s2 x).1 el).ir ((F s2 x).2 ct).ir,λC h=>PM Z h.al hs hi ((f iter).ok C h) (λW a b c=>((F s2 x).1 el).ok W ⟨a,b,c⟩) λW a b c=>((F s2 x).2 ct).ok W ⟨a,b,c⟩⟩
  |_=>bD
 |_=>bD
noncomputable def AO (p:aE):∀es,Td q (.BoolOp .And es p):=@λA=>match A with
 |[]=>oG
 |[x]=>⟨(g x).ir,λC h=>PO ((g x).ok C h)⟩
 |x::y::r=>⟨.an (g x).ir (AO p (y::r)).ir,λC h=>PQ ((g x).ok C h) ((AO p (y::r)).ok C h)⟩
noncomputable def AP (p:aE):∀es,Td q (.BoolOp .Or es p):=@λA=>match A with
 |[]=>oG
 |[x]=>⟨(g x).ir,λC h=>PR ((g x).ok C h)⟩
 |x::y::r=>⟨.orr (g x).ir (AP p (y::r)).ir,λC h=>PS ((g x).ok C h) ((AP p (y::r)).ok C h)⟩
noncomputable def QD (e:Expr):Sd q e:=match view e with
 |.nm x p=>Qp x p
 |.cst k n p=>match h:F4 k with
  |some c=>⟨.lit c,λC zz=>Pu h⟩
  |none=>bD
 |.tup es k p=>match jz f es with
  |some l=>⟨.tup l.ir,λC h=>Pw (l.ok C h)⟩
  |none=>bD
 |.lst es p=>match jz f es with
  |some l=>⟨.lst l.ir,λC h=>GC (l.ok C h)⟩
  |none=>bD
 |.bin a o b p=>⟨.bin o (f a).ir (f b).ir,λC h=>Px h.al.ok ((f a).ok C h) ((f b).ok C h)⟩
 |.un o a p=>match o with
  |.USub=>⟨.neg (f a).ir,λC h=>Py ((f a).ok C h)⟩
  |_=>bD
 |.cmp a os bs p=>Qq f a os bs p
 |.ite t a b p=>⟨.ite (g t).ir (f a).ir (f b).ir,λC h=>PC ((g t).ok C h) ((f a).ok C h) ((f b).ok C h)⟩
 |.sub v i p=>Qs f v i p
 |.call c as J p=>match J with
  |[]=>dE (M:=λc=>Sd q (.Call c as [] p)) c (mw (M:=λc=>Sd q (.Call c as [] p)) c bD λr m ap=>QB f r m ap as p) λx fp=>Qy f x fp as p
  |_=>bD
 |.lc el V s p=>QC f F el V s p
 |.dW r m p=>QA r m p
 |.jt p=>⟨.jt false,λC h σ k g τ K Q s a=>G6 h.al g a⟩
 |_=>bD
noncomputable def QE (e:Expr):Td q e:=match view e with
 |.nm x p=>⟨.tv (f (.Name x p)).ir,λC h=>vu h.al.ok (λzz=>rfl) ((f (.Name x p)).ok C h)⟩
 |.sub v i p=>⟨.tv (f (.Subscript v i p)).ir,λC h=>vu h.al.ok (λzz=>rfl) ((f (.Subscript v i p)).ok C h)⟩
 |.call c as J p=>⟨.tv (f (.Call c as J p)).ir,λC h=>vu h.al.ok (λzz=>rfl) ((f (.Call c as J p)).ok C h)⟩
 |.dW r m p=>⟨.tv (f (.Attribute r m p)).ir,λC h=>vu h.al.ok (λzz=>rfl) ((f (.Attribute r m p)).ok C h)⟩
 |.cmp a os bs p=>Qr f a os bs p
 |.un o a p=>match o with
  |.Not=>⟨.nt (g a).ir,λC h=>PN ((g a).ok C h)⟩
  |_=>oG
 |.bo o es p=>match o with
  |.And=>AO g p es
  |.Or=>AP g p es
 |_=>oG
end
noncomputable def tr:Nat→∀q:Pc,(∀e,Sd q e)×(∀e,Td q e):=@λA=>match A with
 |0=>λq=>(λzz=>bD,λzz=>oG)
 |n+1=>λq=>(QD (tr n q).1 (tr n q).2 λs x=>tr n ⟨q.fs,s,[x]⟩,QE (tr n q).1 (tr n q).2)
noncomputable def G8 (C:Cx) (σ:List Tr) (τ:List br) (φ:Fs) (h:ar) (J:eE) (f:Fl):Prop:=match f with
 |.nx=>J=.next∧At C σ τ φ h
 |.brk=>J=.brk∧At C σ τ φ h
 |.cnt=>J=.cont∧At C σ τ φ h
 |.ret e=>∃v,J=.ret v∧At C σ ((v,e)::τ) φ h
noncomputable abbrev jA (C:Cx) (τ:List br) (s:aj) (Q:eE→aj→Prop) (k:KS):Prop:=∀W f J V h' tk,G8 C J τ V h' W f→k f J→Q W {s with heap:=h',toks:=tk}
noncomputable def bU (C:Cx) (fs:c7) (c:fY eE) (ir:SS):Prop:=∀(σ:List Tr) (k:KS),bq (specs fs) ir σ k→∀(τ:List br) (φ:Fs) (Q:eE→aj→Prop) (s:aj),At C σ τ φ s.heap→cI τ→jA C τ s Q k→Wp C c Q s
structure bV (C:Cx) (fs:c7):Prop extends Al C fs where
 s:C.St
 lc:∀x∈C.xs,C.env.kindOf x=some .local
 bk:C.env.blockKind=.function
 ll:C.env.locals=C.L
section
variable {C:Cx}{fs:c7}{σ:List Tr}{τ:List br}{φ:Fs}{s:aj}{E T:Expr→Option SE}{H:Hn}{Q:eE→aj→Prop}{k:KS}
theorem qb {e:Expr}{t:Option Expr}{l:Nat}{env:cL}(h:jv e=true):swapsWith e t l env=pure false:=by
 cases e <;> first | rfl | exact El.ft h
theorem G9 {env:cL}:∀{es:List Expr}{xs:List ai},bB (λe x=>∃p,e=Expr.Name x p) es xs→(iq es env).length=xs.length∧(iq es env).findIdx? (·.1)=none∧∃ps:List aE,ps.length=xs.length∧(iq es env).map (·.2)=(xs.zip ps).map λq=>gA (.Name q.1 q.2) env:=@λA B C=>match A,B,C with
 |[],zz,h=>by refine ae (show _=[] from h) ?_;exact ⟨rfl,rfl,[],rfl,rfl⟩
 |zz::V,[],h=>(show False from h).elim
 |e::r,x::xs,h=>by
  refine El.aa h ?_;clear h;intro J h;obtain ⟨p,rfl⟩:=J;obtain ⟨a,b,ps,c,d⟩:=G9 (env:=env) h;refine ⟨congrArg jj a,?_,p::ps,congrArg jj c,(congrArg (_::·) d)⟩;refine (?_:List.findIdx? (·.1) ((false,gA (.Name x p) env)::iq r env)=none);rw [List.findIdx?_cons,b];rfl
theorem cC.perm {m:ai→Option af}{N K ZL:Led}{τ τ':List br}(e:τ.Perm τ'):∀{O:Led},cC C m N K ZL τ O→∃O',O.Perm O'∧cC C m N K ZL τ' O':=by
 induction e with
 |nil=>exact λx=>(El.aD _ (.refl _) x)
 |cons q _ V=>
  rintro O ⟨A,B,rfl,x,y⟩
  refine El.au (V y) λJ e y=>?_;exact ⟨A++J,e.append_left A,A,J,rfl,x,y⟩
 |swap a b r=>
  rintro O ⟨A,_,rfl,x,B,D,rfl,y,z⟩
  exact ⟨(B++(A++D)),cV _ _ _,B,_,rfl,y,A,D,rfl,x,z⟩
 |trans _ _ i1 i2=>
  intro O x;refine El.au (i1 x) λY e1 x=>?_;refine El.au (i2 x) λW e2 x=>?_;exact El.aD W (e1.trans e2) x
theorem At.perm {τ τ':List br}{h:ar}(e:τ.Perm τ') (a:At C σ τ φ h):At C σ τ' φ h:=by
 cases a with
 |mk F N S=>cases S with
  |@mk Os Ot vs nd pm rs V mp J hx=>
   refine El.au (J.perm e) λO' W J=>?_;exact .mk F N (.mk nd (pm.trans (W.append_right _)) rs V mp J hx)
theorem At.items (hC:C.Ok) {t:Tr}{ts:List Tr}{v:af}{h:ar}(e:mC t=some ts) (a:At C σ ((v,.ow t)::τ) φ h):∃D ws,v=.ref D∧rU h D ws∧ws.length=ts.length∧At C σ (jx ws ts++τ) φ h:=by
 have J:∀{ws:List af}{ds:List ag}{m:ai→Option af}{N K ZL:Led},bu (C.P.and ZL) ws ds→Sp C σ τ m N K ZL→Sp C σ (jx ws (ds.map .dat)++τ) m N K ZL:=by
  intro ws ds m N K ZL;induction ds generalizing ws with
  |nil=>exact λh S=>by cases ws with | nil=>exact S | cons=>exact El.sz h.len
  |cons d ds ih=>exact λh S=>by cases ws with
   |nil=>exact El.zs h.len
   |cons w ws=>exact (ih h.2 S).dM h.1
 cases a with
 |@mk N0 Z F N S=>
  cases t with
  |dat d=>cases d with
   |tuple ds=>
    cases e
    refine El.aa S.kU λr W=>?_;refine El.aP r.tupI λD ws V p g=>?_;clear S r;subst V;exact El.iB D ws rfl (.tup (El.kP _ (At.bR hC F N _ _ (p.imp_right (W.sub _))) rfl 0 rfl)) (by exact ae (g.len ..) (ae (bK ..) rfl)) (.mk F N (J g W))
   |dict l=>
    refine El.aa S.kU λr W=>?_;clear S;cases r with
    |@mt D dx i j k ti tj tk p=>
     cases e
     exact El.iB D [.int i ti,.int j tj,.int k tk] rfl (.mt (At.bR hC F N _ _ (p.imp_right (W.sub _)))) rfl (.mk F N (J (ds:=[.int i,.int j,.int k]) (El.cy (.int _ _) (.int _ _) (.int _ _) rfl) W))
   |_=>exact El.ns e
  |ot us=>
   cases e
   cases S with
   |@mk Os Ot vs nd pm rs ln mp Y hx=>
    refine El.aP Y ?_;clear Y;intro Ov Or V dq Y;subst V;obtain ⟨D,ws,Oz,rfl,rfl,g⟩:=dq;refine El.iB D ws rfl (.tup (El.kP _ (N.get (pm.mem_iff.mpr (.head _))) rfl 0 rfl)) g.len (.mk (ZL:=(D,jY ws)::Z) F N ?_);have hz:∀q∈Z,q∈(D,jY ws)::Z:=λq h=>.tail _ h;have up:∀{ts:List Tr}{O:Led}{ws:List af}{m:ai→Option af}{N K ZL:Led},bQ (C.P.and ZL) ts O ws→cC C m N K ZL (jx ws ts) O:=by
     intro ts;induction ts with
     |nil=>intro O ws m N K ZL h;refine ae (h.2 ..) ?_;exact h.1
     |cons t ts ih=>intro O ws m N K ZL h;cases ws with
      |nil=>exact (show False from h).elim
      |cons w ws=>refine El.aP h λA B e x y=>?_;clear h;exact El.bP A B e x (ih y)
    refine .more (T:=[]) nd (pm.trans ?_) rs ln mp (cC.join (Y.mono (λzz h=>h) hz) (up (bQ.mono (and_mono hz) _ g))) hx hz;refine (?_:((D,jY ws)::((Oz++Or)++(Os++(φ.2++_)))).Perm _);refine ae (aH ..).symm (ae (aH ..).symm (ae (aH ..).symm (ae (aH ..).symm ?_)));exact nk.symm
  |_=>exact El.ns e
theorem qc {k:List Tr→Prop}:∀{is:Tg}{ts:List Tr}{σ:List Tr},eI is ts σ k→ts.length=is.length:=@λA B C D=>match A,B,C,D with
 |[],[],zz,V=>rfl
 |[],zz::V,W,h=>(show False from h).elim
 |zz::V,[],W,h=>(show False from h).elim
 |q::is,t::ts,σ,h=>by
  refine congrArg jj ?_;have h:jw σ q.1 q.2 t λJ=>eI is ts J k:=h;cases ho:q.2 with
  |fr=>rw [ho] at h;exact (eP (show wD t.data _ from h)).elim λzz h=>qc h.2
  |own=>rw [ho] at h;exact qc (show eI is ts _ k from h)
  |deep=>rw [ho] at h;exact qc (show eI is ts _ k from h)
  |mA=>rw [ho] at h;exact qc (show eI is ts _ k from h)
theorem Ha (J:Al C fs) {D:ao}{ws:List af}{es:List Expr}{kk:Nat}{tp:aE}{m:ai→Option af}{N:Led}{Q:Unit→aj→Prop}(g:rU s.heap D ws) (F:Fr C.h₀ C.L s.heap m) (V:aW C.h₀ C.L s.heap N) (W:(iq es C.env).length=ws.length) (hs:(iq es C.env).findIdx? (·.1)=none) (h:∀h',Fr C.h₀ C.L h' m→aW C.h₀ C.L h' N→Wp C (s9 ((iq es C.env).map (·.2)) ws) Q {s with heap:=h'}):Wp C (gA (.Tuple es kk tp) C.env (.ref D)) Q s:=by
 cases g with
 |tup g=>exact unpackN_ F V g J.ok.hh (by exact ae (W ..) (ae (eN ..) rfl)) hs h
 |mt g=>exact J.g.df.mu _ _ _ _ _ _ _ _ _ _ s F V g W hs h
theorem Hb (Y:bV C fs) {is:Tg}{xs:List ai}{es:List Expr}{kk:Nat}{tp:aE}{k:List Tr→Prop}{ts:List Tr}{D:ao}{ws:List af}{Q:Unit→aj→Prop}(hn:bB (λ(q:Nat×Ow) x=>C.xs[q.1]? = some x) is xs) (he:bB (λe x=>∃p,e=Expr.Name x p) es xs) (g:rU s.heap D ws) (hl:ws.length=ts.length) (h:eI is ts σ k) (a:At C σ (jx ws ts++τ) φ s.heap) (ho:cI τ)
  (W:∀J V h' tk,At C J τ V h'→k J→Q () {s with heap:=h',toks:=tk}):Wp C (gA (.Tuple es kk tp) C.env (.ref D)) Q s:=by
 obtain ⟨l1,l2,ps,l3,l4⟩:=G9 (env:=C.env) he;have Z:∀{h':ar},At C σ (jx ws ts++τ) φ h'→Wp C (s9 ((xs.zip ps).map λq=>gA (.Name q.1 q.2) C.env) ws) Q {s with heap:=h'}:=λ{h'} a=>by
  have gen:∀{is:Tg}{xs:List ai}{ps:List aE}{ws:List af}{ts:List Tr}{σ:List Tr}{φ:Fs}{s:aj},bB (λ(q:Nat×Ow) x=>C.xs[q.1]? = some x) is xs→ps.length=xs.length→ws.length=ts.length→eI is ts σ k→At C σ (jx ws ts++τ) φ s.heap→(∀J V h' tk,At C J τ V h'→k J→Q () {s with heap:=h',toks:=tk})→Wp C (s9 ((xs.zip ps).map λq=>gA (.Name q.1 q.2) C.env) ws) Q s:=by
   intro is;induction is with
   |nil=>
    intro xs ps ws ts σ φ s hx hp hl h a W;refine ae (show xs=[] from hx) ?_;cases ts with
    |cons=>exact h.elim
    |nil=>cases ws with
     |cons=>exact El.sz hl
     |nil=>exact KD (W _ _ _ _ a h)
   |cons q is ih=>
    intro xs ps ws ts σ φ s hx hp hl h a W;cases xs with
    |nil=>exact (show False from hx).elim
    |cons x xs=>cases ps with
     |nil=>exact El.zs hp
     |cons p ps=>cases ts with
      |nil=>exact h.elim
      |cons t ts=>cases ws with
       |nil=>exact El.zs hl
       |cons w ws=>exact CU (assign_Name (ka Y.ok Y.s hx.1 (show jw σ q.1 q.2 t (λJ=>eI is ts J k) from h) a (AK ho) λJ V h' tk a' g=>ih hx.2 (ji hp) (ji hl) g a' W))
  exact gen hn l3 hl h a W
 cases a with
 |mk F N S=>
  refine Ha Y.toAl g F N (by exact ae (l1 ..) (ae (hl ..) (ae (qc h ..) (ae (hn.len ..) rfl)))) l2 λh' F' N'=>?_
  refine ae (l4 ..) ?_;exact Z (.mk F' N' S)
theorem r9 (Y:bV C fs) {is:Tg}{xs:List ai}{es:List Expr}{kk:Nat}{tp:aE}{k:List Tr→Prop}{t:Tr}{ts:List Tr}{v:af}{Q:Unit→aj→Prop}(Z:bB (λ(q:Nat×Ow) x=>C.xs[q.1]? = some x) is xs) (he:bB (λe x=>∃p,e=Expr.Name x p) es xs) (e:mC t=some ts) (h:eI is ts σ k) (a:At C σ ((v,.ow t)::τ) φ s.heap) (ho:cI τ)
  (hQ:∀J V h' tk,At C J τ V h'→k J→Q () {s with heap:=h',toks:=tk}):Wp C (gA (.Tuple es kk tp) C.env v) Q s:=by
 refine El.l7 (a.items Y.ok e) ?_;clear a;intro D ws W g hl a;subst W;exact Hb Y Z he g hl h a ho hQ
end
theorem vA {es:List Expr}{k:Nat}{p:aE}{v:Expr}{env:cL}{l:Nat}(h:jv v=true):swapsWithSole [.Tuple es k p] v l env=pure false:=qb (t:=some (.Tuple es k p)) (l:=l) (env:=env) h
noncomputable def AQ (ts:List Expr) (v:Expr):Bool:=!(v.ctorIdx == 25) || !(ts.length == 2 || ts.length == 3)
theorem AR {ts:List Expr}{v:Expr}{k:Nat}{p:aE}{env:cL}(h:AQ ts v=true):tn [.Tuple ts k p] v env=pure none:=by
 cases v with
 |Tuple vs k2 p2=>
  have h:(!(ts.length == 2 || ts.length == 3))=true:=h;unfold tn;exact if_pos (by refine ae (h ..) ?_;rfl)
 |_=>rfl
noncomputable def AS (ts vs:List Expr) (xs:List ai):Bool:=
 (ts.length == 2 || ts.length == 3) && (vs.length == ts.length && (vs.all notStar && ((ts.all λt=>t.pos.line == (ts.head?.map (·.pos.line)).getD 0) && (xs.eraseDups.length == xs.length && (!(vs.all (foldedForSure 8)) && !(vs.all (Yi 8)))))))
theorem oH {o:Option (List Tr)}{k:List Tr→Prop}(h:wL o k):∃d,o=some d∧k d:=by
 cases o with
 |none=>exact h.elim
 |some d=>exact El.aD d rfl h
section
variable {C:Cx}{fs:c7}{σ:List Tr}{τ:List br}{φ:Fs}{s:aj}{v:Expr}{p tp xp:aE}{e es:SE}{ts vs:List Expr}{is:Tg}{xs:List ai}{kk:Nat}
theorem Hc (V:bV C fs) {i:Nat}{o:Ow}{x:ai}(W:jv v=true) (hx:C.xs[i]? = some x) (Y:aU C fs e v):bU C fs (cZ (.Assign [.Name x xp] v p) C.env) (.asg i o e):=by
 refine λσ k h τ φ Q s a ho Z=>KG (Y σ _ h τ φ _ s a λw ev h1 t1 a1 g1=>?_) (qb W);refine El.dP (mI V.ok (k:=λt J=>jw J i o t λJ=>k .nx J) g1 a1 ho) λt J a2 g2=>?_;exact ka V.ok V.s hx g2 a2 ho λJ jB h' tk a3 g3=>Z _ .nx _ _ _ _ ⟨rfl,a3⟩ g3
theorem QF (V:bV C fs) (W:jv v=true) (hs:AQ ts v=true) (n1:bB (λ(q:Nat×Ow) x=>C.xs[q.1]? = some x) is xs) (n2:bB (λe x=>∃p,e=Expr.Name x p) ts xs) (Y:aU C fs e v):bU C fs (cZ (.Assign [.Tuple ts kk tp] v p) C.env) (.kZ is e):=by
 refine λσ k h τ φ Q s a ho Z=>CW (Y σ _ h τ φ _ s a λw ev h1 t1 a1 g1=>?_) (vA W) (AR hs);refine El.dP (mI V.ok (k:=λt J=>wL (mC t) λts=>eI is ts J λJ=>k .nx J) g1 a1 ho) λt J a2 g2=>?_;refine El.au (oH g2) λus e1 g3=>?_;exact r9 V n1 n2 e1 g3 a2 ho λJ jB h' tk a3 g3=>Z _ .nx _ _ _ _ ⟨rfl,a3⟩ g3
theorem Hd (V:bV C fs) {l:Nat}:∀{ts:List Expr}{xs:List ai},bB (λe x=>∃p,e=Expr.Name x p) ts xs→(∀x∈xs,x∈C.xs)→(ts.all λt=>t.pos.line == l)=true→(ts.filterMap fun
  |.Name id pos=>if C.env.kindOf id == some .local && pos.line == l then some id else none
  |_=>none)=xs:=@λA B D F G=>match A,B,D,F,G with
 |[],xs,h,zz,Y=>by refine ae (show xs=[] from h) ?_;rfl
 |zz::Y,[],h,zx,zw=>(show False from h).elim
 |e::r,x::xs,⟨W,h⟩,hx,hl=>by
  refine El.ea W λp J=>?_;clear W;subst J;refine El.aa (cT (show ((Expr.Name x p).pos.line == l && r.all λt=>t.pos.line == l)=true from hl)) λl1 l2=>?_;have hk:=V.lc x (hx x (.head _));have Z:(p.line == l)=true:=l1;have c:(C.env.kindOf x == some .local && p.line == l)=true:=by rw [hk,Z];rfl
  refine (List.filterMap_cons_some (b:=x) ?_).trans (congrArg (x::·) (Hd V h (λy hy=>hx y (.tail _ hy)) l2));exact if_pos c
theorem QG (V:bV C fs) {ts vs:List Expr}{xs:List ai}{k1 k2:Nat}{p1 p2:aE}(W:bB (λe x=>∃p,e=Expr.Name x p) ts xs) (hx:∀x∈xs,x∈C.xs) (h:AS ts vs xs=true):tn [.Tuple ts k1 p1] (.Tuple vs k2 p2) C.env=pure (some xs):=by
 refine El.aa (cT h) λZ h=>?_;refine El.aa (cT h) λh2 h=>?_;refine El.aa (cT h) λh3 h=>?_;refine El.aa (cT h) λh4 h=>?_;refine El.aa (cT h) λh5 h=>?_;refine El.aa (cT h) λh6 h7=>?_;have hs:(vs.any λ| .Starred ..=>true | _=>false)=false:=by
  rw [List.any_eq_false];intro e Y;have:=qQ.mp h3 e Y;clear Y;cases e with
  |Starred a b=>exact absurd (show false=true from this) kI
  |_=>exact kI
 have hf:=Hd V W hx h4;have hl:=W.len;have e2:vs.length=ts.length:=eq_of_beq h2;have e5:xs.eraseDups.length=xs.length:=eq_of_beq h5;unfold tn;dsimp only;refine (if_neg ?_).trans ((if_neg λh=>kI (hs.symm.trans h)).trans ?_)
 ·refine ae (Z ..) (ae (e2 ..) (ae (V.bk ..) ?_));simp
 ·have J:∀z:List ai,z=xs→(if (z.length != ts.length || z.eraseDups.length != z.length)=true then (pure none:fY (Option (List ai))) else if vs.all (foldedForSure 8)=true then pure none else if vs.all (Yi 8)=true then (do unsupported "assign.tuple-of-constant-expressions:order-of-the-stores";pure (some z)) else pure (some z))=pure (some xs):=by
   rintro z rfl
   refine ae (hl ..).symm (ae (e5 ..) (ae (oj h6 ..) (ae (oj h7 ..) (ae (hl ..).symm ?_))));simp
  exact J _ hf
theorem QH {is:Tg}{xs:List ai}(h:bB (λ(q:Nat×Ow) x=>C.xs[q.1]? = some x) is xs):∀x∈xs,x∈C.xs:=by
 induction is generalizing xs with
 |nil=>refine ae (show xs=[] from h) ?_;exact λzz h=>El.nm h
 |cons q is J=>cases xs with
  |nil=>exact (show False from h).elim
  |cons x xs=>exact bH.mpr ⟨jQ h.1,J h.2⟩
theorem He {α β:Type}{R:α→β→Prop}:∀{l:List α}{r:List β},bB R l r→bB R l.reverse r.reverse:=@λA B C=>match A,B,C with
 |[],zz,x=>by refine ae (show _=[] from x) ?_;exact rfl
 |zz::J,[],x=>(show False from x).elim
 |zz::J,V::W,x=>by refine ae (KH ..) (ae (KH ..) ?_);exact bB.append (He x.2) ⟨x.1,rfl⟩
theorem Hf:∀{vs:List Ev}{ts:List Tr},trees vs=some ts→vs=ts.map .ow:=@λA B C=>match A,B,C with
 |[],zz,h=>by cases h;rfl
 |e::r,zz,h=>by
  cases e with
  |bo i p=>exact El.ns h
  |ow t=>
   refine El.au (map_some (show (trees r).map (t::·)=some _ from h)) λus e1 J=>?_;clear h;subst J;exact congrArg (_::·) (Hf e1)
theorem QI (J:bV C fs) {k2:Nat}{p2:aE}(n1:bB (λ(q:Nat×Ow) x=>C.xs[q.1]? = some x) is xs) (n2:bB (λe x=>∃p,e=Expr.Name x p) ts xs) (Y:AS ts vs xs=true) (Z:fg C fs es vs):bU C fs (cZ (.Assign [.Tuple ts kk tp] (.Tuple vs k2 p2) p) C.env) (.eQ is es):=by
 refine λσ k h τ φ Q s a ho hQ=>Assign_Tuple_swapped (names:=xs) (Tuple_ (Z σ _ h p2 τ φ _ s a λus ev h1 t1 l1 a1 g1=>?_)) rfl (QG J n2 (QH n1) Y);refine El.dI (oH g1) λts e1 hz g2=>?_;cases Hf e1
 have hl:us.length=ts.length:=by exact ae (l1 ..) (ae (bK ..) rfl)
 cases a1 with
 |mk F N S=>
  refine kup_newTuple F N (λD h2 F2 V lt=>?_) (by refine ae (hl ..) ?_;exact az hz (by decide))
  refine unpackItemsN_ F2 V (El.kP _ (V _ (.head _)).1 rfl 0 rfl) J.ok.hh (by have:=qc g2;rw [CX,CX] at this;exact ae (eN ..) (ae (hl ..) (ae (this ..) (ae (n1.len ..) rfl)))) (λW F3 N3=>?_)
  have a3:At C σ (jx us ts++τ) φ W:=.mk F3 N3 (S.uT lt);have a4:At C σ (jx us.reverse ts.reverse++τ) φ W:=a3.perm (by
   refine List.Perm.append_right _ ?_;unfold jx;rw [List.map_reverse,Yj,Yj,←List.reverse_zipWith (by rw [bK];exact hl)]
   exact (List.reverse_perm _).symm)
  exact GS J.ok J.s (λx v Q s h=>bindName_ h) (He n1) (by refine ae (CX ..) (ae (CX ..) ?_);exact hl) g2 a4 ho λdZ jB h' tk a5 g5=>hQ _ .nx _ _ _ _ ⟨rfl,a5⟩ g5
end
theorem AU {M:nE}{A:cD}{E:af→aj→Prop}{s:aj}{env:cL}{o i:Expr}{p:aE}{v:af}{Q:Unit→aj→Prop}(h:aF M A (dg o env) (λov J=>aF M A (dg i env) (λiv V=>aF M A (th ov iv v) Q E V) E J) E s):aF M A (gA (.Subscript o i p) env v) Q E s:=by
 refine ae (assign_Subscript ..) ?_;exact aC (eM (fX h (λov J W=>aC (eM (fX W (λiv V Y=>aC (Kg (aC (eM (fX Y (λzz YY Z=>wpAny_release Z) λzz zz x=>x))))) λzz zz x=>x))) λzz zz x=>x))
theorem AV {e:Ev}{k:Nat→List Nat→Prop}(h:pX e k):∃i p,e=.bo i p∧k i p:=by
 cases e with
 |ow t=>exact h.elim
 |bo i p=>exact El.fM i p rfl h
theorem QJ {ts:List Tr}{k:Tr→Tr→Prop}(h:Am ts k):∃a b,ts=[a,b]∧k a b:=by
 cases ts with
 |nil=>exact h.elim
 |cons a r=>cases r with
  |nil=>exact h.elim
  |cons b r=>cases r with
   |nil=>exact El.fM a b rfl h
   |cons=>exact h.elim
section
variable {C:Cx}{fs:c7}{σ:List Tr}{τ:List br}{φ:Fs}{s:aj}{o o1 o2 i1 i2 ix v x:Expr}{e r r1 r2 j j1 j2:SE}{p p1 p2 tp ap pp:aE}
theorem AW (hA:bV C fs) (h1:aU C fs r o) (h2:aU C fs j ix) {u:Tr}{v:af}{k:List Tr→Prop}{Q:Unit→aj→Prop}(h:oz (specs fs) r j u σ k) (a:At C σ ((v,.ow u)::τ) φ s.heap) (ho:cI τ) (hQ:Nw C τ φ s () Q k) :
  Wp C (dg o C.env) (λov V=>Wp C (dg ix C.env) (λZ W=>Wp C (th ov Z v) Q W) V) s:=
 h1 σ _ h _ φ _ s a λw e h3 t3 a3 g3=>by
  refine El.dP (AV g3) λi p J g3=>?_;subst J;exact h2 σ _ g3 _ φ _ _ a3 λZ ie h4 t4 a4 g4=>by
   refine El.aP (a4.eH (show bC ie _ from g4)) λn tk J g5 a5=>?_;clear a4;subst J;exact GR hA.ok g5 a5.swap ho λY h' tk a6 g6=>hQ Y h' tk a6 g6
theorem QK (V:bV C fs) (W:jv v=true) (Y:aU C fs e v) (Z:aU C fs r o) (h2:aU C fs j ix):bU C fs (cZ (.Assign [.Subscript o ix tp] v p) C.env) (.set r j e):=by
 refine λσ k h τ φ Q s a ho hQ=>wpAny_Assign_Subscript (Y σ _ h τ φ _ s a λw ev h6 t6 a6 g6=>?_) (qb W);refine El.dP (mI V.ok (k:=λu J=>oz (specs fs) r j u J λJ=>k .nx J) g6 a6 ho) λu J a7 g7=>?_;exact AW V Z h2 g7 a7 ho λJ h' tk a8 g8=>hQ _ .nx _ _ _ _ ⟨rfl,a8⟩ g8
theorem QL {kk:Nat}{env:cL}:tn [.Tuple [.Subscript o1 i1 p1,.Subscript o2 i2 p2] kk tp] v env=pure none:=by
 cases v with
 |Tuple vs k2 J=>
  unfold tn;dsimp only;split
  ·rfl
  ·split
   ·rfl
   ·exact if_pos rfl
 |_=>rfl
theorem QM (W:bV C fs) {kk:Nat}(hn:jv v=true) (he:aU C fs e v) (h1:aU C fs r1 o1) (h2:aU C fs j1 i1) (h3:aU C fs r2 o2) (h4:aU C fs j2 i2):bU C fs (cZ (.Assign [.Tuple [.Subscript o1 i1 p1,.Subscript o2 i2 p2] kk tp] v p) C.env) (.uX r1 j1 r2 j2 e):=by
 refine λσ k h τ φ Q s a ho hQ=>CW (he σ _ h τ φ _ s a λw ev YZ bE Y AX=>?_) (vA hn) QL;refine El.dP (mI W.ok (k:=λt QN=>wL (mC t) λts=>Am ts λt1 t2=>oz (specs fs) r1 j1 t1 QN λZ=>oz (specs fs) r2 j2 t2 Z λoy=>k .nx oy) AX Y ho) λu dZ mJ AY=>?_;refine El.au (oH AY) λus e3 J=>?_;refine El.dP (QJ J) λu1 u2 V J=>?_;subst V;refine El.l7 (mJ.items W.ok e3) λD ws V gD hl ly=>?_;clear Y mJ;subst V;obtain ⟨w1,w2,rfl⟩:∃w1 w2,ws=[w1,w2]:=by
  refine El.dP (uu hl) λa q e1 l1=>?_;refine El.dP (uu l1) λb q2 e2 l2=>?_;exact El.yi a b (by exact ae (e1 ..) (ae (e2 ..) (ae (KI.mp l2 ..) rfl)))
 cases ly with
 |mk F N S=>
  refine Ha W.toAl gD F N rfl rfl λh' F' N'=>?_;have jC:At C dZ ((w1,.ow u1)::(w2,.ow u2)::τ) φ h':=.mk F' N' S;refine CU (AU (AW W h1 h2 J jC (vv ho) λZ h1 t1 jD QO=>CU (AU (AW W h3 h4 QO jD ho λoy h2 t2 jE QP=>KD ?_))));exact hQ _ .nx _ _ _ _ ⟨rfl,jE⟩ QP
theorem At.lst (Z:C.Ok) {w:af}{i:Nat}{p:List Nat}{P:Prop}{h:ar}(g:rR σ i p P) (a:At C σ ((w,.bo i p)::τ) φ h):P∧∃D ws n N,w=.ref D∧aW C.h₀ C.L h N∧(D,bF ws n)∈N:=by
 unfold rR at g;cases e:(σ[i]?.bind λt=>ek t p).bind u6 with
 |none=>rw [e] at g;exact g.elim
 |some l=>
  rw [e] at g;refine El.au (bind_some e) λu e1 e2=>?_;cases a with
  |mk F N S=>
   cases S.top with
   |mk r _ _ S'=>
    refine El.dP (gW.part Z S r e1 λq=>by rw [q] at e2;exact El.ns e2) λOu rest W Y=>?_
    clear e1;cases u with
    |dl ds=>refine El.dh W λD n ws J V zz=>?_;clear W;clear S r;subst J;subst V;exact ⟨g,D,ws,n,_,rfl,N,(Y.mem_iff.mpr (.head _))⟩
    |ol us=>refine El.fL W λD n ws Oz J V zz=>?_;clear W;clear S r;subst J;subst V;exact ⟨g,D,ws,n,_,rfl,N,(Y.mem_iff.mpr (.head _))⟩
    |_=>exact El.ns e2
theorem sa (J:bV C fs):interactive C.env=false:=by
 refine (?_:(C.env.scope.kind == ScopeKind.module && _)=false);refine ae (J.e3 ..) ?_;rfl
theorem Hg (Z:bV C fs) {id:String}{m:ai}{k:KS}{Q:eE→aj→Prop}{f:Nat→List Nat→List Ev→Prop}(V:notStar x=true) (hr:qa o) (hl:(ap.endLine == pp.line)=true) (ho:aU C fs r o) (hx:aU C fs e x) (m1:Slot "list" m id) (m2:jk (af.builtin id)=pure (af.type "method_descriptor"))
  (h:den (specs fs) r σ (one λw=>pX w λi p=>rR σ i p (den (specs fs) e σ (f i p)))) (a:At C σ τ φ s.heap)
  (go:∀{w v:af}{i:Nat}{p:List Nat}{W:Ev}{h':ar}{tk:Nat},f i p [W]→At C σ ((v,W)::(w,.bo i p)::τ) φ h'→∃D,w=.ref D∧Wp C (call (.builtin id) [.ref D,v]) (λzz=>Q .next) {s with heap:=h',toks:=tk}):Wp C (cZ (.Expr (.Call (.Attribute o m ap) [x] [] pp) p) C.env) Q s:=by
 have hs:∀y∈[x],notStar y=true:=cR.mpr V;refine xf (lr hs (aL rfl) hr hl (ho σ _ h τ φ _ s a λw e h4 t4 a4 Y=>?_)) (sa Z) rfl;refine El.dP (AV Y) λi p J Y=>?_;subst J;obtain ⟨g5,D,ws,n,N,J,hN,hm⟩:=a4.lst Z.ok Y;subst J;refine xg hN hm m1 m2 (xe (jl (hx σ _ g5 _ φ _ _ a4 λv W h6 t6 a6 g6=>lW ?_) (dR V)) (dR V) rfl);refine El.au (go (tk:=t6) g6 a6) λD' eD run=>?_;cases eD
 exact run
theorem QQ (V:bV C fs) {m:ai}(hm:m=ai.ofString "append") (W:notStar x=true) (Y:qa o) (hl:(ap.endLine == pp.line)=true) (Z:aU C fs r o) (h2:aU C fs e x):bU C fs (cZ (.Expr (.Call (.Attribute o m ap) [x] [] pp) p) C.env) (.app r e):=by
 subst hm;refine λσ k h τ φ Q s a ho hQ=>Hg (k:=k) (f:=λi p=>one λv=>iN σ v λu J=>gX J i p (λt=>rQ t u) λJ=>k .nx J) V W Y hl Z h2 Yk Yl h a λ{w v i p ev h' tk} g a=>?_;have st:∃t J,At C J ((v,.ow t)::(w,.bo i p)::τ) φ h'∧gX J i p (λt'=>rQ t' t) λJ=>k .nx J:=PU V.ok (k:=λu J=>gX J i p (λt=>rQ t u) λJ=>k .nx J) g a ho;refine El.dP st λt J a2 g2=>?_;clear st;exact PX V.ok (s:={s with heap:=h',toks:=tk}) g2 a2 ho λJ h' tk a3 g3=>hQ _ .nx _ _ _ _ ⟨rfl,a3⟩ g3
theorem QR (V:bV C fs) {m:ai}(hm:m=ai.ofString "extend") (W:notStar x=true) (Y:qa o) (hl:(ap.endLine == pp.line)=true) (Z:aU C fs r o) (h2:aU C fs e x):bU C fs (cZ (.Expr (.Call (.Attribute o m ap) [x] [] pp) p) C.env) (.ext r e):=by
 subst hm;refine λσ k h τ φ Q s a ho hQ=>Hg (k:=k) (f:=λi p=>one λv=>jb σ v λxs=>gX σ i p (λt=>Ak t xs) λJ=>k .nx J) V W Y hl Z h2 Yd PySem.F.type_list_extend h a λ{w v i p ev h' tk} g a=>?_;refine El.au (pR (show jb σ ev _ from g)) λxs e1 g=>?_;exact PY V.ok (s:={s with heap:=h',toks:=tk}) e1 g a ho λJ h' tk a3 g3=>hQ _ .nx _ _ _ _ ⟨rfl,a3⟩ g3
end
section
variable {C:Cx}{fs:c7}{σ:List Tr}{τ:List br}{φ:Fs}{s:aj}{o ix v:Expr}{e r j:SE}{p tp ap pp xp:aE}
theorem Hh {i:Nat}{k:ag→List Tr→Prop}(h:rS σ i k):∃d r,σ[i]? = some (.dl (d::r))∧fw r.length∧k d (σ.set i (.dl r)):=by
 unfold rS at h;cases e:σ[i]? with
 |none=>rw [e] at h;exact h.elim
 |some t=>
  rw [e] at h;clear e;cases t with
  |dl ds=>cases ds with
   |nil=>exact h.elim
   |cons d r=>exact El.bP d r rfl h.1 h.2
  |_=>exact h.elim
theorem Hi (hC:C.Ok) {i:Nat}{w:af}{t:dS}{k:ag→List Tr→Prop}{Q:af→aj→Prop}(h:rS σ i k) (a:At C σ ((w,.bo i [])::τ) φ s.heap) (ho:cI τ) (hQ:∀v d J h',At C J ((v,bw d)::τ) φ h'→k d J→Q v {s with heap:=h'}):∃D ws n N,w=.ref D∧aW C.h₀ C.L s.heap N∧(D,bF ws n)∈N∧Wp C (call (.builtin "list.pop") [.ref D,.int 0 t]) Q s:=by
 refine El.aP (Hh h) λd r Y h2 h3=>?_;cases a with
 |mk F N S=>
  cases S.write hC Y (show ek (.dl (d::r)) []=some (.dl (d::r)) from rfl) (λe=>El.sn e) with
  |@mk a n ws Oz Ot rest Z ne rp tm g=>
   refine El.aa (Sp.r5 rp) λW hw=>?_;clear rp;subst W;cases ws with
   |nil=>exact El.zs hw.len
   |cons v V=>
    have hl:V.length<2 ^ 24:=by refine ae (hw.2.len ..) ?_;exact h2
    refine El.tM a (v::V) n _ rfl N (Z.mem_iff.mpr (.head _)) (kl_popAt (its:=(v::V).toArray) (k:=0) (p:=[]) (q:=V) F (fC N Z) (by decide) (by unfold kN;simp) rfl (.head ne) (by refine (?_:V.length+1≤_);unfold cE;omega) λh' F' N'=>?_)
    exact hQ v d _ h' (.mk F' N' ((g (.jd hw.2) (tm.any ho) (.refl _) _ Y).dM hw.1)) h3
theorem QS (V:bV C fs) {ts:List Expr}{is:Tg}{xs:List ai}{kk Y:Nat}{Z:aE}{x m:ai}{i:Nat}(n1:bB (λ(q:Nat×Ow) x=>C.xs[q.1]? = some x) is xs) (n2:bB (λe x=>∃p,e=Expr.Name x p) ts xs) (hm:m=ai.ofString "pop") (hl:(ap.endLine == pp.line)=true) (hx:C.xs[i]? = some x):bU C fs (cZ (.Assign [.Tuple ts kk tp] (.Call (.Attribute (.Name x xp) m ap) [.Constant (.int 0) Y Z] [] pp) p) C.env) (.uW is i):=by
 subst hm;have hs:∀y∈[Expr.Constant (.int 0) Y Z],notStar y=true:=cR.mpr rfl;refine λσ k h τ φ Q s a ho hQ=>CW (lr hs (aL rfl) (λzz zz zz=>rfl) hl ?_) (vA rfl) (AR rfl);have h:rS σ i λd J=>wL (pW d) λts=>eI is ts J λJ=>k .nx J:=h;refine El.aP (Hh h) λd r g1 zz zz=>?_;cases a with
 |mk F N S=>
  refine El.au (S.slot g1 λe=>nomatch e) λw r1 zz=>?_;refine V.ok.ld xp hx F N S.d8 r1 ?_;have a1:At C σ ((w,.bo i [])::τ) φ s.heap:=.mk F N (S.uS (p:=[]) r1 (show d6 _ _ [] _ from rfl));refine El.jR (Hi (t:=s.toks) (Q:=λzz zz=>True) V.ok h a1 ho λzz zz zz zz zz zz=>trivial) λD ws n N' W N1 hm zz=>?_;clear r1;subst W;refine xg N1 hm Ym Yn (xe (jl (X6 (lW ?_)) (dR (hs _ (.head _)))) (dR rfl) rfl);obtain ⟨D',_,_,_,eD,_,_,run⟩:=Hi (s:={s with toks:=s.toks+1}) (t:=s.toks) (Q:=λw s=>Wp C (gA (.Tuple ts kk tp) C.env w) (λzz=>Q .next) s) V.ok h a1 ho λv d J h' a2 g2=>by
   refine El.au (oH g2) λus e1 g3=>?_;exact r9 V n1 n2 (t:=.dat d) (by clear g2;cases d <;> first | exact e1 | exact nomatch e1) g3 a2 ho λJ jB h' tk a3 g3=>hQ _ .nx _ _ _ _ ⟨rfl,a3⟩ g3
  clear left_1;cases eD;exact run
theorem At.dup {w:af}{i:Nat}{p:List Nat}{h:ar}(a:At C σ ((w,.bo i p)::τ) φ h):At C σ ((w,.bo i p)::(w,.bo i p)::τ) φ h:=by
 cases a with
 |mk F N S=>cases S.top with
  |mk r _ _ _=>refine El.aa r ?_;clear r;intro J r;clear a a_1 a_2;subst J;exact .mk F N (S.mr ⟨rfl,r⟩)
theorem QT (Y:bV C fs) {W:kL}{i:Nat}{x:ai}(hx:C.xs[i]? = some x) (hE:aU C fs e v):bU C fs (cZ (.AugAssign (.Name x xp) W v p) C.env) (.aug i W e):=by
 refine λσ k h τ φ Q s a ho hQ=>wpAny_AugAssign_Name ?_;have h:(match σ[i]? with
  |some t=>bC (.ow t) λx=>den (specs fs) e σ (one λv=>bC v λy=>An W x y λz=>k .nx (σ.set i (.dat (.int z))))
  |none=>False):=h
 cases e0:σ[i]? with
 |none=>rw [e0] at h;exact h.elim
 |some t=>
  rw [e0] at h;refine El.au (oa h) λn en h=>?_;cases en
  cases a with
  |mk F N S=>
   refine El.au (S.slot e0 λe=>nomatch e) λw r1 r2=>?_;refine El.ea ((r2 _ rfl).i8) λtk J=>?_;clear r2;subst J;refine Y.ok.ldn hx F N S.d8 r1 (hE σ _ h τ φ _ s (.mk F N S) λw ev h6 t6 a6 g6=>?_);refine El.aP (a6.eH (show bC ev _ from g6)) λy u J Z a7=>?_;clear a6;subst J;have fin:∀{z:Int},k .nx (σ.set i (.dat (.int z)))→Wp C (xc C.env x (.int z t6)) (λzz=>Q .next) {s with heap:=h6,toks:=t6+1}:=λ{z} g=>
    ka Y.ok Y.s (s:={s with heap:=h6,toks:=t6+1}) (i:=i) (o:=.own) (t:=.dat (.int z)) (k:=λV=>k .nx V) hx g (a7.int) ho λV jB h' tk a8 g8=>hQ .next .nx V jB h' tk ⟨rfl,a8⟩ g8
   clear h g6;cases W with
   |Add=>exact iadd_int (fin Z)
   |Sub=>exact P.isub_int (fin Z)
   |_=>exact Z.elim
theorem QU {f:Ev→Prop}{e:Ev}(h:one f [e]):f e:=h
theorem QV {i:Expr}{J V new:af}(h:kW i=true):augStore i J V new=(do holding [new,J,V] (th J V new);release [new,J,V] [];pure .next):=by
 cases i <;> first | rfl | exact El.ft h
theorem QW (hA:bV C fs) {oo:kL}(hn:kW ix=true) (h1:aU C fs r o) (h2:aU C fs j ix) (hE:aU C fs e v):bU C fs (cZ (.AugAssign (.Subscript o ix tp) oo v p) C.env) (.rO r j oo e):=by
 refine λσ k h τ φ Q s a ho hQ=>wpAny_AugAssign_SubscriptAny (h1 σ _ h τ φ _ s a λw e h5 t5 a5 g5=>?_) (λov iv new=>QV hn);refine El.dP (AV g5) λi p J g5=>?_;subst J;refine h2 σ _ g5 _ φ _ _ a5.dup λiv ie h6 t6 a6 g6=>?_;refine El.au (oa (show bC ie _ from g6)) λn0 en zz=>?_;subst en;refine El.aP (a6.eH (f:=λx=>x=n0) rfl) λn u J e7 a7=>?_;clear a6;subst J;subst e7;refine (item_at hA.ok (QU g6) a7 λold oe h8 t8 a8 g8=>?_).1;refine El.aP (a8.eH (show bC oe _ from g8)) λx ux J g9 a9=>?_;clear a8;subst J;refine hE σ _ g9 _ φ _ _ a9 λwv we Y bN Z vB=>?_;refine El.aP (Z.eH (show bC we _ from vB)) λy uy J V vC=>?_;clear Z;subst J;have fin:∀{z:Int}{tk:dS}{W:Nat},gX σ i p (λt k=>ou t n λj=>u5 t j (.dat (.int z)) k) (λdZ=>k .nx dZ)→Wp C (th w (.int n u) (.int z tk)) (λzz=>Q .next) {s with heap:=Y,toks:=W}:=λ{z tk W} g=>by
  cases vC with
  |mk F N S=>exact GR (s:={s with heap:=Y,toks:=W}) hA.ok g (.mk F N (S.dM (.int z tk))) ho λdZ h' tk mJ AY=>hQ _ .nx _ _ _ _ ⟨rfl,mJ⟩ AY
 clear h g5 g6 zz g8 g9 vB;cases oo with
 |Add=>exact iadd_int (fin V)
 |Sub=>exact P.isub_int (fin V)
 |_=>exact V.elim
end
noncomputable def AZ (P:Fz) (tup:Bool) (d:ag) (v:af) (h:ar):Prop:=Dat P v d∨(tup=true∧∃T i t x J,v=.ref T∧d=.tuple [.int i,J]∧IsTup h T #[.int i t,x]∧Dat P x J)
noncomputable abbrev Cx.over (C:Cx) (X:Led):Cx:={C with X:=X}
noncomputable abbrev vD (T:Led):Tr:=.fr λzz O zz=>O=T
section
variable {C:Cx}{fs:c7}{σ:List Tr}{τ:List br}{φ:Fs}{s:aj}{m:ai→Option af}{N K ZL X:Led}{h:ar}
theorem Cx.Ok.over (J:C.Ok):(C.over X).Ok:=⟨J.hh,J.hu,J.sub,J.uq,J.ldn,J.z9⟩
theorem bV.over (J:bV C fs):bV (C.over X) fs where
 ok:=J.ok.over
 g:=⟨J.g.fn,J.g.gl,J.g.mt,⟨J.g.du.get,J.g.du.set⟩,⟨J.g.df.nl,J.g.df.mu,J.g.df.so,⟨J.g.df.mm.get,J.g.df.mm.run⟩,J.g.df.gm⟩⟩
 e1:=J.e1
 e2:=J.e2
 e3:=J.e3
 s:=⟨J.s.st⟩
 lc:=J.lc
 bk:=J.bk
 ll:=J.ll
theorem cC.mK:∀{τ:List br}{O:Led},cC (C.over X) m N K ZL τ O→cC C m N K ZL τ O:=@λD F G=>match D,F,G with
 |[],zz,x=>x
 |q::τ,zz,⟨A,B,e,x,y⟩=>(El.bP A B e (by cases h:q.2 <;> (rw [h] at x;exact x)) (cC.mK y))
theorem cC.toX:∀{τ:List br}{O:Led},cC C m N K ZL τ O→cC (C.over X) m N K ZL τ O:=@λD F G=>match D,F,G with
 |[],zz,x=>x
 |q::τ,zz,⟨A,B,e,x,y⟩=>(El.bP A B e (by cases h:q.2 <;> (rw [h] at x;exact x)) (cC.toX y))
theorem Sp.mK (S:Sp (C.over X) σ τ m N K ZL) (h:∀q∈C.X,q∈X):Sp C σ τ m N K ZL:=by
 cases S with
 |@mk Os Ot vs nd pm rs J mp V hx=>exact .mk nd pm rs J mp V.mK λq W=>hx q (h q W)
theorem Sp.toX (S:Sp C σ τ m N K ZL) (h:∀q∈X,q∈ZL):Sp (C.over X) σ τ m N K ZL:=by
 cases S with
 |@mk Os Ot vs nd pm rs J mp V hx=>exact .mk nd pm rs J mp V.toX h
theorem Sp.hx (S:Sp C σ τ m N K ZL):∀q∈C.X,q∈ZL:=by
 cases S with
 |mk nd pm rs J mp V hx=>exact hx
theorem At.mK (a:At (C.over X) σ τ φ h) (hx:∀q∈C.X,q∈X):At C σ τ φ h:=by
 cases a with | mk F N S=>exact .mk F N (S.mK hx)
theorem At.drop {v:af}{e:Ev}(a:At C σ ((v,e)::τ) φ h):At C σ τ φ h:=by
 cases a with | mk F N S=>cases S.top with | mk _ _ _ J=>exact .mk F N J
theorem Sp.QX {T:Led}{v:af}(S:Sp C σ τ m N K ZL) (ho:cI τ) (Y:(T.map (·.1)).Nodup) (hd:∀p∈T,∀q∈N,p.1≠q.1):Sp C σ ((v,.ow (vD T))::τ) m (T++N) K ZL:=by
 cases S with
 |@mk Os Ot vs nd pm rs Z mp tm hx=>
  refine .mk ?_ ((pm.append_left T).trans (by rw [aH])) rs Z mp (El.bP T Ot rfl ⟨λzz zz zz zz zz h=>h,rfl⟩ (tm.any ho)) hx
  refine ae (bG ..) ?_;refine fJ.mpr (El.aK Y nd (λa V b W e=>?_));refine El.au (bL.mp V) λp hp J=>?_;clear V;subst J;refine El.au (bL.mp W) λq hq J=>?_;clear W;subst J;exact hd p hp q hq e
theorem Sp.QY {T:Led}{v:af}(S:Sp C σ ((v,.ow (vD T))::τ) m N K ZL) (ho:cI τ):∃N',N.Perm (T++N')∧(∀p∈T,∀q∈N',p.1≠q.1)∧Sp C σ τ m N' K ZL:=by
 cases S with
 |@mk Os Ot vs nd pm rs ln mp W hx=>
  refine El.aP W ?_;clear W;intro O Or Y Z W;subst Y;obtain ⟨_,rfl⟩:=Z;have J:=pm.trans (by rw [aH])
  have V:=(J.map (·.1)).nodup_iff.mp nd;rw [bG] at V;refine El.cH (fJ.mp V) λn1 n2 n3=>?_;exact El.ey _ J (λp hp q hq=>n3 _ (bL.mpr (El.aD p hp rfl)) _ (bL.mpr (El.aD q hq rfl))) (.mk n2 (.refl _) rs ln mp (W.any ho) hx)
inductive fh (xs:List ai):Expr→Tg×Bool→Prop
 |nm {x:ai}{i:Nat}{w:Ow}{p:aE}:xs[i]? = some x→fh xs (.Name x p) ([(i,w)],false)
 |tup {es:List Expr}{k:Nat}{p:aE}{is:Tg}{ys:List ai}:bB (λ(q:Nat×Ow) x=>xs[q.1]? = some x) is ys→bB (λe x=>∃p,e=Expr.Name x p) es ys→fh xs (.Tuple es k p) (is,true)
theorem QZ (V:bV C fs) {t:Expr}{q:Tg×Bool}(hT:fh C.xs t q) {v:af}{d:ag}{Q:Unit→aj→Prop}{k:List Tr→Prop}(hi:AZ (C.P.and ZL) q.2 d v s.heap) {N0:Led}(F:Fr C.h₀ C.L s.heap φ.1) (W:aW C.h₀ C.L s.heap N0) (S:Sp C σ τ φ.1 N0 φ.2 ZL) (h:ox q.1 q.2 d σ k) (ho:cI τ)
  (Y:∀J Z h' tk,At C J τ Z h'→k J→Q () {s with heap:=h',toks:=tk}):Wp C (gA t C.env v) Q s:=by
 cases hT with
 |@nm x i w p hx=>
  rcases hi with hd | ⟨e,_⟩
  ·exact assign_Name (ka V.ok V.s hx (show jw σ i w (.dat d) k from h) (.mk F W (S.dM hd)) ho Y)
  ·exact El.ft e
 |tup n1 n2=>
  refine El.au (oH (show wL (pW d) _ from h)) λts e3 h=>?_;rcases hi with hd | ⟨_,T,i,t,x,dx,rfl,rfl,g,hd⟩
  ·exact r9 V n1 n2 (t:=.dat d) (by cases d <;> first | exact e3 | exact nomatch e3) h (.mk F W (S.dM hd)) ho Y
  ·cases e3
   exact Hb V n1 n2 (ws:=[.int i t,x]) (.tup g) rfl h (.mk F W ((S.dM hd).dM (.int i t))) ho Y
noncomputable def objs (h:ar) (J:List ao):Led:=J.filterMap λb=>(h.get? b).map λo=>(b,o)
theorem mem_objs {W:List ao}{p:ao×ay}:p∈objs h W↔p.1∈W∧h.get? p.1=some p.2:=by
 unfold objs;rw [Cv];constructor
 ·rintro ⟨b,J,e⟩
  refine El.au (map_some e) λo e1 V=>?_;clear e;subst V;exact ⟨J,e1⟩
 ·rintro ⟨J,e⟩
  exact El.aD p.1 J (by refine ae (e ..) ?_;rfl)
theorem A2:∀{J:List ao},J.Nodup→((objs h J).map (·.1)).Nodup:=@λA B=>match A,B with
 |[],zz=>iw
 |b::J,n=>by
  refine El.aa (cu.mp n) λn1 n2=>?_;unfold objs;refine ae (CP ..) ?_;cases e:h.get? b with
  |none=>exact A2 n2
  |some o=>exact cu.mpr ⟨λq=>by
    refine El.au (bL.mp q) λp V e=>?_;have e:p.1=b:=e;exact n1 (e▸(mem_objs.mp V).1),A2 n2⟩
end
theorem vE {C:Cx}{fs:c7}{σ:List Tr}{τ:List br}{s:aj}{m:ai→Option af}{N K ZL:Led}(hA:bV C fs) {t:Expr}{b:List cP}{ir:SS}{q:Tg×Bool}{ds:List ag}{Q:eE→aj→Prop}{k:KS}(hT:fh C.xs t q) (hB:∀X,bU (C.over X) fs (fI b C.env) ir)
  {I:ao}{fp wr:List ao}{P Md:Nat→af→ar→Prop}{St:Nat→ar→Prop}{n:Nat}(hn:n=ds.length) (W:KTurns C.pg C.w C.A t I fp wr n P Md St) (Hj:C.env.locals∉fp) (sb:∀b∈wr,C.h₀.get? b=none) (oJ:wr.Nodup) (Q0:∀i h,St i h→∀b∈wr,h.get? b≠none)
  (F:Fr C.h₀ C.L s.heap m) (hN:aW C.h₀ C.L s.heap N) (S:Sp C σ τ m N K ZL) (vF:∀p∈N,p.1∉wr) (Q1:St 0 s.heap) (Q2:∀b∈fp,b∈wr∨∃o,C.P.and ZL b o) (hP:∀i v h d,P i v h→ds[i]? = some d→AZ (C.P.and ZL) q.2 d v h)
  (h:dc (λd σ k=>ox q.1 q.2 d σ λY=>bq (specs fs) ir Y k) k ds σ) (ho:cI τ) (hQ:jA C τ s Q k):qS C.pg C.w C.A C.h₀ C.env t b Q (λzz zz=>False) (.ref I) s:=by
 subst hn;have hX:=S.hx
 let J:Nat→(ai→Option af)→Led→Prop:=λi m N=>∃σ K Z,Sp (C.over ZL) σ τ m N K Z∧dc (λd σ k=>ox q.1 q.2 d σ λY=>bq (specs fs) ir Y k) k (ds.drop i) σ
 unfold qS;refine ae (hA.ll ..) ?_;refine ⟨I,fp,wr,ds.length,P,Md,St,m,N,J,rfl,W,hA.ll▸Hj,sb,vF,Q1,F,hN,(El.DA σ K ZL (S.toX λzz h=>h) (by refine ae (Ke ..) ?_;exact h)),?_,?_⟩
 ·rintro i v m₁ A3 V Hk own hi Q3 ⟨Y0,Q4,Y1,se,Hl⟩ Q5 Q6 Hm Fp Q7 Ho A4
  obtain ⟨d,hd⟩:∃d,ds[i]? = some d:=⟨_,eu hi⟩;have Q8:ds.drop i=d::ds.drop (i+1):=by
   refine ae (XN hi ..) ?_
   congr 1
   exact dC ((eu hi).symm.trans hd)
  rw [Q8] at Hl;have Q9:∀p∈objs V wr,∀q∈A3,p.1≠q.1:=λp hp q hq e=>Q5 q hq (e▸(mem_objs.mp hp).1);have Ra:aW C.h₀ C.L V (objs V wr++A3):=λp hp=>by
   rcases cF.mp hp with hp | hp
   ·refine El.aa (mem_objs.mp hp) λp1 p2=>?_;exact El.aK p2 (λe=>Hj (hA.ll▸e▸W.sub _ p1)) (sb _ p1)
   ·exact A4 p (bx _ hp)
  have Rb:=se.QX (v:=.none) ho (A2 oJ) Q9;have Hp:cI (((af.none,Ev.ow (vD (objs V wr))))::τ):=vv ho;refine QZ (C:=C.over ZL) (φ:=(m₁,Q4)) (s:={s with heap:=V,toks:=Hk}) (hA.over) hT ?_ Ho Ra Rb Hl Hp λY jB h' tk a' g'=>?_
  ·rcases hP i v V d Q3 hd with x | ⟨e,T,i,t,x,dx,e1,e2,e3,e4⟩
   ·exact .inl (x.mono (and_mono se.hx))
   ·exact .inr ⟨e,T,i,t,x,dx,e1,e2,e3,(e4.mono (and_mono se.hx))⟩
  ·refine hB ZL Y _ g' _ jB _ {s with heap:=h',toks:=tk} a' Hp λfl f je jf h3 mM hf kf=>?_
   have fin:At (C.over ZL) je ((.none,.ow (vD (objs V wr)))::τ) jf h3→dc (λd σ k=>ox q.1 q.2 d σ λY=>bq (specs fs) ir Y k) k (ds.drop (i+1)) je→LoopStepU C.h₀ C.L wr own (J (i+1)) {s with heap:=V,toks:=Hk} .next {s with heap:=h3,toks:=mM}:=λa g=>by
    cases a with
    |@mk N3 Z3 F3 A5 S3=>
     refine El.dI (S3.QY ho) λN' pm oE S4=>?_;refine ⟨rfl,h3,mM,jf.1,N',rfl,F3,λp hp=>?_,λp hp hw=>?_,je,jf.2,Z3,S4,g⟩
     ·rcases cF.mp hp with hp | hp
      ·rcases Q2 p.1 (Q6 p hp) with x | ⟨o,x⟩
       ·exact A5 p (pm.mem_iff.mpr (bO _ (mem_objs.mpr ⟨x,Hm p hp⟩)))
       ·rcases x with x | x
        ·have e1:=hA.ok.sub _ _ x;have e2:=(A4 p (bO _ hp)).2.2;rw [e1] at e2;exact El.sn e2
        ·have e1:=(A4 _ (bx _ (se.sub _ (se.hx _ x)))).1;have e2:=Hm p hp;have e3:o=p.2:=dC (e1.symm.trans e2);clear e1;subst e3;exact A5 p (S3.sub _ (S3.hx _ x))
      ·exact A5 p (pm.mem_iff.mpr (bx _ hp))
     ·cases e:V.get? p.1 with
      |none=>exact Q0 _ _ Q7 _ hw e
      |some o=>exact oE (p.1,o) (mem_objs.mpr ⟨hw,e⟩) p hp rfl
   cases f with
   |nx=>refine El.aa hf λcS a3=>?_;clear hf;subst cS;exact .next (fin a3 kf)
   |cnt=>refine El.aa hf λcS a3=>?_;clear hf;subst cS;exact .cont (fin a3 kf)
   |brk=>refine El.aa hf λcS a3=>?_;clear hf;subst cS;exact .brk (hQ .next .nx je jf h3 mM ⟨rfl,a3.drop.mK hX⟩ kf)
   |ret e=>
    refine El.au hf λv cS a3=>?_;clear hf;subst cS;exact .ret (hQ (.ret v) (.ret e) je jf h3 mM (El.aD v rfl (show At C je ((v,e)::τ) jf h3 from ((a3.perm (.swap _ _ _)).drop.mK hX))) kf)
 ·rintro h' tk m' N' F' Rc _ ⟨Y,K',Z',S',g'⟩
  rw [Yo (aI _)] at g';exact hQ .next .nx Y (m',K') h' tk ⟨rfl,.mk F' Rc (S'.mK hX)⟩ g'
theorem Rd {prog:bT}{w:aR}{A:cD}{E:af→aj→Prop}{J:Expr}{I:ao}{x l c:Int}{v:af}{Q:Unit→aj→Prop}{s:aj}(V:IsRangeIter s.heap I x l c) (h:Q () s):aF (aO prog w) A (Yp J (.ref I) v) Q E s:=by
 unfold Yp;cases J <;> first
  |exact bA h
  |(cases v <;> first
    |exact bA h
    |(refine aC (wpAny_load V ?_)
      exact bA h))
theorem Hq:∀{ds:List ag}{n i:Nat}{d:ag},(mD n ds)[i]? = some d→∃J,ds[i]? = some J∧d=.tuple [.int ((n+i:Nat):Int),J]:=@λA B C D F=>match A,B,C,D,F with
 |[],zz,Y,Z,h=>by cases h
 |x::r,n,0,d,h=>(El.aD x rfl (by cases h;rfl))
 |x::r,n,i+1,d,h=>by
  refine El.au (Hq (ds:=r) (n:=n+1) (i:=i) h) λJ V W=>?_;exact El.aD J V (by refine ae (W ..) (ae (gp ..) ?_);rfl)
theorem Hr:∀{ds:List ag}{n:Nat},(mD n ds).length=ds.length:=@λA B=>match A,B with
 |[],zz=>rfl
 |zz::r,n=>congrArg jj (Hr (ds:=r))
section
variable {C:Cx}{fs:c7}{σ:List Tr}{τ:List br}{φ:Fs}{s:aj}{Q:eE→aj→Prop}{k:KS}{ds:List ag}{q:Tg×Bool}{ir:SS}{t:Expr}{b:List cP}
noncomputable abbrev lA (fs:c7) (q:Tg×Bool) (ir:SS) (k:KS) (ds:List ag) (σ:List Tr):Prop:=dc (λd σ k=>ox q.1 q.2 d σ λJ=>bq (specs fs) ir J k) k ds σ
theorem vG {h₀ h:ar}{L:ao}{N:Led}{o:ay}(x:aW h₀ L h N):aW h₀ L (h.push o) N:=λp J=>⟨ar.get?_push_of_some _ (x p J).1,(x p J).2⟩
theorem vH {h₀ h:ar}{L:ao}{N:Led}(x:aW h₀ L h N) {b:ao}(J:h.objs.size≤b):∀p∈N,p.1≠b:=λp V e=>absurd (ar.lt_size (x p V).1) (jJ.mpr (e▸J))
theorem Hs (J:bV C fs) (hT:fh C.xs t q) (hB:∀X,bU (C.over X) fs (fI b C.env) ir) {d:ag}(hd:pY d=some ds) {v:af}(h:lA fs q ir k ds σ) (a:At C σ ((v,bw d)::τ) φ s.heap) (ho:cI τ) (hQ:jA C τ s Q k):Wp C (nF v) (λit Z=>qS C.pg C.w C.A C.h₀ C.env t b Q (λzz zz=>False) it Z) s:=by
 cases a with
 |@mk N ZL F hN S=>
  refine El.aa S.kU λr V=>?_;have bR:=At.bR J.ok F hN;have vI:C.env.locals<s.heap.objs.size:=J.ll▸F.ns.lt;have sb:∀b∈[s.heap.objs.size],C.h₀.get? b=none:=cR.mpr (next_is_new F);have hL:∀{l:ao}{o:ay},C.P.and ZL l o→C.env.locals∉[s.heap.objs.size,l]:=λ{l o} p=>by
   refine λx=>(cU.mp x).elim (λe=>ef vI e) λx=>?_;have e:=dk.mp x;rw [J.ll] at e;rcases p with p | p
   ·have:=J.ok.sub _ _ p;have hb:C.h₀.get? C.L=none:=ar.get?_none_of_le F.above;rw [e,this] at hb;exact El.sn hb
   ·exact (hN _ (V.sub _ p)).2.1 e.symm
  have vF:∀p∈N,p.1∉[s.heap.objs.size]:=λp hp x=>vH hN (aI _) p hp (dk.mp x);have Ht:∀{l:ao}{o:ay},C.P.and ZL l o→∀b∈[s.heap.objs.size,l],b∈[s.heap.objs.size]∨∃o,C.P.and ZL b o:=λ{l o} p=>bH.mpr ⟨.inl (.head _),cR.mpr (.inr ⟨o,p⟩)⟩;have item:∀{ws:List af}(g:bu (C.P.and ZL) ws ds) (i:Nat) (v:af) (h:ar) (d:ag),ws.toArray[i]? = some v→ds[i]? = some d→AZ (C.P.and ZL) q.2 d v h:=λ{ws} g i v h d e1 e2=>by
   refine El.au (g.get e2) λx e3 e4=>?_;rw [qN] at e1;cases e1.symm.trans e3
   exact .inl e4
  clear S;cases d with
  |list es=>
   cases hd
   refine El.dh r.listI λl ws n W p g=>?_;subst W;have hl:=kY bR (p.imp_left λp=>p.imp_right (V.sub _));have Y:l≠s.heap.objs.size:=λe=>absurd (ar.lt_size (bR _ _ (p.1.imp_right (V.sub _)))) (e▸ij _);refine Yq hl ?_;exact vE (s:={s with heap:=_}) J hT hB (by exact ae (eN ..) (ae (g.len ..) rfl)) (.ofWalks (Walks.list J.ok.hh s.heap.objs.size l Y ws.toArray) λi v s Q E st q=>letGo_listiter st.1 q) (hL p.1) sb (cu.mpr ⟨(λh=>El.nm h),iw⟩) (λi h st=>cR.mpr (by refine El.au st.1 λo e zz=>?_;refine ae (e ..) ?_;exact λh=>El.sn h)) (F.push _) (vG hN) V vF ⟨(El.ey _ (ar.get?_push_size _ rfl) rfl rfl),hl.at λo e=>ar.get?_push_of_some _ e⟩ (Ht p.1) (item g) h ho hQ
  |tuple es=>
   cases hd
   refine El.aP r.tupI λl ws W p g=>?_;subst W;have hl:s.heap.IsTuple l ws.toArray:=(El.kP _ (bR _ _ (p.imp_right (V.sub _))) rfl 0 rfl);have Y:l≠s.heap.objs.size:=λe=>absurd (ar.lt_size (bR _ _ (p.imp_right (V.sub _)))) (e▸ij _);refine wpAny_pyIter_tuple hl ?_;exact vE (s:={s with heap:=_}) J hT hB (by exact ae (eN ..) (ae (g.len ..) rfl)) (.ofWalks (Walks.tuple J.ok.hh s.heap.objs.size l Y ws.toArray) λi v s Q E st q=>letGo_tupleiter st.1 q) (hL p) sb (cu.mpr ⟨(λh=>El.nm h),iw⟩) (λi h st=>cR.mpr (by refine El.au st.1 λo e zz=>?_;refine ae (e ..) ?_;exact λh=>El.sn h)) (F.push _) (vG hN) V vF ⟨(El.ey _ (ar.get?_push_size _ rfl) rfl rfl),hl.at λo e=>ar.get?_push_of_some _ e⟩ (Ht p) (item g) h ho hQ
  |_=>exact El.ns hd
theorem Rf (W:bV C fs) (hT:fh C.xs t q) (hB:∀X,bU (C.over X) fs (fI b C.env) ir) {x y:Int}{r:ao}{t0 u0 v0:dS}(hr:IsRange s.heap r x y 1 t0 u0 v0) (hs:-(2 ^ 62)<x∧x<2 ^ 62∧-(2 ^ 62)<y∧y<2 ^ 62) (h:lA fs q ir k (j8 x y) σ) (a:At C σ τ φ s.heap) (ho:cI τ) (hQ:jA C τ s Q k):Wp C (nF (.ref r)) (λit V=>qS C.pg C.w C.A C.h₀ C.env t b Q (λzz zz=>False) it V) s:=by
 cases a with
 |@mk N ZL F Z S=>
  have Y:C.env.locals<s.heap.objs.size:=W.ll▸F.ns.lt;refine wpAny_pyIter_range hr (small_one (sT hs.1) hs.2.1 (sT hs.2.2.1) hs.2.2.2) ?_;have len:(j8 x y).length=(y-x).toNat:=by unfold j8;exact ae (bK ..) (ae (Ks ..) rfl)
  refine vE (s:={s with heap:=_}) W hT hB len.symm (.ofWalks (Walks.range W.ok.hh s.heap.objs.size x 1 (y-x).toNat) λi v s Q E st q=>Rd st q) ?_ (cR.mpr (next_is_new F)) (cu.mpr ⟨(λh=>El.nm h),iw⟩) (λi h st=>cR.mpr (by rw [show h.get? _=some _ from st];exact λh=>El.sn h)) (F.push _) (vG Z) S (λp hp x=>vH Z (aI _) p hp (dk.mp x)) ?_ (λb hb=>.inl hb) (λi v h d e1 e2=>?_) h ho hQ
  ·exact λx=>ef Y (dk.mp x)
  ·have:=ar.get?_push_size s.heap (o:={cls:=.type "range_iterator",data:=.fields #[wZ x,wZ (bZ.Range.rangeSize x y 1),wZ 1]}) rfl;rw [rangeSize_nat] at this ⊢;refine (?_:IsRangeIter _ _ _ _ _)
   simpa using this
  ·refine El.ea e1 λt J=>?_;clear e1;subst J;unfold j8 at e2;rw [kF] at e2;refine El.au (map_some e2) λj e3 J=>?_;clear e2;subst J;obtain ⟨hj,e4⟩:=fH.mp e3;rw [List.getElem_range] at e4;subst e4;refine ae (Int.mul_one ..) ?_;exact .inl (.int _ t)
theorem Rg (V:bV C fs) (hT:fh C.xs t q) (hq:q.2=true) (hB:∀X,bU (C.over X) fs (fI b C.env) ir) {v:af}(h:lA fs q ir k (mD 0 ds) σ) (a:At C σ ((v,bw (.list ds))::τ) φ s.heap) (ho:cI τ) (hQ:jA C τ s Q k):Wp C (call (.type "enumerate") [v]) (λxv Y=>Wp C (nF xv) (λit Z=>qS C.pg C.w C.A C.h₀ C.env t b Q (λzz zz=>False) it Z) Y) s:=by
 have hc:∃es kk p,t=.Tuple es kk p:=by
  clear h;cases hT with
  |nm=>exact El.ft hq
  |tup=>exact El.yj _ _ _ rfl
 refine El.nH hc λes kk p J=>?_;clear hc;subst J;cases a with
 |@mk N ZL F W S=>
  refine El.aa S.kU λr S'=>?_;have vI:C.env.locals<s.heap.objs.size:=V.ll▸F.ns.lt;refine El.dh r.listI λl ws n J pp g=>?_;clear S r;subst J;have hg:=At.bR V.ok F W _ _ (pp.1.imp_right (S'.sub _));have hl:=kY (At.bR V.ok F W) (pp.imp_left λp=>p.imp_right (S'.sub _));have fN:l<s.heap.objs.size:=ar.lt_size hg;refine call_enumerate_list hl λh' hE hI hsz hk=>wpAny_pyIter_enum hE ?_;have nd:[s.heap.objs.size+1,s.heap.objs.size].Nodup:=cu.mpr ⟨λx=>w8 _ (dk.mp x),cu.mpr ⟨(λh=>El.nm h),iw⟩⟩;refine vE (s:={s with heap:=h'}) V hT hB (by exact ae (eN ..) (ae (g.len ..) (ae (Hr ..) rfl))) (KTurns.ofWalksU (WalksT.enumerate V.ok.hh (s.heap.objs.size+1) s.heap.objs.size l (w8 _) (ktu_ne 1 fN) (ef fN) ws.toArray).toU) ?_ (bH.mpr ⟨ktu_new F (bc _ _),cR.mpr (ktu_new F (aI _))⟩) nd ?_ (F.keeps hk) (W.grown hk) S' ?_ (El.aK ⟨.none,hE⟩ hI (hl.at λo e=>hk l o e)) ?_ ?_ h ho hQ
  ·intro x;rcases cU.mp x with e | x
   ·exact ktu_ne 1 vI e
   ·rcases cU.mp x with e | x
    ·exact ef vI e
    ·have e:=dk.mp x;rw [V.ll] at e;rcases pp with p | p
     ·have:=V.ok.sub _ _ p;have hb:C.h₀.get? C.L=none:=ar.get?_none_of_le F.above;rw [e,this] at hb;exact El.sn hb
     ·exact (W _ (S'.sub _ p)).2.1 e.symm
  ·rintro i h ⟨⟨old,he⟩,⟨oi,Rh,_⟩,_⟩
   refine bH.mpr ⟨?_,cR.mpr (by refine ae (Rh ..) ?_;exact λh=>El.sn h)⟩
   rw [show h.get? _=some _ from he];exact λh=>El.sn h
  ·intro p hp x;rcases cU.mp x with e | x
   ·exact vH W (bc _ 1) p hp e
   ·exact vH W (aI _) p hp (dk.mp x)
  ·exact bH.mpr ⟨.inl (.head _),bH.mpr ⟨.inl (.tail _ (.head _)),cR.mpr (.inr ⟨_,pp.1⟩)⟩⟩
  ·rintro i v h d ⟨T,vals,rfl,⟨t,x,e1,rfl⟩,hT⟩ e2
   refine El.au (Hq e2) λdx e3 J=>?_;clear e2;subst J;refine El.au (g.get e3) λy e4 e5=>?_;rw [qN] at e1;cases e1.symm.trans e4
   exact .inr ⟨hq,T,_,t,x,dx,rfl,rfl,by refine ae (cQ ..) ?_;exact hT,e5⟩
end
noncomputable def ghost:List (Nat×Nat)→Nat→SS→SS:=@λA B C=>match A,B,C with
 |[],zz,r=>r
 |q::gh,l,r=>if q.1=l then .seq (if q.2=999 then .Aj else .fz q.2) (ghost gh l r) else ghost gh l r
section
variable {C:Cx}{fs:c7}{σ:List Tr}{τ:List br}{φ:Fs}{s:aj}{Q:eE→aj→Prop}{k:KS}{ds:List ag}{q:Tg×Bool}{ir:SS}{t a b it x:Expr}{bd:List cP}{e ia ib:SE}{fp p:aE}{f:ai}{r:List Expr}
theorem A6 (V:bV C fs) {T:String}(hg:j9 C f (.type T)) (Z:d9 C.env.scope f=true) (W:∀y∈x::r,notStar y=true) (Y:At C σ τ φ s.heap) {Q:af→aj→Prop}(h:Wp C (qO (iu p (fK (x::r) C.env))) (λvs J=>Keeps C.h₀ J.heap∧Wp C (call (.type T) vs) Q J) s):Wp C (dg (.Call (.Name f fp) (x::r) [] p) C.env) Q s:=by
 cases Y with
 |mk F N S=>
  refine El.aa (mz Z) λh1 h2=>?_;exact pb (hg C.env fp _ _ s V.e1 V.e2 V.e3 h1 h2 F (AD C.env p x r _ s W h))
noncomputable def qd (C:Cx) (fs:c7) (q:Tg×Bool) (ir:SS) (t:Expr) (bd:List cP) (i:It) (it:Expr):Prop:=∀(σ:List Tr) (k:KS) (τ:List br) (φ:Fs) (Q:eE→aj→Prop) (s:aj),Gf (specs fs) q.2 i σ (λds W=>lA fs q ir k ds W)→At C σ τ φ s.heap→cI τ→jA C τ s Q k→Wp C (dg it C.env) (λY J=>Wp C (nF Y) (λit V=>qS C.pg C.w C.A C.h₀ C.env t bd Q (λzz zz=>False) it V) J) s
theorem sf (J:bV C fs) {i:It}(hs:∀x,X8 it C.env x=pure x) (h:qd C fs q ir t bd i it):bU C fs (cZ (.For t it bd [] p) C.env) (.dY q.1 q.2 i ir):=by
 intro σ k g τ φ Q s a ho V;have w:=h σ k τ φ Q s g a ho V;cases a with
 |mk F N S=>exact For_turns (J.ll▸F) w hs
theorem Hu (Y:bV C fs) (Z:fh C.xs t q) (hB:∀X,bU (C.over X) fs (fI bd C.env) ir) {x y:Int}{r:ao}{t0 u0 v0:dS}{V:ar}{tk:Nat}{o:ay}(hr:IsRange (V.push o) r x y 1 t0 u0 v0) (g:(-(2 ^ 62)<x∧x<2 ^ 62∧-(2 ^ 62)<y∧y<2 ^ 62)∧lA fs q ir k (j8 x y) σ) (W:At C σ τ φ V) (ho:cI τ) (hQ:jA C τ s Q k):Wp C (nF (.ref r)) (λit J=>qS C.pg C.w C.A C.h₀ C.env t bd Q (λzz zz=>False) it J) {s with heap:=V.push o,toks:=tk}:=by
 refine Rf (s:={s with heap:=_,toks:=_}) Y Z hB hr g.1 g.2 (φ:=φ) (show At C σ τ φ (V.push o) from ?_) ho hQ
 cases W with | mk F N S=>exact .mk (F.push _) (vG N) S
theorem Ri (V:bV C fs) (Z:f=ai.ofString "range") (hb:d9 C.env.scope f=true) (J:∀y∈[b],notStar y=true) (hE:aU C fs ib b) (hT:fh C.xs t q) (hB:∀X,bU (C.over X) fs (fI bd C.env) ir):qd C fs q ir t bd (.mB (.lit (.int 0)) ib) (.Call (.Name f fp) [b] [] p):=by
 subst Z;intro σ k τ φ Q s h a ho hQ;have h:den (specs fs) ib σ (one λvb=>bC vb λy=>(-(2 ^ 62)<(0:Int)∧(0:Int)<2 ^ 62∧-(2 ^ 62)<y∧y<2 ^ 62)∧lA fs q ir k (j8 0 y) σ):=h;refine A6 V (V.g.gl (ai.ofString "range") (.tail _ (.tail _ (.tail _ (.tail _ (.tail _ (.head _)))))) _ rfl) hb J a (jl (hE σ _ h τ φ _ s a λv e h6 t6 W g6=>lW ⟨W.keeps,?_⟩) (dR (J _ (.head _))));refine El.aP (W.eH (show bC e _ from g6)) λy u Y g7 a7=>?_;clear W;subst Y;exact call_range_1 (Hu V hT hB (ar.get?_push_size _ rfl) g7 a7 ho hQ)
theorem Rj (Z:bV C fs) (hf:f=ai.ofString "range") (hb:d9 C.env.scope f=true) (J:∀y∈[a,b],notStar y=true) (hF:aU C fs ia a) (hE:aU C fs ib b) (hT:fh C.xs t q) (hB:∀X,bU (C.over X) fs (fI bd C.env) ir):qd C fs q ir t bd (.mB ia ib) (.Call (.Name f fp) [a,b] [] p):=by
 subst hf;intro σ k τ φ Q s h Y ho hQ;have h:den (specs fs) ia σ (one λva=>bC va λx=>den (specs fs) ib σ (one λvb=>bC vb λy=>(-(2 ^ 62)<x∧x<2 ^ 62∧-(2 ^ 62)<y∧y<2 ^ 62)∧lA fs q ir k (j8 x y) σ)):=h;refine A6 Z (Z.g.gl (ai.ofString "range") (.tail _ (.tail _ (.tail _ (.tail _ (.tail _ (.head _)))))) _ rfl) hb J Y (jl (hF σ _ h τ φ _ s Y λv e h8 t8 a8 g8=>?_) (dR (J _ (.head _))));refine El.aP (a8.eH (show bC e _ from g8)) λx u V g9 a9=>?_;clear a8;subst V;refine jl (hE σ _ g9 τ φ _ _ a9 λv e Y2 bN W vB=>lW ⟨W.keeps,?_⟩) (dR (J _ (.tail _ (.head _))));refine El.aP (W.eH (show bC e _ from vB)) λy u2 V AX vC=>?_;clear W;subst V;exact call_range_2 (Hu Z hT hB (ar.get?_push_size _ rfl) AX vC ho hQ)
theorem Rk (J:bV C fs) (hf:f=ai.ofString "enumerate") (hb:d9 C.env.scope f=true) (V:∀y∈[b],notStar y=true) (hE:aU C fs ib b) (hT:fh C.xs t q) (hB:∀X,bU (C.over X) fs (fI bd C.env) ir):qd C fs q ir t bd (.rN ib) (.Call (.Name f fp) [b] [] p):=by
 subst hf;intro σ k τ φ Q s h a ho hQ;refine A6 J (J.g.gl (ai.ofString "enumerate") (.tail _ (.tail _ (.tail _ (.tail _ (.tail _ (.tail _ (.head _))))))) _ rfl) hb V a (jl (hE σ _ h τ φ _ s a λv ev h6 t6 Z g6=>lW ⟨Z.keeps,?_⟩) (dR (V _ (.head _))));refine El.dP (mI J.ok (k:=λt W=>wD t.data λd=>match zV d with | some ds=>q.2=true∧lA fs q ir k (mD 0 ds) W | none=>False) g6 Z ho) λtr W a7 g7=>?_
 refine El.au (eP g7) λd e8 Y=>?_;cases d with
 |list ds=>cases a7 with
  |mk F N S=>cases S.pop J.ok with
   |mk _ S1 f _=>exact Rg (s:={s with heap:=h6,toks:=t6}) J hT Y.1 hB Y.2 (.mk F N (S1.dM (f tr rfl _ e8))) ho hQ
 |_=>exact Y.elim
theorem Rl (W:bV C fs) (Z:aU C fs e it) (hT:fh C.xs t q) (hB:∀X,bU (C.over X) fs (fI bd C.env) ir):qd C fs q ir t bd (.seq e) it:=by
 intro σ k τ φ Q s h a ho hQ;refine Z σ _ h τ φ _ s a λv ev h6 t6 a6 g6=>?_;refine El.dP (mI W.ok (k:=λt J=>wD t.data λd=>match pY d with | some ds=>lA fs q ir k ds J | none=>False) g6 a6 ho) λtr J a7 g7=>?_
 refine El.au (eP g7) λd e8 V=>?_;cases Y:pY d with
 |none=>rw [Y] at V;exact V.elim
 |some ds=>
  rw [Y] at V;cases a7 with
  |mk F N S=>cases S.pop W.ok with
   |mk _ S1 f _=>exact Hs (s:={s with heap:=h6,toks:=t6}) W hT hB Y V (.mk F N (S1.dM (f tr rfl _ e8))) ho hQ
theorem Rm {te:SE}(hT:eJ C fs te t) (hB:bU C fs (fI bd C.env) ir):bU C fs (cZ (.While t bd [] p) C.env) (.k6 te ir):=by
 intro σ k h τ φ Q s a ho hQ;have h:mE (λσ f=>den (specs fs) te σ (one λv=>j5 v f)) (bq (specs fs) ir) σ k:=h;cases h with
 |mk J n hJ turn=>
  refine Nu (λn s'=>∃σ φ h tk,s'={s with heap:=h,toks:=tk}∧At C σ τ φ h∧J n σ) ?_ n (El.jS σ φ s.heap s.toks rfl a hJ)
  rintro n s' ⟨Y,Hv,Hw,Gy,rfl,a1,Rn⟩
  refine hT Y _ (turn n Y Rn) τ Hv _ _ a1 λc h2 vw a2 g2=>?_;have g2:aZ c _ _:=g2;cases c with
  |false=>
   refine ae (if_neg (by simp) ..) ?_
   exact hQ .next .nx _ _ _ _ ⟨rfl,a2⟩ g2
  |true=>
   refine ae (if_pos rfl ..) ?_;refine hB Y _ g2 τ Hv _ {s with heap:=h2,toks:=vw} a2 ho λfl f je jf h3 mM W kf=>?_
   cases f with
   |nx=>refine El.aa W λV Z=>?_;clear W;subst V;refine El.au kf λn' l A7=>?_;clear kf;exact ⟨n',l,je,jf,h3,mM,rfl,Z,A7⟩
   |cnt=>refine El.aa W λV Z=>?_;clear W;subst V;refine El.au kf λn' l A7=>?_;clear kf;exact ⟨n',l,je,jf,h3,mM,rfl,Z,A7⟩
   |brk=>refine El.aa W λV Z=>?_;clear W;subst V;exact hQ .next .nx _ _ _ _ ⟨rfl,Z⟩ kf
   |ret e=>refine El.au W λv V Z=>?_;clear W;subst V;exact hQ (.ret v) (.ret e) _ _ _ _ (El.aD v rfl Z) kf
theorem Ro (Y:C.Ok) {i:Nat}{c:fY eE}(hc:bU C fs c ir):bU C fs c (.seq (.fz i) ir):=by
 intro σ k h τ φ Q s a ho V;refine El.aP (AF (show k7 σ i (λJ=>bq (specs fs) ir J k) from h)) λt d e1 e2 h=>?_;cases a with
 |mk F N S=>
  refine El.dI (S.k7 e1 e2) λbp zz W zz=>?_;exact hc _ k h τ φ Q s (.mk F N W) ho V
theorem vJ (J:C.Ok) {l:Nat}{c:fY eE}(hc:bU C fs c ir):∀gh:List (Nat×Nat),bU C fs c (ghost gh l ir):=@λA=>match A with
 |[]=>hc
 |q::gh=>by
  show bU C fs c (if _ then _ else _)
  by_cases e:q.1=l
  ·refine ae (if_pos e ..) ?_;by_cases e2:q.2=999
   ·refine ae (if_pos e2 ..) ?_;intro σ k h τ φ Q s a ho W;cases (show vk σ (λV=>bq (specs fs) (ghost gh l ir) V k) from h) with
    |mk Y Z q3 q4 q5=>exact vJ J hc gh _ _ q5 _ _ _ _ (Qn Y Z q3 q4 a) ho W
   ·refine ae (if_neg e2 ..) ?_;exact Ro J (vJ J hc gh)
  ·refine ae (if_neg e ..) ?_;exact vJ J hc gh
theorem Rp {st:cP}{r:List cP}{x y:SS}(h1:bU C fs (cZ st C.env) x) (h2:bU C fs (fI r C.env) y):bU C fs (fI (st::r) C.env) (.seq x y):=by
 intro σ k h τ φ Q s a ho Z;refine wpAny_execs_cons (h1 σ _ h τ φ _ s a ho λfl f je jf h3 mM V Y=>?_);cases f with
 |nx=>refine El.aa V λJ W=>?_;clear V;subst J;exact h2 je k Y τ jf Q _ W ho λfl f Rq Rr h4 Ru V Y=>Z fl f Rq Rr h4 Ru V Y
 |cnt=>refine El.aa V λJ W=>?_;clear V;subst J;exact Z _ .cnt _ _ _ _ ⟨rfl,W⟩ Y
 |brk=>refine El.aa V λJ W=>?_;clear V;subst J;exact Z _ .brk _ _ _ _ ⟨rfl,W⟩ Y
 |ret e=>refine El.au V λv J W=>?_;clear V;subst J;exact Z _ (.ret e) _ _ _ _ (El.aD v rfl W) Y
theorem Rv:bU C fs (fI [] C.env) .nil:=λσ k h τ φ Q s a ho J=>XG (J _ .nx _ _ _ _ ⟨rfl,a⟩ h)
theorem Rw {c:fY eE}:bU C fs c .bad:=λzz zz h=>(show False from h).elim
theorem Rx {te:SE}{J:SS}{b2:List cP}(hT:eJ C fs te t) (h1:bU C fs (fI bd C.env) ir) (h2:bU C fs (fI b2 C.env) J):bU C fs (cZ (.If t bd b2 p) C.env) (.cO te ir J):=λσ k h τ φ Q s a ho hQ=>wpAny_If (hT σ _ h τ φ _ s a λc Z t4 a4 g4=>GF (show aZ c (bq (specs fs) ir σ k) (bq (specs fs) J σ k) from g4) (λg=>h1 σ k g τ φ Q _ a4 ho λfl f V W Z Y hf kf=>hQ fl f V W Z Y hf kf) λg=>h2 σ k g τ φ Q _ a4 ho λfl f V W Z Y hf kf=>hQ fl f V W Z Y hf kf)
theorem Ry {x:ai}{n:Nat}{p2:aE}(J:bV C fs):bU C fs (cZ (.Expr (.Constant (.str x) n p2) p) C.env) .nil:=λσ k h τ φ Q s a ho V=>xf (Constant_str (V .next .nx _ _ s.heap _ ⟨rfl,a⟩ h)) (sa J) rfl
theorem Rz:bU C fs (cZ (.Return none p) C.env) (.ret (.lit .none)):=λσ k h τ φ Q s a ho J=>wpAny_Return_none (J (.ret .none) (.ret (bw .none)) _ _ s.heap s.toks (El.aD _ rfl (a.val λzz=>.none)) h)
theorem RA:bU C fs (cZ (.Break p) C.env) .brk:=λσ k h τ φ Q s a ho J=>wpAny_Break (J .brk .brk _ _ s.heap s.toks ⟨rfl,a⟩ h)
theorem RB:bU C fs (cZ (.Continue p) C.env) .cnt:=λσ k h τ φ Q s a ho J=>wpAny_Continue (J .cont .cnt _ _ s.heap s.toks ⟨rfl,a⟩ h)
theorem RC:bU C fs (cZ (.Pass p) C.env) .nil:=λσ k h τ φ Q s a ho J=>wpAny_Pass (J .next .nx _ _ s.heap s.toks ⟨rfl,a⟩ h)
theorem RD (J:aU C fs e x):bU C fs (cZ (.Return (some x) p) C.env) (.ret e):=λσ k h τ φ Q s a ho V=>wpAny_Return_some (J σ _ h τ φ _ s a λv e Y t3 W g3=>V (.ret v) (.ret e) _ _ _ _ (El.aD v rfl W) g3)
end
section
variable {C:Cx}{fs:c7}{σ:List Tr}{τ:List br}{φ:Fs}{s:aj}{i j:Nat}{xn yn:ai}{v:af}{t:Tr}{p xp yp:aE}{k:List Tr→Prop}{Q:Unit→aj→Prop}
theorem RE (V:bV C fs) (hx:C.xs[i]? = some xn) (hy:C.xs[j]? = some yn) {k:KS}(h:u7 σ i j λJ=>k .nx J) {Q:eE→aj→Prop}(a:At C σ τ φ s.heap) (ho:cI τ) (hQ:jA C τ s Q k):Wp C (cZ (.Assign [.Name xn xp] (.Name yn yp) p) C.env) Q s:=by
 cases h with
 |@mk n g Z h2=>cases a with
  |mk F N S=>
   obtain ⟨bp,S'⟩:=S.lay (t':=cj (ff g)) Z (λe=>nomatch e) λO v r=>by
    obtain ⟨zz,b,o,W,Y,lo,hd⟩:=r;subst W;subst Y;exact ⟨lu r7,rfl,b,o,n,rfl,(.inr (.head _)),lo,(hd.mono λa o q=>q.imp_right (qA _))⟩
   have lj:(σ.set j (cj (ff g)))[j]? = some (cj (ff g)):=CT (fH.mp Z).1;refine El.au (S'.kc lj) λw rd r=>?_;exact KG (V.ok.ld yp hy F N S.d8 rd (ka (o:=.own) V.ok V.s hx h2 (.mk F N (S'.mr (El.aK (lu r7) rfl r))) ho λJ jB h' tk a3 g3=>hQ _ .nx _ _ _ _ ⟨rfl,a3⟩ g3)) (qb rfl)
theorem RF (hA:bV C fs) (hx:C.xs[i]? = some xn) (hy:C.xs[j]? = some yn) (h:u9 σ t i j k) (a:At C σ ((v,.ow t)::τ) φ s.heap) (hQ:∀J h' tk,At C J ((v,.ow t)::τ) φ h'→k J→Q () {s with heap:=h',toks:=tk}):Wp C (gA (.Subscript (.Name xn xp) (.Name yn yp) p) C.env v) Q s:=by
 cases h with
 |@mk n g c d e h1 h2 h3 h4=>
  subst e;cases a with
  |mk F N S=>
   have hv:=S.kU.1;refine El.au (S.slot h1 λe=>nomatch e) λw W hw=>?_;clear h1;cases hw _ rfl with
   |int _ tc=>
   cases S.od h2 with
   |@mk b o rest rd pN ne hz hd V=>
    refine El.dI hd.d λkv hk hl ht=>?_;have N':=fC N pN;have nb:=N' (b,o) (.head _);refine AU (hA.ok.ld xp hx F N S.d8 rd (hA.ok.ld yp hy F N S.d8 W (wpAny_setItem_pairs (hsz:=by unfold cE;omega) (s7 C.pg C.w c tc) (ar.dictOf_iff.mpr ⟨o,nb.1,hk C.pg C.w⟩) λh' Y hs=>?_)))
    refine El.au (ar.dictOf_iff.mp Y) λo' Z jX=>?_;exact hQ _ h' _ (.mk (F.change hs nb.2.1 nb.2.2) (N'.setIn (own:=[]) (λ_ h=>nomatch h) ne hs Z) (V o' (n+1) _ ⟨_,λ_ _=>uH jX,az (Yr _ _ _) (cY hl),λx=>by
     refine ae (Fc ..) ?_;by_cases e:x=c
     ·refine ae (if_pos e ..) (ae (if_pos e ..) ?_);exact ⟨v,rfl,hv⟩
     ·refine ae (if_neg e ..) (ae (if_neg e ..) ?_);exact ht x⟩)) h4
end
theorem RG {M:nE}{A:cD}{E:af→aj→Prop}{s:aj}{env:cL}{o:Expr}{nm:ai}{p:aE}{v:af}{Q:Unit→aj→Prop}(h:aF M A (dg o env) (λY J=>aF M A (setAttr Y nm v) Q E J) E s):aF M A (gA (.Attribute o nm p) env v) Q E s:=by
 refine ae (assign_Attribute ..) ?_;exact aC (eM (fX h (λY J V=>aC (Kg (aC (eM (fX V (λzz Z W=>wpAny_release W) λzz zz x=>x))))) λzz zz x=>x))
inductive fU (xs:List ai):Expr→j7→Prop
 |nm {x:ai}{i:Nat}{o:Ow}{p:aE}:xs[i]? = some x→fU xs (.Name x p) (.nm i o)
 |du {x nm:ai}{i j:Nat}{xp p:aE}:xs[i]? = some x→bR[j]? = some nm→fU xs (.Attribute (.Name x xp) nm p) (.du i j)
 |tp {es:List Expr}{k:Nat}{p:aE}{is:Tg}{ys:List ai}:bB (λ(q:Nat×Ow) x=>xs[q.1]? = some x) is ys→bB (λe x=>∃p,e=Expr.Name x p) es ys→fU xs (.Tuple es k p) (.tp is)
 |om {x y:ai}{i j:Nat}{xp yp p:aE}:xs[i]? = some x→xs[j]? = some y→fU xs (.Subscript (.Name x xp) (.Name y yp) p) (.om i j)
theorem fU.each {xs:List ai}{e:Expr}{g:j7}(h:fU xs e g) {r:List Expr}{env:cL}:(iq (e::r) env).map (·.2)=gA e env::(iq r env).map (·.2):=by
 cases h <;> rfl
section
variable {C:Cx}{fs:c7}{σ:List Tr}{τ:List br}{φ:Fs}{s:aj}{v:af}{t:Tr}{e e1 e2 e3 x:Expr}{g g1 g2 g3:j7}{ia:SE}{p xp p1:aE}{i j:Nat}{xn nm:ai}{k:List Tr→Prop}
theorem Hx {P:Fz}{d:ag}(h:Dat P v d):lV v=true:=by
 cases h <;> rfl
theorem RH {P:Fz}{O:Led}(h:Rep P t O v) (V:iF t=true):lV v=true:=by
 cases t with
 |dat d=>exact Hx h.2
 |dl ds=>refine El.l6 h λa n ws J zz=>?_;clear h;subst J;rfl
 |ol ts=>obtain ⟨a,n,ws,Oz,J,zz⟩:=h;subst J;rfl
 |ot ts=>refine El.l6 h λa ws Oz J zz=>?_;clear h;subst J;rfl
 |_=>exact El.ft V
theorem Hy {P:Fz}{O:Led}(hc:k9 t) (h:Rep P t O v):O=[]∧lV v=true:=by
 cases hc with
 |dat d=>exact ⟨h.1,Hx h.2⟩
 |fz m n=>exact ⟨h.2.1,n _ _ h.2.2⟩
theorem A8 (hA:Al C fs) {a:aY}{Q:Unit→aj→Prop}{N ZL:Led}(hx:C.xs[i]? = some xn) (hn:bR[j]? = some nm) (h:rT σ i j a k) (F:Fr C.h₀ C.L s.heap φ.1) (Y:aW C.h₀ C.L s.heap N) (S:Sp C σ τ φ.1 N φ.2 ZL) (hv:jZ (C.P.and ZL) a v) (hi:lV v=true) (hQ:∀J h' tk,At C J τ φ h'→k J→Q () {s with heap:=h',toks:=tk}):Wp C (gA (.Attribute (.Name xn xp) nm p) C.env v) Q s:=by
 cases h with
 |@mk y as h1 hj hk=>cases S.inst h1 with
  |@mk es n rest r ha Z hz V=>
   refine RG (hA.ok.ld xp hx F Y S.d8 r ?_);have W:N.Perm ((y.2,fj es n)::(y.1,fZ 242 y.2)::rest):=Z.trans (.swap _ _ _);have nd:=(cu.mp ((W.map (λq:ao×ay=>q.1)).nodup_iff.mp S.nd)).1;refine hA.g.du.set ⟨F,(Y _ (Z.mem_iff.mpr (.head _))).1,(Y _ (Z.mem_iff.mpr (.tail _ (.head _)))).1,ha⟩ (fC Y W) (λq hq e=>nd (bL.mpr (El.aD q hq e))) hn hj.1 hi λh' vo n' tk F' N' up=>hQ _ h' tk (.mk F' (fC N' (.swap _ _ _)) (V (T:=[]) (El.rg rfl vo n' rfl (up _ _ _ ha hv)) rfl iw λzz h=>El.nm h)) hk
theorem At.Hz {h:ar}(hc:k9 t) (a:At C σ ((v,.ow t)::τ) φ h):At C σ ((v,.ow t)::(v,.ow t)::τ) φ h:=by
 cases a with
 |mk F N S=>cases S.top with
  |mk r _ _ _=>exact .mk F N (S.mr (show Rep _ t [] v from (Hy hc r).1▸r))
theorem qe (V:bV C fs) (hT:fU C.xs e g) {Q:Unit→aj→Prop}(h:Gg σ t k g) (hc:k9 t) (a:At C σ ((v,.ow t)::τ) φ s.heap) (ho:cI τ) (W:∀J Y h' tk,At C J ((v,.ow t)::τ) Y h'→k J→Q () {s with heap:=h',toks:=tk}):Wp C (gA e C.env v) Q s:=by
 cases hT with
 |nm hx=>exact assign_Name (ka V.ok V.s hx h (a.Hz hc) (vv ho) W)
 |du hx hn=>cases a with
  |mk F N S=>cases S.top with
   |mk r _ _ _=>
    refine El.aa (Hy hc r) λZ hi=>?_;clear a_1 a_2;subst Z;exact A8 V.toAl hx hn h F N S r hi λJ h' tk a g=>W J φ h' tk a g
 |om hx hy=>exact RF V hx hy h a λJ h' tk a g=>W J φ h' tk a g
 |tp n1 n2=>
  refine El.au (oH (show wL (mC t) _ from h)) λts e1 h=>?_;exact r9 V n1 n2 e1 h (a.Hz hc) (vv ho) W
theorem A9 (V:bV C fs) {v:af}{W:Ev}{h:ar}{k:Tr→List Tr→Prop}(g:iN σ W λt J=>Ao t λt'=>k t' J) (a:At C σ ((v,W)::τ) φ h) (ho:cI τ):∃t J,At C J ((v,.ow t)::τ) φ h∧k9 t∧k t J:=by
 refine El.dP (mI V.ok (k:=λt J=>Ao t λt'=>k t' J) g a ho) λt J a2 g2=>?_;have g2:(match t.data with
  |some d=>k (.dat d) J
  |none=>k9 t∧k t J):=g2
 cases e:t.data with
 |none=>rw [e] at g2;exact El.bP t J a2 g2.1 g2.2
 |some d=>
  rw [e] at g2;cases a2 with
  |mk F N S=>cases S.pop V.ok with
   |mk _ Y f _=>exact El.bP (.dat d) J (.mk F N (Y.dM (f t rfl d e))) (.dat d) g2
theorem RI (V:bV C fs) (W:jv x=true) (Y:fU C.xs (.Attribute e nm p1) g) (Z:aU C fs ia x):bU C fs (cZ (.Assign [.Attribute e nm p1] x p) C.env) (.cM [g] ia):=by
 refine λσ k h τ φ Q s a ho hQ=>wpAny_Assign_stores (Z σ _ h τ φ _ s a λv ev h1 t1 a1 q1=>?_) (qb (t:=some (.Attribute e nm p1)) (l:=p.line) (env:=C.env) W) rfl;refine El.aP (A9 (k:=λt J=>mF t (λJ=>k .nx J) [g] J) V q1 a1 ho) λt J a2 hc q2=>?_;exact qe (k:=λJ=>k .nx J) (s:={s with heap:=h1,toks:=t1}) V Y q2 hc a2 ho λje jf h3 tk a3 q3=>hQ _ .nx _ _ _ _ ⟨rfl,a3.drop⟩ q3
theorem RJ (V:bV C fs) (W:fU C.xs e1 g1) (Y:fU C.xs e2 g2) (Z:aU C fs ia x):bU C fs (cZ (.Assign [e1,e2] x p) C.env) (.cM [g1,g2] ia):=by
 refine λσ k h τ φ Q s a ho hQ=>KJ (Z σ _ h τ φ _ s a λv ev h3 t3 a3 q3=>?_) (by refine ae (W.each ..) (ae (Y.each ..) ?_);rfl) (by clear h;cases W <;> rfl)
 refine El.aP (A9 (k:=λt J=>mF t (λJ=>k .nx J) [g1,g2] J) V q3 a3 ho) λt J a4 hc q4=>?_;exact qe (k:=mF t (λJ=>k .nx J) [g2]) V W q4 hc a4 ho λHA Y3 h5 t5 a5 q5=>qe (k:=λJ=>k .nx J) (s:={s with heap:=h5,toks:=t5}) V Y q5 hc a5 ho λvK vL h6 t6 a6 q6=>hQ _ .nx _ _ _ _ ⟨rfl,a6.drop⟩ q6
theorem RK (V:bV C fs) (W:fU C.xs e1 g1) (Y:fU C.xs e2 g2) (Z:fU C.xs e3 g3) (hE:aU C fs ia x):bU C fs (cZ (.Assign [e1,e2,e3] x p) C.env) (.cM [g1,g2,g3] ia):=by
 refine λσ k h τ φ Q s a ho hQ=>wpAny_Assign_three (hE σ _ h τ φ _ s a λv ev h4 t4 a4 q4=>?_) (by refine ae (W.each ..) (ae (Y.each ..) (ae (Z.each ..) ?_));rfl) (by clear h;cases W <;> rfl)
 refine El.aP (A9 (k:=λt J=>mF t (λJ=>k .nx J) [g1,g2,g3] J) V q4 a4 ho) λt J a5 hc q5=>?_;exact qe (k:=mF t (λJ=>k .nx J) [g2,g3]) V W q5 hc a5 ho λvK vL h6 t6 a6 q6=>qe (k:=mF t (λJ=>k .nx J) [g3]) (s:={s with heap:=h6,toks:=t6}) V Y q6 hc a6 ho λY4 Y5 h7 t7 a7 q7=>qe (k:=λJ=>k .nx J) (s:={s with heap:=h7,toks:=t7}) V Z q7 hc a7 ho λY6 Y7 h8 t8 a8 q8=>hQ _ .nx _ _ _ _ ⟨rfl,a8.drop⟩ q8
theorem RL (W:bV C fs) {n:Nat}{o:Ow}{yn:ai}(hx:C.xs[i]? = some xn) (Z:bR[j]? = some nm) (hy:C.xs[n]? = some yn) (hE:aU C fs ia x):bU C fs (cZ (.Assign [.Attribute (.Name xn xp) nm p1,.Name yn p2] x p) C.env) (.uY i j n o ia):=by
 refine λσ k h τ φ Q s a ho hQ=>KJ (hE σ _ h τ φ _ s a λv ev h3 t3 a3 q3=>?_) rfl rfl;refine El.aP (mI W.ok (k:=λt V=>iF t=true∧rT V i j .any λY=>jw Y n o t λJ=>k .nx J) q3 a3 ho) λt V a4 hi q4=>?_;cases a4 with
 |mk F N S=>cases S.top with
  |mk r _ _ _=>exact A8 (s:={s with heap:=h3,toks:=t3}) W.toAl hx Z q4 F N S trivial (RH r hi) λHA h5 t5 a5 q5=>assign_Name (ka (k:=λJ=>k .nx J) (s:={s with heap:=h5,toks:=t5}) W.ok W.s hy q5 a5 ho λvK vL h6 t6 a6 q6=>hQ _ .nx _ _ _ _ ⟨rfl,a6⟩ q6)
variable {mi:Nat}{g:Mn}{xs:List Expr}{ap pp:aE}{q:Tg×Bool}{ir:SS}{tg:Expr}{bd:List cP}
theorem RM (J:bV C fs) (hx:C.xs[i]? = some xn) (hm:fs.m[mi]? = some g∧g.nm=nm) (V:fg C fs ia xs) (st:∀y∈xs,notStar y=true) (hl:xs.length<30) (W:(ap.endLine == pp.line)=true):bU C fs (cZ (.Expr (.Call (.Attribute (.Name xn xp) nm ap) xs [] pp) p) C.env) (.oq i mi ia):=by
 intro σ k h τ φ Q s a ho Y;cases (show jc σ i _ from h) with
 |@mk x as Z h2=>exact xf (AL J.toAl hx hm V st hl W Z h2 a λu d jy h' tk a2 g2=>Y .next .nx _ φ h' tk ⟨rfl,a2.drop⟩ g2) (sa J) rfl
theorem RN (V:bV C fs) (hx:C.xs[i]? = some xn) (hm:fs.m[mi]? = some g∧g.nm=nm) (W:fg C fs ia xs) (st:∀y∈xs,notStar y=true) (hl:xs.length<30) (Y:(ap.endLine == pp.line)=true) (Z:fh C.xs tg q) (hB:∀X,bU (C.over X) fs (fI bd C.env) ir):qd C fs q ir tg bd (.uV i mi ia) (.Call (.Attribute (.Name xn xp) nm ap) xs [] pp):=by
 intro σ k τ φ Q s h a ho hQ;cases (show jc σ i _ from h) with
 |@mk x as h1 h2=>
  refine AL V.toAl hx hm W st hl Y h1 h2 a λu d jy h' tk a2 g2=>?_;cases J:pY d with
  |none=>rw [J] at g2;exact g2.elim
  |some ds=>
   rw [J] at g2;exact Hs (s:={s with heap:=h',toks:=tk}) V Z hB J g2 a2 ho hQ
theorem RO:jk (.builtin "list.sort")=pure (.type "method_descriptor"):=by kernel_rfl
inductive HB (C:Cx) (σ:List Tr) (τ:List br) (m:ai→Option af) (N K ZL:Led) (i:Nat) (ds:List ag):Prop
 |mk {a:ao}{n:Nat}{ws:List af}{rest:Led}:C.rd m K i (.ref a)→N.Perm ((a,bF ws n)::rest)→(∀q∈rest,q.1≠a)→(∀q∈ZL,q∈rest)→bu (C.P.and ZL) ws ds→(∀{fT:List af}{n':Nat}{es:List ag},bu (C.P.and ZL) fT es→Sp C (σ.set i (.dl es)) τ m ((a,bF fT n')::rest) K ZL)→HB C σ τ m N K ZL i ds
theorem Sp.HC (W:C.Ok) {m:ai→Option af}{N K ZL:Led}{ds:List ag}(S:Sp C σ τ m N K ZL) (hi:σ[i]? = some (.dl ds)) (ho:cI τ):HB C σ τ m N K ZL i ds:=by
 refine El.au (S.slot hi λe=>nomatch e) λw r1 zz=>?_;have S1:=S.uS (p:=[]) r1 (show d6 N w [] w from rfl);have gT:∀a,w=.ref a→∀q∈ZL,q.1≠a:=λa e q V e2=>by
  cases S with
  |@mk Os Ot vs nd pm rs ln mp Y hx=>
   refine El.fo (rs.focus hi) λv A B e1 J e3 zz=>?_;obtain ⟨b,k,us,rfl,rfl,_⟩:=J;cases (W.uq r1 (mp i _ _ e1 hi λe=>nomatch e)).symm.trans e
   have n1:=((pm.trans ((e3.append_right _).append_left _)).map (λq:ao×ay=>q.1)).nodup_iff.mp nd;rw [bG,bG] at n1;exact (fJ.mp (fJ.mp n1).2.1).2.2 a (.head _) q.1 (bL.mpr (El.aD q (bx _ V) rfl)) e2.symm
 clear zz;cases S1.write W hi (show ek (.dl ds) []=some (.dl ds) from rfl) (λe=>El.sn e) with
 |@mk a n ws Oz Ot rest Z ne rp Y g=>
  refine El.aa (Sp.r5 rp) λJ hw=>?_;clear rp;subst J;exact .mk r1 Z ne (λq V=>(cU.mp (Z.mem_iff.mp (S.sub q V))).resolve_left λe=>gT a rfl q V (by exact ae (e ..) rfl)) hw λ{fT n' es} h=>g (.jd h) (Y.any ho) (.refl _) _ hi
theorem RQ (Z:bV C fs) {ts:List Expr}{is:Tg}{ys:List ai}{kk:Nat}{tp:aE}(n1:bB (λ(q:Nat×Ow) x=>C.xs[q.1]? = some x) is ys) (n2:bB (λe x=>∃p,e=Expr.Name x p) ts ys) (hm:nm=ai.ofString "pop") (hl:(ap.endLine == pp.line)=true) (hx:C.xs[i]? = some xn):bU C fs (cZ (.Assign [.Tuple ts kk tp] (.Call (.Attribute (.Name xn xp) nm ap) [] [] pp) p) C.env) (.uZ is i):=by
 subst hm;refine λσ k h τ φ Q s a ho hQ=>CW (lr (λzz h=>El.nm h) (aL rfl) (λzz zz zz=>rfl) hl ?_) (vA rfl) (AR rfl);cases (show vm σ i _ from h) with
 |@mk r d h1 h2 h3=>cases a with
  |mk F N S=>cases S.HC Z.ok h1 ho with
   |@mk a n ws rest rv pN ne hz hw V=>
    refine Z.ok.ld xp hx F N S.d8 rv (xg (fC N pN) (.head _) Ym Yn (Ys ?_));refine El.aP hw.split λw1 w2 J W Y=>?_;clear hw;subst J;obtain ⟨v,rfl⟩:∃v,w2=[v]:=by
     refine El.aP Y.iJ λv q J zz hq=>?_;subst J;obtain rfl:=hq.nX;exact ⟨v,rfl⟩
    refine kl_pop F (fC N pN) (kpa_last _ _) (.head ne) (by unfold cE;refine ae (aJ ..) (ae (W.len ..) ?_);refine (?_:r.length+1≤_);have:r.length<2 ^ 24:=h2;omega) λh' F' N'=>?_
    refine El.au (oH h3) λus e1 g3=>?_;exact r9 (s:={s with heap:=h'}) Z n1 n2 (t:=.dat d) (by cases d <;> first | exact e1 | exact nomatch e1) g3 (.mk F' N' ((V W).dM Y.1)) ho λdZ jB h' tk a3 g3=>hQ _ .nx _ _ _ _ ⟨rfl,a3⟩ g3
theorem RR (J:bV C fs) (hm:nm=ai.ofString "sort") (hl:(ap.endLine == pp.line)=true) (hx:C.xs[i]? = some xn):bU C fs (cZ (.Expr (.Call (.Attribute (.Name xn xp) nm ap) [] [] pp) p) C.env) (.u4 i):=by
 subst hm;refine λσ k h τ φ Q s a ho Z=>xf (lr (λzz h=>El.nm h) (aL rfl) (λzz zz zz=>rfl) hl ?_) (sa J) rfl;cases (show Ap σ i _ from h) with
 |@mk bl total h1 h2 h3 h4 h5=>cases a with
  |mk F N S=>cases S.HC J.ok h1 ho with
   |@mk a n ws rest rv Y ne hz hw V=>
    refine J.ok.ld xp hx F N S.d8 rv (xg (fC N Y) (.head _) Zo RO (Ys ?_));exact J.g.df.so _ _ a n ws rest bl total _ s F (fC N Y) ne (λb o q=>q.imp (J.ok.sub _ _) (hz _)) hw h2 h3 h4 λh' tk fT n' F' N' W=>Z .next .nx _ φ h' tk ⟨rfl,.mk F' N' (V W)⟩ h5
end
section
variable {C:Cx}{fs:c7}{σ:List Tr}{τ:List br}{φ:Fs}{s:aj}{i:Nat}{m:ai→Option af}{N KL ZL:Led}{v v2:af}{t t2:Tr}
inductive HD (C:Cx) (σ:List Tr) (τ:List br) (m:ai→Option af) (N KL ZL:Led) (i:Nat) (t t2:Tr) (v2:af):Prop
 |mk {v:af}{O O2 rest:Led}:C.rd m KL i v→Rep (C.P.and ZL) t O v→Rep (C.P.and ZL) t2 O2 v2→N.Perm (O++(O2++rest))→(∀q∈ZL,q∈rest)→(∀t' O',Rep (C.P.and ZL) t' O' v→(adr (O'++rest)).Nodup→Sp C (σ.set i t') τ m (O'++rest) KL ZL)→HD C σ τ m N KL ZL i t t2 v2
theorem Sp.HE (S:Sp C σ ((v2,.ow t2)::τ) m N KL ZL) (ho:cI τ) (hi:σ[i]? = some t) (nu:t≠.un):HD C σ τ m N KL ZL i t t2 v2:=by
 cases S with
 |@mk Os Ot vs nd pm rs ln mp J hx=>
  refine El.aP J ?_;clear J;intro O2 Or V r2 J;subst V;refine El.fo (rs.focus hi) λw A B e1 r e3 f=>?_;refine .mk (mp i _ _ e1 hi nu) r r2 (rest:=Or++(B++(KL++ZL))) (pm.trans ?_) (λq h=>bx _ (bx _ (bx _ h))) λt' O' hr W=>?_
  ·refine ((e3.append_right (KL++ZL)).append_left (O2++Or)).trans ?_;refine ae (aH ..) (ae (aH ..) ?_);exact (sW O2 (cV _ _ _)).trans (cV _ _ _)
  ·refine El.au (f (P':=C.P.and ZL) (v':=w) (λzz zz h=>h) hr) λY g1 g2=>?_;rw [AM e1] at g1;refine .mk (Os:=Y) (Ot:=Or) W ?_ g1 (by refine ae (qR ..) ?_;exact ln) (λj y z Z c1 d1=>?_) (J.any ho) hx
   ·refine (cV _ _ _).trans (.append_left Or ?_);refine ae (aH ..).symm ?_;exact g2.symm.append_right _
   ·by_cases e:j=i
    ·clear f g1 c1;subst e;rw [e1] at Z;cases Z;exact mp j _ _ e1 hi nu
    ·have e':i≠j:=λq=>e q.symm;rw [pd e'] at c1;exact mp j y z Z c1 d1
section
variable {P:Fz}{a:ao}{n:Nat}{g:Int→Option (List ag)}{l:Option (Int×ao)}{o:ay}{ls:Led}{kv:List (Int×af)}{c:Int}{b:ao}
theorem mN {d:List ag}:lg g c d c=some d:=if_pos rfl
theorem mP {d:List ag}{x:Int}(h:x≠c):lg g c d x=g x:=if_neg h
theorem gf.there (T:gf P a n g l o ls kv) {v:af}(h:valueAt kv c=some v):∃b,v=.ref b∧gf P a (n+1) (lg g c ((g c).getD [])) (some (c,b)) o ls kv:=by
 cases e:g c with
 |none=>rw [T.no c e] at h;exact El.ns h
 |some ds=>
  refine El.dh (T.ye c ds e) λb ws k J W Y=>?_;rw [J] at h;cases h
  refine ⟨b,rfl,T.lo,T.d,gw T.n,λx hx=>?_,λx V hx=>?_,T.inj,λZ b' q=>?_⟩
  ·by_cases q:x=c
   ·clear e J;subst q;rw [mN] at hx;exact El.sn hx
   ·rw [mP q] at hx;exact T.no x hx
  ·by_cases q:x=c
   ·clear J;subst q;rw [mN] at hx;cases hx;exact T.ye x ds e
   ·rw [mP q] at hx;exact T.ye x V hx
  ·cases q;exact J
theorem gf.made (T:gf P a n g l o ls kv) {o':ay}{b k:ao}{ws:List af}(h:valueAt kv c=none) (hd:∀(pg:bT) (w:aR),o'.IsDictOf (ip pg w) (stored kv c (.ref b))) (hw:bu P ws []) (hb:∀q∈ls,q.1≠b):gf P a (n+1) (lg g c ((g c).getD [])) (some (c,b)) o' ((b,bF ws k)::ls) (stored kv c (.ref b)):=by
 have e:g c=none:=by
  cases e:g c with
  |none=>rfl
  |some ds=>
   refine El.l6 (T.ye c ds e) λzz zz zz J zz=>?_;rw [J] at h;exact El.sn h
 have W:∀x,valueAt kv x≠some (.ref b):=λx q=>by
  cases ex:g x with
  |none=>rw [T.no x ex] at q;exact El.ns q
  |some ds=>
   refine El.dh (T.ye x ds ex) λY zz zz J V zz=>?_;rw [J] at q;clear hd;cases q;exact hb _ V rfl
 have sc:∀x,valueAt (stored kv c (.ref b)) x=if x=c then some (.ref b) else valueAt kv x:=λx=>Fc kv c (.ref b) x;refine ⟨T.lo,hd,az (Yr _ _ _) (cY T.n),λx hx=>?_,λx Z hx=>?_,λx y Y J V=>?_,λc' Y q=>?_⟩
 ·by_cases q:x=c
  ·clear h hd e sc;subst q;rw [mN] at hx;exact El.sn hx
  ·rw [mP q] at hx;refine ae (sc ..) (ae (if_neg q ..) ?_);exact T.no x hx
 ·by_cases q:x=c
  ·clear h hd;subst q;rw [mN,e] at hx;cases hx
   exact El.gC b ws k (by exact ae (sc ..) (ae (if_pos rfl ..) rfl)) (.head _) hw
  ·rw [mP q] at hx;refine El.dh (T.ye x Z hx) λY fT k' J V h3=>?_;exact El.gC Y fT k' (by refine ae (sc ..) (ae (if_neg q ..) ?_);exact J) (.tail _ V) h3
 ·rw [sc] at J V;by_cases p:x=c
  ·by_cases q:y=c
   ·exact p.trans q.symm
   ·rw [if_pos p] at J;rw [if_neg q] at V;cases J;exact (W _ V).elim
  ·by_cases q:y=c
   ·rw [if_neg p] at J;rw [if_pos q] at V;cases V;exact (W _ J).elim
   ·rw [if_neg p] at J;rw [if_neg q] at V;exact T.inj x y Y J V
 ·cases q;exact ae (sc ..) (ae (if_pos rfl ..) rfl)
theorem gf.longer (T:gf P a n g (some (c,b)) o ls kv) {ls1 ls2:Led}{ws:List af}{k k':Nat}{ds:List ag}{v:af}{d:ag}(W:∀q,q∈ls↔q=(b,bF ws k)∨q∈ls2) (Z:∀q∈ls2,q.1≠b) (hg:g c=some ds) (hv:Dat P v d):gf P a n (lg g c (ds++[d])) none o ((b,bF (ws++[v]) k')::ls2) kv:=by
 refine El.dh (T.ye c ds hg) λb' J k1 V Y h3=>?_;rw [T.pt c b rfl] at V;cases V
 have hw:bu P ws ds:=by
  rcases (W _).mp Y with e | e
  ·clear T W Z Y;cases e;exact h3
  ·exact (Z _ e rfl).elim
 refine ⟨T.lo,T.d,T.n,λx hx=>?_,λx RS hx=>?_,T.inj,λzz zz q=>El.ns q⟩
 ·by_cases q:x=c
  ·clear T hg;subst q;rw [mN] at hx;exact El.sn hx
  ·rw [mP q] at hx;exact T.no x hx
 ·by_cases q:x=c
  ·clear hg;subst q;rw [mN] at hx;cases hx
   exact El.gC b _ k' (T.pt x b rfl) (.head _) (hw.append (.one hv))
  ·rw [mP q] at hx;refine El.dh (T.ye x RS hx) λb' J k1 V Y h3=>?_;refine El.gC b' J k1 V ?_ h3;rcases (W _).mp Y with e | e
   ·clear W Z hw;cases e;exact (q (T.inj x c b V (T.pt c b rfl))).elim
   ·exact .tail _ e
end
theorem RT (hC:C.Ok) {a:ao}{n:Nat}{g:Int→Option (List ag)}{l:Option (Int×ao)}{c:Int}{tc:dS}(hi:σ[i]? = some (.fr (fB a n g l))) (hn:n<2 ^ 24) (A:At C σ ((v2,.ow (.dl []))::τ) φ s.heap) (ho:cI τ) {Q:af→aj→Prop}
  (hQ:∀b h' tk,At C (σ.set i (.fr (fB a (n+1) (lg g c ((g c).getD [])) (some (c,b))))) τ φ h'→Q (.ref b) {s with heap:=h',toks:=tk}):Wp C (call (.builtin "dict.setdefault") [.ref a,.int c tc,v2]) Q s:=by
 cases A with
 |mk F N S=>
  have Av:=S.nd;cases S.HE ho hi λe=>nomatch e with
  |@mk v O O2 rest rd r r2 pN hz Z=>
   refine El.ra r λzz W o ls kv dq T=>?_;clear r;clear rd;subst W;subst dq;refine El.dh r2 λJ n2 ws W dq hw=>?_;clear r2;clear S;subst W;subst dq;have nd:=(pN.map (λq:ao×ay=>q.1)).nodup_iff.mp Av;refine El.aa (cu.mp nd) λY rZ=>?_;have N':=fC N pN;have na:=N' (a,o) (.head _);have ne:∀q∈ls++([(J,bF ws n2)]++rest),q.1≠a:=λq V e=>Y (bL.mpr (El.aD q V e));have e2:(ls++([(J,bF ws n2)]++rest)).map (λq:ao×ay=>q.1)=adr ls++(J::adr rest):=by refine ae (bG ..) ?_;rfl
   have rZ:(adr ls++(J::adr rest)).Nodup:=e2▸(show ((ls++([(J,bF ws n2)]++rest)).map (λq:ao×ay=>q.1)).Nodup from rZ);have Y:a∉adr ls++(J::adr rest):=e2▸(show a∉(ls++([(J,bF ws n2)]++rest)).map (λq:ao×ay=>q.1) from Y);refine El.cH (fJ.mp rZ) λd1 d2 d3=>?_;have hD:=ar.dictOf_iff.mpr (El.aD o na.1 (T.d C.pg C.w));have sub:∀q∈(a,o)::ls++rest,q∈(a,o)::ls++([(J,bF ws n2)]++rest):=λq V=>(cF.mp V).elim (bO _) λV=>bx _ (bx _ V);refine call_meetsIn Yt hD.mapOf.typeIs PySem.F.entry_dict_setdefault (PySem.F.args_dict_setdefault_3 _ _ _) (kt_meets_setdefault (ip C.pg C.w) a (s7 C.pg C.w c tc) T.lo _) (El.iA kv hD (by have:=T.n;unfold cE;omega) (λv' HF=>?_) (λhn h' RU hs=>?_))
   ·refine El.au (T.there HF) λb W T'=>?_;clear HF;subst W;refine hQ b s.heap _ (.mk F (λq V=>N' q (sub q V)) (Z _ ((a,o)::ls) (El.tK vy rfl o ls kv rfl T') ?_));refine (?_:(lX _ ((a,o)::(ls++rest))).Nodup);refine ae (eU ..) (ae (bG ..) ?_);refine cu.mpr ⟨λh=>Y ?_,fJ.mpr (El.aK d1 (cu.mp d2).2 (λx hx y hy=>d3 x hx y (.tail _ hy)))⟩;exact (cF.mp h).elim (bO _) λh=>bx _ (.tail _ h)
   ·refine El.au (ar.dictOf_iff.mp RU) λo' AN jX=>?_;have N2:=N'.setIn (own:=[]) (λzz h=>El.nm h) ne hs AN;have hb:∀q∈ls,q.1≠J:=λq V e=>d3 q.1 (bL.mpr (El.aD q V rfl)) J (.head _) e;have T':=T.made (b:=J) (k:=n2) (ws:=ws) hn (λzz zz=>uH jX) hw hb;refine hQ J h' _ (.mk (N:=(a,o')::((J,bF ws n2)::ls)++rest) (F.change hs na.2.1 na.2.2) (λq V=>N2 q ?_) (Z _ ((a,o')::(J,bF ws n2)::ls) (El.tK vy rfl o' _ _ rfl T') ?_))
    ·rcases cU.mp V with rfl | V
     ·exact .head _
     ·refine .tail _ ?_;rcases cU.mp V with rfl | V
      ·exact bx _ (.head _)
      ·exact (cF.mp V).elim (bO _) λh=>bx _ (.tail _ h)
    ·refine (?_:(lX _ ((a,o')::(J,bF ws n2)::(ls++rest))).Nodup);refine ae (eU ..) (ae (eU ..) (ae (bG ..) ?_));refine cu.mpr ⟨λh=>Y ?_,cu.mpr ⟨λh=>?_,fJ.mpr (El.aK d1 (cu.mp d2).2 (λx hx y hy=>d3 x hx y (.tail _ hy)))⟩⟩
     ·rcases cU.mp h with e | h
      ·exact bx _ ((show a=J from e)▸.head _)
      ·exact (cF.mp h).elim (bO _) λh=>bx _ (.tail _ h)
     ·rcases cF.mp h with h | h
      ·exact d3 _ h _ (.head _) rfl
      ·exact (cu.mp d2).1 h
theorem RV (hC:C.Ok) {a:ao}{n:Nat}{g:Int→Option (List ag)}{c:Int}{b:ao}{ds:List ag}{d:ag}(hi:σ[i]? = some (.fr (fB a n g (some (c,b))))) (hg:g c=some ds) (hl:ds.length<2 ^ 24) (A:At C σ ((v2,bw d)::τ) φ s.heap) (ho:cI τ) {Q:af→aj→Prop}
  (hQ:∀h',At C (σ.set i (.fr (fB a n (lg g c (ds++[d])) none))) τ φ h'→Q .none {s with heap:=h'}):Wp C (call (.builtin "list.append") [.ref b,v2]) Q s:=by
 cases A with
 |@mk N0 _ F N S=>
  have W:=S.nd;have hv:=S.kU.1;cases S.HE ho hi λe=>nomatch e with
  |@mk v O O2 rest rd r r2 pN hz V=>
   refine El.ra r λzz J o ls kv Y T=>?_;clear r;clear rd;subst J;subst Y;refine El.aa r2 λJ zz=>?_;clear r2;subst J;refine El.dh (T.ye c ds hg) λb' ws k h1 h2 h3=>?_;rw [T.pt c b rfl] at h1;cases h1
   refine El.q9 (X4 h2) λl1 l2 J=>?_;subst J;have pA:N0.Perm ((b,bF ws k)::((a,o)::(l1++l2)++rest)):=by
    refine pN.trans ?_;refine ae (gv ..) ?_;refine (?_:((a,o)::((l1++(b,bF ws k)::l2)++rest)).Perm _);refine (((nk (l₁:=l1)).append_right rest).cons _).trans ?_;exact .swap _ _ _
   have nd:=(pA.map (λq:ao×ay=>q.1)).nodup_iff.mp W;have ne:∀q∈(a,o)::(l1++l2)++rest,q.1≠b:=λq Z e=>(cu.mp nd).1 (bL.mpr (El.aD q Z e));refine AG F (fC N pA) ne (by refine ae (h3.len ..) ?_;exact hl) λh' F' N'=>?_
   have T':=T.longer (k:=k) (k':=k+1) (ws:=ws) (ls1:=[]) (ls2:=l1++l2) (λq=>⟨λh=>?_,λh=>?_⟩) (λq Z=>ne q (.tail _ (bO _ Z))) hg hv
   ·have pB:((b,bF (ws++[v2]) (k+1))::((a,o)::(l1++l2)++rest)).Perm ((a,o)::((b,bF (ws++[v2]) (k+1))::(l1++l2))++rest):=.swap _ _ _;exact hQ h' (.mk (N:=(a,o)::((b,bF (ws++[v2]) (k+1))::(l1++l2))++rest) F' (fC N' pB) (V _ ((a,o)::(b,bF (ws++[v2]) (k+1))::(l1++l2)) (El.tK vy rfl o _ _ rfl T') ((pB.map (λq:ao×ay=>q.1)).nodup_iff.mp nd)))
   ·rcases cF.mp h with h | h
    ·exact .inr (bO _ h)
    ·rcases cU.mp h with h | h
     ·exact .inl h
     ·exact .inr (bx _ h)
   ·rcases h with rfl | h
    ·exact h2
    ·exact (cF.mp h).elim (bO _) λh=>bx _ (.tail _ h)
theorem RW {a:ao}:∀(P P':Fz) v,(∀a o,P a o→P' a o)→vd a P v→vd a P' v:=λzz zz zz zz q=>q
variable {j n:Nat}{xn nm yn zn mn:ai}{xp p1 p2 p ap pp lp yp zp:aE}
theorem RX (J:bV C fs) (hx:C.xs[i]? = some xn) (Z:bR[j]? = some nm) (hy:C.xs[n]? = some yn) {k:KS}(h:ve σ i j n λV=>k .nx V) {Q:eE→aj→Prop}(a:At C σ τ φ s.heap) (ho:cI τ) (hQ:jA C τ s Q k):Wp C (cZ (.Assign [.Attribute (.Name xn xp) nm p1,.Name yn p2] (.Dict [] [] lp) p) C.env) Q s:=by
 cases h with
 |@mk x as h1 hj hk=>cases a with
  |mk F N S=>
   refine KJ (newDict_K F N J.g.df.nl λd h' o F' N' lt lo zz zz hi zz=>?_) rfl rfl;have T:∀P:Fz,gf P d 0 (λzz=>none) none o [] []:=λP=>⟨lo,λzz zz=>uH hi,aI _,λzz zz=>rfl,(λzz zz q=>El.ns q),(λzz zz zz q=>El.ns q),(λzz zz q=>El.ns q)⟩;have S':=S.push (o:=o) (t:=.fr (fB d 0 (λzz=>none) none)) lt (El.tK vy rfl o [] [] rfl (T _));exact A8 (k:=λW=>k .nx (W.set n (.fr (fB d 0 (λzz=>none) none)))) (a:=.rf d) (s:={s with heap:=h'}) J.toAl hx Z ⟨h1,hj,hk d⟩ F' N' S' rfl rfl λHA h5 t5 a5 q5=>assign_Name (ka (o:=.own) (k:=λY=>k .nx Y) (s:={s with heap:=h5,toks:=t5}) J.ok J.s hy q5 a5 ho λvK vL h6 t6 a6 q6=>hQ _ .nx _ _ _ _ ⟨rfl,a6⟩ q6)
theorem RY (V:bV C fs) {d e:Nat}(hx:C.xs[i]? = some xn) (hy:C.xs[d]? = some yn) (hz:C.xs[e]? = some zn) (hm:mn=ai.ofString "setdefault") (hl:(ap.endLine == pp.line)=true) {k:KS}(h:vf σ i d e λW=>k .nx W) {Q:eE→aj→Prop}(A:At C σ τ φ s.heap) (ho:cI τ) (hQ:jA C τ s Q k) :
  Wp C (cZ (.Assign [.Name xn xp] (.Call (.Attribute (.Name yn yp) mn ap) [.Name zn zp,.List [] lp] [] pp) p) C.env) Q s:=by
 subst hm;cases h with
 |@mk a n g l c h1 h2 hn hk=>
  have st:∀y∈[Expr.Name zn zp,.List [] lp],notStar y=true:=bH.mpr ⟨rfl,cR.mpr rfl⟩;have hE:fg C fs (.cons (.var e) (.cons (.lst .nil) .nil)) [.Name zn zp,.List [] lp]:=Az rfl (GA V.toAl hz) (Az rfl (GC Ay) Ay);have hd:den (specs fs) (.cons (.var e) (.cons (.lst .nil) .nil)) σ λes=>es=[bw (.int c),.ow (.dl [])]:=by
   refine (?_:(match σ[e]? with
    |none=>False
    |some t=>_))
   refine ae (h2 ..) ?_;exact av (aL rfl) rfl
  have A0:=A;cases A0 with
  |@mk N0 ZL F N S=>
   cases S.part (i:=d) (p:=[]) (u:=.fr (fB a n g l)) (by refine ae (h1 ..) ?_;rfl) λe=>nomatch e with
   |mk rd pv rp pN _=>
    cases (show _=_ from pv)
    refine El.ra rp λzz J o ls kv Y T=>?_;clear rp;clear pv;subst J;subst Y;have hD:=(ar.dictOf_iff.mpr (El.aD o (N _ (pN.mem_iff.mpr (.head _))).1 (T.d C.pg C.w))).mapOf;refine KG (lr st (aL rfl) (λzz zz zz=>rfl) hl (V.ok.ld yp hy F N S.d8 rd (Ye hD.typeIs Yg Yt PySem.F.type_dict_setdefault hD.noDict (xe (hE σ _ hd pp τ φ _ s A λvs es h' tk l1 a1 g2=>?_) (dR rfl) rfl)))) (qb rfl);subst g2;refine El.dP (uu l1) λv1 vr J l2=>?_;clear l1;subst J;refine El.dP (uu l2) λv2 G4 J l3=>?_;subst J;obtain rfl:=KI.mp l3;refine El.aP (At.eH (f:=λn=>n=c) (show At C σ ((v1,bw (.int c))::(v2,.ow (.dl []))::τ) φ h' from a1) rfl) λn1 t1 J e1 a2=>?_;subst J;subst e1;refine RT (s:={s with heap:=h',toks:=tk}) V.ok h1 hn a2 ho λb h3 t3 a3=>?_
    cases a3 with
    |mk F3 N3 S3=>exact ka (o:=.own) (k:=λZ=>k .nx Z) (s:={s with heap:=h3,toks:=t3}) V.ok V.s hx (hk b) (.mk F3 N3 (S3.mr (El.aK (lu RW) rfl rfl))) ho λvK vL h6 t6 a6 q6=>hQ _ .nx _ _ _ _ ⟨rfl,a6⟩ q6
theorem RZ (J:bV C fs) {e:Nat}(hx:C.xs[i]? = some xn) (hz:C.xs[e]? = some zn) (hm:mn=ai.ofString "append") (hl:(ap.endLine == pp.line)=true) {k:KS}(h:vi σ i e λV=>k .nx V) {Q:eE→aj→Prop}(A:At C σ τ φ s.heap) (ho:cI τ) (hQ:jA C τ s Q k) :
  Wp C (cZ (.Expr (.Call (.Attribute (.Name xn xp) mn ap) [.Name zn zp] [] pp) p) C.env) Q s:=by
 subst hm;cases h with
 |@mk d a n g c b ds dv h1 h2 h3 hg hn hk=>cases A with
  |@mk N0 ZL F N S=>
   refine El.au (S.kc h1) λv W ev=>?_;clear h1;cases (show v=.ref b from ev);refine El.au (S.slot h2 λe=>nomatch e) λw Y hw=>?_;cases S.part (i:=d) (p:=[]) (u:=.fr (fB a n g (some (c,b)))) (by refine ae (h3 ..) ?_;rfl) λe=>nomatch e with
   |mk rd pv rp pN _=>
    clear rd;cases (show _=_ from pv);refine El.ra rp λzz Z o ls kv dq T=>?_;clear rp;subst Z;subst dq;refine El.dh (T.ye c ds hg) λb' ws k1 q1 q2 q3=>?_;rw [T.pt c b rfl] at q1;cases q1
    refine xf (lr (cR.mpr rfl) (aL rfl) (λzz zz zz=>rfl) hl (J.ok.ld xp hx F N S.d8 W (xg N (pN.mem_iff.mpr (bO _ (.tail _ q2))) Yk Yl (xe (jl (J.ok.ld zp hz F N S.d8 Y (lW ?_)) (dR rfl)) (dR rfl) rfl)))) (sa J) rfl;exact RV (s:=s) J.ok h3 hg hn (.mk F N (S.dM (hw _ rfl))) ho λh' a2=>hQ .next .nx _ φ h' _ ⟨rfl,a2⟩ hk
end
structure Pc.oK (q:Pc) (C:Cx):Prop where
 al:bV C q.fs
 sc:C.env.scope=q.sc
 xs:C.xs=q.xs
theorem Pc.oK.e {q:Pc}{C:Cx}(h:q.oK C):q.At C:=⟨h.al.toAl,h.sc,h.xs⟩
theorem Pc.oK.over {q:Pc}{C:Cx}(h:q.oK C) {X:Led}:q.oK (C.over X):=⟨h.al.over,h.sc,h.xs⟩
structure Xd (q:Pc) (st:cP) where
 ir:SS
 ok:∀C,q.oK C→bU C q.fs (cZ st C.env) ir
structure Bd (q:Pc) (l:List cP) where
 ir:SS
 ok:∀C,q.oK C→bU C q.fs (fI l C.env) ir
noncomputable def ba {q:Pc}{st:cP}:Xd q st:=⟨.bad,λzz zz=>Rw⟩
structure Hn where
 ow:Nat→Ow
 gh:List (Nat×Nat)
noncomputable def oM (xs:List ai) (ow:Nat→Ow):(es:List Expr)→Option {q:Tg×List ai // bB (λ(q:Nat×Ow) x=>xs[q.1]? = some x) q.1 q.2∧bB (λe x=>∃p,e=Expr.Name x p) es q.2}:=@λA=>match A with
 |[]=>some ⟨([],[]),rfl,rfl⟩
 |e::r=>dE (M:=λe=>Option {q:Tg×List ai // bB (λ(q:Nat×Ow) x=>xs[q.1]? = some x) q.1 q.2∧bB (λe x=>∃p,e=Expr.Name x p) (e::r) q.2}) e none λx p=>(c6 x xs).bind λi=>(oM xs ow r).map λq=>⟨((i.1,ow i.1)::q.1.1,x::q.1.2),⟨i.2,q.2.1⟩,⟨⟨p,rfl⟩,q.2.2⟩⟩
noncomputable def R0 (xs:List ai) (ow:Nat→Ow) (t:Expr):Option {q:Tg×Bool // fh xs t q}:=
 dE (M:=λt=>Option {q:Tg×Bool // fh xs t q}) t (tupK (M:=λt=>Option {q:Tg×Bool // fh xs t q}) t none λes k p=>(oM xs ow es).map λq=>⟨(q.1.1,true),.tup q.2.1 q.2.2⟩) λx p=>(c6 x xs).map λi=>⟨([(i.1,ow i.1)],false),.nm i.2⟩
noncomputable def qf (xs:List ai) (ow:Nat→Ow) (t:Expr):Option {g:j7 // fU xs t g}:=match view t with
 |.nm x p=>(c6 x xs).map λi=>⟨.nm i.1 (ow i.1),.nm i.2⟩
 |.tup es k p=>(oM xs ow es).map λq=>⟨.tp q.1.1,.tp q.2.1 q.2.2⟩
 |.dW r m p=>dE (M:=λr=>Option {g:j7 // fU xs (.Attribute r m p) g}) r none λx xp=>(c6 x xs).bind λi=>(c6 m bR).map λj=>⟨.du i.1 j.1,.du i.2 j.2⟩
 |.sub r m p=>dE (M:=λr=>Option {g:j7 // fU xs (.Subscript r m p) g}) r none λx xp=>dE (M:=λm=>Option {g:j7 // fU xs (.Subscript (.Name x xp) m p) g}) m none λy yp=>(c6 x xs).bind λi=>(c6 y xs).map λj=>⟨.om i.1 j.1,.om i.2 j.2⟩
 |_=>none
noncomputable def R1 {M:Expr→Type}(e:Expr) (d:M e) (f:qa e→M e):M e:=match view e,d,f with
 |.nm zz J,V,f=>f λzz zz zz=>rfl
 |.sub zz J V,W,f=>f λzz zz zz=>rfl
 |zz,d,J=>d
section
variable {q:Pc}(H:Hn) (E:∀e,Sd q e) (T:∀e,Td q e) (B:∀l,Bd q l)
noncomputable def R3 (ts:List Expr) (kk:Nat) (tp:aE) (c:Expr) (as:List Expr) (pp p:aE):Xd q (.Assign [.Tuple ts kk tp] (.Call c as [] pp) p):=mw (M:=λc=>Xd q (.Assign [.Tuple ts kk tp] (.Call c as [] pp) p)) c ba λr m ap=>dE (M:=λr=>Xd q (.Assign [.Tuple ts kk tp] (.Call (.Attribute r m ap) as [] pp) p)) r ba λx xp=>match as with
 |[]=>wd (m=ai.ofString "pop") ba λhm=>wh (ap.endLine == pp.line) ba λhl=>match c6 x q.xs,oM q.xs H.ow ts with
  |some i,some n=>⟨.uZ n.1.1 i.1,λC h=>RQ h.al (by refine ae (h.xs ..) ?_;exact n.2.1) n.2.2 hm hl (by refine ae (h.xs ..) ?_;exact i.2)⟩
  |zz,J=>ba
 |[z]=>F0 (M:=λz=>Xd q (.Assign [.Tuple ts kk tp] (.Call (.Attribute (.Name x xp) m ap) [z] [] pp) p)) z ba λc V W=>wd (m=ai.ofString "pop") ba λhm=>wh (ap.endLine == pp.line) ba λhl=>wd (c=.int 0) ba λhz=>match c6 x q.xs,oM q.xs H.ow ts with
  |some i,some n=>⟨.uW n.1.1 i.1,λC h=>by subst hz;exact QS h.al (by refine ae (h.xs ..) ?_;exact n.2.1) n.2.2 hm hl (by refine ae (h.xs ..) ?_;exact i.2)⟩
  |zz,J=>ba
 |_=>ba
noncomputable def vM (ts:List Expr) (kk:Nat) (tp:aE) (v:Expr) (p:aE):Xd q (.Assign [.Tuple ts kk tp] v p):=wh (jv v) ba λJ=>match oM q.xs H.ow ts with
 |some n=>wh (AQ ts v) ba λhs=>⟨.kZ n.1.1 (E v).ir,λC i=>QF i.al J hs (by refine ae (i.xs ..) ?_;exact n.2.1) n.2.2 ((E v).ok C i.e)⟩
 |none=>match ts with
  |[a,b]=>d8 (M:=λa=>Xd q (.Assign [.Tuple [a,b] kk tp] v p)) a ba λo1 i1 p1=>d8 (M:=λb=>Xd q (.Assign [.Tuple [.Subscript o1 i1 p1,b] kk tp] v p)) b ba λo2 i2 p2=>⟨.uX (E o1).ir (E i1).ir (E o2).ir (E i2).ir (E v).ir,λC i=>QM i.al J ((E v).ok C i.e) ((E o1).ok C i.e) ((E i1).ok C i.e) ((E o2).ok C i.e) ((E i2).ok C i.e)⟩
  |_=>ba
noncomputable def R4 (ts:List Expr) (kk:Nat) (tp:aE) (vs:List Expr) (k2:Nat) (p2 p:aE):Xd q (.Assign [.Tuple ts kk tp] (.Tuple vs k2 p2) p):=match oM q.xs H.ow ts,jz E vs with
 |some n,some l=>wh (AS ts vs n.1.2) (vM H E ts kk tp (.Tuple vs k2 p2) p) λh=>⟨.eQ n.1.1 l.ir,λC i=>QI i.al (by refine ae (i.xs ..) ?_;exact n.2.1) n.2.2 h (l.ok C i.e)⟩
 |zz,J=>vM H E ts kk tp (.Tuple vs k2 p2) p
noncomputable def R5 (ts:List Expr) (kk:Nat) (tp:aE) (v:Expr) (p:aE):Xd q (.Assign [.Tuple ts kk tp] v p):=tupK (M:=λv=>Xd q (.Assign [.Tuple ts kk tp] v p)) v (pS (M:=λv=>Xd q (.Assign [.Tuple ts kk tp] v p)) v (vM H E ts kk tp v p) λc as pp=>match c.ctorIdx == 20 with
 |true=>R3 H ts kk tp c as pp p
 |false=>vM H E ts kk tp (.Call c as [] pp) p) λvs k2 p2=>R4 H E ts kk tp vs k2 p2 p
noncomputable def R6 (x:ai) (xp:aE) (v:Expr) (p:aE) (i:{i:Nat // q.xs[i]? = some x}):Xd q (.Assign [.Name x xp] v p):=pS (M:=λv=>Xd q (.Assign [.Name x xp] v p)) v ba λc as pp=>mw (M:=λc=>Xd q (.Assign [.Name x xp] (.Call c as [] pp) p)) c ba λr m ap=>dE (M:=λr=>Xd q (.Assign [.Name x xp] (.Call (.Attribute r m ap) as [] pp) p)) r ba λy yp=>match as with
 |[z,w]=>dE (M:=λz=>Xd q (.Assign [.Name x xp] (.Call (.Attribute (.Name y yp) m ap) [z,w] [] pp) p)) z ba λzn zp=>OT (M:=λw=>Xd q (.Assign [.Name x xp] (.Call (.Attribute (.Name y yp) m ap) [.Name zn zp,w] [] pp) p)) w ba λlp=>wd (m=ai.ofString "setdefault") ba λhm=>wh (ap.endLine == pp.line) ba λhl=>match c6 y q.xs,c6 zn q.xs with
  |some d,some e=>⟨.Ah i.1 d.1 e.1,λC a σ k g τ φ Q s a2 ho=>RY a.al (by refine ae (a.xs ..) ?_;exact i.2) (by refine ae (a.xs ..) ?_;exact d.2) (by refine ae (a.xs ..) ?_;exact e.2) hm hl g a2 ho⟩
  |zz,J=>ba
 |_=>ba
noncomputable def R7 (t v:Expr) (p:aE):Xd q (.Assign [t] v p):=match view t with
 |.nm x xp=>wh (jv v) ba λh=>match c6 x q.xs with
  |some i=>match H.ow i.1 with
   |.mA=>FZ (M:=λv=>Xd q (.Assign [.Name x xp] v p)) v (dE (M:=λv=>Xd q (.Assign [.Name x xp] v p)) v (R6 x xp v p i) λy yp=>match c6 y q.xs with
    |some j=>⟨.Af i.1 j.1,λC a σ k g τ φ Q s a2 ho=>RE a.al (by refine ae (a.xs ..) ?_;exact i.2) (by refine ae (a.xs ..) ?_;exact j.2) g a2 ho⟩
    |none=>ba) λp2=>⟨.asg i.1 .own (.jt true),λC a=>Hc a.al rfl (by refine ae (a.xs ..) ?_;exact i.2) λσ k g τ K Q s J=>G6 a.al.toAl g J⟩
   |o=>⟨.asg i.1 o (E v).ir,λC a=>Hc a.al h (by refine ae (a.xs ..) ?_;exact i.2) ((E v).ok C a.e)⟩
  |none=>ba
 |.tup ts kk tp=>R5 H E ts kk tp v p
 |.dW r m tp=>wh (jv v) ba λh=>match qf q.xs H.ow (.Attribute r m tp) with
  |some g=>⟨.cM [g.1] (E v).ir,λC a=>RI a.al h (by refine ae (a.xs ..) ?_;exact g.2) ((E v).ok C a.e)⟩
  |none=>ba
 |.sub o i tp=>wh (jv v) ba λh=>⟨.set (E o).ir (E i).ir (E v).ir,λC a=>QK a.al h ((E v).ok C a.e) ((E o).ok C a.e) ((E i).ok C a.e)⟩
 |_=>ba
noncomputable def vN (t1 t2 v:Expr) (p:aE):Xd q (.Assign [t1,t2] v p):=match qf q.xs H.ow t1,qf q.xs H.ow t2 with
 |some g1,some g2=>⟨.cM [g1.1,g2.1] (E v).ir,λC a=>RJ a.al (by refine ae (a.xs ..) ?_;exact g1.2) (by refine ae (a.xs ..) ?_;exact g2.2) ((E v).ok C a.e)⟩
 |zz,J=>ba
noncomputable def R8 (r:Expr) (m:ai) (p1:aE) (y:ai) (p2:aE) (v:Expr) (p:aE):Xd q (.Assign [.Attribute r m p1,.Name y p2] v p):=dE (M:=λr=>Xd q (.Assign [.Attribute r m p1,.Name y p2] v p)) r ba λx xp=>match c6 x q.xs,c6 m bR,c6 y q.xs with
 |some i,some j,some n=>match H.ow n.1 with
  |.fr=>vN H E (.Attribute (.Name x xp) m p1) (.Name y p2) v p
  |.deep=>vN H E (.Attribute (.Name x xp) m p1) (.Name y p2) v p
  |.mA=>FZ (M:=λv=>Xd q (.Assign [.Attribute (.Name x xp) m p1,.Name y p2] v p)) v ba λlp=>⟨.Ag i.1 j.1 n.1,λC a σ k g τ φ Q s a2 ho=>RX a.al (by refine ae (a.xs ..) ?_;exact i.2) j.2 (by refine ae (a.xs ..) ?_;exact n.2) g a2 ho⟩
  |o=>⟨.uY i.1 j.1 n.1 o (E v).ir,λC a=>RL a.al (by refine ae (a.xs ..) ?_;exact i.2) j.2 (by refine ae (a.xs ..) ?_;exact n.2) ((E v).ok C a.e)⟩
 |zz,J,V=>ba
noncomputable def R9 (ts:List Expr) (v:Expr) (p:aE):Xd q (.Assign ts v p):=match ts with
 |[t]=>R7 H E t v p
 |[t1,t2]=>mw (M:=λt1=>Xd q (.Assign [t1,t2] v p)) t1 (vN H E t1 t2 v p) λr m p1=>dE (M:=λt2=>Xd q (.Assign [.Attribute r m p1,t2] v p)) t2 (vN H E (.Attribute r m p1) t2 v p) λy p2=>R8 H E r m p1 y p2 v p
 |[t1,t2,t3]=>match qf q.xs H.ow t1,qf q.xs H.ow t2,qf q.xs H.ow t3 with
  |some g1,some g2,some g3=>⟨.cM [g1.1,g2.1,g3.1] (E v).ir,λC a=>RK a.al (by refine ae (a.xs ..) ?_;exact g1.2) (by refine ae (a.xs ..) ?_;exact g2.2) (by refine ae (a.xs ..) ?_;exact g3.2) ((E v).ok C a.e)⟩
  |zz,J,V=>ba
 |_=>ba
noncomputable def Sa (t:Expr) (o:kL) (v:Expr) (p:aE):Xd q (.AugAssign t o v p):=match view t with
 |.nm x xp=>match c6 x q.xs with
  |some i=>⟨.aug i.1 o (E v).ir,λC a=>QT a.al (by refine ae (a.xs ..) ?_;exact i.2) ((E v).ok C a.e)⟩
  |none=>ba
 |.sub r j tp=>wh (kW j) ba λh=>⟨.rO (E r).ir (E j).ir o (E v).ir,λC a=>QW a.al h ((E r).ok C a.e) ((E j).ok C a.e) ((E v).ok C a.e)⟩
 |_=>ba
noncomputable def Ba (o:Expr) (m:ai) (ap:aE) (x:Expr) (pp p:aE):Xd q (.Expr (.Call (.Attribute o m ap) [x] [] pp) p):=wh (notStar x) ba λJ=>wh (ap.endLine == pp.line) ba λhl=>R1 (M:=λo=>Xd q (.Expr (.Call (.Attribute o m ap) [x] [] pp) p)) o ba λV=>wd (m=ai.ofString "append")
  (wd (m=ai.ofString "extend") ba λhm=>⟨.ext (E o).ir (E x).ir,λC a=>QR a.al hm J V hl ((E o).ok C a.e) ((E x).ok C a.e)⟩)
  λhm=>⟨.app (E o).ir (E x).ir,λC a=>QQ a.al hm J V hl ((E o).ok C a.e) ((E x).ok C a.e)⟩
noncomputable def Sb (o:Expr) (m:ai) (ap:aE) (x:Expr) (pp p:aE):Xd q (.Expr (.Call (.Attribute o m ap) [x] [] pp) p):=dE (M:=λo=>Xd q (.Expr (.Call (.Attribute o m ap) [x] [] pp) p)) o (Ba E o m ap x pp p) λy yp=>match c6 y q.xs with
 |none=>Ba E (.Name y yp) m ap x pp p
 |some i=>match H.ow i.1 with
  |.mA=>dE (M:=λx=>Xd q (.Expr (.Call (.Attribute (.Name y yp) m ap) [x] [] pp) p)) x ba λzn zp=>wd (m=ai.ofString "append") ba λhm=>wh (ap.endLine == pp.line) ba λhl=>match c6 zn q.xs with
   |some e=>⟨.Ai i.1 e.1,λC a σ k g τ φ Q s a2 ho=>RZ a.al (by refine ae (a.xs ..) ?_;exact i.2) (by refine ae (a.xs ..) ?_;exact e.2) hm hl g a2 ho⟩
   |none=>ba
  |_=>Ba E (.Name y yp) m ap x pp p
noncomputable def Se (o:Expr) (m:ai) (ap:aE) (as:List Expr) (pp p:aE):Xd q (.Expr (.Call (.Attribute o m ap) as [] pp) p):=match as with
 |[]=>dE (M:=λo=>Xd q (.Expr (.Call (.Attribute o m ap) [] [] pp) p)) o ba λx xp=>wd (m=ai.ofString "sort") ba λhm=>wh (ap.endLine == pp.line) ba λhl=>match c6 x q.xs with
  |some i=>⟨.u4 i.1,λC a=>RR a.al hm hl (by refine ae (a.xs ..) ?_;exact i.2)⟩
  |none=>ba
 |[x]=>Sb H E o m ap x pp p
 |_=>ba
noncomputable def Sf (e:Expr) (p:aE):Xd q (.Expr e p):=pS (M:=λe=>Xd q (.Expr e p)) e (F0 (M:=λe=>Xd q (.Expr e p)) e ba λc n p2=>match c with
 |.str x=>⟨.nil,λC a=>Ry a.al⟩
 |_=>ba) λc as pp=>mw (M:=λc=>Xd q (.Expr (.Call c as [] pp) p)) c ba λo m ap=>match r8 m q.fs.m with
 |none=>Se H E o m ap as pp p
 |some g=>dE (M:=λo=>Xd q (.Expr (.Call (.Attribute o m ap) as [] pp) p)) o ba λx xp=>wh (decide (as.length<30) && (ap.endLine == pp.line)) ba λJ=>match c6 x q.xs,jz E as with
  |some i,some l=>⟨.oq i.1 g.1.1 l.ir,λC a=>RM a.al (by refine ae (a.xs ..) ?_;exact i.2) g.2 (l.ok C a.e) l.st (gK (cT J).1) (cT J).2⟩
  |zz,V=>ba
noncomputable def sg (t it:Expr) (b:List cP) (p:aE) (g:{g:Tg×Bool // fh q.xs t g}):Xd q (.For t it b [] p):=wh (rM it) ba λh=>⟨.dY g.1.1 g.1.2 (.seq (E it).ir) (B b).ir,λC a=>sf a.al (AE h) (Rl a.al ((E it).ok C a.e) (by refine ae (a.xs ..) ?_;exact g.2) λX=>(B b).ok _ a.over)⟩
noncomputable def Sh (t:Expr) (x:ai) (fp:aE) (as:List Expr) (pp:aE) (b:List cP) (p:aE) (g:{g:Tg×Bool // fh q.xs t g}):Xd q (.For t (.Call (.Name x fp) as [] pp) b [] p):=wd (x=ai.ofString "range")
 (wd (x=ai.ofString "enumerate") (sg E B t (.Call (.Name x fp) as [] pp) b p g) λhx=>wh (d9 q.sc x) ba λhg=>match as with
 |[z]=>wh (notStar z) ba λhz=>⟨.dY g.1.1 g.1.2 (.rN (E z).ir) (B b).ir,λC a=>sf a.al (λzz=>rfl) (Rk a.al hx (a.sc▸hg) (cR.mpr hz) ((E z).ok C a.e) (by refine ae (a.xs ..) ?_;exact g.2) λX=>(B b).ok _ a.over)⟩
 |_=>ba)
 λhx=>wh (d9 q.sc x) ba λhg=>match as with
 |[z]=>wh (notStar z) ba λhz=>⟨.dY g.1.1 g.1.2 (.mB (.lit (.int 0)) (E z).ir) (B b).ir,λC a=>sf a.al (λzz=>rfl) (Ri a.al hx (a.sc▸hg) (cR.mpr hz) ((E z).ok C a.e) (by refine ae (a.xs ..) ?_;exact g.2) λX=>(B b).ok _ a.over)⟩
 |[y,z]=>wh (notStar y) ba λJ=>wh (notStar z) ba λhz=>⟨.dY g.1.1 g.1.2 (.mB (E y).ir (E z).ir) (B b).ir,λC a=>sf a.al (λzz=>rfl) (Rj a.al hx (a.sc▸hg) (bH.mpr ⟨J,cR.mpr hz⟩) ((E y).ok C a.e) ((E z).ok C a.e) (by refine ae (a.xs ..) ?_;exact g.2) λX=>(B b).ok _ a.over)⟩
 |_=>ba
noncomputable def forM (t c:Expr) (as:List Expr) (pp:aE) (b:List cP) (p:aE) (g:{g:Tg×Bool // fh q.xs t g}):Xd q (.For t (.Call c as [] pp) b [] p):=mw (M:=λc=>Xd q (.For t (.Call c as [] pp) b [] p)) c (sg E B t (.Call c as [] pp) b p g) λr m ap=>dE (M:=λr=>Xd q (.For t (.Call (.Attribute r m ap) as [] pp) b [] p)) r (sg E B t (.Call (.Attribute r m ap) as [] pp) b p g) λx xp=>match r8 m q.fs.m with
 |none=>sg E B t (.Call (.Attribute (.Name x xp) m ap) as [] pp) b p g
 |some f=>wh (decide (as.length<30) && (ap.endLine == pp.line)) ba λJ=>match c6 x q.xs,jz E as with
  |some i,some l=>⟨.dY g.1.1 g.1.2 (.uV i.1 f.1.1 l.ir) (B b).ir,λC a=>sf a.al (λzz=>rfl) (RN a.al (by refine ae (a.xs ..) ?_;exact i.2) f.2 (l.ok C a.e) l.st (gK (cT J).1) (cT J).2 (by refine ae (a.xs ..) ?_;exact g.2) λX=>(B b).ok _ a.over)⟩
  |zz,V=>ba
noncomputable def Si (t it:Expr) (b J:List cP) (p:aE):Xd q (.For t it b J p):=match J with
 |[]=>match R0 q.xs H.ow t with
  |none=>ba
  |some g=>pS (M:=λit=>Xd q (.For t it b [] p)) it (sg E B t it b p g) λc as pp=>dE (M:=λc=>Xd q (.For t (.Call c as [] pp) b [] p)) c (forM E B t c as pp b p g) λx fp=>Sh E B t x fp as pp b p g
 |_=>ba
noncomputable def Sj (st:cP):Xd q st:=match st with
 |.Assign ts v p=>R9 H E ts v p
 |.AugAssign t o v p=>Sa E t o v p
 |.Expr e p=>Sf H E e p
 |.If t a b p=>⟨.cO (T t).ir (B a).ir (B b).ir,λC h=>Rx ((T t).ok C h.e) ((B a).ok C h) ((B b).ok C h)⟩
 |.For t it b J p=>Si H E B t it b J p
 |.While t b J p=>match J with
  |[]=>⟨.k6 (T t).ir (B b).ir,λC h=>Rm ((T t).ok C h.e) ((B b).ok C h)⟩
  |_=>ba
 |.Return e p=>match e with
  |some x=>⟨.ret (E x).ir,λC h=>RD ((E x).ok C h.e)⟩
  |none=>⟨.ret (.lit .none),λC h=>Rz⟩
 |.Break p=>⟨.brk,λC h=>RA⟩
 |.Continue p=>⟨.cnt,λC h=>RB⟩
 |.Pass p=>⟨.nil,λC h=>RC⟩
 |_=>ba
end
noncomputable def vO {q:Pc}(f:∀st,Xd q st) (gh:List (Nat×Nat)):∀l,Bd q l:=@λA=>match A with
 |[]=>⟨.nil,λzz zz=>Rv⟩
 |a::r=>⟨.seq (ghost gh a.pos.line (f a).ir) (vO f gh r).ir,λC h=>Rp (vJ h.al.ok ((f a).ok C h) gh) ((vO f gh r).ok C h)⟩
noncomputable def HG (d:Nat) (q:Pc) (H:Hn):Nat→∀st,Xd q st:=@λA=>match A with
 |0=>λzz=>ba
 |n+1=>Sj H (tr d q).1 (tr d q).2 (vO (HG d q H n) H.gh)
noncomputable def sh (d n:Nat) (q:Pc) (H:Hn) (l:List cP):Bd q l:=vO (HG d q H n) H.gh l
noncomputable def qg (Kf:iS):Bool:=(hasDictIn Kf 242 && (plainOver Kf 242 && decide (qT Kf (.ref 242) "__setattr__"=some (some (.builtin "object.__setattr__"))))) && bR.all λnm=>KN Kf 242 nm && (decide (qT Kf (.ref 242) nm=some none) && decide (takerIn Kf 242 nm=some none))
section
variable {P:Fz}{ns:List ai}{as:List aY}{nm:ai}{v:af}
theorem Bb {x y:ai}{t:dS}(h:y≠x):(af.str y t).isStr x=false:=beq_eq_false_iff_ne.mpr h
theorem HH {x:ai}{t:dS}:(af.str x t).isStr x=true:=beq_self_eq_true x
theorem cX.find {e:d4}:∀{es:List d4}{ns:List ai}{as:List aY}{j:Nat},cX P es ns as→ns.Nodup→ns[j]? = some nm→es[j]? = some e→es.find? (·.key.isStr nm)=some e:=@λA B C D F G H J=>match A,B,C,D,F,G,H,J with
 |[],zz,Y,Z,zw,zv,zu,h=>El.ns h
 |zz::Y,[],Z,zw,x,zv,zu,zt=>(show False from x).elim
 |zz::Y,Z::zw,[],zv,x,zu,zt,zr=>(show False from x).elim
 |e0::es,n::ns,a::as,0,x,nd,V,W=>by
  clear H;cases V;clear J;cases W;refine El.ea x.1 λt e=>?_;rw [CB,e,HH]
 |e0::es,n::ns,a::as,j+1,x,nd,V,W=>by
  refine El.ea x.1 λt e=>?_;refine El.aa (cu.mp nd) λn1 n2=>?_;rw [CB,e,Bb (y:=n) (x:=nm) λq=>n1 (by refine ae (q ..) ?_;exact jQ (show ns[j]? = some nm from V))]
  exact cX.find (es:=es) (j:=j) x.2.2.2 n2 V W
theorem cX.put {hs:Int}{tk:dS}{a:aY}(W:jZ P a v) (hi:lV v=true):∀{es:List d4}{ns:List ai}{as:List aY}{j:Nat},cX P es ns as→ns.Nodup→ns[j]? = some nm→j≤as.length→cX P (putL nm hs (.str nm tk) v es) ns (k8 as j a):=@λA B C D F G H J=>match A,B,C,D,F,G,H,J with
 |[],[],zz,Y,x,Z,h,zw=>El.ns h
 |[],n::ns,as,j,x,zz,h,V=>by
  rw [show as=[] from x] at V ⊢;cases Ck.mp V
  clear H;cases h;exact El.cy ⟨tk,rfl⟩ hi W rfl
 |zz::Y,[],Z,zw,x,zv,zu,zt=>(show False from x).elim
 |zz::Y,Z::zw,[],zv,x,zu,zt,zr=>(show False from x).elim
 |e0::es,n::ns,a0::as,0,x,nd,h,V=>by
  clear H;cases h;refine El.ea x.1 λt e=>?_;unfold putL;refine ae (e ..) (ae (HH ..) (ae (if_pos rfl ..) ?_));exact El.cy ⟨t,rfl⟩ hi W x.2.2.2
 |e0::es,n::ns,a0::as,j+1,x,nd,h,V=>by
  refine El.ea x.1 λt e=>?_;refine El.aa (cu.mp nd) λn1 n2=>?_;have ih:=cX.put W hi (es:=es) (j:=j) (hs:=hs) (tk:=tk) x.2.2.2 n2 h (qu V);unfold putL;rw [e,Bb (y:=n) (x:=nm) λq=>n1 (by refine ae (q ..) ?_;exact jQ (show ns[j]? = some nm from h)),if_neg kI]
  have es:k8 (a0::as) (j+1) a=a0::k8 as j a:=by
   unfold k8;by_cases c:j<as.length
   ·refine ae (if_pos c ..) (ae (if_pos (show j+1<(a0::as).length from wC c) ..) ?_);rfl
   ·refine ae (if_neg c ..) (ae (if_neg (show ¬j+1<(a0::as).length from λq=>c (w9 q)) ..) ?_);rfl
  refine ae (es ..) ?_;exact El.cy x.1 x.2.1 x.2.2.1 ih
theorem cX.none:∀{es:List d4}{ns:List ai}{as:List aY},cX P es ns as→nm∉ns→es.find? (·.key.isStr nm)=none∧es.any (·.refKey)=false:=@λA B C D F=>match A,B,C,D,F with
 |[],zz,J,V,W=>⟨rfl,rfl⟩
 |zz::J,[],V,x,W=>(show False from x).elim
 |zz::J,V::W,[],x,Y=>(show False from x).elim
 |e0::es,n::ns,a::as,x,h=>by
  refine El.ea x.1 λt e=>?_;refine El.aa (cX.none (es:=es) x.2.2.2 λq=>h (.tail _ q)) λi1 i2=>?_;refine ⟨?_,?_⟩
  ·rw [CB,e,Bb (y:=n) (x:=nm) λq=>h (by refine ae (q ..) ?_;exact .head _)];exact i1
  ·refine ae (J9 ..) (ae (i2 ..) (ae (KO ..) ?_));unfold d4.refKey;exact ae (e ..) rfl
theorem cX.any:∀{es:List d4}{ns:List ai}{as:List aY},cX P es ns as→es.any (·.refKey)=false∧es.length=as.length∧es.length≤ns.length:=@λA B C D=>match A,B,C,D with
 |[],zz,as,x=>(El.aK rfl (by refine ae (show as=[] from x) ?_;rfl) (bh _))
 |zz::J,[],V,x=>(show False from x).elim
 |zz::J,V::Y,[],x=>(show False from x).elim
 |e0::es,n::ns,a::as,x=>by
  refine El.ea x.1 λt e=>?_;refine El.cH (cX.any (es:=es) x.2.2.2) λi1 i2 W=>?_;exact El.aK (by refine ae (J9 ..) (ae (i1 ..) (ae (KO ..) ?_));unfold d4.refKey;exact ae (e ..) rfl) (congrArg jj i2) (cY W)
theorem HI:bR.Nodup:=of_decide_eq_true (by decide +kernel)
theorem HJ {hs:Int}{k:af}:∀es:List d4,(putL nm hs k v es).length≤es.length+1:=@λA=>match A with
 |[]=>aI _
 |e::r=>by
  unfold putL;split
  ·exact gq _
  ·exact cY (HJ r)
end
theorem evalArgs_none {M:nE}{A:cD}{E:af→aj→Prop}{s:aj}{f:af}{Q:Args→aj→Prop}(h:aF M A (qO []) (λvs J=>Q ⟨vs,[]⟩ J) E s):aF M A (evalArgs f true [] []) Q E s:=by
 unfold evalArgs;refine (?_:aF M A (qO []>>=_) Q E s);refine aC (fX h (λvs J h'=>?_) λzz zz x=>x);refine eM ?_;exact aC (bA (aC (bA (bA h'))))
section
variable {Kf:iS}{C:Cx}
theorem Sk (X:Kf.In C.h₀) (hc:qg Kf=true):Gi C:=by
 refine El.aa (cT hc) λh1 h2=>?_;refine El.aa (cT h1) λh3 Y=>?_;refine El.aa (cT Y) λY h5=>?_;have J:∀{j:Nat}{nm:ai},bR[j]? = some nm→KN Kf 242 nm=true∧qT Kf (.ref 242) nm=some none∧takerIn Kf 242 nm=some none:=λh=>by
  have:=cT (qQ.mp h2 _ (jQ h));exact El.aK this.1 (gK (cT this.2).1) (gK (cT this.2).2)
 refine ⟨λ{m x dx es n P as j nm e Q s} I V Z hQ=>?_,λ{m x dx es n P as j nm v rest Q s} I N ne V hj hi h=>?_⟩
 ·cases I with
  |mk F g1 g2 W=>
   refine El.cH (J V) λa b c=>?_;have hl:getL nm es=some (some e.val):=by unfold getL;exact ae (W.find HI V Z ..) rfl
   have hv:lV e.val=true:=by
    have key:∀{es:List d4}{ns:List ai}{as:List aY}{j:Nat},cX P es ns as→es[j]? = some e→lV e.val=true:=by
     intro es;induction es with
     |nil=>exact λzz h=>El.ns h
     |cons e0 es ih=>intro ns as j x h;cases ns with
      |nil=>exact (show False from x).elim
      |cons n ns=>cases as with
       |nil=>exact (show False from x).elim
       |cons a as=>cases j with
        |zero=>clear Z hQ hl ih;cases h;exact x.2.1
        |succ j=>exact ih (j:=j) x.2.2.2 h
    exact key W Z
   exact get_own F X ⟨g1,rfl,rfl,g2⟩ a h3 b rfl hl hv hQ
 ·cases I with
  |mk F g1 g2 W=>
   refine El.cH (J V) λa b c=>?_;refine El.cH W.any λi1 i2 i3=>?_;have hl:(getL nm es).isSome=true:=by
    unfold getL;cases es.find? (·.key.isStr nm) with
    |some e=>rfl
    |none=>dsimp only;rw [if_neg (by rw [i1];exact kI)];rfl
   exact set_dict F X N ⟨g1,rfl,rfl,g2⟩ rfl (gK h5) Y c h3 hl rfl (.head ne) (az (HJ es) (az (cY i3) (by decide))) λh' F' N'=>h h' _ _ _ F' N' λP' as a x y=>x.put y hi HI V (by refine ae (x.any.2.1 ..).symm (ae (i2 ..) ?_);exact hj)
noncomputable def HK (Kf:iS) (nm:ai) (f:ao):Bool:=(KN Kf 242 nm && decide (qT Kf (.ref 242) nm=some (some (.ref f)))) && (isFn Kf (.ref f) && (CY Kf (.ref f) && !bR.contains nm))
theorem Sl {nm:ai}{f:ao}(X:Kf.In C.h₀) (hc:HK Kf nm f=true):Gh C nm (.ref f):=by
 refine El.aa (cT hc) λZ h2=>?_;refine El.aa (cT h2) λh3 h4=>?_;refine El.aa (cT h4) λW Y=>?_;refine El.aa (cT Z) λh7 h8=>?_;refine ⟨λm x dx es n P as pl Q s I hQ=>?_,λenv pos r first Q s kp J h=>?_⟩
 ·cases I with
  |mk F g1 g2 ha=>
   refine El.aa (ha.none (nm:=nm) λq=>by rw [List.contains_iff_mem.mpr q] at Y;exact El.ft Y) λi1 i2=>?_
   exact method_inst F X ⟨g1,rfl,rfl,g2⟩ h7 (gK h8) h3 (by unfold getL;rw [i1];dsimp only;rw [if_neg (by rw [i2];exact kI)]) hQ
 ·have h':=fX h (λvs V h=>(⟨X.keeps h.1,h.2⟩:Kf.In V.heap∧_)) λzz zz e=>e;clear h;cases r with
  |nil=>exact callWith_of rfl (keeps_K W) (evalArgs_none h')
  |cons x r=>exact callWith_K X W h' (dR (J _ (.head _))) (mG λy hy=>J y (.tail _ hy))
end
structure Wo (Kf:iS) (p:bT) (ls:List ai) (C:Cx) (D:Nat):Prop where
 X:Kf.In C.h₀
 T:∃means mg mb,Top p ls means mg mb C.h₀
 hh:C.A.handled=none
 hd:C.A.depth+D<sY
 hu:C.A.units+3*D+64<o8
noncomputable abbrev mQ (Kf:iS) (p:bT) (ls:List ai) (pg:bT) (w:aR) (D:Nat) (f:List af→fY af) (sp:iK):Prop:=∀C:Cx,C.pg=pg→C.w=w→Wo Kf p ls C D→Aq C f sp
theorem Sm:∀x∈my,x≠"__name__":=λx hx=>of_decide_eq_true (qQ.mp (show my.all (λx=>decide (x≠"__name__"))=true by decide +kernel) x hx)
noncomputable abbrev mS (Kf:iS) (p:bT) (ls:List ai) (pg:bT) (w:aR) (D:Nat) (f:af) (sp:dK):Prop:=∀C:Cx,C.pg=pg→C.w=w→Wo Kf p ls C D→Ar C f sp
noncomputable abbrev qh (Kf:iS) (p:bT) (ls:List ai) (pg:bT) (w:aR) (D:Nat) (g:Mn):Prop:=g.nm=ai.ofString "__init__"→∀C:Cx,C.pg=pg→C.w=w→Wo Kf p ls C D→As C g.spec∧j9 C (ai.ofString "SequenceMatcher") (.ref 242)∧oA C (.ref 242)
section
variable {Kf:iS}{p:bT}{ls:List ai}{C:Cx}{D:Nat}
theorem oN {pg:bT}{w:aR}{g:Mn}(h:g.nm≠ai.ofString "__init__"):qh Kf p ls pg w D g:=λe=>(h e).elim
theorem HL {x:ai}{v:af}(W:Wo Kf p ls C D) (e:lY Kf iZ x=some none) (J:Kz x=some v) (V:x≠"__name__"):j9 C x v:=λenv p m Q s g1 g2 g3 Y Z F hQ=>by
 refine El.nH W.T λmeans mg mb T=>?_;exact Yu g3 Y (loadGlobal_builtin (by refine ae (g1 ..) ?_;exact T.g.keeps F.keep) (mg_none_of W.X T.g e) (by refine ae (g2 ..) ?_;exact T.b.keeps F.keep) ((T.builtins x V).trans J) hQ) Z
theorem Bc {x:ai}{v:af}(W:Wo Kf p ls C D) (e:lY Kf iZ x=some (some v)):j9 C x v:=λenv p m Q s g1 g2 g3 J V F Y=>by
 refine El.nH W.T λmeans mg mb T=>?_;exact Yu g3 J (loadGlobal_global (by refine ae (g1 ..) ?_;exact T.g.keeps F.keep) (mg_of W.X T.g e) Y) V
theorem HM {g:af}(W:Wo Kf p ls C D) (hk:CY Kf g=true):oA C g:=λenv pos x r Q s J h=>by
 refine callWith_K (first:=[]) W.X hk (fX h (λvs V h=>⟨W.X.keeps h.1,h.2⟩) λzz zz e=>e) (dR (J x (.head _))) (mG λy Y=>J y (.tail _ Y))
noncomputable def sj (Kf:iS) (f:Fn):Prop:=(lY Kf iZ f.nm=some (some f.val)∧CY Kf f.val=true)∨(lY Kf iZ f.nm=some none∧Kz f.nm=some f.val∧f.nm≠"__name__"∧∃id,f.val=.builtin id)
noncomputable def vP (Kf:iS) (g:Mn):Prop:=∃f,g.val=.ref f∧HK Kf g.nm f=true
noncomputable def lB (k:ag→Prop):KS:=λf σ=>match f with
 |.ret e=>wD (e.data σ) k
 |.nx=>k .none
 |_=>False
noncomputable def lD (x:ao×ao) (k:ag→List aY→Prop):KS:=λf σ=>∃as,σ[0]? = some (cc x as)∧lB (λd=>k d as) f σ
theorem HN {P:Fz}{n:Nat}:∀{vs:List af}{ts:List Tr}{O:Led},bQ P ts O vs→bQ P (ts++c9 n .un) O (vs++c9 n .none):=@λA B C D=>match A,B,C,D with
 |[],[],zz,h=>by
  refine ae (show _=[] from h.1) ?_;induction n with
  |zero=>exact ⟨rfl,rfl⟩
  |succ n J=>exact El.bP [] [] rfl rfl J
 |v::vs,t::ts,zz,⟨V,W,e,x,y⟩=>(El.bP V W e x (HN y))
 |[],zz::Y,Z,h=>(show False from h).elim
 |zz::Y,[],Z,h=>El.cn h.2
theorem HO:∀{ps:List ai}{vs:List af}{i:Nat}{x:ai}{v:af},ps.Nodup→ps[i]? = some x→vs[i]? = some v→((ps.zip vs).reverse).lookup x=some v:=@λA B C D F G H J=>match A,B,C,D,F,G,H,J with
 |[],zz,Y,Z,zw,zv,h,zu=>El.ns h
 |zz::Y,[],Z,zw,zv,zu,zt,h=>El.ns h
 |q::ps,u::vs,i,x,v,n,V,W=>by
  refine El.aa (cu.mp n) λn1 n2=>?_;refine ae (List.zip_cons_cons ..) (ae (KH ..) (ae (List.lookup_append ..) ?_));cases i with
  |zero=>
   cases V;cases W
   have:((ps.zip vs).reverse).lookup q=none:=List.lookup_eq_none_iff.mpr λp hp=>by
    have:=(Yv (List.mem_reverse.mp (show (p.1,p.2)∈(ps.zip vs).reverse from hp))).1
    first | exact beq_eq_false_iff_ne.mpr (λe=>n1 (by refine ae (e ..) ?_;exact this)) | exact bne_iff_ne.mpr (λe=>n1 (by refine ae (e ..) ?_;exact this))
   refine ae (this ..) ?_;refine (?_:List.lookup q [(q,u)]=some u);simp
  |succ i=>
   refine ae (HO n2 V W ..) ?_;rfl
noncomputable abbrev init (ds:List ag) (n:Nat):List Tr:=ds.map .dat++c9 n .un
structure vQ (Kf:iS) (f:ao) (name qual:ai) (params:B7) (body:List cP) (scope:gN) (dV kV doc pm dQ ct oc:af) (an od:Option ao) (mf:Array (Option af)) (ps xs ls':List ai):Prop where
 ho:Kf.lookup f=some ⟨oc,od,.func (jN name qual params body scope dV kV doc pm an dQ ct),mf⟩
 ry:fW Kf dQ qual=true
 vR:xs=ps++ls'
 oJ:xs.Nodup
 jo:∀x∈xs,scope.names.lookup x=some .local
 lh:∀x∈xs,(x == ("__debug__":ai))=false
 zf:scope.isCoroutine=false
 zg:scope.isGenerator=false
 hk:scope.kind=.function
 zh:∀x∈scope.names,x.2≠.cell
section
variable {pg:bT}{w:aR}{fs:c7}{name qual:ai}{params:B7}{body:List cP}{scope:gN}{dV kV doc pm dQ ct oc:af}{an od:Option ao}{mf:Array (Option af)}{f:ao}{ps xs ls':List ai}{H:Hn}{dd nn:Nat}{ir:SS}
theorem Be (J:vQ Kf f name qual params body scope dV kV doc pm dQ ct oc an od mf ps xs ls')
  (hg:my.all (λx=>decide (lY Kf iZ x=some none))=true) (lE:qg Kf=true∧∀C:Cx,C.pg=pg→C.w=w→Wo Kf p ls C D→oB C) (sk:∀f∈fs.f,sj Kf f∧mQ Kf p ls pg w D (λvs=>call f.val vs) f.spec) (oO:∀g∈fs.m,vP Kf g∧mS Kf p ls pg w D g.val g.spec∧qh Kf p ls pg w D g)
  (oP:(sh dd nn ⟨fs,scope,xs⟩ H body).ir=ir) {C:Cx}(e1:C.pg=pg) (e2:C.w=w) (W:Wo Kf p ls C (D+1)) {P:Fz}{O:Led}{vs as:List af}{σ₀:List Tr}{s:aj}{R:iX→aj→Prop}{k:KS}
  (kb:Keeps C.h₀ s.heap) (hP:∀a o,P a o→s.heap.get? a=some o∧a∉adr O) (nO:aW C.h₀ C.L s.heap O) (vS:(adr O).Nodup) (hd:bQ P σ₀ O vs) (hl:vs.length=ps.length) (hb:qE s (jN name qual params body scope dV kV doc pm an dQ ct) ⟨as,[]⟩ (ps.zip vs)) (hx:bq (specs fs) ir (σ₀++c9 ls'.length .un) k)
  (hR:∀(V:Cx) φ fl fe dZ h' tk,V.Ok→V.h₀=il s.heap (adr O)→V.P=P→G8 V dZ [] φ h' fl fe→k fe dZ→(∀i,V.rd φ.1 φ.2 i=λv=>∃x,xs[i]? = some x∧φ.1 x=some v)→R (.ok (.ret (match fl with | .ret v=>v | _=>.none))) {s with heap:=h',toks:=tk}) :
  gz (aO C.pg C.w) C.A (.call (.ref f) ⟨as,[]⟩) R s:=by
 have X':Kf.In s.heap:=W.X.keeps kb;refine El.nH W.T λmeans mg mb T=>?_;have iF:∀x∈ps,x∈xs:=λx h=>J.vR▸bO _ h;have st:∀b o,C.h₀.get? b=some o→(il s.heap (adr O)).get? b=some o:=λb o e=>Cy _ (kb b o e) λq=>by
  refine El.au (bL.mp q) λr hr q=>?_;have:=(nO r hr).2.2;rw [show r.1=b from q,e] at this;exact El.sn this
 subst e1 e2;refine XC (fd:=jN name qual params body scope dV kV doc pm an dQ ct) (body:=body) (binds:=ps.zip vs) (cb (bc _ _) W.hd) (X' _ _ J.ho) rfl (T.nolimit.keeps kb) (codeRec_of X' J.ry) rfl hb J.zh (λx hx=>J.jo _ (iF _ (Yv (show (x.1,x.2)∈ps.zip vs from hx)).1)) (λY zi Z=>?_) J.zf J.zg J.hk
 let V:Cx:={pg:=C.pg,w:=C.w,A:=C.A.deeper (wO qual scope s.heap.objs.size f dQ),h₀:=il s.heap (adr O),L:=s.heap.objs.size,env:=wO qual scope s.heap.objs.size f dQ,P:=P,xs:=xs,X:=[],rd:=λm zz i v=>∃x,xs[i]? = some x∧m x=some v}
 have W':Wo Kf p ls V D:=⟨W.X.keeps st,(El.yj means mg mb (T.keeps st)),W.hh,by
  have:=W.hd;refine (?_:C.A.depth+1+D<_);exact (Lin.ak (.c _ (.c _ (.c _ .z))) .z 1 (.c 1 (.ak (.a (.v 0) (.a (.v 1) (.n 1))) (.v 2)) .z) (.a (.a (.v 0) (.n 1)) (.v 1)) (.v 2) rfl this),by
  have:=W.hu;refine (?_:C.A.units+3+3*D+64<_);exact (Lin.ak (.c _ (.c _ (.c _ .z))) .z 1 (.c 1 (.ak (.a (.a (.v 0) (.m 3 (.a (.v 1) (.n 1)))) (.n 64)) (.v 2)) .z) (.a (.a (.a (.v 0) (.n 3)) (.m 3 (.v 1))) (.n 64)) (.v 2) rfl this)⟩
 have mT:V.Ok:={
  hh:=W.hh
  hu:=by
   have:=W'.hu;exact cb (qw (bc _ _) _) this
  sub:=λa o h=>Cy _ (hP a o h).1 (hP a o h).2
  uq:=λ⟨x,a,b⟩ ⟨y,c,d⟩=>by
   cases a.symm.trans c
   exact dC (b.symm.trans d)
  ldn:=λ{i x m N K v Q s} hi F zz zz r hq=>by
   refine El.au r λy a b=>?_;clear r;cases (show xs[i]? = some x from hi).symm.trans a
   exact Zp F b hq J.hk (J.jo _ (jQ a))
  z9:=J.lh}
 have hA:bV V fs:={
  ok:=mT
  g:={
   fn:=λi f hf=>by
    refine El.aa (sk f (jQ hf)) λab c=>?_;refine ⟨c V rfl rfl W',?_⟩;rcases ab with ⟨a,b⟩ | ⟨a,b,d,id,e⟩
    ·exact ⟨Bc W' a,HM W' b⟩
    ·exact ⟨HL W' a b d,e▸AB⟩
   gl:=λx hx v hv=>HL W' (of_decide_eq_true (qQ.mp hg x hx)) hv (Sm x hx)
   mt:=λi g hi=>by
    refine El.cH (oO g (jQ hi)) λcS b c=>?_;obtain ⟨f,e,a⟩:=cS;exact El.aK (b V rfl rfl W') (e▸Sl W'.X a) (λq=>c q V rfl rfl W')
   du:=Sk W'.X lE.1
   df:=lE.2 V rfl rfl W'}
  e1:=rfl
  e2:=rfl
  e3:=J.hk
  s:=⟨λ{i x m N K v Q s} hi F hN h=>by
   refine wpAny_storeName_local (J.jo x (jQ (show xs[i]? = some x from hi))) F.ns (λh' hn hs=>?_) (by refine (?_:(scope.kind == .class || (scope.kind == .module && _))=false);refine ae (J.hk ..) ?_;rfl)
   refine h h' _ _ (F.set hn hs) (λp hp=>⟨(hs.2 p.1 (hN p hp).2.1).trans (hN p hp).1,(hN p hp).2⟩) (λj w hj ⟨y,a,b⟩=>(El.aD y a ?_)) (El.aD x hi (if_pos rfl));refine (if_neg λe=>hj ?_).trans b;clear hn;subst e;exact (Ko (fH.mp (show xs[i]? = some _ from hi)).1 J.oJ).mp ((show xs[i]? = some _ from hi).trans a.symm) |>.symm⟩
  lc:=λx hx=>J.jo x hx
  bk:=by refine (?_:(if scope.kind.isAnnotationScope then ScopeKind.function else scope.kind)=_);refine ae (J.hk ..) ?_;rfl
  ll:=rfl}
 have F:Fr (il s.heap (adr O)) s.heap.objs.size Y (λx=>(ps.zip vs).reverse.lookup x):=⟨zi,λb o e=>Z b o (of_hideAll _ e),dH (hideAll_size _ _)⟩;have N:aW (il s.heap (adr O)) s.heap.objs.size Y O:=λq hq=>(El.aK (Z _ _ (nO q hq).1) (ef (ar.lt_size (nO q hq).1)) (hideAll_none _ (List.mem_map_of_mem hq)));have S:Sp V (σ₀++c9 ls'.length .un) [] (λx=>(ps.zip vs).reverse.lookup x) O [] []:=by
  refine .mk (Os:=O) (Ot:=[]) (vs:=vs++c9 ls'.length .none) vS (by simp) (HN (bQ.mono (λzz zz h=>.inl h) _ hd)) ?_ (λi v t h1 h2 h3=>?_) rfl λzz h=>El.nm h
  ·refine (?_:_=xs.length);exact ae (J.vR ..) (ae (aJ ..) (ae (aJ ..) (ae (List.length_replicate ..) (ae (hd.len ..).symm (ae (hl ..) rfl)))))
  ·by_cases hi:i<vs.length
   ·rw [wG hi] at h1;have Bf:i<ps.length:=hl▸hi;refine El.aD (ps[i]) ?_ (HO ?_ (eu Bf) h1)
    ·refine (?_:xs[i]? = _);rw [J.vR,wG Bf,eu Bf]
    ·have oJ:=J.oJ;rw [J.vR] at oJ;exact (fJ.mp oJ).1
   ·have Sn:σ₀.length≤i:=by refine ae (hd.len ..).symm ?_;omega
    rw [wF Sn] at h2;obtain ⟨_,e⟩:=fH.mp h2;rw [List.getElem_replicate] at e;exact (h3 e.symm).elim
 have run:=((sh dd nn ⟨fs,scope,xs⟩ H body).ok V ⟨hA,rfl,rfl⟩) (σ₀++c9 ls'.length .un) k (oP▸hx) [] ((λx=>(ps.zip vs).reverse.lookup x),[]) (λfl s'=>R (.ok (.ret (match fl with | .ret v=>v | _=>.none))) s') {s with heap:=Y,toks:=s.toks+(ps.zip vs).length} (.mk (N:=O) F N S) (λzz h=>El.nm h) λfl fe dZ jB h' tk hf kf=>hR V jB fl fe dZ h' tk mT rfl rfl hf kf λzz=>rfl
 exact fX run (λzz zz y=>y) λzz zz y=>y.elim
theorem So {h₀ h h':ar}{L x y:ao}{m:ai→Option af}(F:Fr h₀ L h m) (J:∀b o,b≠x→b≠y→h.get? b=some o→h'.get? b=some o) (V:x≠L∧h₀.get? x=none) (W:y≠L∧h₀.get? y=none):Fr h₀ L h' m:=
 ⟨F.ns.at λo e=>J _ _ V.1.symm W.1.symm e,λb o e=>J b o (λq=>by rw [q,V.2] at e;exact El.ns e) (λq=>by rw [q,W.2] at e;exact El.ns e) (F.keep b o e),F.above⟩
theorem Dat.sub {P P':Fz}{v:af}{d:ag}(x:Dat P v d) (J:∀a o,o.cls≠.ref 242→o.cls≠.type "dict"→P a o→P' a o):Dat P' v d:=by
 induction x with
 |none=>exact .none
 |bool b=>exact .bool b
 |int n t=>exact .int n t
 |str n t=>exact .str n t
 |list h q l _ V=>exact .list (J _ _ (by refine ae (q.c ..) ?_;exact (show af.type "list"≠.ref 242 by decide)) (by refine ae (q.c ..) ?_;exact (show af.type "list"≠.type "dict" by decide)) h) q l V
 |tup h l _ V=>exact .tup (J _ _ (show af.type "tuple"≠.ref 242 by decide) (show af.type "tuple"≠.type "dict" by decide) h) l V
 |mt h=>exact .mt (J _ _ (show af.ref 135≠.ref 242 by decide) (show af.ref 135≠.type "dict" by decide) h)
theorem Bg {P:Fz}{ds:List ag}:∀{vs:List af},bu P vs ds→bQ P (ds.map .dat) [] vs:=λh=>AJ h
theorem sq (tx:vQ Kf f name qual params body scope dV kV doc pm dQ ct oc an od mf ps xs ls') (hb:∀vs:List af,vs.length=ps.length→gP (jN name qual params body scope dV kV doc pm an dQ ct) ⟨vs,[]⟩=pure (ps.zip vs))
  (hg:my.all (λx=>decide (lY Kf iZ x=some none))=true) (lE:qg Kf=true∧∀C:Cx,C.pg=pg→C.w=w→Wo Kf p ls C D→oB C) (sk:∀f∈fs.f,sj Kf f∧mQ Kf p ls pg w D (λvs=>call f.val vs) f.spec) (oO:∀g∈fs.m,vP Kf g∧mS Kf p ls pg w D g.val g.spec∧qh Kf p ls pg w D g)
  (oP:(sh dd nn ⟨fs,scope,xs⟩ H body).ir=ir) {sp:List ag→(ag→Prop)→Prop}(Bh:∀ds k,sp ds k→ds.length=ps.length∧bq (specs fs) ir (init ds ls'.length) (lB k)):mQ Kf p ls pg w (D+1) (λvs=>call (.ref f) vs) (false,sp):=by
 intro C e1 e2 W P Sr vs ds k s Q J hP hd hs hQ;refine El.aa (Bh ds k hs) λhl hx=>?_;have lv:=hd.len.trans hl;refine iY (Be (O:=[]) tx hg lE sk oO oP e1 e2 W J.keep (λa o h=>⟨(hP a o h).2,λh=>El.nm h⟩) (λzz h=>El.nm h) iw (Bg hd) lv (.of_eq (hb vs lv)) hx λY φ fl fe dZ h' tk mT hh Z hf kf zz=>?_);have eh:Y.h₀=s.heap:=hh;have fin:∀{u:af}{d:ag}{T:Led},Fr Y.h₀ Y.L h' φ.1→aW Y.h₀ Y.L h' T→(adr T).Nodup→Dat (P.and T) u d→k d→Q u {s with heap:=h',toks:=tk}:=λ{u d T} F N nd hu hk=>by
  rw [eh] at F N;exact hQ u d T h' tk (J.keeps F.keep) (λzz zz zz=>F.keep _ _) (λp Z=>⟨(N p Z).1,(N p Z).2.2⟩) nd hu hk
 cases fe with
 |nx=>
  refine El.aa hf λV a=>?_;clear hf;subst V;cases a with
  |mk F' N' S'=>exact fin (T:=[]) F' (λzz h=>El.nm h) iw .none kf
 |ret e=>
  refine El.au hf λv V a=>?_;clear hf;subst V;refine El.au (eP (show wD (e.data dZ) k from kf)) λd e1 kd=>?_;cases a with
  |@mk N ZL F' N' S'=>cases S'.pop mT with
   |mk _ S2 _ g=>exact fin F' N' S2.nd (Z▸g d e1) kd
 |brk=>exact kf.elim
 |cnt=>exact kf.elim
theorem Ss (tx:vQ Kf f name qual params body scope dV kV doc pm dQ ct oc an od mf ps xs ls') (hb:∀vs:List af,vs.length=ps.length→gP (jN name qual params body scope dV kV doc pm an dQ ct) ⟨vs,[]⟩=pure (ps.zip vs))
  (hg:my.all (λx=>decide (lY Kf iZ x=some none))=true) (W:qg Kf=true∧∀C:Cx,C.pg=pg→C.w=w→Wo Kf p ls C D→oB C) (Y:∀f∈fs.f,sj Kf f∧mQ Kf p ls pg w D (λvs=>call f.val vs) f.spec) (Z:∀g∈fs.m,vP Kf g∧mS Kf p ls pg w D g.val g.spec∧qh Kf p ls pg w D g)
  (oP:(sh dd nn ⟨fs,scope,xs⟩ H body).ir=ir) {A:cD}{s:aj}{P:Fz}{vs:List af}{ds:List ag}{b:Bool}{Q:af→aj→Prop}{means:o5→Option af}{mg mb:ai→Option af}(X:Kf.In s.heap) (T:Top p ls means mg mb s.heap) (hh:A.handled=none) (hd:A.depth+(D+1)<sY) (hu:A.units+3*(D+1)+64<o8) (hP:∀a o,P a o→s.heap.get? a=some o) (hv:bu P vs ds)
  (hl:ds.length=ps.length) (hx:bq (specs fs) ir (init ds ls'.length) (lB λd=>d=.bool b)) (hQ:∀h' tk,Keeps s.heap h'→Q (.bool b) {s with heap:=h',toks:=tk}):aF (aO pg w) A (call (.ref f) vs) Q (λzz zz=>False) s:=by
 have lv:=hv.len.trans hl;refine iY (Be (C:={pg:=pg,w:=w,A:=A,h₀:=s.heap,L:=0,env:=wO qual scope 0 f dQ,P:=P,xs:=[],X:=[],rd:=λzz zz zz zz=>False}) (O:=[]) tx hg W Y Z oP rfl rfl ⟨X,(El.yj means mg mb T),hh,hd,hu⟩ (λzz zz h=>h) (λa o h=>⟨hP a o h,λh=>El.nm h⟩) (λzz h=>El.nm h) iw (Bg hv) lv (.of_eq (hb vs lv)) hx λC' φ fl fe dZ h' tk mT Su hp hf V zz=>?_);have eh:C'.h₀=s.heap:=Su;cases fe with
 |nx=>exact nomatch (show ag.none=.bool b from V)
 |ret e=>
  refine El.au hf λv J a=>?_;clear hf;subst J;refine El.au (eP (show wD (e.data dZ) (λd=>d=.bool b) from V)) λd e1 J=>?_;subst J;cases a with
  |@mk N ZL F' N' S'=>cases S'.pop mT with
   |mk _ S2 _ g=>
    clear hx V S' a_1;cases g _ e1;exact hQ h' tk (eh▸F'.keep)
 |brk=>exact V.elim
 |cnt=>exact V.elim
noncomputable def Bj:Nat→(List af→Prop)→Prop:=@λA B=>match A,B with
 |0,P=>P []
 |n+1,P=>∀x,Bj n λvs=>P (x::vs)
theorem sr:∀(n:Nat) {P:List af→Prop},Bj n P→∀vs:List af,vs.length=n→P vs:=@λA B C D F=>match A,B,C,D,F with
 |0,zz,h,[],J=>h
 |0,zz,J,V::W,e=>El.sz e
 |zz+1,J,V,[],e=>El.zs e
 |n+1,zz,h,x::vs,e=>sr n (h x) vs (ji e)
theorem mU {dfl:List af}{dds:List ag}(tx:vQ Kf f name qual params body scope dV kV doc pm dQ ct oc an od mf ps xs ls') (Sv:∀P,bu P dfl dds) (na:Nat) (hn:na+dfl.length=ps.length) (hb:∀s:aj,Kf.In s.heap→Bj na λvs=>qE s (jN name qual params body scope dV kV doc pm an dQ ct) ⟨vs,[]⟩ (ps.zip (vs++dfl)))
  (hg:my.all (λx=>decide (lY Kf iZ x=some none))=true) (lE:qg Kf=true∧∀C:Cx,C.pg=pg→C.w=w→Wo Kf p ls C D→oB C) (sk:∀f∈fs.f,sj Kf f∧mQ Kf p ls pg w D (λvs=>call f.val vs) f.spec) (oO:∀g∈fs.m,vP Kf g∧mS Kf p ls pg w D g.val g.spec∧qh Kf p ls pg w D g)
  (oP:(sh dd nn ⟨fs,scope,xs⟩ H body).ir=ir) {sp:dK}(Bh:∀x as ds k,sp x as ds k→ds.length+1+dfl.length=ps.length∧bq (specs fs) ir (cc x as::init (ds++dds) ls'.length) (lD x k)):mS Kf p ls pg w (D+1) (.ref f) sp:=by
 intro C e1 e2 W P Sr x as O vs ds k s R J hP hI nO vS hd hs hR;refine El.aa (Bh x as ds k hs) λhl hx=>?_;have lv:(af.ref x.1::vs).length+dfl.length=ps.length:=by refine ae (dA ..) (ae (hd.len ..) ?_);exact hl
 refine Be tx hg lE sk oO oP e1 e2 W J.keep (λa o h=>(hP a o h).2) nO vS (σ₀:=cc x as::(ds++dds).map .dat) (vs:=(.ref x.1::vs)++dfl) (El.bP O [] (by exact ae (bt ..) rfl) ⟨r6,hI⟩ (Bg (bB.append hd (Sv P)))) (by refine ae (aJ ..) ?_;exact lv) (sr na (hb s (W.X.keeps J.keep)) _ (Nat.add_right_cancel (lv.trans hn.symm))) hx λZ φ fl fe dZ h' tk mT hh hp hf kf HP=>?_
 refine El.au kf ?_;clear kf;intro jy h0 kf;obtain ⟨zz,es,n,V,zz⟩:=hI;clear hP vS;subst V;have fin:∀{u:af}{d:ag}{N K ZL:Led},Fr Z.h₀ Z.L h' φ.1→aW Z.h₀ Z.L h' N→Sp Z dZ [] φ.1 N K ZL→Dat (Z.P.and N) u d→k d jy→R (.ok (.ret u)) {s with heap:=h',toks:=tk}:=λ{u d N K ZL} F N1 S hu hk=>by
  cases S.inst h0 with
  |@mk HQ n2 rest r ha pN hz back=>
   have nd:=(pN.map (λq:ao×ay=>q.1)).nodup_iff.mp S.nd;have HR:∀q∈rest,q.1≠x.1∧q.1≠x.2:=λq Y=>by
    refine El.aa (cu.mp nd) λn1 n2=>?_;have Y:q.1∈rest.map (λq:ao×ay=>q.1):=bL.mpr (El.aD q Y rfl);exact ⟨λe=>n1 (e▸.tail _ Y),λe=>(cu.mp n2).1 (e▸Y)⟩
   rw [hh] at F N1;have Bk:∀b o,b≠x.1→b≠x.2→s.heap.get? b=some o→(il s.heap [x.1,x.2]).get? b=some o:=λb o n1 n2 e=>Cy _ e λh=>(cU.mp h).elim n1 λh=>n2 (dk.mp h);have sub:∀a o,Z.P.and ZL a o→P.and rest a o:=λa o q=>q.elim (λq=>.inl (hp▸q)) λq=>.inr (hz _ q);exact hR u d jy [(x.1,fZ 242 x.2),(x.2,fj HQ n2)] rest h' tk (So J (λb o n1 n2 e=>F.keep _ _ (Bk b o n1 n2 e)) (nO _ (.head _)).2 (nO _ (.tail _ (.head _))).2) (λb o zz nb e=>F.keep _ _ (Bk b o (λe=>nb (e▸.head _)) (λe=>nb (e▸.tail _ (.head _))) e)) rfl (λq Y=>(N1 q (pN.mem_iff.mpr Y)).1) (λq Y=>by
     cases e:s.heap.get? q.1 with
     |none=>rfl
     |some o=>
      have:=(N1 q (pN.mem_iff.mpr (.tail _ (.tail _ Y)))).2.2;rw [show (il s.heap (adr [(x.1,fZ 242 x.2),(x.2,fj es n)])).get? q.1=some o from Bk _ _ (HR q Y).1 (HR q Y).2 e] at this;exact El.sn this) (cu.mp (cu.mp nd).2).2 (El.rg rfl HQ n2 rfl (ha.mono sub)) (hu.sub λa o n1 n2 q=>q.elim (λq=>.inl (hp▸q)) λq=>by
     rcases cU.mp (pN.mem_iff.mp q) with e | q
     ·exact (n1 (by cases e;rfl)).elim
     ·rcases cU.mp q with e | q
      ·exact (n2 (by cases e;rfl)).elim
      ·exact .inr q) hk
 cases fe with
 |nx=>
  refine El.aa hf λV a=>?_;clear hf;subst V;cases a with
  |mk F' N' S'=>exact fin F' N' S' .none kf
 |ret e=>
  refine El.au hf λv V a=>?_;clear hf;subst V;refine El.au (eP (show wD (e.data dZ) _ from kf)) λd e1 kd=>?_;cases a with
  |@mk N ZL F' N' S'=>cases S'.pop mT with
   |mk _ S2 _ g=>exact fin F' N' S2 (g d e1) kd
 |brk=>exact kf.elim
 |cnt=>exact kf.elim
end
end
noncomputable def ke (h₀ h:ar) (L:ao):Led:=(kA h.objs.size).filterMap λa=>(h.get? a).bind λo=>if a≠L∧h₀.get? a=none then some (a,o) else none
section
variable {h₀ h h':ar}{L a b:ao}{o:ay}{m:ai→Option af}
theorem HS (e:h.get? a=some o) (n1:a≠L) (n2:h₀.get? a=none):(a,o)∈ke h₀ h L:=
 Cv.mpr (El.aD a (xa.mpr (ar.lt_size e)) (by refine ae (e ..) ?_;exact if_pos ⟨n1,n2⟩))
theorem Bl:aW h₀ L h (ke h₀ h L):=λp J=>by
 refine El.au (Cv.mp J) λa zz e=>?_;cases e1:h.get? a with
 |none=>rw [e1] at e;exact El.ns e
 |some o=>
  rw [e1] at e;by_cases c:a≠L∧h₀.get? a=none
  ·have e:(if a≠L∧h₀.get? a=none then some (a,o) else none)=some p:=e;rw [if_pos c] at e;clear J;cases e;exact ⟨e1,c⟩
  ·have e:(if a≠L∧h₀.get? a=none then some (a,o) else none)=some p:=e;rw [if_neg c] at e;exact El.ns e
theorem Bm (F:Fr h₀ L h m) (J:Fr h₀ L h' m) (N:aW h₀ L h' (ke h₀ h L)):∀b o,b≠L→h.get? b=some o→h'.get? b=some o:=λb o n e=>by
 cases c:h₀.get? b with
 |none=>exact (N _ (HS e n c)).1
 |some V=>exact (J.keep _ _ c).trans ((F.keep _ _ c).symm.trans e)
theorem Bn (n1:a≠L) (n2:h₀.get? a=none) (hl:∀p∈ke h₀ h L,p.1≠a):h.get? a=none:=by
 cases e:h.get? a with
 |none=>rfl
 |some o=>exact (hl _ (HS e n1 n2) rfl).elim
end
section
variable {Kf:iS}{p:bT}{ls:List ai}{C:Cx}{D:Nat}{pg:bT}{w:aR}{f:ao}{sp:dK}
theorem Sw (hm:makesIn Kf 242=true) (hi:qT Kf (.ref 242) "__init__"=some (some (.ref f))) (hf:isFn Kf (.ref f)=true) (hM:mS Kf p ls pg w D (.ref f) sp) (e1:C.pg=pg) (e2:C.w=w) (W:Wo Kf p ls C (D+1+1)):As C sp:=by
 intro P m vs ds k s Q F hP hd hs hQ;refine call_cls (news:=ke C.h₀ s.heap C.L) F W.X Bl hm hi hf λx Y h1 F1 Z fN V=>?_;have N0:aW C.h₀ C.L h1 (ke C.h₀ s.heap C.L):=λq J=>Z q (.tail _ (.tail _ J));have kp:=Bm F F1 N0;have nx:=(Z _ (.head _)).2;have nd:=(Z _ (.tail _ (.head _))).2;have gd:s.heap.get? Y=none:=Bn nd.1 nd.2 λp hp=>ef (fN p hp);have gx:s.heap.get? x=none:=Bn nx.1 nx.2 λp hp=>ef (eY (fN p hp) V)
 let C':Cx:={C with A:=C.A.under (.builtin "type.__call__" ⟨.ref 242::vs,[]⟩)}
 have W':Wo Kf p ls C' D:=⟨W.X,W.T,W.hh,by
  have:=W.hd;refine (?_:C.A.depth+1+D<_);exact (Lin.ak (.c _ (.c _ (.c _ .z))) .z 1 (.c 1 (.ak (.a (.v 0) (.a (.a (.v 1) (.n 1)) (.n 1))) (.v 2)) .z) (.a (.a (.v 0) (.n 1)) (.v 1)) (.v 2) rfl this),by
  have:=W.hu
  first | (refine (?_:C.A.units+1+3*D+64<_);omega) | (refine (?_:C.A.units+4+3*D+64<_);omega)⟩
 have ne:∀{a:ao}{o:ay},s.heap.get? a=some o→a∉[x,Y]:=λe h=>by
  clear Z V nx;rcases cU.mp h with q | h
  ·rw [q,gx] at e;exact El.ns e
  ·rw [dk.mp h,gd] at e;exact El.ns e
 refine hM C' e1 e2 W' P m (x,Y) [] [(x,fZ 242 Y),(Y,fj [] 0)] vs ds _ _ _ F1 (λa o q=>(El.aK (hP a o q).1 (kp a o (hP a o q).1 (hP a o q).2) (ne (hP a o q).2))) (El.rg rfl [] 0 rfl rfl) (λq J=>Z q ((bO (ke C.h₀ s.heap C.L) J))) (cu.mpr ⟨λh=>lR V (dk.mp h),cu.mpr ⟨(λh=>El.nm h),iw⟩⟩) hd (hs (x,Y)) λu d jy O' T h' tk F' kq eO hO hT nT hI hu hk=>?_;refine El.aa hk ?_;clear hk;intro cS hk;subst cS;cases hu
 have Sy:∀q∈T,s.heap.get? q.1=none:=λq J=>by
  cases e:s.heap.get? q.1 with
  |none=>rfl
  |some o=>
   by_cases c:q.1=C.L
   ·refine El.l6 F1.ns λoL a1 a2 hL a3=>?_;have:=hT q J;rw [c] at this;exact El.sn (hL.symm.trans this)
   ·exact El.sn ((kp _ _ c e).symm.trans (hT q J))
 refine ⟨rfl,hQ (x,Y) jy O' T h' tk F' (λb o n e=>kq b o n (ne e) (kp b o n e)) (λq J=>⟨hO q J,?_⟩) ?_ hI hk⟩
 ·rcases cF.mp J with J | J
  ·have:q.1∈adr O':=bL.mpr (El.aD q J rfl);rw [eO] at this;rcases cU.mp this with e | h
   ·refine ae (e ..) ?_;exact gx
   ·refine ae (dk.mp h ..) ?_;exact gd
  ·exact Sy q J
 ·refine (?_:(lX _ _).Nodup);refine ae (bG ..) ?_;refine fJ.mpr (El.aK ?_ nT (λa ha b hb e=>?_))
  ·refine (?_:(adr O').Nodup);refine ae (eO ..) ?_;exact cu.mpr ⟨λh=>lR V (dk.mp h),cu.mpr ⟨(λh=>El.nm h),iw⟩⟩
  ·subst e;refine El.au (bL.mp hb) λq J eq=>?_;have g1:h1.get? a=none:=eq▸hT q J;have ha:a∈adr O':=ha;rw [eO] at ha;clear hb eq;rcases cU.mp ha with e | h
   ·rw [e,(Z _ (.head _)).1] at g1;exact El.sn g1
   ·rw [dk.mp h,(Z _ (.tail _ (.head _))).1] at g1;exact El.sn g1
theorem Sz {g:Mn}(hm:makesIn Kf 242=true) (hi:qT Kf (.ref 242) "__init__"=some (some (.ref f))) (J:isFn Kf (.ref f)=true) (V:mS Kf p ls pg w D (.ref f) g.spec) (Y:lY Kf iZ (ai.ofString "SequenceMatcher")=some (some (.ref 242))) (Z:CY Kf (.ref 242)=true):qh Kf p ls pg w (D+1+1) g:=
 λzz C e1 e2 W=>(El.aK (Sw hm hi J V e1 e2 W) (Bc W Y) (HM W Z))
end
noncomputable def jF:List ag→List ag→Option Bool:=@λA B=>match A,B with
 |[],zz=>none
 |a::xs,ys=>match ys with
  |[]=>none
  |b::ys=>match a with
   |.int x=>(match b with
    |.int y=>if x=y then jF xs ys else some (decide (x<y))
    |_=>none)
   |_=>none
noncomputable def HT:ag→List ag:=@λA=>match A with
 |.tuple xs=>xs
 |_=>[]
noncomputable abbrev Bo (a b:ag):Option Bool:=jF (HT a) (HT b)
inductive vT:ag→Prop
 |mk {n:Int}{xs:List ag}:(∀x∈ag.int n::xs,dX x)→vT (.tuple (.int n::xs))
noncomputable def Bp:iK:=(true,λds k=>∃rs ts,ds=[.list rs]∧(rs.Perm ts∧ts.Pairwise (λa b=>Bo a b=some true)∧rs.length<64∧∀r∈rs,vT r)∧k (.list ts))
theorem HU {xs ys:List ag}{c:Bool}(h:jF xs ys=some c):∃x y J V,xs=.int x::J∧ys=.int y::V∧((x=y∧jF J V=some c)∨(x≠y∧c=decide (x<y))):=by
 cases xs with
 |nil=>exact El.ns h
 |cons a xs=>cases ys with
  |nil=>exact El.ns h
  |cons b ys=>cases a with
   |int x=>cases b with
    |int y=>
     refine El.jS x y xs ys rfl rfl ?_;have h:(if x=y then jF xs ys else some (decide (x<y)))=some c:=h;by_cases e:x=y
     ·rw [if_pos e] at h;exact .inl ⟨e,h⟩
     ·rw [if_neg e] at h;exact .inr ⟨e,(dC h).symm⟩
    |_=>exact El.ns h
   |_=>exact El.ns h
theorem vU:∀{xs ys:List ag}{c:Bool},jF xs ys=some c→jF ys xs=some (!c):=@λA B C D=>match A,B,C,D with
 |[],zz,V,h=>El.ns h
 |a::xs,ys,c,h=>by
  refine El.fL (HU h) λx y W Y e1 J g=>?_;clear h;subst J;cases e1
  rcases g with ⟨rfl,g⟩ | ⟨n,rfl⟩
  ·exact (if_pos rfl).trans (vU g)
  ·exact (if_neg λe=>n e.symm).trans (congrArg some (by rw [←decide_not,decide_eq_decide];omega))
section
variable {prog:bT}{w:aR}{A:cD}{E:af→aj→Prop}{s:aj}{Q:Bool→aj→Prop}{P:Fz}{fin:Bool}
theorem HV:∀{xs ys:List ag}{vs us:List af}{i:Nat}{c:Bool},bu P vs xs→bu P us ys→jF xs ys=some c→Q c s→KatLex prog w A true fin Q (vs.zip us) i s:=@λB C D F G H J K L M=>match B,C,D,F,G,H,J,K,L,M with
 |[],zz,zy,zx,zw,zv,zu,zt,h,zr=>El.ns h
 |a::xs,ys,vs,us,i,c,W,Y,h,Z=>by
  refine El.fL (HU h) λx y xr yr e1 V g=>?_;clear h;subst V;cases e1
  cases vs with
  |nil=>exact El.cn W
  |cons v vs=>cases us with
   |nil=>exact El.cn Y
   |cons u us=>
    refine El.ea W.1.i8 λt V=>?_;subst V;refine El.ea Y.1.i8 λt' V=>?_;subst V;refine kat_cons (CJ ?_);rcases g with ⟨rfl,g⟩ | ⟨n,rfl⟩
    ·refine ae (beq_self_eq_true ..) ?_;exact kat_yes (HV W.2 Y.2 g Z)
    ·refine ae (beq_eq_false_iff_ne.mpr n ..) ?_;refine kat_no ?_;cases i with
     |zero=>exact oneLt_int Z
     |succ i=>exact kat_one _ _ (Zq Z)
theorem HW (W:∀a o,P a o→s.heap.get? a=some o) (hu:A.units+64<o8):∀{xs:List ag}{vs:List af}{i:Nat},bu P vs xs→(∀x∈xs,dX x)→Q fin s→KatLex prog w A true fin Q (vs.zip vs) i s:=@λB C D F G H=>match B,C,D,F,G,H with
 |[],[],zz,Z,zx,V=>kat_nil V
 |[],zz::Z,zx,d,zw,zv=>(show False from d).elim
 |x::xs,vs,i,d,hx,V=>by
  cases vs with
  |nil=>exact El.cn d
  |cons v vs=>
   have Y:=hx x (.head _);have J:=SeqAt.canLay_of_shaped Y;refine El.ea (d.1.reads W (ag.hasDict_of_canLay _ J)) λas r=>?_;refine kat_cons (SeqAt.eqBoolOverData _ _ _ _ _ _ _ _ _ _ _ _ r r J J (SeqAt.room_of_shaped Y hu) ?_);refine ae (SeqAt.eqv_refl _ J ..) ?_;exact kat_yes (HW W hu d.2 (λy hy=>hx y (.tail _ hy)) V)
end
theorem HX {P:Fz}{h:ar}(W:∀a o,P a o→h.get? a=some o):∀{vs:List af}{rs:List ag},bu P vs rs→(∀r∈rs,vT r)→∃fs,KatTups h vs fs∧(∀v∈fs,∃x t,v=.int x t)∧fs.length=vs.length:=@λA B C D=>match A,B,C,D with
 |[],zz,Z,zx=>(El.ey [] .nil (λzz h=>El.nm h) rfl)
 |zz::Z,[],d,zx=>(show False from d).elim
 |v::vs,r::rs,d,Y=>by
  refine El.dI (HX W d.2 λr h=>Y r (.tail _ h)) λfs f1 f2 f3=>?_;have d1:=d.1;clear d;cases Y r (.head _) with
  |mk _=>
   refine El.aP d1.tupI λa ws J p V=>?_;subst J;cases ws with
   |nil=>exact El.cn V
   |cons u ws=>
    refine El.ea V.1.i8 λt J=>?_;clear V;subst J;exact El.ey (_::fs) (.cons (W _ _ p) rfl rfl rfl f1) (bH.mpr ⟨(El.yi _ _ rfl),f2⟩) (congrArg jj f3)
section
variable {prog:bT}{w:aR}{A:cD}{E:af→aj→Prop}{s:aj}{h₀:ar}{L:ao}{m:ai→Option af}{news:List (ao×ay)}
theorem SA {l:ao}{vs:List af}{Q:af→aj→Prop}(F:Fr h₀ L s.heap m) (N:aW h₀ L s.heap news) (hl:s.heap.IsList l vs.toArray) (Z:vs.length<2)
  (h:∀D h' n',Fr h₀ L h' m→aW h₀ L h' ((D,W.listOf vs.toArray n')::news)→(∀q∈news,q.1<D)→Q (.ref D) {s with heap:=h'}) :
  aF (aO prog w) A (call (.builtin "sorted") [.ref l]) Q E s:=by
 refine Calls.call_function_entry kind_sorted plain_sorted entry_sorted (args_sorted1 _) ?_;unfold bZ.«sorted»;refine aC (m:=checkCount "sorted" 1 1 _) (bA ?_);refine aC (collect_list hl ?_ (by refine ae (Kv ..) ?_;omega))
 refine aC (wpAny_newList ?_ (by refine ae (Kv ..) ?_;omega))
 have hsz:((s.heap.push (ew "list" #[] 0)).update s.heap.objs.size (ay.mapSeq (·++vs.toArray))).objs.size=s.heap.objs.size+1:=by
  exact ae (ar.size_update ..) (ae (size_push' ..) rfl)
 have V:(((s.heap.push (ew "list" #[] 0)).update s.heap.objs.size (ay.mapSeq (·++vs.toArray))).push (ew "list" vs.toArray 0)).get? (s.heap.objs.size+1)=some (ew "list" vs.toArray 0):=by
  refine ae (hsz ..).symm ?_;exact ar.get?_push_size _ rfl
 have keep:∀b o,s.heap.get? b=some o→(((s.heap.push (ew "list" #[] 0)).update s.heap.objs.size (ay.mapSeq (·++vs.toArray))).push (ew "list" vs.toArray 0)).get? b=some o:=λb o q=>by
  have J:b<s.heap.objs.size:=ar.lt_size q;rw [ar.get?_push_ne _ _ _ (by refine ae (hsz ..) ?_;exact ef (qz J)),ar.get?_update_ne _ _ _ _ (ef J),ar.get?_push_ne _ _ _ (ef J)]
  exact q
 have Y:L<s.heap.objs.size:=F.ns.lt;have J:∀q∈news,q.1<s.heap.objs.size+1:=λq hq=>qz (ar.lt_size (N q hq).1);obtain ⟨F2,e2,N2⟩:=FK (F.kept keep) (N.grown keep) V (lR (qz Y)) (ar.get?_none_of_le (az F.above (gw (et Y)))) λp hp=>ef (J p hp);refine (?_:aF _ _ _ _ _ {s with heap:=((s.heap.push (ew "list" #[] 0)).update s.heap.objs.size (ay.mapSeq (·++vs.toArray))).push (ew "list" vs.toArray 0)})
 refine ae (hsz ..) ?_;refine aC (eM (qI Yw (El.aD _ V rfl) Yx (FE V Z ?_) (Yy _)));exact El.aD _ rfl (bA (El.aD _ rfl (h _ _ e2 F2 N2 J)))
end
theorem SD {C:Cx}(hu:C.A.units+1+1+64<o8):Aq C (λvs=>call (.builtin "sorted") vs) Bp:=by
 have SF:C.A.in1.in1.units+64<o8:=hu;intro P m vs ds k s Q F hP hd hs hQ;refine El.aP hs λrs ts J dq hk=>?_;clear hs;subst J;obtain ⟨hp,SH,Bq,hr⟩:=dq;refine El.aP hd.iJ λv vr J d1 dr=>?_;subst J;obtain rfl:=dr.nX;refine El.dh d1.listI λl vs n J p dv=>?_;subst J;have hl:=kY (λa o h=>(hP a o h).2) p;have lv:=dv.len;have nw:∀{D:ao}{h':ar}{Z:List af}{n':Nat}{tk:Nat},Fr C.h₀ C.L h' m→aW C.h₀ C.L h' ((D,W.listOf Z.toArray n')::ke C.h₀ s.heap C.L)→(∀q∈ke C.h₀ s.heap C.L,q.1<D)→bu P Z ts→Q (.ref D) {s with heap:=h',toks:=tk}:=λ{D h' Z n' tk} F' N' V hd=>
  hQ (.ref D) _ [(D,bF Z n')] h' tk F' (Bm F F' λq hq=>N' q (.tail _ hq)) (cR.mpr ⟨(N' _ (.head _)).1,Bn (N' _ (.head _)).2.1 (N' _ (.head _)).2.2 λq hq=>ef (V q hq)⟩) (cu.mpr ⟨(λh=>El.nm h),iw⟩) ⟨D,n',Z,ts,[],rfl,rfl,rfl,hd.mono λzz zz=>.inl⟩ hk
 by_cases h2:2≤vs.length
 ·refine kat_sorted F Bl hl h2 (lv▸Bq) λD e1 h' F' N' V=>?_;have N0:aW C.h₀ C.L h' (ke C.h₀ s.heap C.L):=λq hq=>N' q (.tail _ hq);have Y:∀a o,P a o→h'.get? a=some o:=λa o q=>Bm F F' N0 a o (hP a o q).1 (hP a o q).2;refine El.dI (HX Y dv hr) λfs f1 f2 f3=>?_;refine kat_kind (T:=.type "int") f1 (f3▸dT (by decide) h2) (λv hv=>?_) (by decide) ?_
  ·refine El.q9 (f2 v hv) λx t J=>?_;clear hv;subst J;exact bz.now
  refine (?_:lU.kasWp _ _ _ _);have at':∀{i:Nat}{a:ag},rs[i]? = some a→∃b ws xs,vs.getD i .none=.ref b∧P b (jY ws)∧bu P ws xs∧a=.tuple xs∧∀x∈xs,dX x:=λ{i a} hi=>by
   refine El.au (dv.get hi) λu e1 d1=>?_;cases hr _ (jQ hi) with
   |mk hx=>
    refine El.aP d1.tupI λb ws J p dw=>?_;clear d1;subst J;exact El.rj b ws _ (by rw [eX,e1];rfl) p dw rfl hx
  refine FI (z:=ag.none) (D:=id) (R:=λa b=>Bo a b=some true) (Inv:=λs'=>∃tk,s'={s with heap:=h',toks:=tk}) (λh1 h2=>nomatch h2.symm.trans (vU h1)) (rs:=rs) (by refine ae (KC ..) ?_;exact dv) (az (by decide) h2) hp SH ?_ ⟨s.toks,rfl⟩ λp s' hI hd=>?_
  ·rintro i j a b c K s' hi hj ⟨tk,rfl⟩ h1 h2 hC
   refine (?_:aF _ _ (keyLt' _ (vs.getD i af.none) (vs.getD j af.none)) K _ _);refine El.tI (at' hi) λx ws xs g1 g2 g3 J g5=>?_;subst J;refine El.tI (at' hj) λy us ys k1 k2 k3 J k5=>?_;subst J;have Br:=hC {s with heap:=h',toks:=tk} ⟨tk,rfl⟩
   by_cases uD:i=j
   ·clear k1 h2;subst uD;clear hC h2;cases c with
    |true=>cases hi.symm.trans hj;exact nomatch (h1 rfl).symm.trans (vU (h1 rfl))
    |false=>
     refine ae (g1 ..) ?_;refine kat_lt (Y _ _ g2) rfl (Y _ _ g2) rfl (HW Y SF g3 g5 ?_);refine ae (decide_eq_false (ij _) ..) ?_;exact Br
   ·refine ae (g1 ..) (ae (k1 ..) ?_);refine kat_lt (Y _ _ g2) rfl (Y _ _ k2) rfl (HV g3 k3 (c:=c) ?_ Br);clear hC Br;cases c with
    |true=>exact h1 rfl
    |false=>exact (h2 rfl).elim (λe=>(uD e).elim) vU
  ·refine El.ea hI λtk J=>?_;clear hI;subst J;rw [KC] at hd;exact KasFin.intro F' N' (UpdF.head λq hq=>ef (V q hq)) λHY c Bs Bt=>nw Bs Bt V hd
 ·have h1:=Yz h2;refine SA F Bl hl h1 λD h' n' F' N' V=>?_;exact nw (tk:=s.toks) F' N' V (FJ hp (lv▸h1)▸dv)
theorem HZ:mroOf (.type "map")=pure [.type "map",.type "object"]:=by refine ae (mroOf_type ..) ?_;kernel_rfl
theorem SJ:ik (.type "map") "__new__"=pure (some (.builtin "map.__new__")):=by refine ae (kG ..) (ae (kH ..) ?_);kernel_rfl
theorem SK:Slot "map" "__init__" "object.__init__":=
 .of (owner:="object") (n:="__init__") (by refine ae (kG ..) (ae (kH ..) ?_);kernel_rfl) (by decide +kernel) (by decide +kernel) (by decide +kernel)
  (by first | exact .inl (by decide +kernel) | exact .inr (by decide +kernel)) (by refine ae (lT ..) ?_;kernel_rfl)
theorem SM:TypeCalled "map" "map.__new__" "object.__init__":=
 ⟨by decide +kernel,by decide +kernel,(El.yi _ _ HZ),madeBy_type HZ SJ (by decide +kernel),by decide +kernel,by refine ae (lT ..) ?_;kernel_rfl,SK⟩
theorem typeCall_map_2 (a b:af):checkTypeCall "map" ⟨[a,b],[]⟩=pure ():=by kernel_rfl
theorem newCall_map_2 (a b:af):CE "map.__new__" ⟨[.type "map",a,b],[]⟩=pure ():=by kernel_rfl
theorem SN:wK table "map.__new__"=some bZ.«map.__new__»:=J6 (by kernel_rfl)
theorem SO:iW (.type "map") (.type "map")=pure true:=by refine ae (lT ..) ?_;kernel_rfl
noncomputable abbrev fV (T:ao) (f:af):ay:={cls:=.type "map",data:=.fields #[.ref T,f]}
section
variable {prog:bT}{w:aR}{A:cD}{E:af→aj→Prop}{s:aj}
theorem SP (f:af) (l:ao) (items:Array af):MeetsIn prog w (bZ.«map.__new__» ⟨[.type "map",f,.ref l],[]⟩) (λzz R s=>s.heap.IsList l items∧R (.ok (.ret (.ref (s.heap.objs.size+2))))
  {s with heap:=((s.heap.push {cls:=.type "list_iterator",data:=.fields #[.ref l,.int 0 0]}).push {cls:=.type "tuple",data:=.seq #[.ref s.heap.objs.size]}).push (fV (s.heap.objs.size+1) f)}):=
 .of_wp λA R s h=>by
  refine El.aa h ?_;clear h;intro hl h;have J:=SO;unfold bZ.«map.__new__» bZ.SmallTypes.newClass bZ.SmallTypes.refuseKeywords;refine aC (aC (bA ?_));simp only [YA,jO,if_false];refine aC (Kc J ?_);simp only [YA,jO,if_false];refine bA ?_;dsimp only;refine aC (bA ?_);refine ae (if_neg (by simp) ..) ?_
  unfold bZ.SmallTypes.iterAll;refine (?_:aF _ _ (do
   let its ←(do
    let r ←forIn [af.ref l] (#[]:Array af) λx r=>do
     let y ←holding r.toList (nF x)
     pure (ForInStep.yield (r.push y))
    pure r.toList)
   let t ←Kb its
   ret (←bZ.SmallTypes.newRecord (.type "map") [t,f])) _ _ _)
  refine aC (aC ?_);refine ae (s8 ..) ?_;refine aC (aC (eM (Yq hl (bA ?_))));dsimp only;refine ae (YB ..) ?_;refine bA (bA ?_);refine aC (XZ ?_ (by simp [cE]))
  refine aC ?_;unfold bZ.SmallTypes.newRecord;refine CI (bA (El.aD _ rfl ?_));refine ae (ar.size_push ..) (ae (ar.size_push ..) ?_);exact h
theorem SQ {f:af}{l:ao}{items:Array af}{Q:af→aj→Prop}(hl:s.heap.IsList l items)
  (h:Q (.ref (s.heap.objs.size+2)) {s with heap:=((s.heap.push {cls:=.type "list_iterator",data:=.fields #[.ref l,.int 0 0]}).push {cls:=.type "tuple",data:=.seq #[.ref s.heap.objs.size]}).push (fV (s.heap.objs.size+1) f)}) :
  aF (aO prog w) A (call (.type "map") [f,.ref l]) Q E s:=
 callType_newIn SM (by decide) (typeCall_map_2 _ _) (newCall_map_2 _ _) (λJ=>F.args_object_init_3 J _ _) SN (SP f l items)
  (El.aK hl (El.aD _ (by heap_get) rfl) h)
theorem su:Slot "map" "__next__" "map.__next__":=
 .of (owner:="map") (n:="__next__") (by refine ae (kG ..) (ae (kH ..) ?_);kernel_rfl) (by decide +kernel) (by decide +kernel) (by decide +kernel)
  (by first | exact .inl (by decide +kernel) | exact .inr (by decide +kernel)) (by refine ae (lT ..) ?_;kernel_rfl)
theorem H2:wK table "map.__next__"=some bZ.«map.__next__»:=J6 (by kernel_rfl)
theorem H3 (a:af):o4 "map.__next__" ⟨[a],[]⟩:=by unfold o4;kernel_rfl
theorem SR {M T I l:ao}{k:Nat}{items:Array af}{x f:af}{Q:Option af→aj→Prop}(W:s.heap.get? M=some (fV T f)) (hT:s.heap.get? T=some {cls:=.type "tuple",data:=.seq #[.ref I]}) (Y:M≠I)
  (hI:s.heap.IsListIter I l k) (hl:s.heap.IsList l items) (hx:items[k]? = some x)
  (h:∀h',h'.IsListIter I l (k+1)→ar.SameBut I s.heap h'→aF (aO prog w) A.in1 (call f [x]) (λv s'=>Q (some v) s') (λzz zz=>False) {s with heap:=h'}):aF (aO prog w) A (kJ (.ref M)) Q E s:=by
 have J:s.TypeIs (.ref M) "map":=(El.aD _ W rfl);unfold kJ;refine aC (CG (CH (name:=ai.ofString "__next__") J su
  (qI su J H2 ?_ (H3 _))))
 refine (?_:aF _ _ (qJ (.ref M) 0>>=_) _ _ s);refine aC (qK W rfl (x:=.ref T) rfl ?_);refine aC (wY hT rfl ?_);dsimp only;refine aC ?_;refine ae (YC ..).symm ?_;refine ae (s8 ..) ?_;refine aC (aC (eM (wpAny_nextOf_list_item hI hl hx λh' Z V=>bA ?_)));dsimp only;refine ae (YB ..) ?_;refine bA ?_;refine (?_:aF _ _ (qJ (.ref M) 1>>=_) _ _ _);refine aC (qK (s:={s with heap:=h'}) ((V.2 M Y).trans W) rfl (x:=f) rfl ?_)
 refine aC (eM (fX (h h' Z V) (λv s' hv=>?_) λzz zz e=>e.elim));exact aC (wpAny_letGo (bA (El.aD v rfl (bA hv))))
theorem SU {M T I l:ao}{k:Nat}{items:Array af}{f:af}{Q:Option af→aj→Prop}(hh:A.handled=none) (V:s.heap.get? M=some (fV T f)) (W:s.heap.get? T=some {cls:=.type "tuple",data:=.seq #[.ref I]})
  (hI:s.heap.IsListIter I l k) (hl:s.heap.IsList l items) (hx:items[k]? = none) (h:∀h',ar.ExtBut I s.heap h'→Q none {s with heap:=h'}):aF (aO prog w) A (kJ (.ref M)) Q E s:=by
 have J:s.TypeIs (.ref M) "map":=(El.aD _ V rfl);unfold kJ;refine aC (CG (CH (name:=ai.ofString "__next__") J su
  (qI su J H2 ?_ (H3 _))))
 refine (?_:aF _ _ (qJ (.ref M) 0>>=_) _ _ s);refine aC (qK V rfl (x:=.ref T) rfl ?_);refine aC (wY W rfl ?_);dsimp only;refine aC ?_;refine ae (YC ..).symm ?_;refine ae (s8 ..) ?_;refine aC (aC (eM (wpAny_nextOf_list_end hh hI hl hx λh' e Y ⟨o,ho,hc⟩=>?_)));refine aC (XS (T:="StopIteration") (b:=true) (El.aD o ho hc) XT ?_);exact bA (h h' Y)
end
theorem SV:sZ "tuple.__len__"=some .slot:=by decide +kernel
theorem SX:CD "tuple.__len__"=some ("tuple","__len__"):=by decide +kernel
section
variable {prog:bT}{w:aR}{A:cD}{E:af→aj→Prop}{s:aj}{P:aG}
theorem SY {h:ar}(X:(K P).In h):bz (aO prog w) h (ik (.ref 135) "__len__") (some (.builtin "tuple.__len__")):=CC X (by kernel_rfl!)
theorem S5 {y dy:ao}{its:Array af}{Q:af→aj→Prop}(X:(K P).In s.heap) (W:s.heap.get? y=some (fy dy its)) (hz:its.size<2 ^ 24)
  (h:∀tk t,Q (.int its.size t) {s with toks:=tk}):aF (aO prog w) A (call (.builtin "len") [.ref y]) Q E s:=by
 obtain ⟨hh,g,d,t,os⟩:=s;dsimp only at X W h;have t1:bz (aO prog w) hh (jk (.ref y)) (.ref 135):=(bz.ld W).andThen .now;have t2:bz (aO prog w) hh (qG (.ref y) (.type "tuple")) true:=t1.andThen (pL X);have i1:=SY (prog:=prog) (w:=w) X;have b1:CF (.builtin "tuple.__len__") (.ref y)=pure (.builtin "tuple.__len__",[.ref y]):=YD.bind _;have J:CE "len" ⟨[.ref y],[]⟩=pure ():=by kernel_rfl
 have fin:∀(Y:cD) (V:af→aj→Prop) (Z:af→aj→Prop),V (.int its.size t) ⟨hh,g,d,t+1,os⟩→aF (aO prog w) Y (call (.builtin "tuple.__len__") ([.ref y]++[])) V Z ⟨hh,g,d,t,os⟩:=by
  intro Y V Z hq;refine iY (nA YD.plain entry_tuple_len (wV SV SX t2 (args_tuple_len _) ?_));unfold bZ.«tuple.__len__»;repeat (first | exact hq | lk)
 refine iY (nA (by decide +kernel) entry_len (Kc J ?_))
 unfold bZ.«len» callSpecial? o6;have n1:¬((its.size:Int)<0):=by omega
 have n2:¬((its.size:Int)≥2 ^ 63):=by omega
 repeat (first | exact h _ _ | (with_reducible refine fin _ _ _ ?_) | rw [b1] | rw [if_neg n1] | rw [if_neg n2] | lk)
end
noncomputable abbrev H4:B8:=jN (fnName (mem 3 5)) "Match._make" (tq (mem 3 5)) (qU (mem 3 5)) (pf (mem 3 5)) .none .none (dO (mem 3 5) 293) (.str "cpy313.difflib" 194) (some 92) (.ref 88) .none
theorem S6 (P:aG):(K P).lookup 89=some ⟨.type "function",none,.func H4,#[]⟩:=by kernel_rfl!
theorem S7 (P:aG):fW (K P) (.ref 88) "Match._make"=true:=by kernel_rfl!
theorem S8 (c v:af):gP H4 ⟨[c,v],[]⟩=pure [(ai.ofString "cls",c),(ai.ofString "iterable",v)]:=by kernel_rfl!
theorem S9 (c v:af):([(ai.ofString "cls",c),(ai.ofString "iterable",v)].all λx=>decide ((pf (mem 3 5)).names.lookup x.1=some .local))=true:=by kernel_rfl!
theorem Ta:jk (.type "tuple")=pure (.type "type"):=by kernel_rfl
theorem Tb {w:aR}{prog:bT}{A:cD}{E:af→aj→Prop}{s:aj}{h₀:ar}{L tp:ao}{m:ai→Option af}{news:List (ao×ay)}{its:Array af}{Q:af→aj→Prop}{P:aG}(F:Fr h₀ L s.heap m) (N:aW h₀ L s.heap news) (X:(K P).In h₀)
  (Z:h₀.get? tp=some (⟨.type "tuple",none,.seq its 0,#[]⟩:ay)) (hz:its.size≤cE)
  (h:∀x dx h',Fr h₀ L h' m→aW h₀ L h' ((x,fy dx its)::news)→(∀p∈news,p.1<x)→Q (.ref x) {s with heap:=h'}) :
  aF (aO prog w) A (call (.builtin "tuple.__new__") [.ref 135,.ref tp] []) Q E s:=by
 obtain ⟨hh,g,d,t,os⟩:=s;refine iY (Fh (X.keeps F.keep) (F.keep _ _ Z) hz λh' hk=>?_);dsimp only at F N hk;have V:Fr h₀ L h' m:=⟨F.ns.keeps hk,λb o e=>hk _ _ (F.keep b o e),F.above⟩;have W:aW h₀ L h' news:=λp J=>⟨hk _ _ (N p J).1,(N p J).2⟩;have Y:=(W.push V wU).push (V.push _) (fy h'.objs.size its);rw [ar.size_push] at Y;exact h _ _ _ ((V.push _).push _) (λp J=>Y p (by
  rcases cU.mp J with rfl | J
  ·exact .head _
  ·exact .tail _ (.tail _ J))) λp J=>qz (ar.lt_size (W p J).1)
theorem Tc {prog:bT}{w:aR}{A:cD}{E:af→aj→Prop}{s:aj}{h₀:ar}{L y J:ao}{m:ai→Option af}{news:List (ao×ay)}{its:Array af}{Q:af→aj→Prop}{P:aG}(F:Fr h₀ L s.heap m) (N:aW h₀ L s.heap news) (X:(K P).In h₀) (V:(y,fy J its)∈news) (hz:its.size≤cE)
  (hs:its.size=3) (h:∀tk t,Q (.int 3 t) {s with toks:=tk}):aF (aO prog w) A (call (.builtin "len") [.ref y]) Q E s:=
 S5 (X.keeps F.keep) (N _ V).1 (by omega) λtk t=>by refine ae (hs ..) ?_;exact h tk t
theorem Te {w:aR}{mg mb:ai→Option af}{means:o5→Option af}{dp un:Nat}{fr:Option (List cL)}{gu:Option (List eT)}{s:aj}{base:ar}{R:iX→aj→Prop}{v1 v2 v3:af}{tp:ao}
  (T:Top q (jP q loose) means mg mb base) (kb:Kept base s.heap) (V:dp<sY) (Y8:s.heap.get? tp=some (i7 #[v1,v2,v3]))
  (hR:∀x dx h' tk,Kept s.heap h'→s.heap.get? x=none→h'.get? x=some (fy dx #[v1,v2,v3])→R (.ok (.ret (.ref x))) {s with heap:=h',toks:=tk}) :
  (K w.params).In base→qH.prog=pw→gz (aO pw w) (cD.mk none dp fr gu un) (.call (.ref 89) ⟨[.ref 135,.ref tp],[]⟩) R s:=by
 have hz:(#[v1,v2,v3]:Array af).size≤cE:=by simp [cE]
 k_fill
 intro W _;refine enter [] W T kb (λzz h=>El.nm h) V (S6 _) (S7 _) (.of_eq (S8 _ _)) (locs (S9 _ _)) ?_ (by kernel_rfl!) (by kernel_rfl!) (by kernel_rfl!) (by decide +kernel)
 intro L Y X' T' F' k₁ hL;have N':aW (il s.heap []) L Y []:=aW.nil;dsimp only [il] at X' T' F' N'
 k_steps
 with_reducible refine' method_type ?k0 ?k1 Ta ?k2 (Fi _) ?k3 ?_
 case k0=>k_asm
 case k1=>k_asm
 case k2=>decide +kernel
 case k3=>k_handed
 k_steps
 with_reducible refine' Tb ?k0 ?k1 ?k2 ?k3 ?k4 ?_
 case k0=>k_asm
 case k1=>k_asm
 case k2=>k_asm
 case k3=>assumption
 case k4=>assumption
 intro x' NX h' Ho A3 l1
 k_steps
 with_reducible refine' Tc ?k0 ?k1 ?k2 ?k3 ?k4 ?k5 ?_
 case k0=>k_asm
 case k1=>k_asm
 case k2=>k_asm
 case k3=>exact .head _
 case k4=>assumption
 case k5=>rfl
 intro lq t'
 k_steps
 rename Fr _ _ _ _=>Z
 rename aW _ _ _ _=>J
 exact hR _ _ _ _ Z.keep (J _ (.head _)).2.2 (J _ (.head _)).1
theorem H5:Slot "map" "__iter__" "map.__iter__":=
 .of (owner:="map") (n:="__iter__") (by refine ae (kG ..) (ae (kH ..) ?_);kernel_rfl) (by decide +kernel) (by decide +kernel) (by decide +kernel)
  (by first | exact .inl (by decide +kernel) | exact .inr (by decide +kernel)) (by refine ae (lT ..) ?_;kernel_rfl)
theorem Tf:wK table "map.__iter__"=some bZ.«dict_keyiterator.__iter__»:=
 entryFor_alias (id':="dict_keyiterator.__iter__") (by kernel_rfl) rfl (by decide +kernel) (by kernel_rfl)
theorem Th (a:af):o4 "map.__iter__" ⟨[a],[]⟩:=by unfold o4;kernel_rfl
theorem Ti:ik (.type "map") "__len__"=pure none:=by refine ae (kG ..) (ae (kH ..) ?_);kernel_rfl
theorem Tj:ik (.type "map") "__length_hint__"=pure none:=by refine ae (kG ..) (ae (kH ..) ?_);kernel_rfl
section
variable {prog:bT}{w:aR}{A:cD}{E:af→aj→Prop}{s:aj}
theorem Tn {M T:ao}{f:af}{Q:af→aj→Prop}(V:s.heap.get? M=some (fV T f)) (h:Q (.ref M) s):aF (aO prog w) A (nF (.ref M)) Q E s:=by
 have J:s.TypeIs (.ref M) "map":=(El.aD _ V rfl);refine wpAny_pyIter_slot J H5 (qI H5 J Tf ?_ (Th _));refine (?_:aF _ _ (ret (.ref M)) _ _ s);exact bA ⟨_,rfl,"map",_,J,su.lookup,h⟩
noncomputable abbrev lst (acc:Array af) (c:Nat):ay:={cls:=.type "list",dict:=none,data:=.seq acc c,slots:=#[]}
theorem To {M T:ao}{f:af}{Q:af→aj→Prop}(hM:s.heap.get? M=some (fV T f))
  (h:∀h',ar.ExtBut s.heap.objs.size s.heap h'→(∃c,h'.get? s.heap.objs.size=some (lst #[] c))→
   gz (aO prog w) A.in1 (.builtin "list.extend.loop" ⟨[.ref s.heap.objs.size,.ref M,.none],[]⟩) (wants (λr rV=>r=.none∧Q (.ref s.heap.objs.size) rV) E) {s with heap:=h'}) :
  aF (aO prog w) A (call (.type "list") [.ref M]) Q E s:=by
 have jq:s.heap.objs.size≠M:=λe=>by
  rw [←e,ar.get?_none_of_le (aI _)] at hM;cases hM
 refine callType_codes (Q₁:=λobj Y=>obj=.ref s.heap.objs.size∧Y={s with heap:=s.heap.push {cls:=.type "list",data:=.seq #[]}}) F.called_list (F.typeCall_list_1 _) F.entry_list_init
  (code_list_new _ ⟨rfl,rfl⟩) λobj Y Z=>?_
 refine El.aa Z λcS dq=>?_;clear Z;subst cS;subst dq;have hS:(s.heap.push {cls:=.type "list",data:=.seq #[]}).get? s.heap.objs.size=some {cls:=.type "list",data:=.seq #[]}:=ar.get?_push_size _ rfl;have o1:∀b o,s.heap.get? b=some o→(s.heap.push {cls:=.type "list",data:=.seq #[]}).get? b=some o:=λb o e=>ar.get?_push_of_some _ e;refine El.aK (El.aD _ hS rfl) (F.args_list_init_2 _ _) ?_;generalize s.heap.objs.size=S at *;generalize s.heap.push {cls:=.type "list",data:=.seq #[]}=h1 at *;refine (?_:aF _ A.in1.in1 (do let old ←bZ.List.listItems (.ref S);bZ.List.listUpdate (.ref S) (λzz=>#[]);letGo old.toList.reverse;bZ.List.listExtendWith (.ref S) (.ref M) .none) _ _ _)
 refine aC ?_;unfold bZ.List.listItems;refine aC (wY hS rfl (bA ?_));refine (?_:aF _ A.in1.in1 (CZ S (λzz=>#[])>>=λzz=>letGo (#[]:Array af).toList.reverse>>=λzz=>bZ.List.listExtendWith (.ref S) (.ref M) .none) _ _ _);refine aC (xd hS rfl ?_);have J:=ar.get?_update_self (ay.mapSeq (λzz=>(#[]:Array af))) hS rfl;have o2:∀b o,b≠S→s.heap.get? b=some o→(h1.update S (ay.mapSeq (λzz=>(#[]:Array af)))).get? b=some o:=
  λb o hb e=>(ar.get?_update_other _ _ (kK hb)).trans (o1 b o e)
 refine aC (wpAny_letGo ?_);dsimp only;generalize h1.update S (ay.mapSeq (λzz=>(#[]:Array af)))=h2 at *;have W:h2.get? M=some (fV T f):=o2 M _ (kK jq) hM;unfold bZ.List.listExtendWith;refine aC (wpAny_typeOf (T:="map") (El.aD _ W rfl) ?_);have g1:bZ.List.listSameRef (.ref S) (.ref M)=false:=by simp [bZ.List.listSameRef,jq]
 have g2:(af.type "map" == af.type "list")=false:=by decide
 have g3:(af.type "map" == af.type "tuple")=false:=by decide
 simp only [g1,g2,g3,KO,jO,if_false];refine aC (Tn (s:={s with heap:=h2}) W ?_)
 refine aC (eM ?_);unfold bZ.List.listLengthHint;refine aC (YE (T:="map") (El.aD _ W rfl) Ti ?_);refine (?_:aF _ A.in1.in1 (o6 (af.ref M) (ai.ofString "__length_hint__")>>=_) _ _ _);refine aC (YE (T:="map") (El.aD _ W rfl) Tj ?_);refine bA ?_;refine (?_:aF _ A.in1.in1 (rule "list.extend.makes-room">>=λzz=>bZ.List.listTouch (.ref S)>>=λzz=>
  again (.builtin "list.extend.loop" ⟨[.ref S,.ref M,.none],[]⟩)) _ _ _)
 refine aC (wpAny_rule ?_);refine aC ?_;refine (?_:aF _ A.in1.in1 (CZ S (·.push .none)>>=λzz=>CZ S (·.pop)) _ _ _);refine aC (xd J rfl ?_);have V:=ar.get?_update_self (ay.mapSeq (·.push af.none)) J rfl;refine xd (hz:=by seq_fits) V rfl ?_
 have Tp:=ar.get?_update_self (ay.mapSeq (·.pop)) V rfl;refine bA ⟨J7 F.plain_extend_loop _,h _ (λb o hb e=>?_) ⟨_,Tp⟩⟩;exact (ar.get?_update_other _ _ (kK hb)).trans ((ar.get?_update_other _ _ (kK hb)).trans (o2 b o hb e))
end
noncomputable abbrev ki (l:ao):ay:={cls:=.type "list_iterator",data:=.fields #[.ref l,.int 0 0]}
section
variable {prog:bT}{w:aR}{A:cD}{E:af→aj→Prop}{s:aj}
end
theorem Tq (P:aG):(K P).lookup 203=some ⟨.type "function",none,.func (fnAt 5 7 "SequenceMatcher.get_matching_blocks" .none (dO (mem 5 7) 517) (.ref 202)),#[]⟩:=by kernel_rfl!
theorem Ts (P:aG):fW (K P) (.ref 202) "SequenceMatcher.get_matching_blocks"=true:=by kernel_rfl!
theorem Tt (x:af):gP (fnAt 5 7 "SequenceMatcher.get_matching_blocks" .none (dO (mem 5 7) 517) (.ref 202)) ⟨[x],[]⟩=pure [(ai.ofString "self",x)]:=by kernel_rfl!
theorem Tu (P:aG):(K P).lookup 188=some ⟨.type "function",none,.func (fnAt 5 5 "SequenceMatcher.__chain_b" .none .none (.ref 187)),#[]⟩:=by kernel_rfl!
theorem Tv (P:aG):fW (K P) (.ref 187) "SequenceMatcher.__chain_b"=true:=by kernel_rfl!
theorem Tx (x:af):gP (fnAt 5 5 "SequenceMatcher.__chain_b" .none .none (.ref 187)) ⟨[x],[]⟩=pure [(ai.ofString "self",x)]:=by kernel_rfl!
theorem Tz (P:aG):(K P).lookup 174=some ⟨.type "function",none,.func (fnAt 5 3 "SequenceMatcher.set_seq1" .none (dO (mem 5 3) 435) (.ref 173)),#[]⟩:=by kernel_rfl!
theorem TA (P:aG):fW (K P) (.ref 173) "SequenceMatcher.set_seq1"=true:=by kernel_rfl!
theorem TB (x a:af):gP (fnAt 5 3 "SequenceMatcher.set_seq1" .none (dO (mem 5 3) 435) (.ref 173)) ⟨[x,a],[]⟩=pure [(ai.ofString "self",x),(ai.ofString "a",a)]:=by kernel_rfl!
theorem TC (P:aG):(K P).lookup 181=some ⟨.type "function",none,.func (fnAt 5 4 "SequenceMatcher.set_seq2" .none (dO (mem 5 4) 444) (.ref 180)),#[]⟩:=by kernel_rfl!
theorem TF (P:aG):fW (K P) (.ref 180) "SequenceMatcher.set_seq2"=true:=by kernel_rfl!
theorem TG (x a:af):gP (fnAt 5 4 "SequenceMatcher.set_seq2" .none (dO (mem 5 4) 444) (.ref 180)) ⟨[x,a],[]⟩=pure [(ai.ofString "self",x),(ai.ofString "b",a)]:=by kernel_rfl!
theorem TH (P:aG):(K P).lookup 167=some ⟨.type "function",none,.func (fnAt 5 2 "SequenceMatcher.set_seqs" .none (dO (mem 5 2) 426) (.ref 166)),#[]⟩:=by kernel_rfl!
theorem TJ (P:aG):fW (K P) (.ref 166) "SequenceMatcher.set_seqs"=true:=by kernel_rfl!
theorem TK (x a b:af):gP (fnAt 5 2 "SequenceMatcher.set_seqs" .none (dO (mem 5 2) 426) (.ref 166)) ⟨[x,a,b],[]⟩=pure [(ai.ofString "self",x),(ai.ofString "a",a),(ai.ofString "b",b)]:=by kernel_rfl!
theorem TL (P:aG):(K P).lookup 160=some ⟨.type "function",none,.func (fnAt 5 1 "SequenceMatcher.__init__" (.ref 153) (dO (mem 5 1) 416) (.ref 159)),#[]⟩:=by kernel_rfl!
theorem TM (P:aG):fW (K P) (.ref 159) "SequenceMatcher.__init__"=true:=by kernel_rfl!
theorem TN (P:aG):(K P).lookup 153=some (tA P):=by kernel_rfl!
theorem TO {s:aj}{P:aG}(X:(K P).In s.heap) (x a b c:af):qE s (fnAt 5 1 "SequenceMatcher.__init__" (.ref 153) (dO (mem 5 1) 416) (.ref 159)) ⟨[x,a,b,c],[]⟩ [(ai.ofString "self",x),(ai.ofString "isjunk",a),(ai.ofString "a",b),(ai.ofString "b",c),(ai.ofString "autojunk",.bool true)]:=
 qE.of_defaults rfl (X _ _ (TN _)) rfl rfl rfl
section
variable {w:aR}{mg mb:ai→Option af}{means:o5→Option af}{dp un:Nat}{fr:Option (List cL)}{gu:Option (List eT)}{s:aj}{h₀:ar}{m:ai→Option af}{ts:Nat→dS}{d:ay}{E:af→aj→Prop}{Q:af→aj→Prop}
end
noncomputable def intD (ns:List Int):List ag:=ns.map ag.int
theorem sv:∀ns:List Int,ag.canLayAll0 (intD ns)=true∧ag.depthAll (intD ns)≤2:=@λA=>match A with
 |[]=>by simp [intD,ag.canLayAll0,ag.depthAll]
 |b::ns=>by
  refine El.aa (sv ns) λJ V=>?_;unfold intD at *;simp only [eU,ag.canLayAll0,ag.canLay0,ag.depthAll,ag.depth,J,YF];refine ⟨by first | rfl | trivial,?_⟩
  exact (Lin.ah (.c _ (.c _ .z)) .z 1 (.c 1 (.ah (.v 1) (.n 2)) (.c 1 (.aw (.v 0) (.v 1)) .z)) (.v 0) (.n 2) rfl V (J2 (Lin.ah (.c _ .z) .z 1 .z (.n 0) (.v 0) rfl)))
theorem gY (ns:List Int):SeqAt.shaped (.list (intD ns))=true:=by
 refine El.aa (sv ns) λJ V=>?_;unfold SeqAt.shaped;simp only [ag.canLay0,ag.depth,J,YG];exact decide_eq_true (by exact (Lin.ah (.c _ .z) .z 1 (.c 1 (.ah (.v 0) (.n 2)) .z) (.a (.v 0) (.n 1)) (.n 64) rfl V))
theorem H6:∀a b:List Int,ag.eqvAll (intD a) (intD b)=decide (a=b):=@λA B=>match A,B with
 |[],[]=>by simp [intD,ag.eqvAll]
 |[],zz::J=>by simp [intD,ag.eqvAll]
 |zz::J,[]=>by simp [intD,ag.eqvAll]
 |x::a,y::b=>by
  have V:=H6 a b;unfold intD at *;simp only [eU,ag.eqvAll,V,ag.eqv];by_cases h:x=y <;> by_cases g:a=b <;> simp [h,g]
theorem Bu (a b:List Int):ag.eqv (.list (intD a)) (.list (intD b))=decide (a=b):=by
 simp only [ag.eqv];exact H6 a b
section
variable {prog:bT}{w:aR}{A:cD}{E:af→aj→Prop}{s:aj}{D1 D2:ao}{ys ds:List af}{ns1 ns2:List Int}{k1 k2:Nat}{Q:af→aj→Prop}
end
noncomputable abbrev jg (j:Nat) (qual:ai) (dQ:af):B8:=jN (fnName (top j)) qual (tq (top j)) (qU (top j)) (pf (top j)) .none .none .none (.str "law_dm0054_04" 583) none dQ .none
theorem TP (P:aG):(K P).lookup 260=some ⟨.type "function",none,.func (jg 8 "_law_settle" (.ref 259)),#[]⟩:=by kernel_rfl!
theorem TQ (P:aG):fW (K P) (.ref 259) "_law_settle"=true:=by kernel_rfl!
theorem TR (x y z:af):gP (jg 8 "_law_settle" (.ref 259)) ⟨[x,y,z],[]⟩=pure [(ai.ofString "old",x),(ai.ofString "left",y),(ai.ofString "right",z)]:=by kernel_rfl!
noncomputable def H7:SS:=(.seq (.cO (.orr (.cmp .Eq (.var 1) (.var 2)) (.cmp .Eq (.var 2) (.var 0))) (.seq (.ret (.var 1)) .nil) .nil) (.seq (.ret (.ite (.cmp .Eq (.var 1) (.var 0)) (.var 2) (.lst (.cons (.lst (.cons (.var 0) (.cons (.var 1) (.cons (.var 2) .nil)))) .nil)))) .nil))
noncomputable def vV (o l r:List Int):ag:=if l=r∨r=o then .list (intD l) else if l=o then .list (intD r) else .list [.list [.list (intD o),.list (intD l),.list (intD r)]]
noncomputable def iO:iK:=(false,λds k=>∃o l r,ds=[.list (intD o),.list (intD l),.list (intD r)]∧k (vV o l r))
theorem vg {n m:Nat}{p:Prop}(h:Nat.ble n m=true) (q:p):n≤m∧p:=⟨aL h,q⟩
theorem cq {x y:ag}{k:Bool→Prop}{c:Bool}(J:ag.eqv x y=c) (V:dX x∧dX y) (W:k c):(dX x∧dX y)∧fA (ag.eqv x y) k:=⟨V,.mk J W⟩
theorem Bv {k:Bool→Prop}(l r:List Int) (h:k (decide (l=r))):(dX (.list (intD l))∧dX (.list (intD r)))∧fA (ag.eqv (.list (intD l)) (.list (intD r))) k:=cq (Bu l r) ⟨gY _,gY _⟩ h
theorem TS {ds:List ag}{k:ag→Prop}(h:iO.2 ds k):ds.length=3∧bq ⟨[],[]⟩ H7 (init ds 0) (lB k):=by
 refine El.l6 h ?_;clear h;intro o l r J h;subst J;unfold vV at h;refine ⟨rfl,?_⟩;refine Bv l r ?_;refine aZ.dec (λe1=>?_) λe1=>?_
 ·rw [if_pos (.inl e1)] at h;exact h
 ·refine Bv r o ?_;refine aZ.dec (λe2=>?_) λe2=>?_
  ·rw [if_pos (.inr e2)] at h;exact h
  ·rw [if_neg (not_or.mpr ⟨e1,e2⟩)] at h;refine Bv l o ?_;refine aZ.dec (λe3=>?_) λe3=>?_
   ·rw [if_pos e3] at h;exact h
   ·rw [if_neg e3] at h;refine av (aL rfl) (av (aL rfl) h)
theorem pick_run (xs:List ag) (a:Nat):∀k,(kA k).filterMap (λi=>xs[a+i]?)=(xs.drop a).take k:=@λA=>match A with
 |0=>rfl
 |k+1=>by
  rw [W8,Xs,pick_run xs a k,YH,Xk];cases e:xs[a+k]? <;> simp [e]
theorem qi (xs:List ag) (lo hi:Option Int):fS xs lo hi=(xs.drop (lo.elim 0 (d5 xs.length))).take (hi.elim xs.length (d5 xs.length)-lo.elim 0 (d5 xs.length)):=by
 unfold fS;refine ae (sliceBounds_plain ..) ?_;dsimp only;refine ae (sliceRange_one ..) (ae (List.filterMap_map ..) ?_);exact pick_run xs _ _
theorem sx (n i:Nat):d5 n (i:Int)=min i n:=by
 unfold d5;refine ae (if_neg (gn.mpr (nf i)) ..) (ae (Int.max_eq_right (Int.le_min.mpr ⟨nf i,nf n⟩) ..) ?_);by_cases h:i≤n
 ·refine ae (Int.min_eq_left (m9.mpr h) ..) (ae (oY h ..) ?_);rfl
 ·refine ae (Int.min_eq_right (m9.mpr (et (ee.mp h))) ..) (ae (KP (et (ee.mp h)) ..) ?_);rfl
theorem TU {ns:List Int}{i j:Nat}(J:j≤ns.length):fS (intD ns) (some (i:Int)) (some (j:Int))=intD (Pure.slc ns i j):=by
 refine ae (qi ..) ?_;unfold intD Pure.slc;refine (?_:o7 (d5 _ (j:Int)-d5 _ (i:Int)) (qL (d5 _ (i:Int)) _)=_);refine ae (sx ..) (ae (sx ..) (ae (YI ..) (ae (C2 ..) (ae (bK ..) (ae (oY J ..) ?_)))));by_cases h:i≤ns.length
 ·exact ae (oY h ..) rfl
 ·have V:j-min i ns.length=0:=by exact (bJ (Lin.ah (.c _ .z) .z 1 (.c 1 (.ah (.v 0) (.n 0)) .z) (.v 0) (.n 0) rfl (dH (YJ (Lin.ah (.c _ (.c _ (.c _ .z))) .z 1 (.c 1 (.ah (.v 0) (.v 2)) (.c 1 (.aw (.v 2) (.v 1)) .z)) (.v 0) (.v 1) rfl J (KP (Lin.ah (.c _ (.c _ .z)) .z 1 (.c 1 (.ak (.v 0) (.v 1)) .z) (.v 0) (.v 1) rfl (ee.mp h))).symm)))) (Lin.ah (.c _ .z) .z 1 .z (.n 0) (.v 0) rfl))
  have W:j-i=0:=by exact (bJ (Lin.ah (.c _ .z) .z 1 (.c 1 (.ah (.v 0) (.n 0)) .z) (.v 0) (.n 0) rfl (dH (YJ (Lin.ah (.c _ (.c _ (.c _ .z))) .z 1 (.c 1 (.ah (.v 0) (.v 2)) (.c 1 (.ak (.v 2) (.v 1)) .z)) (.v 0) (.v 1) rfl J (ee.mp h))))) (Lin.ah (.c _ .z) .z 1 .z (.n 0) (.v 0) rfl))
  refine ae (V ..) (ae (W ..) ?_);rfl
noncomputable def fD (o:Pure.Op):ag:=.tuple [.str (ai.ofString o.1),.int o.2.1,.int o.2.2.1,.int o.2.2.2.1,.int o.2.2.2.2]
noncomputable def mV (c:Pure.bj):ag:=.tuple [.int c.1,.int c.2.1,.int c.2.2.1,.str (ai.ofString c.2.2.2.1),.list (intD c.2.2.2.2)]
noncomputable def fE (cs:List Pure.bj):List ag:=cs.map mV
theorem qj {ns:List Int}(h:ns.length<2000):small (intD ns).length:=by
 unfold intD small cE;refine ae (bK ..) ?_;exact (Lin.ah (.c _ .z) .z 1 (.c 1 (.ak (.v 0) (.n 2000)) .z) (.v 0) (.n 16777216) rfl h)
theorem aZ.yes {c:Bool}{P R:Prop}(e:c=true) (h:P):aZ c P R:=by refine ae (e ..) ?_;exact h
theorem aZ.no {c:Bool}{P R:Prop}(e:c=false) (h:R):aZ c P R:=by refine ae (e ..) ?_;exact h
theorem Bw {a b:List Int}(h:a=b):ag.eqv (.list (intD a)) (.list (intD b))=true:=by refine ae (Bu ..) ?_;exact decide_eq_true h
theorem Bx {a b:List Int}(h:a≠b):ag.eqv (.list (intD a)) (.list (intD b))=false:=by refine ae (Bu ..) ?_;exact decide_eq_false h
theorem TV {a:List Int}(h:a≠[]):ag.eqv (.list (intD a)) (.list [])=false:=Bx (b:=[]) h
theorem vW (i j:Int):ag.eqv (.tuple [.int i,.int j]) (.tuple [.int i,.int j])=true:=by simp [ag.eqv,ag.eqvAll]
theorem qs {ns:List Int}{k:List ag→Prop}{i j:Nat}(hs:ns.length<2000) (J:j≤ns.length) (h:k (intD (Pure.slc ns i j))):small (intD ns).length∧fA (fS (intD ns) (some (i:Int)) (some (j:Int))) k:=⟨qj hs,.mk (TU J) h⟩
theorem ql {ns:List Int}{k:Nat→Prop}(hs:ns.length<2000) (h:k ns.length):small (intD ns).length∧fA (intD ns).length k:=⟨qj hs,.mk (bK ..) h⟩
theorem gZ {g:String}(h:g="equal"∨g="replace"∨g="delete"∨g="insert"):dX (.str (ai.ofString g)):=by rcases h with rfl | rfl | rfl | rfl <;> kernel_rfl
theorem TX:ag.eqv (.str (ai.ofString "equal")) (.str (ai.ofString "equal"))=true:=by kernel_rfl
theorem H8 {g:String}(h:g="replace"∨g="delete"∨g="insert"):ag.eqv (.str (ai.ofString g)) (.str (ai.ofString "equal"))=false:=by rcases h with rfl | rfl | rfl <;> kernel_rfl
noncomputable def vX:Option Bool→ag:=@λA=>match A with
 |none=>.none
 |some b=>.bool b
theorem By (b:Bool) (l:Option Bool):dX (.bool b)∧dX (vX l):=by
 cases l <;> exact ⟨rfl,rfl⟩
theorem Bz {b:Bool}{l:Option Bool}(h:l≠some b):ag.eqv (.bool b) (vX l)=false:=by
 cases l with
 |none=>clear h;cases b <;> rfl
 |some c=>cases b <;> cases c <;> first | rfl | exact (h rfl).elim
noncomputable abbrev H9:SS:=(.seq (.asg 13 .fr (.pq .Eq .NotEq (.slc (.var 1) (.var 9) (.var 10)) (.slc (.var 2) (.var 11) (.var 12)) (.lst .nil))) (.seq (.cO (.orr (.cmp .NotEq (.tup (.cons (.var 9) (.cons (.var 11) .nil))) (.tup (.cons (.var 5) (.cons (.var 6) .nil)))) (.orr (.cmp .NotEq (.var 13) (.cmp .Eq (.var 8) (.lit (.str (ai.ofString "equal"))))) (.cmp .Eq (.var 13) (.var 7)))) (.seq (.ret (.lst (.cons (.tup (.cons (.lit (.int (0))) (.cons (.lit (.int (0))) (.cons (.var 3) (.cons (.lit (.str (ai.ofString "fault"))) (.cons (.lst (.cons (.lit (.str (ai.ofString "fault"))) .nil)) .nil)))))) .nil))) .nil) .nil) (.seq (.cO (.nt (.tv (.var 13))) (.seq (.app (.var 4) (.tup (.cons (.var 9) (.cons (.var 10) (.cons (.var 3) (.cons (.var 8) (.cons (.slc (.var 2) (.var 11) (.var 12)) .nil))))))) .nil) .nil) (.seq (.eQ [(5,.fr),(6,.fr),(7,.fr)] (.cons (.var 10) (.cons (.var 12) (.cons (.var 13) .nil)))) .nil))))
noncomputable def Ia:SS:=(.seq (.kZ [(4,.own),(5,.fr),(6,.fr),(7,.fr)] (.tup (.cons (.lst .nil) (.cons (.lit (.int (0))) (.cons (.lit (.int (0))) (.cons (.lit .none) .nil)))))) (.seq (.dY [(8,.fr),(9,.fr),(10,.fr),(11,.fr),(12,.fr)] true (.seq (.var 0)) H9) (.seq (.ret (.ite (.cmp .Eq (.tup (.cons (.var 5) (.cons (.var 6) .nil))) (.tup (.cons (.bi .len (.cons (.var 1) .nil)) (.cons (.bi .len (.cons (.var 2) .nil)) .nil)))) (.var 4) (.lst (.cons (.tup (.cons (.lit (.int (0))) (.cons (.lit (.int (0))) (.cons (.var 3) (.cons (.lit (.str (ai.ofString "fault"))) (.cons (.lst (.cons (.lit (.str (ai.ofString "fault"))) .nil)) .nil)))))) .nil)))) .nil)))
noncomputable abbrev ed (fs:da) (is:Tg) (tup:Bool) (b:SS):ag→List Tr→KS→Prop:=λd σ k=>ox is tup d σ λJ=>bq fs b J k
theorem TY {bs ts:List Int}{sd:Nat}{cd:ag}{k:KS}(n2:bs.length<1000) (Y:ts.length<1000):∀{os:List Pure.Op}{i j:Nat}{last:Option Bool},Pure.Alt bs ts i j last os→∀{rows:List ag}{x8 x9 x10 x11 x12 x13:Tr},rows.length+os.length<1000→
  (∀V y8 y9 TZ T2 T3 T4,k .nx [.dat cd,.dat (.list (intD bs)),.dat (.list (intD ts)),.dat (.int sd),.dl (rows++fE (Pure.dj sd ts os)),.dat (.int bs.length),.dat (.int ts.length),V,y8,y9,TZ,T2,T3,T4])→
  dc (ed ⟨[],[]⟩ [(8,.fr),(9,.fr),(10,.fr),(11,.fr),(12,.fr)] true H9) k (os.map fD) [.dat cd,.dat (.list (intD bs)),.dat (.list (intD ts)),.dat (.int sd),.dl rows,.dat (.int i),.dat (.int j),.dat (vX last),x8,x9,x10,x11,x12,x13]:=by
 intro os i j last al;induction al with
 |@done last=>
  intro rows x8 x9 x10 x11 x12 x13 hl hk;have:=hk (.dat (vX last)) x8 x9 x10 x11 x12 x13;rw [show fE (Pure.dj sd ts [])=[] from rfl,bt] at this;exact this
 |@eq i j i2 j2 last rest e1 e2 e3 h1 h2 h3 W _ ih=>
  intro rows x8 x9 x10 x11 x12 x13 hl hk;have J:rows.length+rest.length<1000:=by rw [dA] at hl;omega
  have Z:=ih (x8:=.dat (.str (ai.ofString "equal"))) (x9:=.dat (.int i)) (x10:=.dat (.int i2)) (x11:=.dat (.int j)) (x12:=.dat (.int j2)) (x13:=.dat (.bool true)) J hk;refine qs (ns:=bs) (by exact (Lin.ak (.c _ .z) .z 1 (.c 1 (.ak (.v 0) (.n 1000)) .z) (.v 0) (.n 2000) rfl n2)) h2 ?_
  refine qs (ns:=ts) (by exact (Lin.ak (.c _ .z) .z 1 (.c 1 (.ak (.v 0) (.n 1000)) .z) (.v 0) (.n 2000) rfl Y)) W ?_
  refine cq (Bw e1) ⟨gY _,gY _⟩ ?_;refine av (aL rfl) ?_;refine cq (TV e2) ⟨gY _,rfl⟩ ?_;refine av (aL rfl) (av (aL rfl) ?_);refine cq (vW i j) ⟨rfl,rfl⟩ ?_;refine cq TX ⟨gZ (.inl rfl),gZ (.inl rfl)⟩ ?_;refine cq (x:=.bool true) (y:=.bool true) rfl ⟨rfl,rfl⟩ ?_;refine cq (Bz e3) (By true last) ?_;exact av (aL rfl) Z
 |@ch g i j i2 j2 last rest e1 e2 e3 h1 h2 h3 W _ ih=>
  intro rows x8 x9 x10 x11 x12 x13 hl hk;have J:(rows++[mV (i,i2,sd,g,Pure.slc ts j j2)]).length+rest.length<1000:=by refine ae (aJ ..) ?_;rw [dA] at hl;simp;omega
  have hc:Pure.dj sd ts ((g,i,i2,j,j2)::rest)=(i,i2,sd,g,Pure.slc ts j j2)::Pure.dj sd ts rest:=by
   unfold Pure.dj;refine ae (CP ..) ?_;exact ae (if_neg (show g≠"equal" by clear hl hk J;rcases e1 with rfl | rfl | rfl <;> simp) ..) rfl
  have Z:=ih (rows:=rows++[mV (i,i2,sd,g,Pure.slc ts j j2)]) (x8:=.dat (.str (ai.ofString g))) (x9:=.dat (.int i)) (x10:=.dat (.int i2)) (x11:=.dat (.int j)) (x12:=.dat (.int j2)) (x13:=.dat (.bool false)) J (λl a b c d e f=>by
   have:=hk l a b c d e f;rw [hc] at this;refine ae (aH ..) ?_;exact this)
  refine qs (ns:=bs) (by exact (Lin.ak (.c _ .z) .z 1 (.c 1 (.ak (.v 0) (.n 1000)) .z) (.v 0) (.n 2000) rfl n2)) h2 ?_
  refine qs (ns:=ts) (by exact (Lin.ak (.c _ .z) .z 1 (.c 1 (.ak (.v 0) (.n 1000)) .z) (.v 0) (.n 2000) rfl Y)) W ?_
  have tg:g="equal"∨g="replace"∨g="delete"∨g="insert":=.inr e1;by_cases c:Pure.slc bs i i2=Pure.slc ts j j2
  ·have c2:Pure.slc ts j j2=[]:=Co λq=>e2 ⟨c,q⟩;refine cq (Bw c) ⟨gY _,gY _⟩ ?_;refine av (aL rfl) ?_;refine cq (c:=true) (by refine ae (c2 ..) ?_;rfl) ⟨gY _,rfl⟩ ?_
   refine av (aL rfl) (av (aL rfl) ?_);refine cq (vW i j) ⟨rfl,rfl⟩ ?_;refine cq (H8 e1) ⟨gZ tg,gZ (.inl rfl)⟩ ?_;refine cq (x:=.bool false) (y:=.bool false) rfl ⟨rfl,rfl⟩ ?_;refine cq (Bz e3) (By false last) ?_;refine qs (ns:=ts) (by exact (Lin.ak (.c _ .z) .z 1 (.c 1 (.ak (.v 0) (.n 1000)) .z) (.v 0) (.n 2000) rfl Y)) W ?_
   refine av (aL rfl) ?_;refine av (by simp only [fw];omega) ?_
   exact av (aL rfl) Z
  ·refine cq (Bx c) ⟨gY _,gY _⟩ ?_;refine av (aL rfl) (av (aL rfl) ?_);refine cq (vW i j) ⟨rfl,rfl⟩ ?_;refine cq (H8 e1) ⟨gZ tg,gZ (.inl rfl)⟩ ?_;refine cq (x:=.bool false) (y:=.bool false) rfl ⟨rfl,rfl⟩ ?_;refine cq (Bz e3) (By false last) ?_;refine qs (ns:=ts) (by exact (Lin.ak (.c _ .z) .z 1 (.c 1 (.ak (.v 0) (.n 1000)) .z) (.v 0) (.n 2000) rfl Y)) W ?_
   refine av (aL rfl) ?_;refine av (by simp only [fw];omega) ?_
   exact av (aL rfl) Z
section
variable {P:Fz}{ws:List af}{bl:List Pure.aX}
theorem Dat.rP {v:af}{b:Pure.aX}(h:Dat P v (d7 b)):∃a J t1 t2 t3,v=.ref a∧P a (fy J #[.int (b.1:Nat) t1,.int (b.2.1:Nat) t2,.int (b.2.2:Nat) t3]):=by
 cases h with
 |mt h=>exact El.Ll _ _ _ _ _ rfl h
theorem Dat.T5 {v:af}{b:Nat×Nat×Nat}(h:Dat P v (n6 b)):∃a t1 t2 t3,v=.ref a∧P a (i7 #[.int (b.1:Nat) t1,.int (b.2.1:Nat) t2,.int (b.2.2:Nat) t3]):=by
 refine El.aP h.tupI λa ws J p d=>?_;clear h;subst J;refine El.aP d.iJ λx wr J Y Z=>?_;clear d;subst J;refine El.aP Z.iJ λy T6 J d2 V=>?_;subst J;refine El.aP V.iJ λz T7 J d3 W=>?_;subst J;obtain rfl:=W.nX;refine El.ea Y.i8 λt1 J=>?_;subst J;refine El.ea d2.i8 λt2 J=>?_;subst J;refine El.ea d3.i8 λt3 J=>?_;subst J;exact El.Lk _ _ _ _ rfl p
end
theorem T8 {P:aG}{C:Cx}(X:(K P).In C.h₀) (hu:C.A.units+1<o8):Gj C:=by
 intro P m lm nm Y rest bl total Q s F N W hP hm hp hs Bq h;have hlen:Y.length=bl.length:=by exact ae (hm.len ..) (ae (bK ..) rfl)
 have rd:∀{h':ar},Fr C.h₀ C.L h' m→aW C.h₀ C.L h' rest→∀a o,P a o→h'.get? a=some o:=λF N a o q=>(hP a o q).elim (F.keep a o) λq=>(N _ q).1;by_cases V:2≤Y.length
 ·refine kas_lsort (T:=.ref 135) F N (UpdF.head W) rfl V (hlen▸hp.length_eq▸Bq) (λe1 h' Z N' v hv=>?_) (by decide) λe1 h' Z N'=>?_
  ·obtain ⟨i,hi,rfl⟩:=List.mem_iff_getElem.mp (show v∈Y from hv);obtain ⟨d,hd⟩:∃d,(bl.map d7)[i]? = some d:=⟨_,eu (hm.len▸hi)⟩;refine El.au (hm.get hd) λv e d=>?_;rw [eu hi] at e;refine El.au (bL.mp (jQ hd)) λb zz J=>?_;clear hd;subst J;refine El.yf d.rP λa dy t1 t2 t3 J p=>?_;clear d;subst J;refine ae (dC e ..) ?_;exact (bz.ld (rd Z (λq hq=>N' q (.tail _ hq)) _ _ p)).andThen .now
  ·have N1:aW C.h₀ C.L h' rest:=λq hq=>N' q (.tail _ hq);refine FI (z:=Pure.z3) (D:=d7) (R:=λa b=>a.1<b.1) (Inv:=λs'=>∃tk,s'={s with heap:=h',toks:=tk}) (λh1 V=>Kq h1 V) hm (az (by decide) V) hp hs ?_ ⟨s.toks,rfl⟩ λp s' hI hd=>?_
   ·rintro i j b1 b2 c K s' hi hj ⟨tk,rfl⟩ h1 V hC
    refine El.au (hm.get (i:=i) (by rw [kF,hi];rfl)) λv1 f1 d1=>?_
    refine El.au (hm.get (i:=j) (by rw [kF,hj];rfl)) λv2 f2 d2=>?_
    refine El.yf d1.rP λa dy t1 t2 t3 J p1=>?_;clear d1;subst J;refine El.yf d2.rP λb dz u1 u2 u3 J p2=>?_;clear d2;subst J;refine (?_:aF _ _ (keyLt' oneType' (Y.getD i af.none) (Y.getD j af.none)) K _ _);rw [eX,eX,f1,f2];refine Oi hu (X.keeps Z.keep) (rd Z N1 _ _ p1) (rd Z N1 _ _ p2) λlq=>?_;have:=hC {s with heap:=h',toks:=lq} ⟨lq,rfl⟩
    clear hC;cases c with
    |true=>refine ae (decide_eq_true (.inl (de.mpr (h1 rfl))) ..) ?_;exact this
    |false=>
     rw [decide_eq_false]
     ·exact this
     ·clear f1 f2;rcases V rfl with rfl | V
      ·cases hi.symm.trans hj
       exact λg=>g.elim (w5 _) λg=>g.2.elim (w5 _) λg=>w5 _ g.2
      ·exact λg=>g.elim (λg=>Kq V (de.mp g)) λg=>lR V (sV g.1)
   ·refine El.ea hI λtk J=>?_;clear hI;subst J;exact KasFin.intro Z N' (UpdF.head W) λHY c Bs Bt=>h HY tk _ c Bs Bt hd
 ·have h1:=Yz V;have nz:=N _ (.head _);refine qI Yw (El.aD _ nz.1 rfl) Yx (FE nz.1 h1 (El.aD _ rfl ?_)) (Yy _);obtain ⟨F2,e2,N2⟩:=FK F (λp hp=>N p (.tail _ hp)) nz.1 nz.2.1 nz.2.2 W;exact h _ s.toks Y e2 F2 N2 (FJ hp (hlen▸h1)▸hm)
theorem T9 {w:aR}{mg mb:ai→Option af}{means:o5→Option af}{dp un:Nat}{fr:Option (List cL)}{gu:Option (List eT)}{s:aj}{base h0:ar}{R:iX→aj→Prop}{M T I l S p:ao}{items:Array af}{bl:List (Nat×Nat×Nat)}{P:Fz}{oi:ay}
  (X:(K w.params).In base) (TT:Top q (jP q loose) means mg mb base) (kb:Keeps base h0) (bI:base.get? I=none) (bS:base.get? S=none) (Ua:dp<sY) (hz:items.size<2 ^ 24)
  (Ib:h0.get? I=some oi) (BA:I≠S) (BC:M≠I) (Ic:M≠S) (Ie:T≠I) (Ig:T≠S) (Ih:l≠I) (Ii:l≠S) (Ij:p≠I) (Ub:p≠S)
  (hM:h0.get? M=some (fV T (.ref p))) (hT:h0.get? T=some {cls:=.type "tuple",data:=.seq #[.ref I]}) (hp:h0.get? p=some p7) (hl:h0.IsList l items)
  (ht:bu P items.toList (bl.map n6)) (Uc:∀a o,P a o→h0.get? a=some o∧a≠I∧a≠S)
  (hR:∀h' tk acc c (N:Led),(∀b o,b≠I→b≠S→h0.get? b=some o→h'.get? b=some o)→h'.get? S=some (lst acc c)→bu (λa o=>(a,o)∈N) acc.toList (bl.map d7)→(∀x∈N,h'.get? x.1=some x.2∧h0.get? x.1=none∧x.1≠S)→(adr N).Nodup→R (.ok (.ret .none)) {s with heap:=h',toks:=tk}) :
  ∀n k h tk acc c (N:Led),items.size-k=n→k≤items.size→(∀b o,b≠I→b≠S→h0.get? b=some o→h.get? b=some o)→h.IsListIter I l k→h.get? S=some (lst acc c)→bu (λa o=>(a,o)∈N) acc.toList ((bl.take k).map d7)→acc.size=k→
   (∀x∈N,h.get? x.1=some x.2∧h0.get? x.1=none∧x.1≠S)→(adr N).Nodup→
   gz (aO pw w) (cD.mk none dp fr gu un) (.builtin "list.extend.loop" ⟨[.ref S,.ref M,.none],[]⟩) R {s with heap:=h,toks:=tk}:=by
 have hlen:items.size=bl.length:=by
  have:=ht.len;rw [bK] at this;exact this
 intro n;induction n with
 |zero=>
  intro k h tk acc c N hn hk J hI hS Y hsz hN nd;have Ud:k=items.size:=by exact (bJ (Lin.ah (.c _ (.c _ .z)) .z 1 (.c 1 (.ah (.v 0) (.v 1)) .z) (.v 0) (.v 1) rfl hk) (Lin.ah (.c _ (.c _ (.c _ .z))) .z 1 (.c 1 (.aw (.v 2) (.n 0)) (.c 1 (.aw (.v 0) (.a (.v 2) (.v 1))) .z)) (.v 0) (.v 1) rfl hn (aT (Lin.ah (.c _ (.c _ .z)) .z 1 (.c 1 (.ah (.v 0) (.v 1)) .z) (.v 0) (.v 1) rfl hk)).symm))
  clear hn hk hsz;subst Ud;refine El.au hl λol BD rl=>?_;clear hl;refine CA F.entry_extend_loop ?_;refine ae (cD.under_plainId F.plain_extend_loop _ ..) ?_;refine (?_:aF _ _ (kJ (.ref M)>>=_) _ _ _);refine aC (SU (s:={s with heap:=h,toks:=tk}) rfl (J _ _ BC Ic hM) (J _ _ Ie Ig hT) hI (El.aD ol (J _ _ Ih Ii BD) rl) (Array.getElem?_eq_none (aI _)) λh' he=>?_)
  refine bA (hR h' _ acc c N (λb o b1 b2 e=>he _ _ b1 (J b o b1 b2 e)) (he _ _ (kK BA) hS) ?_ (λx hx=>⟨he _ _ (λe=>?_) (hN x hx).1,(hN x hx).2⟩) nd)
  ·rw [hlen,Xw] at Y;exact Y
  ·have Z:=(hN x hx).2.1;rw [e,Ib] at Z;cases Z
 |succ n ih=>
  intro k h tk acc c N hn hk J hI hS Y hsz hN nd;have V:k<items.size:=by exact (Lin.ak (.c _ (.c _ (.c _ (.c _ .z)))) .z 1 (.c 1 (.aw (.a (.v 2) (.n 1)) (.v 3)) (.c 1 (.aw (.a (.v 3) (.v 0)) (.v 1)) .z)) (.v 0) (.v 1) rfl (cB hn) (aT (Lin.ah (.c _ (.c _ .z)) .z 1 (.c 1 (.ah (.v 0) (.v 1)) .z) (.v 0) (.v 1) rfl hk)))
  have ma:bl[k]? = some (bl[k]'(hlen▸V)):=eu _;refine El.au (ht.get (i:=k) (by rw [kF,ma];rfl)) λv e1 dv=>?_
  obtain ⟨a,t1,t2,t3,cS,pa⟩:=dv.T5;clear dv;subst cS;rw [Array.getElem?_toList] at e1;refine El.au hl λol BD rl=>?_;clear hl;refine El.cH (Uc _ _ pa) λha Ik Ue=>?_;refine CA F.entry_extend_loop ?_;refine ae (cD.under_plainId F.plain_extend_loop _ ..) ?_;refine (?_:aF _ _ (kJ (.ref M)>>=_) _ _ _);refine aC (SR (s:={s with heap:=h,toks:=tk}) (J _ _ BC Ic hM) (J _ _ Ie Ig hT) BC hI (El.aD ol (J _ _ Ih Ii BD) rl) e1 λZ Il pE=>?_)
  have k1:∀b o,b≠I→h.get? b=some o→Z.get? b=some o:=λb o hb e=>(pE.2 b hb).trans e;have kb1:Kept base Z:=λb o e=>by
   have n1:b≠I:=λe'=>by rw [e',bI] at e;cases e
   have n2:b≠S:=λe'=>by rw [e',bS] at e;cases e
   exact k1 _ _ n1 (J _ _ n1 n2 (kb _ _ e))
  have nI:∀x∈N,x.1≠I:=λx hx e=>by
   have g2:=(hN x hx).2.1;rw [e,Ib] at g2;cases g2
  refine iY (method_call (s:={s with heap:=Z,toks:=tk}) (k1 _ _ Ij (J _ _ Ij Ub hp)) ?_)
  refine Te (s:={s with heap:=Z,toks:=tk}) (base:=base) TT kb1 Ua (k1 _ _ Ik (J _ _ Ik Ue ha)) (λy dy h2 vw k2 W BE=>?_) X rfl
  have Im:Z.get? S=some (lst acc c):=k1 _ _ (kK BA) hS;have Io:h2.get? S=some (lst acc c):=k2 _ _ Im;have BF:y≠S:=λe=>by rw [e,Im] at W;cases W
  refine (?_:aF _ _ (CZ S (·.push (.ref y))>>=_) _ _ _);refine aC ?_;refine El.au Il λUg Ip Uh=>?_;clear Il;have Iq:y≠I:=λe=>by rw [e,Ip] at W;cases W
  have Ui:y∉adr N:=λhm=>by
   refine El.au (bL.mp hm) λx hx e=>?_;have:=k1 _ _ (nI x hx) (hN x hx).1;rw [show x.1=y from e,W] at this;clear hx e;cases this
  refine xd Io rfl (bA ⟨J7 F.plain_extend_loop _,ih (k+1) _ _ (acc.push (.ref y)) _ ((y,fy dy #[.int ((bl[k]'(hlen▸V)).1:Nat) t1,.int ((bl[k]'(hlen▸V)).2.1:Nat) t2,.int ((bl[k]'(hlen▸V)).2.2:Nat) t3])::N) (by exact (bJ (Lin.ah (.c _ (.c _ (.c _ (.c _ (.c _ .z))))) .z 1 (.c 1 (.aw (.v 2) (.a (.v 1) (.n 1))) (.c 1 (.aw (.v 3) (.a (.v 2) (.v 4))) (.c 1 (.aw (.a (.v 0) (.a (.v 4) (.n 1))) (.v 3)) .z))) (.v 0) (.v 1) rfl hn (aT (Lin.ah (.c _ (.c _ .z)) .z 1 (.c 1 (.ak (.v 0) (.v 1)) .z) (.v 0) (.v 1) rfl V)).symm (aT (Lin.ah (.c _ (.c _ .z)) .z 1 (.c 1 (.ak (.v 0) (.v 1)) .z) (.a (.v 0) (.n 1)) (.v 1) rfl V))) (Lin.ah (.c _ (.c _ (.c _ (.c _ (.c _ .z))))) .z 1 (.c 1 (.aw (.a (.v 0) (.n 1)) (.v 2)) (.c 1 (.aw (.a (.v 2) (.v 3)) (.v 4)) (.c 1 (.aw (.v 4) (.a (.v 1) (.a (.v 3) (.n 1)))) .z))) (.v 0) (.v 1) rfl (cB hn) (aT (Lin.ah (.c _ (.c _ .z)) .z 1 (.c 1 (.ak (.v 0) (.v 1)) .z) (.v 0) (.v 1) rfl V)) (aT (Lin.ah (.c _ (.c _ .z)) .z 1 (.c 1 (.ak (.v 0) (.v 1)) .z) (.a (.v 0) (.n 1)) (.v 1) rfl V)).symm))) V (λb o b1 b2 e=>?_) (El.aD Ug ?_ Uh) (ar.get?_update_self _ Io rfl) ?_ (by exact ae (YK ..) (ae (hsz ..) rfl)) (λx hx=>?_) (cu.mpr ⟨Ui,nd⟩)⟩)
   (by refine (?_:acc.size≤cE);simp only [cE];omega) (by refine (?_:(acc.push (.ref y)).size≤cE+1);refine ae (YK ..) ?_;simp only [cE];omega)
  ·exact (ar.get?_update_other _ _ (kK b2)).trans (k2 _ _ (k1 _ _ b1 (J b o b1 b2 e)))
  ·exact (ar.get?_update_other _ _ (kK BA)).trans (k2 _ _ Ip)
  ·refine ae (Array.toList_push ..) (ae (YH ..) (ae (ma ..) (ae (bG ..) ?_)));exact (Y.mono λa o q=>qA _ q).append (.one (.mt (.head _)))
  ·rcases cU.mp hx with rfl | hx
   ·refine El.aK ((ar.get?_update_other _ _ (kK BF)).trans BE) ?_ BF;cases e:h0.get? y with
    |none=>rfl
    |some o=>
     dsimp only at W;rw [k1 _ _ Iq (J _ _ Iq BF e)] at W;cases W
   ·refine El.cH (hN x hx) λg1 g2 g3=>?_;exact El.aK ((ar.get?_update_other _ _ (kK g3)).trans (k2 _ _ (k1 _ _ (nI x hx) g1))) g2 g3
theorem Ir {pg J:bT}{w V:aR}(e1:J=pg) (e2:V=w) {A:cD}(hh:A.handled=none) {c:eT}{R:iX→aj→Prop}{s:aj}(h:gz (aO pg w) (cD.mk none A.depth A.frames A.guards A.units) c R s):gz (aO J V) A c R s:=by
 subst e1 e2;cases A
 cases hh
 exact h
theorem Uj {w:aR}{C:Cx}{D:Nat}(e1:C.pg=pw) (e2:C.w=w) (W:Wo (K w.params) q (jP q loose) C D):Gk C:=by
 obtain ⟨X,T,hh,hd,hu⟩:=W;refine ⟨λ{m N Q s} F N1 h=>cls_cm (mc:=.type "type") (p:=91) (f:=.ref 89) (rest:=[.bool false]) F X N1 (by kernel_rfl!) (by kernel_rfl!) (by kernel_rfl!) (by kernel_rfl!) λq h' F' N' lt=>h q h' _ F' N' lt,λ{P m N q l n ws bl Q s} F N1 hq Z hl ht hz h=>?_⟩
 refine El.nH T ?_;clear T;intro means mg mb T;refine SQ (items:=ws.toArray) (El.kP _ hl rfl _ rfl) ?_;have lt:∀{b:ao}{o:ay},s.heap.get? b=some o→b<s.heap.objs.size:=ar.lt_size;have k1:Keeps s.heap (((s.heap.push (ki l)).push (i7 #[.ref s.heap.objs.size])).push (fV (s.heap.objs.size+1) (.ref q))):=λb o e=>ar.get?_push_of_some _ (ar.get?_push_of_some _ (ar.get?_push_of_some _ e));have hI:(((s.heap.push (ki l)).push (i7 #[.ref s.heap.objs.size])).push (fV (s.heap.objs.size+1) (.ref q))).get? s.heap.objs.size=some (ki l):=ar.get?_push_of_some _ (ar.get?_push_of_some _ (ar.get?_push_size _ rfl));have hT:(((s.heap.push (ki l)).push (i7 #[.ref s.heap.objs.size])).push (fV (s.heap.objs.size+1) (.ref q))).get? (s.heap.objs.size+1)=some (i7 #[.ref s.heap.objs.size]):=ar.get?_push_of_some _ (by have:=ar.get?_push_size (s.heap.push (ki l)) (o:=i7 #[.ref s.heap.objs.size]) rfl;rw [ar.size_push] at this;exact this)
 have hM:(((s.heap.push (ki l)).push (i7 #[.ref s.heap.objs.size])).push (fV (s.heap.objs.size+1) (.ref q))).get? (s.heap.objs.size+2)=some (fV (s.heap.objs.size+1) (.ref q)):=by
  have:=ar.get?_push_size ((s.heap.push (ki l)).push (i7 #[.ref s.heap.objs.size])) (o:=fV (s.heap.objs.size+1) (.ref q)) rfl;rw [ar.size_push,ar.size_push] at this;exact this
 have hsz:(((s.heap.push (ki l)).push (i7 #[.ref s.heap.objs.size])).push (fV (s.heap.objs.size+1) (.ref q))).objs.size=s.heap.objs.size+3:=by exact ae (ar.size_push ..) (ae (ar.size_push ..) (ae (ar.size_push ..) rfl))
 refine (?_:Keeps C.h₀ (((s.heap.push (ki l)).push (i7 #[.ref s.heap.objs.size])).push (fV (s.heap.objs.size+1) (.ref q)))∧_);generalize ((s.heap.push (ki l)).push (i7 #[.ref s.heap.objs.size])).push (fV (s.heap.objs.size+1) (.ref q))=h1 at *;refine ⟨λb o e=>k1 b o (F.keep b o e),?_⟩;have no:∀{b:ao}{o:ay}(j:Nat),s.heap.get? b=some o→b≠s.heap.objs.size+j:=λj e=>ef (dT (lt e) (bc _ _));have V:=(N1 _ hq).1;have bn:∀j,C.h₀.get? (s.heap.objs.size+j)=none:=λj=>F.noneBack (ar.get?_none_of_le (bc _ _));have sn:∀{h':ar},(∀b o,b≠s.heap.objs.size+3→h1.get? b=some o→h'.get? b=some o)→∀{b:ao},h'.get? b=none→s.heap.get? b=none:=λ{h'} k b e=>by
  cases g:s.heap.get? b with
  |none=>rfl
  |some o=>rw [k b o (no 3 g) (k1 b o g)] at e;exact El.sn e
 refine To (s:={s with heap:=h1}) hM λh2 J Y=>?_
 dsimp only at J Y ⊢;rw [hsz] at J Y ⊢;refine El.ea Y ?_;clear Y;intro c Y;have ne:∀{i j:Nat},i<j→s.heap.objs.size+i≠s.heap.objs.size+j:=λg=>ef (Cq g _);refine Ir (A:=C.A.in1) e1 e2 hh (T9 (s:=s) (base:=C.h₀) (h0:=h2) (M:=s.heap.objs.size+2) (T:=s.heap.objs.size+1) (I:=s.heap.objs.size) (l:=l) (S:=s.heap.objs.size+3) (p:=q) (items:=ws.toArray) (bl:=bl) (P:=P) X T (λb o e=>J _ _ (no 3 (F.keep b o e)) (k1 b o (F.keep b o e))) (bn 0) (bn 3) (cb (bc _ _) hd) ?_
  (J _ _ (ne (i:=0) (by decide)) hI) (ne (i:=0) (by decide)) (ne (i:=0) (j:=2) (by decide)).symm (ne (by decide)) (ne (i:=0) (j:=1) (by decide)).symm (ne (by decide)) (no 0 hl) (no 3 hl) (no 0 V) (no 3 V)
  (J _ _ (ne (by decide)) hM) (J _ _ (ne (by decide)) hT) (J _ _ (no 3 V) (k1 _ _ V)) (El.kP _ (J _ _ (no 3 hl) (k1 _ _ hl)) rfl _ rfl)
  ht (λa o e=>(El.aK (J _ _ (no 3 (Z a o e)) (k1 _ _ (Z a o e))) (no 0 (Z a o e)) (no 3 (Z a o e)))) (λh' tk acc c' Nn hk Uk oO hN nd=>?_) ws.toArray.size 0 h2 s.toks #[] c [] rfl (bh _) (λb o zz zz e=>e) (El.ey _ (J _ _ (ne (i:=0) (by decide)) hI) rfl rfl) Y rfl rfl (λx hx=>El.nm hx) iw)
 ·refine (?_:ws.length<_);refine ae (ht.len ..) (ae (bK ..) ?_);exact hz
 ·have k':∀b o,s.heap.get? b=some o→h'.get? b=some o:=λb o e=>hk _ _ (no 0 e) (no 3 e) (J _ _ (no 3 e) (k1 _ _ e));exact ⟨rfl,h _ h' tk acc.toList c' Nn (F.keeps k') k' Uk (ar.get?_none_of_le (bc _ _)) (λx hx=>(El.aK (hN x hx).1 (sn J (hN x hx).2.1) (hN x hx).2.2)) nd oO⟩
theorem Ul {w:aR}{C:Cx}{D:Nat}(e1:C.pg=pw) (e2:C.w=w) (W:Wo (K w.params) q (jP q loose) C D):oB C:=
 ⟨by refine El.nH W.T λzz zz zz T=>?_;exact T.nolimit,λenv J k pos y dx ws m N Q s F V Y Z hs h=>Oe F V W.X W.hh Y (by exact ae (Z ..) (ae (eN ..) rfl)) hs λh' F' N' zz=>h h' F' N',T8 W.X (cb (gy (bc _ _) (by decide)) W.hu),Uj e1 e2 W,Bc W (by kernel_rfl!)⟩
noncomputable def sy:iK:=(false,λds k=>∃os bs ts sd,ds=[.list (os.map fD),.list (intD bs),.list (intD ts),.int ((sd:Nat):Int)]∧(Pure.Alt bs ts 0 0 none os∧bs.length<1000∧ts.length<1000∧os.length<1000)∧k (.list (fE (Pure.dj sd ts os))))
theorem Um {ds:List ag}{k:ag→Prop}(h:sy.2 ds k):ds.length=4∧bq ⟨[],[]⟩ Ia (init ds 10) (lB k):=by
 refine El.fL h ?_;clear h;intro os bs ts sd J V h;subst J;obtain ⟨Z,W,Y,h4⟩:=V;refine ⟨rfl,av (aL rfl) (av (aL rfl) ?_)⟩;refine TY (last:=none) (rows:=[]) W Y Z (by simpa using h4) λl a b c d e f=>?_
 refine av (aL rfl) ?_;refine ql (ns:=bs) (by exact (Lin.ak (.c _ .z) .z 1 (.c 1 (.ak (.v 0) (.n 1000)) .z) (.v 0) (.n 2000) rfl W)) ?_
 refine ql (ns:=ts) (by exact (Lin.ak (.c _ .z) .z 1 (.c 1 (.ak (.v 0) (.n 1000)) .z) (.v 0) (.n 2000) rfl Y)) ?_
 refine av (aL rfl) ?_;exact cq (vW bs.length ts.length) ⟨rfl,rfl⟩ h
section
variable {w:aR}{D:Nat}
noncomputable abbrev qk (w:aR) (D:Nat) (a:Nat) (f:iK):Prop:=mQ (K w.params) q (jP q loose) pw w D (λvs=>call (.ref a) vs) f
theorem Iu {P:List af→Prop}(h:∀x y z,P [x,y,z]):∀vs:List af,vs.length=3→P vs:=sr 3 h
theorem Uo {P:List af→Prop}(h:∀x y z u,P [x,y,z,u]):∀vs:List af,vs.length=4→P vs:=sr 4 h
theorem bind1 {P:List af→Prop}(h:∀x,P [x]):∀vs:List af,vs.length=1→P vs:=sr 1 h
theorem hH (P:aG):my.all (λx=>decide (lY (K P) iZ x=some none))=true:=by kernel_rfl!
theorem hW (w:aR) {D:Nat}:qg (K w.params)=true∧∀C:Cx,C.pg=pw→C.w=w→Wo (K w.params) q (jP q loose) C D→oB C:=⟨by kernel_rfl!,λC e1 e2 W=>Ul e1 e2 W⟩
noncomputable abbrev H0:Hn:=⟨λzz=>.fr,[]⟩
theorem Up:qk w (D+1) 260 iO:=
 sq (fs:=⟨[],[]⟩) (H:=H0) (dd:=12) (nn:=12) (ps:=["old","left","right"]) (ls':=[]) ⟨(TP w.params),(TQ w.params),rfl,by decide +kernel,by decide +kernel,by decide +kernel,by kernel_rfl!,by kernel_rfl!,by kernel_rfl!,by decide +kernel⟩ (Iu λx y z=>TR x y z) (hH w.params) (hW w) (λzz h=>El.nm h) (λzz h=>El.nm h) (ir:=H7) (by kernel_rfl!) λds k h=>TS h
theorem Uq (P:aG):(K P).lookup 272=some ⟨.type "function",none,.func (jg 10 "_law_changes" (.ref 271)),#[]⟩:=by kernel_rfl!
theorem Ur (P:aG):fW (K P) (.ref 271) "_law_changes"=true:=by kernel_rfl!
theorem Us (x y z u:af):gP (jg 10 "_law_changes" (.ref 271)) ⟨[x,y,z,u],[]⟩=pure [(ai.ofString "codes",x),(ai.ofString "base",y),(ai.ofString "text",z),(ai.ofString "side",u)]:=by kernel_rfl!
noncomputable abbrev Ut:Hn:=⟨λi=>if i=4 then .own else .fr,[]⟩
theorem Uu:qk w (D+1) 272 sy:=
 sq (fs:=⟨[],[]⟩) (H:=Ut) (dd:=12) (nn:=12) (ps:=["codes","base","text","side"]) (ls':=["rows","i","j","last","tag","i1","i2","j1","j2","same"]) ⟨(Uq w.params),(Ur w.params),rfl,by decide +kernel,by decide +kernel,by decide +kernel,by kernel_rfl!,by kernel_rfl!,by kernel_rfl!,by decide +kernel⟩ (Uo λx y z u=>Us x y z u) (hH w.params) (hW w) (λzz h=>El.nm h) (λzz h=>El.nm h) (ir:=Ia) (by kernel_rfl!) λds k h=>Um h
end
noncomputable abbrev Iv:SS:=.seq (.Ah 5 2 4) (.seq (.Ai 5 3) .nil)
section
variable {fs:da}{K:KS}{I B:Tr}{a:ao}{tl:List Tr}{b:Nat→Int}
theorem Iw:∀(V:List Int) (i n:Nat) (g:Int→Option (List ag)) (l:Option (Int×ao)) (t3 t4 t5:Tr),(∀j,j<V.length→V[j]? = some (b (i+j)))→(∀c,(g c).getD []=intD (Pure.places b i c))→n≤i→i+V.length<2 ^ 24→
  (∀n' Y Z t3 t4 t5,(∀c,(Y c).getD []=intD (Pure.places b (i+V.length) c))→K .nx (I::B::.fr (fB a n' Y Z)::t3::t4::t5::tl))→
  dc (ed fs [(3,.fr),(4,.fr)] true Iv) K (mD i (intD V)) (I::B::.fr (fB a n g l)::t3::t4::t5::tl):=@λA C D F G H J L M N O P Q=>match A,C,D,F,G,H,J,L,M,N,O,P,Q with
 |[],i,n,g,l,t3,t4,t5,hs,hg,hn,hl,h=>h n g l t3 t4 t5 hg
 |c::V,i,n,g,l,t3,t4,t5,hs,hg,hn,hl,h=>by
  rw [dA] at hl h;have hc:c=b i:=dC (hs 0 (sS _));have gl:((g c).getD []).length=(Pure.places b i c).length:=by refine ae (hg ..) ?_;exact bK ..
  refine vf.mk (c:=c) rfl rfl (by exact (cb (az hn (bc _ _)) hl)) λbb=>?_
  refine vi.mk (d:=2) (ds:=(g c).getD []) rfl rfl rfl mN (by refine ae (gl ..) ?_;exact cb (Pure.places_len b i c) (by exact (cb (bc _ _) hl))) ?_
  have pl:∀W,Pure.places b (i+1) W=Pure.places b i W++if b i=W then [(i:Int)] else []:=λW=>Pure.Ly b i W;refine Iw V (i+1) (n+1) _ _ _ _ _ (λj hj=>?_) (λW=>?_) (cY hn) (by lia) λn' Y Z a3 a4 a5 Uv=>h n' Y Z a3 a4 a5 ?_
  ·have:=hs (j+1) (wC hj);refine ae (show i+1+j=i+(j+1) from by exact (bJ (Lin.ah (.c _ (.c _ .z)) .z 1 .z (.a (.a (.v 0) (.n 1)) (.v 1)) (.a (.v 0) (.a (.v 1) (.n 1))) rfl) (Lin.ah (.c _ (.c _ .z)) .z 1 .z (.a (.v 0) (.a (.v 1) (.n 1))) (.a (.a (.v 0) (.n 1)) (.v 1)) rfl))) ?_
   exact this
  ·refine ae (pl ..) ?_;by_cases e:W=c
   ·clear hs gl;subst e;refine ae (mN ..) (ae (if_pos hc.symm ..) ?_);refine (?_:(g W).getD []++[ag.int i]=_);refine ae (hg ..) ?_;unfold intD;refine ae (bG ..) ?_;rfl
   ·refine ae (mP e ..) (ae (mP e ..) (ae (if_neg (λq=>e (q.symm.trans hc.symm)) ..) (ae (bt ..) ?_)));exact hg W
  ·refine ae (show i+(V.length+1)=i+1+V.length from by exact (bJ (Lin.ah (.c _ (.c _ .z)) .z 1 .z (.a (.v 0) (.a (.v 1) (.n 1))) (.a (.a (.v 0) (.n 1)) (.v 1)) rfl) (Lin.ah (.c _ (.c _ .z)) .z 1 .z (.a (.a (.v 0) (.n 1)) (.v 1)) (.a (.v 0) (.a (.v 1) (.n 1))) rfl))) ?_
   exact Uv
end
noncomputable abbrev Uw:SS:=.seq (.dY [(4,.fr)] false (.seq .bad) (.seq (.cO (.tv (.pO 7 (.cons (.var 4) .nil))) (.seq .bad .nil) .nil) .nil)) (.seq (.dY [(4,.fr)] false (.seq (.var 6)) (.seq .bad .nil)) .nil)
noncomputable abbrev Ux:SS:=.seq (.asg 10 .fr (.bin .Add (.bin .FloorDiv (.var 9) (.lit (.int (100)))) (.lit (.int (1))))) (.seq (.dY [(4,.fr),(11,.fr)] true (.seq .bad) (.seq (.cO (.cmp .Gt (.bi .len (.cons (.var 11) .nil)) (.var 10)) (.seq .bad .nil) .nil) .nil)) (.seq (.dY [(4,.fr)] false (.seq (.var 8)) (.seq .bad .nil)) .nil))
noncomputable abbrev Iy:SS:=(.seq (.asg 1 .fr (.dW 0 2)) (.seq (.Ag 0 7 2) (.seq (.dY [(3,.fr),(4,.fr)] true (.rN (.var 1)) Iv) (.seq (.seq .Aj (.cM [(.du 0 8),(.nm 6 .deep)] .uG)) (.seq (.asg 7 .fr (.dW 0 0)) (.seq (.cO (.tv (.var 7)) Uw .nil) (.seq (.cM [(.du 0 9),(.nm 8 .deep)] .uG) (.seq (.asg 9 .fr (.bi .len (.cons (.var 1) .nil))) (.seq (.cO (.an (.tv (.dW 0 3)) (.cmp .GtE (.var 9) (.lit (.int (200))))) Ux .nil) .nil)))))))))
noncomputable def sA:dK:=λx as ds k=>ds=[]∧∃(t1 t4 t5 t6:aY) (J:Bool) (bS:List Int),as=[.tr (.dat .none),t1,.tr (.dat (.list (intD bS))),.tr (.dat (.bool J)),t4,t5,t6]∧bS.length<200∧
 ∀bd,(∀c,(bd c).getD (.list [])=.list (intD (Pure.places (λi=>bS.getD i 0) bS.length c)))→k .none [.tr (.dat .none),t1,.tr (.dat (.list (intD bS))),.tr (.dat (.bool J)),t4,t5,t6,.tr (cj (ff bd)),.tr (cj (ja λzz=>false)),.tr (cj (ja λzz=>false))]
theorem Iz {S:Int→Bool}:k9 (cj (ja S)):=.fz G0 λP v q=>by
 refine El.dP q λa o J zz=>?_;clear q;subst J;rfl
theorem Uy (x:ao×ao) (as:List aY) (ds:List ag) (k:ag→List aY→Prop) (h:sA x as ds k):ds.length+1+0=1∧bq ⟨[],[]⟩ Iy (cc x as::init (ds++[]) 11) (lD x k):=by
 obtain ⟨J,t1,t4,t5,t6,Y,bS,V,hl,h⟩:=h;subst J;subst V;refine ⟨rfl,?_⟩;refine .mk rfl rfl ?_;refine ve.mk rfl ⟨aL rfl,aL rfl⟩ λa=>?_;refine av rfl ?_;refine Iw (b:=λi=>bS.getD i 0) bS 0 0 (λzz=>none) none _ _ _ (λj Z=>?_) (λzz=>rfl) (aI _) (by exact (Lin.ak (.c _ .z) .z 1 (.c 1 (.ak (.v 0) (.n 200)) .z) (.a (.n 0) (.v 0)) (.n 16777216) rfl hl)) λn' W l' t3 Y9 Za hg=>?_
 ·refine ae (cQ ..) ?_;refine (?_:_=some (bS.getD j 0));rw [eX,eu Z];rfl
 ·rw [cQ] at hg;refine vk.mk (i:=0) (j:=7) (d:=2) (by decide) rfl rfl rfl ?_
  refine av Iz ?_;refine .mk rfl ⟨aL rfl,aL rfl⟩ ?_;refine .mk rfl rfl ?_;refine av Iz ?_;refine .mk rfl ⟨aL rfl,aL rfl⟩ ?_;refine ql (by exact (Lin.ak (.c _ .z) .z 1 (.c 1 (.ak (.v 0) (.n 200)) .z) (.v 0) (.n 2000) rfl hl)) ?_
  refine .mk rfl rfl ?_;have fin:=h (λc=>(W c).map .list) λc=>by
   refine ae (hg ..).symm ?_;cases W c <;> rfl
  clear h;cases Y with
  |true=>
   refine aZ.dec (λe=>?_) λe=>?_
   ·exact absurd (m9.mp (show ((200:Nat):Int)≤_ from e)) (ee.mpr hl)
   ·exact El.aD _ rfl fin
  |false=>exact El.aD _ rfl fin
noncomputable abbrev IA:SS:=(.seq .nil (.seq (.cO (.cmp .Is (.var 1) (.dW 0 1)) (.seq (.ret (.lit .none)) .nil) .nil) (.seq (.cM [(.du 0 1)] (.var 1)) (.seq (.cM [(.du 0 4),(.du 0 5)] (.lit .none)) .nil))))
noncomputable abbrev IB:SS:=(.seq .nil (.seq (.cO (.cmp .Is (.var 1) (.dW 0 2)) (.seq (.ret (.lit .none)) .nil) .nil) (.seq (.cM [(.du 0 2)] (.var 1)) (.seq (.cM [(.du 0 4),(.du 0 5)] (.lit .none)) (.seq (.cM [(.du 0 6)] (.lit .none)) (.seq (.oq 0 0 .nil) .nil))))))
noncomputable abbrev IC:SS:=(.seq .nil (.seq (.oq 0 0 (.cons (.var 1) .nil)) (.seq (.oq 0 1 (.cons (.var 2) .nil)) .nil)))
noncomputable abbrev ID:SS:=(.seq .nil (.seq (.cM [(.du 0 0)] (.var 1)) (.seq (.cM [(.du 0 1),(.du 0 2)] (.lit .none)) (.seq (.cM [(.du 0 3)] (.var 4)) (.seq (.oq 0 0 (.cons (.var 2) (.cons (.var 3) .nil))) .nil)))))
noncomputable abbrev dN:aY:=.tr (.dat .none)
noncomputable abbrev dL (l:List Int):aY:=.tr (.dat (.list (intD l)))
noncomputable abbrev dB (b:Bool):aY:=.tr (.dat (.bool b))
noncomputable def sC:dK:=λx as ds k=>∃(aS:List Int) (J:Bool),as=[dN,dN,dN,dB J]∧ds=[.list (intD aS)]∧k .none [dN,dL aS,dN,dB J,dN,dN]
noncomputable abbrev vY (aS bS:List Int) (J:Bool) (bd:Int→Option ag):List aY:=[dN,dL aS,dL bS,dB J,dN,dN,dN,.tr (cj (ff bd)),.tr (cj (ja λzz=>false)),.tr (cj (ja λzz=>false))]
noncomputable abbrev vZ (bS:List Int) (bd:Int→Option ag):Prop:=∀c,(bd c).getD (.list [])=.list (intD (Pure.places (λi=>bS.getD i 0) bS.length c))
noncomputable def sD:dK:=λx as ds k=>∃(aS bS:List Int) (J:Bool),as=[dN,dL aS,dN,dB J,dN,dN]∧ds=[.list (intD bS)]∧bS.length<200∧∀bd,vZ bS bd→k .none (vY aS bS J bd)
noncomputable def sE:dK:=λx as ds k=>∃(aS bS:List Int) (J:Bool),as=[dN,dN,dN,dB J]∧ds=[.list (intD aS),.list (intD bS)]∧bS.length<200∧∀bd,vZ bS bd→k .none (vY aS bS J bd)
noncomputable def qm:dK:=λx as ds k=>∃(aS bS:List Int),as=[]∧ds=[.none,.list (intD aS),.list (intD bS)]∧bS.length<200∧∀bd,vZ bS bd→k .none (vY aS bS true bd)
section
variable (x:ao×ao) (as:List aY) (ds:List ag) (k:ag→List aY→Prop)
theorem Uz (h:sC x as ds k):ds.length+1+0=2∧bq ⟨[],[]⟩ IA (cc x as::init (ds++[]) 0) (lD x k):=by
 refine El.aP h ?_;clear h;intro aS W J V h;subst J;subst V;refine ⟨rfl,.mk rfl rfl ?_⟩;refine .mk rfl ⟨aL rfl,aL rfl⟩ ?_;refine .mk rfl ⟨aL rfl,aL rfl⟩ ?_;refine .mk rfl ⟨aL rfl,aL rfl⟩ ?_;exact El.aD _ rfl h
theorem UA (h:sD x as ds k):ds.length+1+0=2∧bq ⟨[],[sA]⟩ IB (cc x as::init (ds++[]) 0) (lD x k):=by
 refine El.fo h ?_;clear h;intro aS bS W J V hl h;subst J;subst V;refine ⟨rfl,.mk rfl rfl ?_⟩;refine .mk rfl ⟨aL rfl,aL rfl⟩ ?_;refine .mk rfl ⟨aL rfl,aL rfl⟩ ?_;refine .mk rfl ⟨aL rfl,aL rfl⟩ ?_;refine .mk rfl ⟨aL rfl,aL rfl⟩ ?_;refine jc.mk rfl (iM.mk (sp:=sA) rfl rfl rfl ⟨rfl,_,_,_,_,W,bS,rfl,hl,λbd Y=>?_⟩);exact El.aD _ rfl (h bd Y)
theorem UB (h:sE x as ds k):ds.length+1+0=3∧bq ⟨[],[sC,sD]⟩ IC (cc x as::init (ds++[]) 0) (lD x k):=by
 refine El.fo h ?_;clear h;intro aS bS W J V hl h;subst J;subst V;refine ⟨rfl,jc.mk rfl (iM.mk (sp:=sC) rfl rfl rfl (El.bP aS W rfl rfl ?_))⟩;refine jc.mk rfl (iM.mk (sp:=sD) rfl rfl rfl (El.tL aS bS W rfl rfl hl (λbd Y=>?_)));exact El.aD _ rfl (h bd Y)
theorem UC (h:qm x as ds k):ds.length+1+1=5∧bq ⟨[],[sE]⟩ ID (cc x as::init (ds++[.bool true]) 0) (lD x k):=by
 refine El.l7 h ?_;clear h;intro aS bS J V hl h;subst J;subst V;refine ⟨rfl,?_⟩;refine .mk rfl ⟨aL rfl,aL rfl⟩ ?_;refine .mk rfl ⟨aL rfl,aL rfl⟩ ?_;refine .mk rfl ⟨aL rfl,aL rfl⟩ ?_;refine .mk rfl ⟨aL rfl,aL rfl⟩ ?_;refine jc.mk rfl (iM.mk (sp:=sE) rfl rfl rfl (El.tL aS bS true rfl rfl hl (λbd W=>?_)));exact El.aD _ rfl (h bd W)
end
noncomputable abbrev v5:SS:=(.seq (.eQ [(1,.fr),(2,.fr)] (.cons (.bin .Add (.var 4) (.var 6)) (.cons (.bin .Add (.var 5) (.var 6)) .nil))) (.seq (.cO (.tv (.var 6)) (.seq (.app (.var 3) (.tup (.cons (.lit (.str (ai.ofString "equal"))) (.cons (.var 4) (.cons (.var 1) (.cons (.var 5) (.cons (.var 2) .nil))))))) .nil) .nil) .nil))
noncomputable abbrev IE:SS:=.seq (.cO (.tv (.var 7)) (.seq (.app (.var 3) (.tup (.cons (.var 7) (.cons (.var 1) (.cons (.var 4) (.cons (.var 2) (.cons (.var 5) .nil))))))) .nil) .nil) v5
noncomputable abbrev BG:SS:=.seq (.asg 7 .fr (.lit (.str (ai.ofString "")))) (.seq (.cO (.an (.cmp .Lt (.var 1) (.var 4)) (.cmp .Lt (.var 2) (.var 5))) (.seq (.asg 7 .fr (.lit (.str (ai.ofString "replace")))) .nil) (.seq (.cO (.cmp .Lt (.var 1) (.var 4)) (.seq (.asg 7 .fr (.lit (.str (ai.ofString "delete")))) .nil) (.seq (.cO (.cmp .Lt (.var 2) (.var 5)) (.seq (.asg 7 .fr (.lit (.str (ai.ofString "insert")))) .nil) .nil) .nil)) .nil)) IE)
noncomputable abbrev IF:SS:=.seq .nil (.seq (.cO (.cmp .IsNot (.dW 0 5) (.lit .none)) (.seq (.ret (.dW 0 5)) .nil) .nil) (.seq (.cM [(.nm 1 .fr),(.nm 2 .fr)] (.lit (.int (0)))) (.seq (.uY 0 5 3 .own (.lst .nil)) (.seq (.dY [(4,.fr),(5,.fr),(6,.fr)] true (.uV 0 0 .nil) BG) (.seq (.ret (.var 3)) .nil)))))
section
variable {fs:da}{K:KS}{I t4 t5 t6 t7:Tr}{p q x1 x2 x3:Nat}{os:List Pure.Op}
theorem IG {o:Pure.Op}:os.map fD++[fD o]=(os++[o]).map fD:=by refine ae (bG ..) ?_;rfl
theorem IH (h:os.length<1000):fw (os.map fD).length:=by show _<_;refine ae (bK ..) ?_;omega
theorem UD (hl:os.length<999) (h:∀J V W Y,K .nx [I,.dat (.int ((x1+x3:Nat):Int)),.dat (.int ((x2+x3:Nat):Int)),.dl ((os++Pure.eC (x1,x2,x3)).map fD),J,V,W,Y]) :
  bq fs v5 [I,.dat (.int p),.dat (.int q),.dl (os.map fD),.dat (.int x1),.dat (.int x2),.dat (.int x3),t7] K:=by
 refine av (aL rfl) ?_;refine aZ.dec (λe=>?_) λe=>?_
 ·have e2:Pure.eC (x1,x2,x3)=[("equal",x1,x1+x3,x2,x2+x3)]:=Pure.LS e;rw [e2,←IG] at h;refine av (aL rfl) (av (IH (by exact (Lin.ak (.c _ .z) .z 1 (.c 1 (.ak (.v 0) (.n 999)) .z) (.v 0) (.n 1000) rfl hl))) ?_)
  exact h _ _ _ _
 ·have e2:Pure.eC (x1,x2,x3)=[]:=Pure.LU (KQ.mp e);rw [e2,bt] at h;exact h _ _ _ _
theorem BH {g:String}(J:(ai.ofString g).length<1000∧decide ((ai.ofString g).length≠0)=true) (hl:os.length<998) (h:bq fs v5 [I,.dat (.int p),.dat (.int q),.dl ((os++[(g,p,x1,q,x2)]).map fD),.dat (.int x1),.dat (.int x2),.dat (.int x3),.dat (.str (ai.ofString g))] K) :
  bq fs IE [I,.dat (.int p),.dat (.int q),.dl (os.map fD),.dat (.int x1),.dat (.int x2),.dat (.int x3),.dat (.str (ai.ofString g))] K:=by
 rw [←IG] at h;refine av J.1 (aZ.yes J.2 (av (aL rfl) (av (IH (by exact (Lin.ak (.c _ .z) .z 1 (.c 1 (.ak (.v 0) (.n 998)) .z) (.v 0) (.n 1000) rfl hl))) ?_)))
 exact h
theorem UE {a b c d:Nat}:(Pure.dm a b c d).length≤1:=by
 unfold Pure.dm;split
 ·exact aI _
 ·split
  ·exact aI _
  ·split
   ·exact aI _
   ·exact bh _
theorem BI {c:Lc}{i:Nat}{σ:List Tr}(h:K .nx (σ.set i (.dat (FT c)))):bq fs (.seq (.asg i .fr (.lit c)) .nil) σ K:=h
theorem UH (hl:os.length<998) (h:∀J V W Y,K .nx [I,.dat (.int ((x1+x3:Nat):Int)),.dat (.int ((x2+x3:Nat):Int)),.dl (((os++Pure.dm p q x1 x2)++Pure.eC (x1,x2,x3)).map fD),J,V,W,Y]) :
  bq fs BG [I,.dat (.int p),.dat (.int q),.dl (os.map fD),.dat (.int x1),.dat (.int x2),.dat (.int x3),t7] K:=by
 have tl:∀{r:List Pure.Op}{t:Tr},Pure.dm p q x1 x2=r→r.length≤1→bq fs v5 [I,.dat (.int p),.dat (.int q),.dl ((os++r).map fD),.dat (.int x1),.dat (.int x2),.dat (.int x3),t] K:=λ{r t} e l=>by
  subst e;exact UD (by refine ae (aJ ..) ?_;omega) h
 refine aZ.dec (λe1=>?_) λe1=>?_
 ·refine aZ.dec (λe2=>?_) λe2=>?_
  ·exact BI (BH (g:="replace") (by decide +kernel) hl (tl (Pure.LO e1 e2) (aI _)))
  ·refine aZ.dec (λzz=>?_) λe=>(e e1).elim;exact BI (BH (g:="delete") (by decide +kernel) hl (tl (Pure.LP e1 e2) (aI _)))
 ·refine aZ.dec (λe=>(e1 e).elim) λzz=>?_;refine aZ.dec (λe2=>?_) λe2=>?_
  ·exact BI (BH (g:="insert") (by decide +kernel) hl (tl (Pure.LQ e1 e2) (aI _)))
  ·refine av (by decide +kernel) ?_
   have:=tl (t:=.dat (.str (ai.ofString ""))) (Pure.LR e1 e2) (bh _);rw [bt] at this;exact this
theorem II:∀(bl:List Pure.aX) (p q:Nat) (os:List Pure.Op) (t4 t5 t6 t7:Tr),os.length+2*bl.length<996→(∀V W Y Z,K .nx [I,.dat (.int ((bl.foldl Pure.kR ((p,q),os)).1.1:Nat)),.dat (.int ((bl.foldl Pure.kR ((p,q),os)).1.2:Nat)),.dl ((bl.foldl Pure.kR ((p,q),os)).2.map fD),V,W,Y,Z])→
  dc (ed fs [(4,.fr),(5,.fr),(6,.fr)] true BG) K (bl.map d7) [I,.dat (.int p),.dat (.int q),.dl (os.map fD),t4,t5,t6,t7]:=@λA B C D F G H J L M=>match A,B,C,D,F,G,H,J,L,M with
 |[],p,q,os,t4,t5,t6,t7,zz,h=>h _ _ _ _
 |b::bl,p,q,os,t4,t5,t6,t7,hl,h=>by
  refine UH (t7:=t7) (by exact (Lin.ak (.c _ (.c _ .z)) .z 1 (.c 1 (.ak (.a (.v 0) (.m 2 (.v 1))) (.n 996)) .z) (.v 0) (.n 998) rfl hl)) λV W Y Z=>?_
  refine II bl _ _ _ _ _ _ _ ?_ h;have h1:(Pure.dm p q b.1 b.2.1).length≤1:=UE;have h2:(Pure.eC (b.1,b.2.1,b.2.2)).length≤1:=by unfold Pure.eC;split <;> simp
  refine ae (aJ ..) (ae (aJ ..) ?_);rw [dA] at hl;exact (Lin.ak (.c _ (.c _ (.c _ (.c _ .z)))) .z 1 (.c 1 (.ak (.a (.v 0) (.m 2 (.a (.v 3) (.n 1)))) (.n 996)) (.c 1 (.ah (.v 1) (.n 1)) (.c 1 (.ah (.v 2) (.n 1)) .z))) (.a (.a (.a (.v 0) (.v 1)) (.v 2)) (.m 2 (.v 3))) (.n 996) rfl hl h1 h2)
end
noncomputable def mX (gm:dK):dK:=λx as ds k=>ds=[]∧as[5]? = some (.tr (.dat .none))∧gm x (as.set 5 .any) [] λd J=>∃bl:List Pure.aX,d=.list (bl.map d7)∧bl.length<400∧k (.list ((Pure.gS bl).2.map fD)) J
theorem UI {gm:dK}(mono:∀x as ds (k k':ag→List aY→Prop),(∀d as,k d as→k' d as)→gm x as ds k→gm x as ds k') (x:ao×ao) (as:List aY) (ds:List ag) (k:ag→List aY→Prop) (h:mX gm x as ds k):ds.length+1+0=1∧bq ⟨[],[gm]⟩ IF (cc x as::init (ds++[]) 7) (lD x k):=by
 refine El.cH h ?_;clear h;intro J W h;subst J;refine ⟨rfl,?_⟩;have lt:5<as.length:=(fH.mp W).1;refine .mk rfl W ?_;refine av (aL rfl) (av rfl ?_);refine .mk rfl ⟨et lt,aL rfl⟩ ?_;refine .mk rfl (.mk rfl rfl rfl ?_);refine ae (show k8 as 5 .any=as.set 5 .any from if_pos lt) ?_;refine mono _ _ _ _ _ ?_ h
 rintro d V ⟨bl,rfl,hl,hk⟩
 exact II bl 0 0 [] _ _ _ _ (by refine ae (wB ..) ?_;omega) λY Z a6 a7=>(El.aD V rfl hk)
noncomputable abbrev BJ:SS:=.cO (.an (.cmp .Lt (.var 5) (.var 9)) (.cmp .Lt (.var 7) (.var 10))) (.seq (.app (.var 3) (.tup (.cons (.var 5) (.cons (.var 9) (.cons (.var 7) (.cons (.var 10) .nil)))))) .nil) .nil
noncomputable abbrev BK:SS:=.cO (.an (.cmp .Lt (.bin .Add (.var 9) (.var 11)) (.var 6)) (.cmp .Lt (.bin .Add (.var 10) (.var 11)) (.var 8))) (.seq (.app (.var 3) (.tup (.cons (.bin .Add (.var 9) (.var 11)) (.cons (.var 6) (.cons (.bin .Add (.var 10) (.var 11)) (.cons (.var 8) .nil)))))) .nil) .nil
noncomputable abbrev UJ:SS:=.seq (.app (.var 4) (.var 12)) (.seq BJ (.seq BK .nil))
noncomputable abbrev BL:SS:=.seq (.uZ [(5,.fr),(6,.fr),(7,.fr),(8,.fr)] 3) (.seq (.cM [(.tp [(9,.fr),(10,.fr),(11,.fr)]),(.nm 12 .fr)] (.mp 0 0 (.cons (.var 5) (.cons (.var 6) (.cons (.var 7) (.cons (.var 8) .nil)))))) (.seq (.cO (.tv (.var 11)) UJ .nil) .nil))
noncomputable abbrev v7:SS:=.cO (.tv (.var 15)) (.seq (.app (.var 16) (.tup (.cons (.var 13) (.cons (.var 14) (.cons (.var 15) .nil))))) .nil) .nil
noncomputable abbrev BM:SS:=.seq (.cO (.an (.cmp .Eq (.bin .Add (.var 13) (.var 15)) (.var 17)) (.cmp .Eq (.bin .Add (.var 14) (.var 15)) (.var 18))) (.seq (.aug 15 .Add (.var 19)) .nil) (.seq v7 (.seq (.eQ [(13,.fr),(14,.fr),(15,.fr)] (.cons (.var 17) (.cons (.var 18) (.cons (.var 19) .nil)))) .nil))) .nil
noncomputable abbrev UK:SS:=.seq v7 (.seq (.app (.var 16) (.tup (.cons (.var 1) (.cons (.var 2) (.cons (.lit (.int (0))) .nil))))) (.seq (.cM [(.du 0 4)] (.uF 16)) (.seq (.ret (.dW 0 4)) .nil)))
noncomputable abbrev UL:SS:=.seq (.u4 4) (.seq (.cM [(.nm 13 .fr),(.nm 14 .fr),(.nm 15 .fr)] (.lit (.int (0)))) (.seq (.asg 16 .own (.lst .nil)) (.seq (.dY [(17,.fr),(18,.fr),(19,.fr)] true (.seq (.var 4)) BM) UK)))
noncomputable abbrev IJ:SS:=(.seq .nil (.seq (.cO (.cmp .IsNot (.dW 0 4) (.lit .none)) (.seq (.ret (.dW 0 4)) .nil) .nil) (.seq (.eQ [(1,.fr),(2,.fr)] (.cons (.bi .len (.cons (.dW 0 1) .nil)) (.cons (.bi .len (.cons (.dW 0 2) .nil)) .nil))) (.seq (.asg 3 .own (.lst (.cons (.tup (.cons (.lit (.int (0))) (.cons (.var 1) (.cons (.lit (.int (0))) (.cons (.var 2) .nil))))) .nil))) (.seq (.asg 4 .own (.lst .nil)) (.seq (.k6 (.tv (.var 3)) BL) UL))))))
noncomputable def sF (r:Pure.iD):ag:=.tuple [.int r.1,.int r.2.1,.int r.2.2.1,.int r.2.2.2]
theorem qn {α:Type}{f:α→ag}{l:List α}(h:l.length<2 ^ 24):fw (l.map f).length:=by show _<_;refine ae (bK ..) ?_;exact h
theorem qo {α:Type}(f:α→ag) (l:List α) (x:α):l.map f++[f x]=(l++[x]).map f:=by refine ae (bG ..) ?_;rfl
section
variable {fs:da}{K:KS}{I:Tr}{na nb:ag}{tl:List Tr}{rs:List Pure.iD}{bl:List Pure.aX}{x1 x2 x3 x4 i j k:Nat}{R:SS}
noncomputable abbrev jG (I:Tr) (na nb:ag) (tl:List Tr) (rs:List Pure.iD) (bl:List Pure.aX) (x1 x2 x3 x4 i j k:Nat):List Tr:=I::.dat na::.dat nb::.dl (rs.map sF)::.dl (bl.map d7)::.dat (.int x1)::.dat (.int x2)::.dat (.int x3)::.dat (.int x4)::.dat (.int i)::.dat (.int j)::.dat (.int k)::.dat (d7 (i,j,k))::tl
theorem UM (hl:rs.length<2 ^ 24) (V:x1<i∧x3<j→bq fs R (jG I na nb tl (rs++[(x1,i,x3,j)]) bl x1 x2 x3 x4 i j k) K) (J:¬(x1<i∧x3<j)→bq fs R (jG I na nb tl rs bl x1 x2 x3 x4 i j k) K):bq fs (.seq BJ R) (jG I na nb tl rs bl x1 x2 x3 x4 i j k) K:=by
 refine aZ.dec (λe1=>?_) λe1=>J λq=>e1 (de.mpr q.1);refine aZ.dec (λe2=>?_) λe2=>J λq=>e2 (de.mpr q.2);have h:=V ⟨de.mp e1,de.mp e2⟩;unfold jG at h;rw [←qo] at h;exact av (aL rfl) (av (qn hl) h)
theorem IK (hl:rs.length<2 ^ 24) (V:i+k<x2∧j+k<x4→K .nx (jG I na nb tl (rs++[(i+k,x2,j+k,x4)]) bl x1 x2 x3 x4 i j k)) (J:¬(i+k<x2∧j+k<x4)→K .nx (jG I na nb tl rs bl x1 x2 x3 x4 i j k)):bq fs (.seq BK .nil) (jG I na nb tl rs bl x1 x2 x3 x4 i j k) K:=by
 refine aZ.dec (λe1=>?_) λe1=>J λq=>e1 (de.mpr q.1);refine aZ.dec (λe2=>?_) λe2=>J λq=>e2 (de.mpr q.2);have h:=V ⟨de.mp e1,de.mp e2⟩;unfold jG at h;rw [←qo] at h;exact av (aL rfl) (av (qn hl) h)
end
noncomputable def qp (na nb:Nat) (rs:List Pure.iD):Prop:=∀r∈rs,r.1≤r.2.1∧r.2.1≤na∧r.2.2.1≤r.2.2.2∧r.2.2.2≤nb
noncomputable def BN (fm:dK) (x:ao×ao) (as:List aY) (f:Nat→Nat→Nat→Nat→Pure.aX) (na nb:Nat):Prop:=∀(alo ahi blo bhi:Nat) (k:ag→List aY→Prop),alo≤ahi→ahi≤na→blo≤bhi→bhi≤nb→k (d7 (f alo ahi blo bhi)) as→fm x as [.int alo,.int ahi,.int blo,.int bhi] k
section
variable {fm:dK}{x:ao×ao}{as:List aY}{K:KS}{f:Nat→Nat→Nat→Nat→Pure.aX}{na nb:Nat}{tl:List Tr}{rs:List Pure.iD}{bl total:List Pure.aX}{x1 x2 x3 x4:Nat}{t5 t6 t7 t8 t9 bN bE aV:Tr}
theorem qp.snoc (h:qp na nb rs) (g:x1≤x2∧x2≤na∧x3≤x4∧x4≤nb):qp na nb (rs++[(x1,x2,x3,x4)]):=λr J=>(cF.mp J).elim (h r) λq=>dk.mp q▸g
theorem UN (hm:BN fm x as f na nb) (Z:Pure.jT f) (hl:Pure.fq (rs++[(x1,x2,x3,x4)])<2 ^ 23) (hb:bl.length<2 ^ 23) (g:x1≤x2∧x2≤na∧x3≤x4∧x4≤nb) (ok:qp na nb rs) (hp:(bl++(rs++[(x1,x2,x3,x4)]).flatMap (Pure.dJ f)).Perm total)
  (h:∀J v8 y1 y2 y3 y4 i j k,Pure.fq J<Pure.fq (rs++[(x1,x2,x3,x4)])→qp na nb J→(v8++J.flatMap (Pure.dJ f)).Perm total→K .nx (jG (cc x as) (.int na) (.int nb) tl J v8 y1 y2 y3 y4 i j k)) :
  bq ⟨[],[fm]⟩ BL (cc x as::.dat (.int na)::.dat (.int nb)::.dl ((rs++[(x1,x2,x3,x4)]).map sF)::.dl (bl.map d7)::t5::t6::t7::t8::t9::bN::bE::aV::tl) K:=by
 have UO:rs.length+1<2 ^ 23:=by
  have:=Pure.yt (rs++[(x1,x2,x3,x4)]);rw [aJ] at this;exact cb this hl
 have u:∀{n:Nat},n+1<2 ^ 23→n<2 ^ 24∧n+1<2 ^ 24:=λq=>⟨by exact (Lin.ak (.c _ .z) .z 1 (.c 1 (.ak (.a (.v 0) (.n 1)) (.n 8388608)) .z) (.v 0) (.n 16777216) rfl q),by exact (Lin.ak (.c _ .z) .z 1 (.c 1 (.ak (.a (.v 0) (.n 1)) (.n 8388608)) .z) (.a (.v 0) (.n 1)) (.n 16777216) rfl q)⟩
 have V:=u UO;refine ae (qo ..).symm ?_;refine vm.mk (r:=rs.map sF) (d:=sF (x1,x2,x3,x4)) rfl (qn V.1) ?_;refine jc.mk (x:=x) (as:=as) rfl ?_;refine iM.mk (sp:=fm) rfl rfl rfl (hm x1 x2 x3 x4 _ g.1 g.2.1 g.2.2.1 g.2.2.2 ⟨rfl,?_⟩);have q:=Z x1 x2 x3 x4 g.1 g.2.2.1;obtain ⟨⟨i,j,k⟩,e⟩:∃b,f x1 x2 x3 x4=b:=⟨_,rfl⟩;rw [e] at q ⊢;refine El.iz q λq1 Y q3 q4=>?_;clear q;dsimp only at q1 Y q3 q4;refine aZ.dec (λhk=>?_) λhk=>?_
 ·have hk:k≠0:=λz=>hk (by refine ae (z ..) ?_;rfl)
  have gl:x1≤i∧i≤na∧x3≤j∧j≤nb:=(El.cy q1 (az (az (bc _ _) Y) g.2.1) q3 (az (az (bc _ _) q4) g.2.2.2));have gr:i+k≤x2∧x2≤na∧j+k≤x4∧x4≤nb:=(El.cy Y g.2.1 q4 g.2.2.2);have W:bq ⟨[],[fm]⟩ (.seq BJ (.seq BK .nil)) (jG (cc x as) (.int na) (.int nb) tl rs (bl++[(i,j,k)]) x1 x2 x3 x4 i j k) K:=
   UM V.1
    (λa=>IK (by refine ae (aJ ..) ?_;exact V.2) (λb=>h _ _ _ _ _ _ _ _ _ (Pure.yu hk q1 Y) ((ok.snoc gl).snoc gr) (Pure.Ls Z g.1 g.2.2.1 e hk a b hp)) λb=>h _ _ _ _ _ _ _ _ _ (Pure.Lp hk q1 Y) (ok.snoc gl) (Pure.Lu Z g.1 g.2.2.1 e hk a b hp))
    λa=>IK V.1 (λb=>h _ _ _ _ _ _ _ _ _ (Pure.Lq hk q1 Y) (ok.snoc gr) (Pure.Lv Z g.1 g.2.2.1 e hk a b hp)) λb=>h _ _ _ _ _ _ _ _ _ Pure.DG ok (Pure.Lx Z g.1 g.2.2.1 e hk a b hp)
  unfold jG at W;rw [←qo] at W;exact av (qn (dT hb (by decide))) W
 ·have hk:k=0:=sV (KQ.mp hk);exact h _ _ _ _ _ _ _ _ _ Pure.DG ok (Pure.Lr e hk hp)
theorem UP (hm:BN fm x as f na nb) (hf:Pure.jT f) (W:na<2 ^ 20) (ht:total.length<2 ^ 23) (e0:Pure.dJ f (0,na,0,nb)=total)
  (h:∀(bl:List Pure.aX) (t5 t6 t7 t8 t9 bN bE aV:Tr),bl.Perm total→K .nx (cc x as::.dat (.int na)::.dat (.int nb)::.dl []::.dl (bl.map d7)::t5::t6::t7::t8::t9::bN::bE::aV::tl)) :
  bq ⟨[],[fm]⟩ (.k6 (.tv (.var 3)) BL) (cc x as::.dat (.int na)::.dat (.int nb)::.dl [.tuple [.int 0,.int na,.int 0,.int nb]]::.dl []::t5::t6::t7::t8::t9::bN::bE::aV::tl) K:=by
 refine mE.mk (λn σ=>∃rs bl t5 t6 t7 t8 t9 bN bE aV,Pure.fq rs=n∧n<2 ^ 23∧qp na nb rs∧(bl++rs.flatMap (Pure.dJ f)).Perm total∧σ=cc x as::.dat (.int na)::.dat (.int nb)::.dl (rs.map sF)::.dl (bl.map d7)::t5::t6::t7::t8::t9::bN::bE::aV::tl) _
  ⟨[(0,na,0,nb)],[],_,_,_,_,_,_,_,_,rfl,?_,?_,?_,rfl⟩ λn σ J=>?_
 ·refine (?_:2*(na-0)+1+0<_);exact (Lin.ak (.c _ (.c _ .z)) .z 1 (.c 2 (.ak (.v 1) (.n 1048576)) (.c 2 (.aw (.a (.v 0) (.n 0)) (.v 1)) .z)) (.a (.a (.m 2 (.v 0)) (.n 1)) (.n 0)) (.n 8388608) rfl W (aT (Lin.ah (.c _ .z) .z 1 .z (.n 0) (.v 0) rfl)))
 ·exact λr hr=>dk.mp hr▸(El.cy (bh _) (aI _) (bh _) (aI _))
 ·rw [gv,wz,e0]
 ·obtain ⟨rs,bl,t5,t6,t7,t8,t9,bN,bE,aV,Y,Z,ok,V,dq⟩:=J;subst Y;subst dq;have hl:=Pure.yt rs;refine av (by unfold small cE;refine ae (bK ..) ?_;omega) ?_
  clear hl;rcases List.eq_nil_or_concat rs with rfl | ⟨r,⟨x1,x2,x3,x4⟩,rfl⟩
  ·rw [C3,bt] at V;exact h _ _ _ _ _ _ _ _ _ V
  ·refine aZ.yes (by refine ae (YL ..) (ae (bG ..) ?_);cases r <;> rfl) ?_
   rw [YL] at V Z ok ⊢;have hb:bl.length<2 ^ 23:=by
    have:=V.length_eq;rw [aJ] at this;exact (cb (az (bc _ _) (dH this)) ht)
   refine UN hm hf Z hb (ok _ (bx _ (.head _))) (λq hq=>ok q (bO _ hq)) V λUQ v8 y1 y2 y3 y4 i j k a b c=>?_;exact ⟨_,a,UQ,v8,_,_,_,_,_,_,_,_,rfl,eY a Z,b,c,rfl⟩
end
theorem IL (st:Pure.aX×List Pure.aX) (b:Pure.aX):(Pure.fu st b).2.length≤st.2.length+1:=by
 unfold Pure.fu;split
 ·exact gq _
 ·dsimp only;split
  ·exact gq _
  ·exact dH (aJ ..)
theorem v9 (a b:Int):ag.eqv (.int a) (.int b)=decide (a=b):=by
 unfold ag.eqv;exact Bool.eq_iff_iff.mpr ⟨λh=>decide_eq_true (beq_iff_eq.mp h),λh=>beq_iff_eq.mpr (of_decide_eq_true h)⟩
section
variable {fs:da}{K:KS}{acc:List Pure.aX}{i1 j1 k1:Nat}{R:SS}{t0 t1 t2 t3 t4 t5 t6 t7 t8 t9 bN bE aV ck cm qq:Tr}{b:Pure.aX}
noncomputable abbrev mY (t0 t1 t2 t3 t4 t5 t6 t7 t8 t9 bN bE aV:Tr) (c:Pure.aX) (acc:List Pure.aX) (ck cm qq:Tr):List Tr:=[t0,t1,t2,t3,t4,t5,t6,t7,t8,t9,bN,bE,aV,.dat (.int c.1),.dat (.int c.2.1),.dat (.int c.2.2),.dl (acc.map n6),ck,cm,qq]
theorem IM (hl:acc.length<2 ^ 24) (h:bq fs R (mY t0 t1 t2 t3 t4 t5 t6 t7 t8 t9 bN bE aV b (if b.2.2=0 then acc else acc++[b]) ck cm qq) K):bq fs (.seq v7 R) (mY t0 t1 t2 t3 t4 t5 t6 t7 t8 t9 bN bE aV b acc ck cm qq) K:=by
 refine aZ.dec (λhk=>?_) λhk=>?_
 ·rw [if_neg λz=>hk (by refine ae (z ..) ?_;rfl)] at h
  unfold mY at h;rw [←qo] at h;exact av (aL rfl) (av (qn hl) h)
 ·rw [if_pos (sV (KQ.mp hk))] at h;exact h
theorem UR {c:Pure.aX}(hl:acc.length<2 ^ 24) (h:K .nx (mY t0 t1 t2 t3 t4 t5 t6 t7 t8 t9 bN bE aV (Pure.fu (c,acc) b).1 (Pure.fu (c,acc) b).2 (.dat (.int b.1)) (.dat (.int b.2.1)) (.dat (.int b.2.2)))) :
  bq fs BM (mY t0 t1 t2 t3 t4 t5 t6 t7 t8 t9 bN bE aV c acc (.dat (.int b.1)) (.dat (.int b.2.1)) (.dat (.int b.2.2))) K:=by
 unfold Pure.fu at h;have no:¬(c.1+c.2.2=b.1∧c.2.1+c.2.2=b.2.1)→bq fs (.seq v7 (.seq (.eQ [(13,.fr),(14,.fr),(15,.fr)] (.cons (.var 17) (.cons (.var 18) (.cons (.var 19) .nil)))) .nil)) (mY t0 t1 t2 t3 t4 t5 t6 t7 t8 t9 bN bE aV c acc (.dat (.int b.1)) (.dat (.int b.2.1)) (.dat (.int b.2.2))) K:=λe=>by
  rw [if_neg e] at h;exact IM hl (av (aL rfl) h)
 refine cq (v9 _ _) ⟨rfl,rfl⟩ (aZ.dec (λe1=>cq (v9 _ _) ⟨rfl,rfl⟩ (aZ.dec (λe2=>?_) λe2=>no λq=>e2 (congrArg JV q.2))) λe1=>no λq=>e1 (congrArg JV q.1));rw [if_pos ⟨sV e1,sV e2⟩] at h;exact h
theorem IP:∀(bl:List Pure.aX) (c:Pure.aX) (acc:List Pure.aX) (ck cm qq:Tr),acc.length+bl.length<2 ^ 24→(∀a b d,K .nx (mY t0 t1 t2 t3 t4 t5 t6 t7 t8 t9 bN bE aV (bl.foldl Pure.fu (c,acc)).1 (bl.foldl Pure.fu (c,acc)).2 a b d))→
  dc (ed fs [(17,.fr),(18,.fr),(19,.fr)] true BM) K (bl.map d7) (mY t0 t1 t2 t3 t4 t5 t6 t7 t8 t9 bN bE aV c acc ck cm qq):=@λA B C D F G H J=>match A,B,C,D,F,G,H,J with
 |[],c,acc,zz,V,W,Y,h=>h _ _ _
 |b::bl,c,acc,zz,V,W,hl,h=>by
  rw [dA] at hl;refine UR (b:=b) (c:=c) (by exact (cb (bc _ _) hl)) ?_
  have:=IL (c,acc) b;exact IP bl _ _ _ _ _ (by dsimp only at this;omega) h
end
theorem BO:∀(bl:List Pure.aX) (st:Pure.aX×List Pure.aX),(bl.foldl Pure.fu st).2.length≤st.2.length+bl.length:=@λA B=>match A,B with
 |[],zz=>aI _
 |b::r,st=>by
  have:=BO r (Pure.fu st b);have:=IL st b;refine ae (qx ..) (ae (dA ..) ?_);lia
theorem US (bl:List Pure.aX) (a b:Nat):(Pure.joined bl a b).length≤bl.length+2:=by
 have:=BO bl ((0,0,0),[]);unfold Pure.joined Pure.nL;refine ae (aJ ..) ?_;rw [wB] at this;split
 ·refine (?_:_+1≤_);exact (Lin.ah (.c _ (.c _ .z)) .z 1 (.c 1 (.ah (.v 0) (.a (.n 0) (.v 1))) .z) (.a (.v 0) (.n 1)) (.a (.v 1) (.n 2)) rfl this)
 ·refine ae (aJ ..) ?_;refine (?_:_+1+1≤_);exact (Lin.ah (.c _ (.c _ .z)) .z 1 (.c 1 (.ah (.v 0) (.a (.n 0) (.v 1))) .z) (.a (.a (.v 0) (.n 1)) (.n 1)) (.a (.v 1) (.n 2)) rfl this)
noncomputable def kj (fm:dK):dK:=λx as ds k=>ds=[]∧∃(f:Nat→Nat→Nat→Nat→Pure.aX) (aS bS:List Int),as[1]? = some (.tr (.dat (.list (intD aS))))∧as[2]? = some (.tr (.dat (.list (intD bS))))∧as[4]? = some (.tr (.dat .none))∧(aS.length<2000∧bS.length<2000)∧
 BN fm x as f aS.length bS.length∧Pure.jT f∧(Pure.dJ f (0,aS.length,0,bS.length)).length<63∧(Pure.dJ f (0,aS.length,0,bS.length)).Pairwise (λa b=>a.1<b.1)∧
 k (.list ((Pure.joined (Pure.dJ f (0,aS.length,0,bS.length)) aS.length bS.length).map d7)) (as.set 4 (.tr (.dat (.list ((Pure.joined (Pure.dJ f (0,aS.length,0,bS.length)) aS.length bS.length).map d7)))))
theorem UT {fm:dK}(x:ao×ao) (as:List aY) (ds:List ag) (k:ag→List aY→Prop) (h:kj fm x as ds k):ds.length+1+0=1∧bq ⟨[],[fm]⟩ IJ (cc x as::init (ds++[]) 19) (lD x k):=by
 obtain ⟨V,f,aS,bS,h1,h2,Y,W,hm,hf,hl,hs,h⟩:=h;subst V;obtain ⟨Z,lb⟩:=W;refine ⟨rfl,?_⟩;have lt:4<as.length:=(fH.mp Y).1;refine .mk rfl Y ?_;refine .mk rfl h1 (ql Z ?_);refine .mk rfl h2 (ql lb ?_);refine av (aL rfl) ?_;refine av (aL rfl) ?_;refine av (aL rfl) ?_;refine av (aL rfl) ?_;generalize e0:Pure.dJ f (0,aS.length,0,bS.length)=total at *;refine UP hm hf (by exact (Lin.ak (.c _ .z) .z 1 (.c 1 (.ak (.v 0) (.n 2000)) .z) (.v 0) (.n 1048576) rfl Z)) (by exact (Lin.ak (.c _ .z) .z 1 (.c 1 (.ak (.v 0) (.n 63)) .z) (.v 0) (.n 8388608) rfl hl)) e0 λbl t5 t6 t7 t8 t9 bN bE aV hp=>?_
 refine .mk rfl hp hs (by lia) ?_
 refine av (aL rfl) ?_;refine IP total (0,0,0) [] _ _ _ (by show 0+_<_;omega) λa b d=>?_
 have hj:=BO total ((0,0,0),[]);rw [wB] at hj;have J:=US total aS.length bS.length;refine IM (by exact (Lin.ak (.c _ (.c _ .z)) .z 1 (.c 1 (.ak (.v 1) (.n 63)) (.c 1 (.ah (.v 0) (.a (.n 0) (.v 1))) .z)) (.v 0) (.n 16777216) rfl hl hj)) ?_
 refine av (aL rfl) (av (qn ?_) ?_)
 ·unfold Pure.joined Pure.nL at J;rw [aJ] at J;exact cb (az (bc _ _) J) (by exact (Lin.ak (.c _ .z) .z 1 (.c 1 (.ak (.v 0) (.n 63)) .z) (.a (.v 0) (.n 2)) (.n 16777216) rfl hl))
 ·refine .mk (bl:=Pure.joined total aS.length bS.length) (congrArg (λl=>some (Tr.dl l)) (qo n6 _ (aS.length,bS.length,0))) (by lia) ?_
  refine .mk rfl ⟨et lt,aL rfl⟩ ?_;rw [show ∀a,k8 as 4 a=as.set 4 a from λa=>if_pos lt];refine .mk rfl (CT lt) ?_;exact El.aD _ rfl h
noncomputable abbrev IQ:SS:=.seq (.cO (.cmp .Lt (.var 17) (.var 3)) (.seq .cnt .nil) .nil) (.seq (.cO (.cmp .GtE (.var 17) (.var 4)) (.seq .brk .nil) .nil) (.seq (.cM [(.nm 18 .fr),(.om 16 17)] (.bin .Add (.pO 15 (.cons (.bin .Sub (.var 17) (.lit (.int (1)))) (.cons (.lit (.int (0))) .nil))) (.lit (.int (1))))) (.seq (.cO (.cmp .Gt (.var 18) (.var 11)) (.seq (.eQ [(9,.fr),(10,.fr),(11,.fr)] (.cons (.bin .Add (.bin .Sub (.var 14) (.var 18)) (.lit (.int (1)))) (.cons (.bin .Add (.bin .Sub (.var 17) (.var 18)) (.lit (.int (1)))) (.cons (.var 18) .nil)))) .nil) .nil) .nil)))
noncomputable abbrev IS:SS:=.seq (.asg 15 .own (.zP 12)) (.seq (.asg 16 .own (.jt false)) (.seq (.dY [(17,.fr)] false (.seq (.zQ 7 (.cons (.sub (.var 5) (.var 14)) (.cons (.var 13) .nil)))) IQ) (.seq (.Af 12 16) .nil)))
noncomputable def oQ (gd:Int→Option ag) (G:Int→Int):Prop:=∀x,(gd x).getD (.int 0)=.int (G x)
theorem oQ.put {gd:Int→Option ag}{G:Int→Int}(h:oQ gd G) (j n:Int):oQ (λx=>if x=j then some (.int n) else gd x) λx=>if x=j then n else G x:=λx=>by
 by_cases e:x=j
 ·simp only [if_pos e];rfl
 ·simp only [if_neg e];exact h x
section
variable {fs:da}{K:KS}{I t1 t2 t5 t6 t7 t8 aV bg:Tr}{blo bhi i:Int}{g0:Int→Option ag}{G:Int→Int}
noncomputable abbrev sG (I t1 t2:Tr) (blo bhi:Int) (t5 t6 t7 t8:Tr) (b:Int×Int×Int) (aV bg cz cA cv ck cm:Tr):List Tr:=[I,t1,t2,.dat (.int blo),.dat (.int bhi),t5,t6,t7,t8,.dat (.int b.1),.dat (.int b.2.1),.dat (.int b.2.2),aV,bg,cz,cA,cv,ck,cm]
theorem wa (Z:oQ g0 G):∀(V:List Int) (n:Nat) (gd:Int→Option ag) (N:Int→Int) (b:Int×Int×Int) (ck cm:Tr),oQ gd N→n+V.length<2 ^ 24→
  (∀n' Y ck cm,oQ Y (Pure.inner G blo bhi i V (N,b)).1→K .nx (sG I t1 t2 blo bhi t5 t6 t7 t8 (Pure.inner G blo bhi i V (N,b)).2 aV bg (.dat (.int i)) (cj (mj g0)) (.fr (j4 n' Y)) ck cm))→
  dc (ed fs [(17,.fr)] false IQ) K (intD V) (sG I t1 t2 blo bhi t5 t6 t7 t8 b aV bg (.dat (.int i)) (cj (mj g0)) (.fr (j4 n gd)) ck cm):=@λA B C D F H J L M O=>match A,B,C,D,F,H,J,L,M,O with
 |[],n,gd,N,b,ck,cm,W,hn,h=>h _ _ _ _ W
 |j::V,n,gd,N,b,ck,cm,W,hn,h=>by
  rw [dA] at hn;refine aZ.dec (λe1=>?_) λe1=>?_
  ·rw [Pure.yo e1] at h;exact wa Z V n gd N b _ _ W (by lia) h
  ·refine aZ.dec (λe2=>?_) λe2=>?_
   ·rw [Pure.DB e1 e2] at h;exact h _ _ _ _ W
   ·refine kT.get (g:=g0) rfl (n9.mk (c:=j-1) (d:=.int 0) rfl rfl ?_);refine (?_:one _ [bw ((g0 (j-1)).getD (.int 0))]);refine ae (Z (j-1) ..) ?_;refine u9.mk rfl rfl rfl (by exact (cb (bc _ _) hn)) ?_
    refine aZ.dec (λe3=>?_) λe3=>?_
    ·rw [Pure.Lm e1 e2 e3] at h;refine av (aL rfl) ?_;exact wa Z V (n+1) _ _ (i-(G (j-1)+1)+1,j-(G (j-1)+1)+1,G (j-1)+1) _ _ (W.put j _) (by lia) h
    ·rw [Pure.Ln e1 e2 e3] at h;exact wa Z V (n+1) _ _ b _ _ (W.put j _) (by lia) h
end
theorem lF {ns:List Int}{i:Nat}{n:Int}{k:Nat→ag→Prop}(e:n=(i:Int)) (h:i<ns.length) (hl:ns.length<2 ^ 24) (hk:k i (.int (ns.getD i 0))):iL (intD ns) n k:=by
 subst e;have e1:(intD ns).length=ns.length:=bK ..;refine .mk (j:=i) (x:=.int (ns.getD i 0)) ?_ ?_ ⟨by exact (Lin.aA (.c _ .z) .z 1 .z (.g (.n 9223372036854775808)) (.o (.v 0)) rfl),by exact (Lin.aM (.c _ (.c _ .z)) .z 1 (.c 1 (.ak (.v 0) (.v 1)) (.c 1 (.ak (.v 1) (.n 16777216)) .z)) (.o (.v 0)) (.n 9223372036854775808) rfl h hl)⟩ hk
 ·unfold kN;refine ae (e1 ..) ?_;dsimp only;rw [if_neg (gn.mpr (nf i)),if_pos (oV.mpr ⟨decide_eq_true (nf i),decide_eq_true (de.mpr h)⟩),jK]
 ·unfold intD;rw [kF,eu h,eX,eu h];rfl
theorem UU (a b:Nat):j8 a b=(kB a (b-a)).map λi=>.int (i:Nat):=by
 unfold j8;refine ae (List.range'_eq_map_range ..) (ae (sX ..) (ae (Int.toNat_sub ..) ?_));rfl
section
variable {fs:da}{K:KS}{I t1 t2 t6 t8:Tr}{blo bhi:Int}{bd:Int→Option ag}{idx:Int→List Int}{aS:List Int}
theorem IT (Z:∀c,(bd c).getD (.list [])=.list (intD (idx c))) (hI:∀c,(idx c).length<2 ^ 24) (hl:aS.length<2 ^ 24):∀(n i:Nat) (gd:Int→Option ag) (G:Int→Int) (b:Int×Int×Int) (cz cA cv ck cm:Tr),i+n≤aS.length→oQ gd G→
  (∀aV cz cA cv ck cm,K .nx (sG I t1 t2 blo bhi (.dat (.list (intD aS))) t6 (cj (ff bd)) t8 (Pure.outer (λi=>aS.getD i 0) idx blo bhi i n (G,b)).2 aV (.dat (.list [])) cz cA cv ck cm))→
  dc (ed fs [(14,.fr)] false IS) K ((kB i n).map λi=>.int (i:Nat)) (sG I t1 t2 blo bhi (.dat (.list (intD aS))) t6 (cj (ff bd)) t8 b (cj (ff gd)) (.dat (.list [])) cz cA cv ck cm):=@λA B C D F H J L M N O P Q=>match A,B,C,D,F,H,J,L,M,N,O,P,Q with
 |0,i,gd,G,b,zz,zy,zx,zw,zv,W,hG,h=>h _ _ _ _ _ _
 |n+1,i,gd,G,b,zz,zy,zx,zw,zv,W,hG,h=>by
  refine uO.mk (g:=gd) rfl ?_;refine uP.mk (g:=bd) rfl ?_;refine lF (i:=i) rfl (by exact (Lin.ak (.c _ (.c _ (.c _ .z))) .z 1 (.c 1 (.ah (.a (.v 0) (.a (.v 2) (.n 1))) (.v 1)) .z) (.v 0) (.v 1) rfl W)) hl ?_
  refine n9.mk (c:=aS.getD i 0) (d:=.list []) rfl rfl ?_;refine (?_:one _ [bw ((bd (aS.getD i 0)).getD (.list []))]);refine ae (Z ..) ?_;refine wa (G:=G) hG (idx (aS.getD i 0)) 0 _ (λzz=>0) b _ _ (λzz=>rfl) (by refine ae (cQ ..) ?_;exact hI _) λn' V wb IU Y=>?_
  refine u7.mk (n:=n') (g:=V) rfl ?_;exact IT Z hI hl n (i+1) V _ _ _ _ _ _ _ (by exact (Lin.ah (.c _ (.c _ (.c _ .z))) .z 1 (.c 1 (.ah (.a (.v 0) (.a (.v 1) (.n 1))) (.v 2)) .z) (.a (.a (.v 0) (.n 1)) (.v 1)) (.v 2) rfl W)) Y h
end
noncomputable def iP (J:Bool) (S:Int→Bool) (c:Int):Bool:=match J with
 |true=>!S c
 |false=>S c
noncomputable abbrev IV (J:Bool) (e:SE):SE:=match J with
 |true=>.nt (.tv (.pO 8 (.cons e .nil)))
 |false=>.tv (.pO 8 (.cons e .nil))
noncomputable abbrev IW (J:Bool):SS:=match J with
 |true=>.seq (.aug 11 .Add (.lit (.int (1)))) .nil
 |false=>.seq (.asg 11 .fr (.bin .Add (.var 11) (.lit (.int (1))))) .nil
noncomputable abbrev BP (J:Bool):SS:=.k6 (.an (.cmp .Gt (.var 9) (.var 1)) (.an (.cmp .Gt (.var 10) (.var 3)) (.an (IV J (.sub (.var 6) (.bin .Sub (.var 10) (.lit (.int (1)))))) (.cmp .Eq (.sub (.var 5) (.bin .Sub (.var 9) (.lit (.int (1))))) (.sub (.var 6) (.bin .Sub (.var 10) (.lit (.int (1))))))))) (.seq (.eQ [(9,.fr),(10,.fr),(11,.fr)] (.cons (.bin .Sub (.var 9) (.lit (.int (1)))) (.cons (.bin .Sub (.var 10) (.lit (.int (1)))) (.cons (.bin .Add (.var 11) (.lit (.int (1)))) .nil)))) .nil)
noncomputable abbrev BQ (J:Bool):SS:=.k6 (.an (.cmp .Lt (.bin .Add (.var 9) (.var 11)) (.var 2)) (.an (.cmp .Lt (.bin .Add (.var 10) (.var 11)) (.var 4)) (.an (IV J (.sub (.var 6) (.bin .Add (.var 10) (.var 11)))) (.cmp .Eq (.sub (.var 5) (.bin .Add (.var 9) (.var 11))) (.sub (.var 6) (.bin .Add (.var 10) (.var 11))))))) (IW J)
section
variable {fs:da}{K:KS}{I t7 aV bg cz cA cv ck cm:Tr}{alo ahi blo bhi:Nat}{aS bS:List Int}{S:Int→Bool}
noncomputable abbrev gi (I t7 aV bg cz cA cv ck cm:Tr) (alo ahi blo bhi:Nat) (aS bS:List Int) (S:Int→Bool) (i j k:Nat):List Tr:=sG I (.dat (.int alo)) (.dat (.int ahi)) blo bhi (.dat (.list (intD aS))) (.dat (.list (intD bS))) t7 (cj (n5 S)) (i,j,k) aV bg cz cA cv ck cm
inductive oR (I t7 aV bg cz cA cv ck cm:Tr) (alo ahi blo bhi:Nat) (aS bS:List Int) (S:Int→Bool) (E:Nat→Nat→Nat→Prop) (M:Nat→Nat→Nat) (n:Nat):List Tr→Prop
 |mk {i j k:Nat}:M i k=n→E i j k→alo≤i→i+k≤ahi→blo≤j→j+k≤bhi→oR I t7 aV bg cz cA cv ck cm alo ahi blo bhi aS bS S E M n (gi I t7 aV bg cz cA cv ck cm alo ahi blo bhi aS bS S i j k)
noncomputable abbrev IX (J:Nat→List Tr→Prop) (n:Nat) (K:KS):KS:=λf V=>match f with
 |.nx=>∃n',n'<n∧J n' V
 |.cnt=>∃n',n'<n∧J n' V
 |.brk=>K .nx V
 |.ret e=>K (.ret e) V
theorem IY (Y:Bool) (la:aS.length<2 ^ 24) (lb:bS.length<2 ^ 24) (ha:ahi≤aS.length) (hb:bhi≤bS.length) {i j k:Nat}(h1:alo≤i) (h2:i+k≤ahi) (h3:blo≤j) (h4:j+k≤bhi)
  (h:∀i' j' k',Pure.ez (λi=>aS.getD i 0) (λi=>bS.getD i 0) (iP Y S) alo blo i j k=(i',j',k')→alo≤i'→i'+k'≤ahi→blo≤j'→j'+k'≤bhi→K .nx (gi I t7 aV bg cz cA cv ck cm alo ahi blo bhi aS bS S i' j' k')) :
  bq fs (BP Y) (gi I t7 aV bg cz cA cv ck cm alo ahi blo bhi aS bS S i j k) K:=by
 generalize Z:Pure.ez (λi=>aS.getD i 0) (λi=>bS.getD i 0) (iP Y S) alo blo i j k=T at h;refine mE.mk (oR I t7 aV bg cz cA cv ck cm alo ahi blo bhi aS bS S (λi j k=>Pure.ez (λi=>aS.getD i 0) (λi=>bS.getD i 0) (iP Y S) alo blo i j k=T) λi k=>i) _ (.mk rfl Z h1 h2 h3 h4) λn σ J=>?_;clear Z h1 h2 h3 h4;obtain @⟨i,j,k,hn,Z,g1,g2,g3,g4⟩:=J;subst hn;have V:¬(alo<i∧blo<j∧iP Y S (bS.getD (j-1) 0)=true∧aS.getD (i-1) 0=bS.getD (j-1) 0)→K .nx (gi I t7 aV bg cz cA cv ck cm alo ahi blo bhi aS bS S i j k):=λq=>h i j k (Z.symm.trans (Pure.tO q)) g1 g2 g3 g4;refine aZ.dec (λe1=>?_) λe1=>V λq=>e1 (de.mpr q.1);refine aZ.dec (λe2=>?_) λe2=>V λq=>e2 (de.mpr q.2.1);have e1:=de.mp e1;have e2:=de.mp e2;have ei:(i:Int)-1=((i-1:Nat):Int):=by exact (eK (Lin.aA (.c _ (.c _ .z)) .z 1 (.c 1 (.aw (.v 0) (.a (.v 1) (.n 1))) .z) (.s (.o (.v 0)) (.n 1)) (.o (.v 1)) rfl (aT (Lin.ah (.c _ (.c _ .z)) .z 1 (.c 1 (.ak (.v 1) (.v 0)) .z) (.n 1) (.v 0) rfl e1)).symm) (Lin.aA (.c _ (.c _ .z)) .z 1 (.c 1 (.aw (.a (.v 0) (.n 1)) (.v 1)) .z) (.o (.v 0)) (.s (.o (.v 1)) (.n 1)) rfl (aT (Lin.ah (.c _ (.c _ .z)) .z 1 (.c 1 (.ak (.v 1) (.v 0)) .z) (.n 1) (.v 0) rfl e1))))
 have W:(j:Int)-1=((j-1:Nat):Int):=by exact (eK (Lin.aA (.c _ (.c _ .z)) .z 1 (.c 1 (.aw (.v 0) (.a (.v 1) (.n 1))) .z) (.s (.o (.v 0)) (.n 1)) (.o (.v 1)) rfl (aT (Lin.ah (.c _ (.c _ .z)) .z 1 (.c 1 (.ak (.v 1) (.v 0)) .z) (.n 1) (.v 0) rfl e2)).symm) (Lin.aA (.c _ (.c _ .z)) .z 1 (.c 1 (.aw (.a (.v 0) (.n 1)) (.v 1)) .z) (.o (.v 0)) (.s (.o (.v 1)) (.n 1)) rfl (aT (Lin.ah (.c _ (.c _ .z)) .z 1 (.c 1 (.ak (.v 1) (.v 0)) .z) (.n 1) (.v 0) rfl e2))))
 have key:aZ (iP Y S (bS.getD (j-1) 0)) (den fs (.cmp .Eq (.sub (.var 5) (.bin .Sub (.var 9) (.lit (.int (1))))) (.sub (.var 6) (.bin .Sub (.var 10) (.lit (.int (1)))))) (gi I t7 aV bg cz cA cv ck cm alo ahi blo bhi aS bS S i j k) (one λv=>j5 v λc=>aZ c (bq fs (.seq (.eQ [(9,.fr),(10,.fr),(11,.fr)] (.cons (.bin .Sub (.var 9) (.lit (.int (1)))) (.cons (.bin .Sub (.var 10) (.lit (.int (1)))) (.cons (.bin .Add (.var 11) (.lit (.int (1)))) .nil)))) .nil) (gi I t7 aV bg cz cA cv ck cm alo ahi blo bhi aS bS S i j k) (IX (oR I t7 aV bg cz cA cv ck cm alo ahi blo bhi aS bS S (λi j k=>Pure.ez (λi=>aS.getD i 0) (λi=>bS.getD i 0) (iP Y S) alo blo i j k=T) λi k=>i) i K)) (K .nx (gi I t7 aV bg cz cA cv ck cm alo ahi blo bhi aS bS S i j k)))) (K .nx (gi I t7 aV bg cz cA cv ck cm alo ahi blo bhi aS bS S i j k)):=by
  refine aZ.by (λe3=>?_) λe3=>V λq=>El.ft (e3.symm.trans q.2.2.1)
  refine lF (i:=i-1) ei (by exact (Lin.ak (.c _ (.c _ (.c _ (.c _ (.c _ .z))))) .z 1 (.c 1 (.ah (.v 2) (.v 1)) (.c 1 (.ah (.a (.v 3) (.v 4)) (.v 2)) (.c 1 (.bW (.o (.v 0)) (.s (.o (.v 3)) (.n 1))) .z))) (.v 0) (.v 1) rfl ha g2 (cB ei))) la ?_
  refine lF (i:=j-1) W (by exact (Lin.ak (.c _ (.c _ (.c _ (.c _ (.c _ .z))))) .z 1 (.c 1 (.ah (.v 2) (.v 1)) (.c 1 (.ah (.a (.v 3) (.v 4)) (.v 2)) (.c 1 (.bW (.o (.v 0)) (.s (.o (.v 3)) (.n 1))) .z))) (.v 0) (.v 1) rfl hb g4 (cB W))) lb ?_
  refine cq (v9 _ _) ⟨rfl,rfl⟩ (aZ.dec (λe4=>?_) λe4=>V λq=>e4 q.2.2.2);refine av (aL rfl) ?_;refine El.aD (i-1) (by exact (Lin.ak (.c _ (.c _ .z)) .z 1 (.c 1 (.bW (.o (.v 0)) (.s (.o (.v 1)) (.n 1))) .z) (.v 0) (.v 1) rfl (cB ei))) (ei▸W▸oR.mk (i:=i-1) (j:=j-1) (k:=k+1) rfl ((Pure.DC (El.cy e1 e2 e3 e4)).symm.trans Z) (by exact (Lin.ah (.c _ (.c _ (.c _ .z))) .z 1 (.c 1 (.ak (.v 0) (.v 2)) (.c 1 (.bW (.s (.o (.v 2)) (.n 1)) (.o (.v 1))) .z)) (.v 0) (.v 1) rfl e1 ei)) (by exact (Lin.ah (.c _ (.c _ (.c _ (.c _ .z)))) .z 1 (.c 1 (.ah (.a (.v 3) (.v 1)) (.v 2)) (.c 1 (.bW (.o (.v 0)) (.s (.o (.v 3)) (.n 1))) .z)) (.a (.v 0) (.a (.v 1) (.n 1))) (.v 2) rfl g2 (cB ei))) (by exact (Lin.ah (.c _ (.c _ (.c _ .z))) .z 1 (.c 1 (.ak (.v 0) (.v 2)) (.c 1 (.bW (.s (.o (.v 2)) (.n 1)) (.o (.v 1))) .z)) (.v 0) (.v 1) rfl e2 W)) (by exact (Lin.ah (.c _ (.c _ (.c _ (.c _ .z)))) .z 1 (.c 1 (.ah (.a (.v 3) (.v 1)) (.v 2)) (.c 1 (.bW (.o (.v 0)) (.s (.o (.v 3)) (.n 1))) .z)) (.a (.v 0) (.a (.v 1) (.n 1))) (.v 2) rfl g4 (cB W))))
 clear Z V;cases Y with
 |true=>
  refine kT.has (S:=S) rfl (lF (i:=j-1) W (by exact (Lin.ak (.c _ (.c _ (.c _ (.c _ (.c _ .z))))) .z 1 (.c 1 (.ah (.v 2) (.v 1)) (.c 1 (.ah (.a (.v 3) (.v 4)) (.v 2)) (.c 1 (.bW (.o (.v 0)) (.s (.o (.v 3)) (.n 1))) .z))) (.v 0) (.v 1) rfl hb g4 (cB W))) lb (n8.mk (c:=bS.getD (j-1) 0) rfl rfl ?_))
  exact key
 |false=>
  refine kT.has (S:=S) rfl (lF (i:=j-1) W (by exact (Lin.ak (.c _ (.c _ (.c _ (.c _ (.c _ .z))))) .z 1 (.c 1 (.ah (.v 2) (.v 1)) (.c 1 (.ah (.a (.v 3) (.v 4)) (.v 2)) (.c 1 (.bW (.o (.v 0)) (.s (.o (.v 3)) (.n 1))) .z))) (.v 0) (.v 1) rfl hb g4 (cB W))) lb (n8.mk (c:=bS.getD (j-1) 0) rfl rfl ?_))
  exact key
theorem IZ (W:Bool) (la:aS.length<2 ^ 24) (lb:bS.length<2 ^ 24) (ha:ahi≤aS.length) (hb:bhi≤bS.length) {i j k:Nat}(h1:alo≤i) (h2:i+k≤ahi) (h3:blo≤j) (h4:j+k≤bhi)
  (h:∀k',Pure.eF (λi=>aS.getD i 0) (λi=>bS.getD i 0) (iP W S) ahi bhi i j (ahi-(i+k)) k=k'→i+k'≤ahi→j+k'≤bhi→K .nx (gi I t7 aV bg cz cA cv ck cm alo ahi blo bhi aS bS S i j k')) :
  bq fs (BQ W) (gi I t7 aV bg cz cA cv ck cm alo ahi blo bhi aS bS S i j k) K:=by
 generalize Y:Pure.eF (λi=>aS.getD i 0) (λi=>bS.getD i 0) (iP W S) ahi bhi i j (ahi-(i+k)) k=T at h;refine mE.mk (oR I t7 aV bg cz cA cv ck cm alo ahi blo bhi aS bS S (λZ j' k=>Z=i∧j'=j∧Pure.eF (λi=>aS.getD i 0) (λi=>bS.getD i 0) (iP W S) ahi bhi i j (ahi-(i+k)) k=T) λi k=>ahi-(i+k)) _ (.mk rfl (El.aK rfl rfl Y) h1 h2 h3 h4) λn σ J=>?_;clear Y h2 h4;clear h1 h3;obtain @⟨i,j,k,hn,⟨rfl,rfl,Y⟩,g1,g2,g3,g4⟩:=J;subst hn;have V:¬(i+k<ahi∧j+k<bhi∧iP W S (bS.getD (j+k) 0)=true∧aS.getD (i+k) 0=bS.getD (j+k) 0)→K .nx (gi I t7 aV bg cz cA cv ck cm alo ahi blo bhi aS bS S i j k):=λq=>h k (Y.symm.trans (Pure.tP q _)) g2 g4;refine aZ.dec (λe1=>?_) λe1=>V λq=>e1 (de.mpr q.1);refine aZ.dec (λe2=>?_) λe2=>V λq=>e2 (de.mpr q.2.1);have e1:i+k<ahi:=de.mp e1;have e2:j+k<bhi:=de.mp e2;have ei:(i:Int)+k=((i+k:Nat):Int):=rfl;have ej:(j:Int)+k=((j+k:Nat):Int):=rfl;have key:aZ (iP W S (bS.getD (j+k) 0)) (den fs (.cmp .Eq (.sub (.var 5) (.bin .Add (.var 9) (.var 11))) (.sub (.var 6) (.bin .Add (.var 10) (.var 11)))) (gi I t7 aV bg cz cA cv ck cm alo ahi blo bhi aS bS S i j k) (one λv=>j5 v λc=>aZ c (bq fs (IW W) (gi I t7 aV bg cz cA cv ck cm alo ahi blo bhi aS bS S i j k) (IX (oR I t7 aV bg cz cA cv ck cm alo ahi blo bhi aS bS S (λZ j' k=>Z=i∧j'=j∧Pure.eF (λi=>aS.getD i 0) (λi=>bS.getD i 0) (iP W S) ahi bhi i j (ahi-(i+k)) k=T) λi k=>ahi-(i+k)) (ahi-(i+k)) K)) (K .nx (gi I t7 aV bg cz cA cv ck cm alo ahi blo bhi aS bS S i j k)))) (K .nx (gi I t7 aV bg cz cA cv ck cm alo ahi blo bhi aS bS S i j k)):=by
  refine aZ.by (λe3=>?_) λe3=>V λq=>El.ft (e3.symm.trans q.2.2.1)
  refine lF (i:=i+k) ei (by exact (dT e1 ha)) la ?_
  refine lF (i:=j+k) ej (by exact (dT e2 hb)) lb ?_
  refine cq (v9 _ _) ⟨rfl,rfl⟩ (aZ.dec (λe4=>?_) λe4=>V λq=>e4 q.2.2.2);have J:∃n',n'<ahi-(i+k)∧oR I t7 aV bg cz cA cv ck cm alo ahi blo bhi aS bS S (λZ j' k=>Z=i∧j'=j∧Pure.eF (λi=>aS.getD i 0) (λi=>bS.getD i 0) (iP W S) ahi bhi i j (ahi-(i+k)) k=T) (λi k=>ahi-(i+k)) n' (gi I t7 aV bg cz cA cv ck cm alo ahi blo bhi aS bS S i j (k+1)):=
   (El.aD (ahi-(i+(k+1))) (by exact (Lin.ak (.c _ (.c _ (.c _ (.c _ (.c _ .z))))) .z 1 (.c 1 (.aw (.a (.v 0) (.a (.v 2) (.a (.v 3) (.n 1)))) (.v 4)) (.c 1 (.aw (.v 4) (.a (.v 1) (.a (.v 2) (.v 3)))) .z)) (.v 0) (.v 1) rfl (aT (Lin.ah (.c _ (.c _ (.c _ .z))) .z 1 (.c 1 (.ak (.a (.v 0) (.v 1)) (.v 2)) .z) (.a (.v 0) (.a (.v 1) (.n 1))) (.v 2) rfl e1)) (aT (Lin.ah (.c _ (.c _ (.c _ .z))) .z 1 (.c 1 (.ak (.a (.v 0) (.v 1)) (.v 2)) .z) (.a (.v 0) (.v 1)) (.v 2) rfl e1)).symm)) (.mk rfl (El.aK rfl rfl ((Pure.Lo (El.cy e1 e2 e3 e4)).symm.trans Y)) g1 (by exact (Lin.ah (.c _ (.c _ (.c _ .z))) .z 1 (.c 1 (.ak (.a (.v 0) (.v 1)) (.v 2)) .z) (.a (.v 0) (.a (.v 1) (.n 1))) (.v 2) rfl e1)) g3 (by exact (Lin.ah (.c _ (.c _ (.c _ .z))) .z 1 (.c 1 (.ak (.a (.v 0) (.v 1)) (.v 2)) .z) (.a (.v 0) (.a (.v 1) (.n 1))) (.v 2) rfl e2))))
  clear Y V e3;cases W with
  |true=>exact J
  |false=>exact J
 clear Y V;cases W with
 |true=>
  refine kT.has (S:=S) rfl (lF (i:=j+k) ej (by exact (dT e2 hb)) lb (n8.mk (c:=bS.getD (j+k) 0) rfl rfl ?_))
  exact key
 |false=>
  refine kT.has (S:=S) rfl (lF (i:=j+k) ej (by exact (dT e2 hb)) lb (n8.mk (c:=bS.getD (j+k) 0) rfl rfl ?_))
  exact key
end
noncomputable abbrev I0:SS:=(.seq .nil (.seq (.kZ [(5,.fr),(6,.fr),(7,.own),(8,.own)] (.tup (.cons (.dW 0 1) (.cons (.dW 0 2) (.cons (.dW 0 7) (.cons (.has 0 8) .nil)))))) (.seq (.cO (.cmp .Is (.var 2) (.lit .none)) (.seq (.asg 2 .fr (.bi .len (.cons (.var 5) .nil))) .nil) .nil) (.seq (.cO (.cmp .Is (.var 4) (.lit .none)) (.seq (.asg 4 .fr (.bi .len (.cons (.var 6) .nil))) .nil) .nil) (.seq (.eQ [(9,.fr),(10,.fr),(11,.fr)] (.cons (.var 1) (.cons (.var 3) (.cons (.lit (.int (0))) .nil)))) (.seq (.asg 12 .own (.jt true)) (.seq (.asg 13 .fr (.lst .nil)) (.seq (.dY [(14,.fr)] false (.mB (.var 1) (.var 2)) IS) (.seq (BP true) (.seq (BQ true) (.seq (BP false) (.seq (BQ false) (.seq (.ret (.fn 0 (.cons (.var 9) (.cons (.var 10) (.cons (.var 11) .nil))))) .nil)))))))))))))
noncomputable def wc:iK:=(false,λds k=>∃i j n:Int,ds=[.int i,.int j,.int n]∧k (zI i j n))
noncomputable def km:dK:=λx as ds k=>∃(alo ahi blo bhi:Nat) (aS bS:List Int) (idx:Int→List Int) (bd:Int→Option ag) (S:Int→Bool),ds=[.int alo,.int ahi,.int blo,.int bhi]∧as[1]? = some (.tr (.dat (.list (intD aS))))∧as[2]? = some (.tr (.dat (.list (intD bS))))∧as[7]? = some (.tr (cj (ff bd)))∧as[8]? = some (.tr (cj (ja S)))∧
 (∀c,(bd c).getD (.list [])=.list (intD (idx c)))∧(∀c,(idx c).length<2 ^ 24)∧(alo≤ahi∧ahi≤aS.length∧aS.length<2 ^ 24)∧(blo≤bhi∧bhi≤bS.length∧bS.length<2 ^ 24)∧k (d7 (Pure.iC (λi=>aS.getD i 0) (λi=>bS.getD i 0) idx S alo ahi blo bhi)) as
theorem UW (x:ao×ao) (as:List aY) (ds:List ag) (k:ag→List aY→Prop) (h:km x as ds k):ds.length+1+0=5∧bq ⟨[wc],[]⟩ I0 (cc x as::init (ds++[]) 14) (lD x k):=by
 obtain ⟨alo,ahi,blo,bhi,aS,bS,idx,bd,S,cS,h1,h2,h7,h8,hB,hI,dq,iG,h⟩:=h;subst cS;obtain ⟨a1,a2,W⟩:=dq;obtain ⟨b1,Z,b3⟩:=iG;refine ⟨rfl,?_⟩;refine .mk rfl h1 ?_;refine .mk rfl h2 ?_;refine .mk rfl h7 ?_;refine uN.mk rfl h8 ?_;refine av (aL rfl) ?_;refine av (aL rfl) ?_;refine av (aL rfl) ?_;refine av (El.cy (by exact (Lin.aM (.c _ .z) .z 1 .z (.g (.n 4611686018427387904)) (.o (.v 0)) rfl)) (by exact (Lin.aM (.c _ (.c _ (.c _ .z))) .z 1 (.c 1 (.ah (.v 0) (.v 1)) (.c 1 (.ah (.v 1) (.v 2)) (.c 1 (.ak (.v 2) (.n 16777216)) .z))) (.o (.v 0)) (.n 4611686018427387904) rfl a1 a2 W)) (by exact (Lin.aM (.c _ .z) .z 1 .z (.g (.n 4611686018427387904)) (.o (.v 0)) rfl)) (by exact (Lin.aM (.c _ (.c _ .z)) .z 1 (.c 1 (.ah (.v 0) (.v 1)) (.c 1 (.ak (.v 1) (.n 16777216)) .z)) (.o (.v 0)) (.n 4611686018427387904) rfl a2 W))) ?_
 refine ae (UU ..) ?_;refine IT (G:=λzz=>0) (b:=((alo:Int),(blo:Int),0)) hB hI W (ahi-alo) alo _ _ _ _ _ _ (by exact (Lin.ah (.c _ (.c _ (.c _ (.c _ .z)))) .z 1 (.c 1 (.ah (.v 3) (.v 2)) (.c 1 (.aw (.a (.v 1) (.v 0)) (.v 3)) .z)) (.a (.v 0) (.v 1)) (.v 2) rfl a2 (aT (Lin.ah (.c _ (.c _ .z)) .z 1 (.c 1 (.ah (.v 0) (.v 1)) .z) (.v 0) (.v 1) rfl a1)))) (λzz=>rfl) λaV cz cA cv ck cm=>?_
 unfold Pure.iC at h;refine El.tI (Pure.DE (λi=>aS.getD i 0) idx b1 a1) λi j n e c1 J Y V=>?_;rw [e] at h ⊢;refine IY true W b3 a2 Z c1 J Y V λi1 j1 n1 e1 c1 J Y V=>?_;refine IZ true W b3 a2 Z c1 J Y V λn2 e2 J V=>?_;refine IY false W b3 a2 Z c1 J Y V λi3 j3 n3 e3 c1 J Y V=>?_;refine IZ false W b3 a2 Z c1 J Y V λn4 e4 J V=>?_;refine ⟨_,_,_,rfl,as,rfl,?_⟩;have f1:Pure.ez (λi=>aS.getD i 0) (λi=>bS.getD i 0) (λc=>!S c) alo blo (i:Int).toNat (j:Int).toNat (n:Int).toNat=(i1,j1,n1):=e1;have f2:Pure.eF (λi=>aS.getD i 0) (λi=>bS.getD i 0) (λc=>!S c) ahi bhi i1 j1 (ahi-(i1+n1)) n1=n2:=e2;have f3:Pure.ez (λi=>aS.getD i 0) (λi=>bS.getD i 0) S alo blo i1 j1 n2=(i3,j3,n3):=e3;have f4:Pure.eF (λi=>aS.getD i 0) (λi=>bS.getD i 0) S ahi bhi i3 j3 (ahi-(i3+n3)) n3=n4:=e4;dsimp only at h;rw [f1] at h;dsimp only at h;rw [f2] at h;rw [f3] at h;dsimp only at h;rw [f4] at h;exact h
section
variable {w:aR}{D:Nat}
noncomputable abbrev jH (w:aR) (D:Nat) (a:Nat) (f:dK):Prop:=mS (K w.params) q (jP q loose) pw w D (.ref a) f
theorem UX:jH w (D+1) 188 sA:=
 mU (fs:=⟨[],[]⟩) (H:=⟨λi=>if ([6,8]:List Nat).contains i then .deep else if ([2,5]:List Nat).contains i then .mA else .fr,[(242,999)]⟩) (dd:=12) (nn:=12) (ps:=["self"]) (ls':=["b","b2j","i","elt","indices","junk","isjunk","popular","n","ntest","idxs"]) (dfl:=[]) (dds:=[]) ⟨(Tu w.params),(Tv w.params),rfl,by decide +kernel,by decide +kernel,by decide +kernel,by kernel_rfl!,by kernel_rfl!,by kernel_rfl!,by decide +kernel⟩ (λzz=>rfl) 1 rfl (λs zz x=>.of_eq (Tx x)) (hH w.params) (hW w) (λzz h=>El.nm h) (λzz h=>El.nm h) (ir:=Iy) (by kernel_rfl!) Uy
noncomputable abbrev UY:Mn:=⟨ai.ofString "_SequenceMatcher__chain_b",.ref 188,sA⟩
noncomputable abbrev UZ:Mn:=⟨ai.ofString "set_seq1",.ref 174,sC⟩
noncomputable abbrev U0:Mn:=⟨ai.ofString "set_seq2",.ref 181,sD⟩
theorem U1:jH w (D+1) 174 sC:=
 mU (fs:=⟨[],[]⟩) (H:=H0) (dd:=12) (nn:=12) (ps:=["self","a"]) (ls':=[]) (dfl:=[]) (dds:=[]) ⟨(Tz w.params),(TA w.params),rfl,by decide +kernel,by decide +kernel,by decide +kernel,by kernel_rfl!,by kernel_rfl!,by kernel_rfl!,by decide +kernel⟩ (λzz=>rfl) 2 rfl (λs zz x y=>.of_eq (TB x y)) (hH w.params) (hW w) (λzz h=>El.nm h) (λzz h=>El.nm h) (ir:=IA) (by kernel_rfl!) Uz
theorem U2:jH w (D+1+1) 181 sD:=
 mU (fs:=⟨[],[UY]⟩) (H:=H0) (dd:=12) (nn:=12) (ps:=["self","b"]) (ls':=[]) (dfl:=[]) (dds:=[]) ⟨(TC w.params),(TF w.params),rfl,by decide +kernel,by decide +kernel,by decide +kernel,by kernel_rfl!,by kernel_rfl!,by kernel_rfl!,by decide +kernel⟩ (λzz=>rfl) 2 rfl (λs zz x y=>.of_eq (TG x y)) (hH w.params) (hW w) (λzz h=>El.nm h) (cR.mpr (El.aK (El.aD 188 rfl (by kernel_rfl!)) UX (oN (by decide +kernel)))) (ir:=IB) (by kernel_rfl!) UA
theorem U3:jH w (D+1+1+1) 167 sE:=
 mU (fs:=⟨[],[UZ,U0]⟩) (H:=H0) (dd:=12) (nn:=12) (ps:=["self","a","b"]) (ls':=[]) (dfl:=[]) (dds:=[]) ⟨(TH w.params),(TJ w.params),rfl,by decide +kernel,by decide +kernel,by decide +kernel,by kernel_rfl!,by kernel_rfl!,by kernel_rfl!,by decide +kernel⟩ (λzz=>rfl) 3 rfl (λs zz x y z=>.of_eq (TK x y z)) (hH w.params) (hW w) (λzz h=>El.nm h) (bH.mpr ⟨(El.aK (El.aD 174 rfl (by kernel_rfl!)) U1 (oN (by decide +kernel))),cR.mpr (El.aK (El.aD 181 rfl (by kernel_rfl!)) U2 (oN (by decide +kernel)))⟩) (ir:=IC) (by kernel_rfl!) UB
theorem U4 {fm:dK}(J:jH w D 196 fm):jH w (D+1) 203 (kj fm):=
 mU (fs:=⟨[],[⟨ai.ofString "find_longest_match",.ref 196,fm⟩]⟩) (H:=⟨λi=>if ([3,4,16]:List Nat).contains i then .own else .fr,[]⟩) (dd:=14) (nn:=14) (ps:=["self"]) (ls':=["la","lb","queue","matching_blocks","alo","ahi","blo","bhi","i","j","k","x","i1","j1","k1","non_adjacent","i2","j2","k2"]) (dfl:=[]) (dds:=[]) ⟨(Tq w.params),(Ts w.params),rfl,by decide +kernel,by decide +kernel,by decide +kernel,by kernel_rfl!,by kernel_rfl!,by kernel_rfl!,by decide +kernel⟩ (λzz=>rfl) 1 rfl (λs zz x=>.of_eq (Tt x)) (hH w.params) (hW w) (λzz h=>El.nm h) (cR.mpr (El.aK (El.aD 196 rfl (by kernel_rfl!)) J (oN (show ai.ofString "find_longest_match"≠ai.ofString "__init__" from by decide +kernel)))) (ir:=IJ) (by kernel_rfl!) UT
theorem I1:jH w (D+1+1+1+1) 160 qm:=
 mU (fs:=⟨[],[⟨ai.ofString "set_seqs",.ref 167,sE⟩]⟩) (H:=H0) (dd:=12) (nn:=12) (ps:=["self","isjunk","a","b","autojunk"]) (ls':=[]) (dfl:=[.bool true]) (dds:=[.bool true]) ⟨(TL w.params),(TM w.params),rfl,by decide +kernel,by decide +kernel,by decide +kernel,by kernel_rfl!,by kernel_rfl!,by kernel_rfl!,by decide +kernel⟩ (λzz=>.one (.bool _)) 4 rfl (λs X x a b c=>TO X x a b c) (hH w.params) (hW w) (λzz h=>El.nm h) (cR.mpr (El.aK (El.aD 167 rfl (by kernel_rfl!)) U3 (oN (by decide +kernel)))) (ir:=ID) (by kernel_rfl!) UC
theorem U5 (J:mQ (K w.params) q (jP q loose) pw w D (λvs=>call (.ref 135) vs) wc):jH w (D+1) 196 km:=
 mU (fs:=⟨[⟨ai.ofString "Match",.ref 135,wc⟩],[]⟩) (H:=⟨λi=>if ([12]:List Nat).contains i then .mA else if ([7,8,15,16]:List Nat).contains i then .own else .fr,[]⟩) (dd:=14) (nn:=14) (ps:=["self","alo","ahi","blo","bhi"]) (ls':=["a","b","b2j","isbjunk","besti","bestj","bestsize","j2len","nothing","i","j2lenget","newj2len","j","k"]) (dfl:=[]) (dds:=[]) ⟨(M4 w.params),(M5 w.params),rfl,by decide +kernel,by decide +kernel,by decide +kernel,by kernel_rfl!,by kernel_rfl!,by kernel_rfl!,by decide +kernel⟩ (λzz=>rfl) 5 rfl (λs X x a b c d=>M7 X x a b c d) (hH w.params) (hW w) (cR.mpr ⟨.inl ⟨by kernel_rfl!,by kernel_rfl!⟩,J⟩) (λzz h=>El.nm h) (ir:=I0) (by kernel_rfl!) UW
theorem U6 (P:aG):(K P).lookup 210=some ⟨.type "function",none,.func (fnAt 5 8 "SequenceMatcher.get_opcodes" .none (dO (mem 5 8) 532) (.ref 209)),#[]⟩:=by kernel_rfl!
theorem U7 (P:aG):fW (K P) (.ref 209) "SequenceMatcher.get_opcodes"=true:=by kernel_rfl!
theorem U8 (x:af):gP (fnAt 5 8 "SequenceMatcher.get_opcodes" .none (dO (mem 5 8) 532) (.ref 209)) ⟨[x],[]⟩=pure [(ai.ofString "self",x)]:=by kernel_rfl!
theorem U9 {gm:dK}(mono:∀x as ds (k k':ag→List aY→Prop),(∀d as,k d as→k' d as)→gm x as ds k→gm x as ds k') (hg:jH w D 203 gm):jH w (D+1) 210 (mX gm):=
 mU (fs:=⟨[],[⟨ai.ofString "get_matching_blocks",.ref 203,gm⟩]⟩) (H:=⟨λi=>if ([3]:List Nat).contains i then .own else .fr,[]⟩) (dd:=14) (nn:=14) (ps:=["self"]) (ls':=["i","j","answer","ai","bj","size","tag"]) (dfl:=[]) (dds:=[]) ⟨(U6 w.params),(U7 w.params),rfl,by decide +kernel,by decide +kernel,by decide +kernel,by kernel_rfl!,by kernel_rfl!,by kernel_rfl!,by decide +kernel⟩ (λzz=>rfl) 1 rfl (λs zz x=>.of_eq (U8 x)) (hH w.params) (hW w) (λzz h=>El.nm h) (cR.mpr (El.aK (El.aD 203 rfl (by kernel_rfl!)) hg (oN (show ai.ofString "get_matching_blocks"≠ai.ofString "__init__" from by decide +kernel)))) (ir:=IF) (by kernel_rfl!) (UI mono)
end
theorem Va {w:aR}{D:Nat}:mQ (K w.params) q (jP q loose) pw w (D+1) (λvs=>call (.ref 135) vs) wc:=by
 intro C e1 e2 W P m vs ds k s Q F hP hd hs hQ;refine El.l6 hs λi j n J hk=>?_;clear hs;subst J;obtain ⟨X,T,hh,jX,hu⟩:=W;refine El.nH T ?_;clear T;intro means mg mb T;refine El.aP hd.iJ λv1 wr J d1 dr=>?_;clear hd;subst J;refine El.aP dr.iJ λv2 T6 J d2 Y=>?_;subst J;refine El.aP Y.iJ λv3 T7 J d3 Z=>?_;subst J;obtain rfl:=Z.nX;refine El.ea d1.i8 λt1 J=>?_;subst J;refine El.ea d2.i8 λt2 J=>?_;subst J;refine El.ea d3.i8 λt3 J=>?_;subst J;refine iY (NQ (X.keeps F.keep) (λA' Q' E' Vb=>cls_sm F X (NZ _) (N4 _) (N5 _) (N6 _) rfl (Vb _)) λtk=>?_);refine Ir (A:=C.A.under _) e1 e2 hh (NW (base:=C.h₀) T F.keep (by show C.A.depth+eT.weight _<_;refine ae (NY ..) ?_;omega) (λx dx h' lq V hx hn=>?_) X rfl)
 dsimp only at V hx hn ⊢;exact ⟨(El.fM dx _ V hn),hQ (.ref x) _ [(x,uv dx #[.int i _,.int j _,.int n _])] h' lq ⟨F.ns.keeps V,λb o e=>V _ _ (F.keep b o e),F.above⟩ (λb o zz e=>V b o e) (cR.mpr ⟨hn,hx⟩) (cu.mpr ⟨(λh=>El.nm h),iw⟩) (.mt (.inr (.head _))) hk⟩
theorem Vc (x:ao×ao) (as:List aY) (ds:List ag) (k k':ag→List aY→Prop) (hk:∀d as,k d as→k' d as) (h:kj km x as ds k):kj km x as ds k':=by
 obtain ⟨e,f,aS,bS,J,V,W,l,hm,Y,hl,hs,h⟩:=h;exact ⟨e,f,aS,bS,J,V,W,l,hm,Y,hl,hs,hk _ _ h⟩
theorem Vd {w:aR}{D:Nat}:jH w (D+1+1+1+1) 210 (mX (kj km)):=U9 Vc (U4 (U5 Va))
section
variable {α:Type}{a b c:α}{r:List α}{k:Nat→α→Prop}{d e:ag}{rd:List ag}{m:Nat→Prop}
theorem cG (h:k 0 a):iL (a::r) 0 k:=.mk (by unfold kN;simp) rfl ⟨by decide,by decide⟩ h
theorem c8 (h:k 1 b):iL (a::b::r) 1 k:=.mk (by unfold kN;simp;omega) rfl ⟨by decide,by decide⟩ h
theorem kn (h:k 2 c):iL (a::b::c::r) 2 k:=.mk (by unfold kN;simp;omega) rfl ⟨by decide,by decide⟩ h
theorem ko (h:m 0):ou (.dl (d::rd)) 0 m:=.mk rfl (El.aK (by decide) (by decide) (by simp)) h
theorem kr (h:m 1):ou (.dl (d::e::rd)) 1 m:=.mk rfl (El.aK (by decide) (by decide) (by simp;omega)) h
theorem lG {α:Type}{v:α}{K:α→Prop}(h:K v):fA v K:=.mk rfl h
end
theorem lH (a b:Int):ag.eqv (.int a) (.int b)=decide (a=b):=by unfold ag.eqv;rfl
noncomputable def bY (l:List String):List ag:=l.map λg=>.str (ai.ofString g)
noncomputable def fF (c:Pure.Clean):ag:=.tuple [.int c.1,.list [.list (bY c.2.1),.list (bY c.2.2)]]
noncomputable def gj (c:Pure.jr):ag:=.list [.list (bY c.1),.list (bY c.2)]
noncomputable def dF:Pure.Ent→ag:=@λA=>match A with
 |.it n=>.int n
 |.cf o l r=>.list [.list (intD o),.list (intD l),.list (intD r)]
noncomputable def kx (k:Bool) (x:ag):List ag:=match k with
 |true=>[x]
 |false=>[]
noncomputable abbrev wg:SS:=(.seq (.rO (.var 9) (.var 12) .Add (.bin .Sub (.bi .len (.cons (.sub (.var 10) (.bin .Add (.lit (.int (1))) (.var 12))) .nil)) (.ite (.tv (.sub (.var 11) (.var 12))) (.lit (.int (1))) (.lit (.int (0)))))) (.seq (.cO (.nt (.tv (.sub (.var 11) (.var 12)))) (.seq (.rO (.var 8) (.var 12) .Add (.lit (.int (1)))) .nil) (.seq (.cO (.cmp .Gt (.bin .Add (.sub (.var 8) (.var 12)) (.sub (.var 9) (.var 12))) (.lit (.int (0)))) (.seq (.app (.sub (.var 7) (.var 12)) (.ite (.cmp .Eq (.sub (.var 8) (.var 12)) (.lit (.int (0)))) (.lit (.str (ai.ofString "insert"))) (.ite (.cmp .Eq (.sub (.var 9) (.var 12)) (.lit (.int (0)))) (.lit (.str (ai.ofString "delete"))) (.lit (.str (ai.ofString "replace")))))) (.seq (.uX (.var 8) (.var 12) (.var 9) (.var 12) (.tup (.cons (.lit (.int (0))) (.cons (.lit (.int (0))) .nil)))) .nil)) .nil) .nil)) .nil))
theorem gL {fs:da}{i:Nat}{b:SS}{k:KS}{d:ag}{ds:List ag}{σ:List Tr}(h:bq fs b (σ.set i (.dat d)) (λf J=>match f with | .nx=>dc (ed fs [(i,.fr)] false b) k ds J | .cnt=>dc (ed fs [(i,.fr)] false b) k ds J | .brk=>k .nx J | .ret e=>k (.ret e) J)):dc (ed fs [(i,.fr)] false b) k (d::ds) σ:=h
section
variable {t0 t1 t2 t3 t4 t5 t6 bg:Tr}{W0:List String}{w1:List ag}{g0 g1 c0 c1:Nat}{x y:ag}{a:List Int}{k0 k1:Bool}{K:KS}{fs:da}
theorem side_0 (Z:a.length<1000) (hw:W0.length<1000)
  (h:K .nx [t0,t1,t2,t3,t4,t5,t6,.ol [.dl (bY (Pure.cN k0 a.length (W0,g0,c0)).1),.dl w1],.dl [.int ((Pure.cN k0 a.length (W0,g0,c0)).2.1:Nat),.int g1],.dl [.int ((Pure.cN k0 a.length (W0,g0,c0)).2.2:Nat),.int c1],.dat (.tuple [x,.list (intD a++kx k0 x),y]),.dat (.list [.bool k0,.bool k1]),.dat (.int 0),bg]) :
  bq fs wg [t0,t1,t2,t3,t4,t5,t6,.ol [.dl (bY W0),.dl w1],.dl [.int g0,.int g1],.dl [.int c0,.int c1],.dat (.tuple [x,.list (intD a++kx k0 x),y]),.dat (.list [.bool k0,.bool k1]),.dat (.int 0),bg] K:=by
 refine cG ?_;refine c8 ?_;cases k0 with
 |false=>
  refine av (by simp [kx,intD,small,cE];omega) (.mk (w:=a.length) (by simp [kx,intD]) ?_)
  refine cG ?_;refine ko ?_;refine cG ?_;refine cG ?_;refine ko ?_;exact h
 |true=>
  refine av (by simp [kx,intD,small,cE];omega) (.mk (w:=a.length+1) (by simp [kx,intD]) ?_)
  refine cG ?_;refine ko ?_;refine ae (show (((a.length+1:Nat):Int)-1)=(a.length:Nat) by exact (eK (Lin.aA (.c _ .z) .z 1 .z (.s (.o (.a (.v 0) (.n 1))) (.n 1)) (.o (.v 0)) rfl) (Lin.aA (.c _ .z) .z 1 .z (.o (.v 0)) (.s (.o (.a (.v 0) (.n 1))) (.n 1)) rfl))) ?_
  refine cG ?_;refine cG ?_;refine cG ?_;refine aZ.dec (λe=>?_) λe=>?_
  ·have e1:g0+(c0+a.length) > 0:=by exact (Lin.ak (.c _ (.c _ (.c _ .z))) .z 1 (.c 1 (.aM (.n 0) (.a (.o (.v 0)) (.a (.o (.v 1)) (.o (.v 2))))) .z) (.n 0) (.a (.v 0) (.a (.v 1) (.v 2))) rfl e)
   have es:Pure.cN true a.length (W0,g0,c0)=(W0++[Pure.wd g0 (c0+a.length)],0,0):=by unfold Pure.cN;exact ae (if_neg (by simp) ..) (ae (if_pos e1 ..) rfl)
   rw [es] at h;refine cG ?_;refine cG ?_;refine cq (lH _ _) ⟨rfl,rfl⟩ ?_;have fin:∀{g:String},Pure.wd g0 (c0+a.length)=g→K .nx [t0,t1,t2,t3,t4,t5,t6,.ol [.dl (bY W0++[.str (ai.ofString g)]),.dl w1],.dl [.int 0,.int g1],.dl [.int 0,.int c1],.dat (.tuple [x,.list (intD a++kx true x),y]),.dat (.list [.bool true,.bool k1]),.dat (.int 0),bg]:=λ{g} e=>by
    rw [e] at h;unfold bY at h;rw [bG] at h;exact h
   have Y:(bY W0).length<2 ^ 24:=by unfold bY;refine ae (bK ..) ?_;omega
   refine aZ.dec (λe2=>?_) λe2=>?_
   ·refine av Y ?_;refine av (aL rfl) ?_;refine ko ?_;refine ko ?_;exact fin (if_pos (by exact (bJ (Lin.ah (.c _ .z) .z 1 (.c 1 (.bW (.o (.v 0)) (.n 0)) .z) (.v 0) (.n 0) rfl e2) (Lin.ah (.c _ .z) .z 1 .z (.n 0) (.v 0) rfl))))
   ·refine cG ?_;refine cq (lH _ _) ⟨rfl,rfl⟩ ?_;refine aZ.dec (λe3=>?_) λe3=>?_
    ·refine av Y ?_;refine av (aL rfl) ?_;refine ko ?_;refine ko ?_;exact fin ((if_neg (by exact (λV=>(Lin.no (.c _ (.c _ (.c _ .z))) .z (.c 1 (.aM (.n 0) (.a (.o (.v 0)) (.a (.o (.v 1)) (.o (.v 2))))) (.c 1 (.bW (.a (.o (.v 1)) (.o (.v 2))) (.n 0)) (.c 1 (.aw (.v 0) (.n 0)) .z))) rfl e e3 V)))).trans (if_pos (by exact (bJ (Lin.ah (.c _ (.c _ .z)) .z 1 (.c 1 (.bW (.a (.o (.v 0)) (.o (.v 1))) (.n 0)) .z) (.a (.v 0) (.v 1)) (.n 0) rfl e3) (Lin.ah (.c _ (.c _ .z)) .z 1 .z (.n 0) (.a (.v 0) (.v 1)) rfl)))))
    ·refine av Y ?_;refine av (aL rfl) ?_;refine ko ?_;refine ko ?_;exact fin ((if_neg (by exact (λV=>(Or.elim (kC e2) (λJ=>(Lin.no (.c _ .z) .z (.c 1 (.aM (.o (.v 0)) (.n 0)) .z) rfl J)) λJ=>(Lin.no (.c _ .z) .z (.c 1 (.aw (.v 0) (.n 0)) (.c 1 (.aM (.n 0) (.o (.v 0))) .z)) rfl V J))))).trans (if_neg (by exact (λV=>(Or.elim (kC e2) (λJ=>(Lin.no (.c _ .z) .z (.c 1 (.aM (.o (.v 0)) (.n 0)) .z) rfl J)) λJ=>(Or.elim (kC e3) (λW=>(Lin.no (.c _ (.c _ .z)) .z (.c 1 (.aM (.a (.o (.v 0)) (.o (.v 1))) (.n 0)) .z) rfl W)) λW=>(Lin.no (.c _ (.c _ .z)) .z (.c 1 (.aw (.a (.v 0) (.v 1)) (.n 0)) (.c 1 (.aM (.n 0) (.a (.o (.v 0)) (.o (.v 1)))) .z)) rfl V W)))))))
  ·have e1:¬g0+(c0+a.length) > 0:=by exact (λV=>(Lin.no (.c _ (.c _ (.c _ .z))) .z (.c 1 (.aA (.a (.o (.v 0)) (.a (.o (.v 1)) (.o (.v 2)))) (.n 0)) (.c 1 (.ak (.n 0) (.a (.v 0) (.a (.v 1) (.v 2)))) .z)) rfl (gn.mp e) V))
   have es:Pure.cN true a.length (W0,g0,c0)=(W0,g0,c0+a.length):=by unfold Pure.cN;exact ae (if_neg (by simp) ..) (ae (if_neg e1 ..) rfl)
   rw [es] at h;exact h
theorem side_1 (Z:a.length<1000) (hw:W0.length<1000)
  (h:K .nx [t0,t1,t2,t3,t4,t5,t6,.ol [.dl w1,.dl (bY (Pure.cN k0 a.length (W0,g0,c0)).1)],.dl [.int g1,.int ((Pure.cN k0 a.length (W0,g0,c0)).2.1:Nat)],.dl [.int c1,.int ((Pure.cN k0 a.length (W0,g0,c0)).2.2:Nat)],.dat (.tuple [x,y,.list (intD a++kx k0 x)]),.dat (.list [.bool k1,.bool k0]),.dat (.int 1),bg]) :
  bq fs wg [t0,t1,t2,t3,t4,t5,t6,.ol [.dl w1,.dl (bY W0)],.dl [.int g1,.int g0],.dl [.int c1,.int c0],.dat (.tuple [x,y,.list (intD a++kx k0 x)]),.dat (.list [.bool k1,.bool k0]),.dat (.int 1),bg] K:=by
 refine c8 ?_;refine kn ?_;cases k0 with
 |false=>
  refine av (by simp [kx,intD,small,cE];omega) (.mk (w:=a.length) (by simp [kx,intD]) ?_)
  refine c8 ?_;refine kr ?_;refine c8 ?_;refine c8 ?_;refine kr ?_;exact h
 |true=>
  refine av (by simp [kx,intD,small,cE];omega) (.mk (w:=a.length+1) (by simp [kx,intD]) ?_)
  refine c8 ?_;refine kr ?_;refine ae (show (((a.length+1:Nat):Int)-1)=(a.length:Nat) by exact (eK (Lin.aA (.c _ .z) .z 1 .z (.s (.o (.a (.v 0) (.n 1))) (.n 1)) (.o (.v 0)) rfl) (Lin.aA (.c _ .z) .z 1 .z (.o (.v 0)) (.s (.o (.a (.v 0) (.n 1))) (.n 1)) rfl))) ?_
  refine c8 ?_;refine c8 ?_;refine c8 ?_;refine aZ.dec (λe=>?_) λe=>?_
  ·have e1:g0+(c0+a.length) > 0:=by exact (Lin.ak (.c _ (.c _ (.c _ .z))) .z 1 (.c 1 (.aM (.n 0) (.a (.o (.v 0)) (.a (.o (.v 1)) (.o (.v 2))))) .z) (.n 0) (.a (.v 0) (.a (.v 1) (.v 2))) rfl e)
   have es:Pure.cN true a.length (W0,g0,c0)=(W0++[Pure.wd g0 (c0+a.length)],0,0):=by unfold Pure.cN;exact ae (if_neg (by simp) ..) (ae (if_pos e1 ..) rfl)
   rw [es] at h;refine c8 ?_;refine c8 ?_;refine cq (lH _ _) ⟨rfl,rfl⟩ ?_;have fin:∀{g:String},Pure.wd g0 (c0+a.length)=g→K .nx [t0,t1,t2,t3,t4,t5,t6,.ol [.dl w1,.dl (bY W0++[.str (ai.ofString g)])],.dl [.int g1,.int 0],.dl [.int c1,.int 0],.dat (.tuple [x,y,.list (intD a++kx true x)]),.dat (.list [.bool k1,.bool true]),.dat (.int 1),bg]:=λ{g} e=>by
    rw [e] at h;unfold bY at h;rw [bG] at h;exact h
   have Y:(bY W0).length<2 ^ 24:=by unfold bY;refine ae (bK ..) ?_;omega
   refine aZ.dec (λe2=>?_) λe2=>?_
   ·refine av Y ?_;refine av (aL rfl) ?_;refine kr ?_;refine kr ?_;exact fin (if_pos (by exact (bJ (Lin.ah (.c _ .z) .z 1 (.c 1 (.bW (.o (.v 0)) (.n 0)) .z) (.v 0) (.n 0) rfl e2) (Lin.ah (.c _ .z) .z 1 .z (.n 0) (.v 0) rfl))))
   ·refine c8 ?_;refine cq (lH _ _) ⟨rfl,rfl⟩ ?_;refine aZ.dec (λe3=>?_) λe3=>?_
    ·refine av Y ?_;refine av (aL rfl) ?_;refine kr ?_;refine kr ?_;exact fin ((if_neg (by exact (λV=>(Lin.no (.c _ (.c _ (.c _ .z))) .z (.c 1 (.aM (.n 0) (.a (.o (.v 0)) (.a (.o (.v 1)) (.o (.v 2))))) (.c 1 (.bW (.a (.o (.v 1)) (.o (.v 2))) (.n 0)) (.c 1 (.aw (.v 0) (.n 0)) .z))) rfl e e3 V)))).trans (if_pos (by exact (bJ (Lin.ah (.c _ (.c _ .z)) .z 1 (.c 1 (.bW (.a (.o (.v 0)) (.o (.v 1))) (.n 0)) .z) (.a (.v 0) (.v 1)) (.n 0) rfl e3) (Lin.ah (.c _ (.c _ .z)) .z 1 .z (.n 0) (.a (.v 0) (.v 1)) rfl)))))
    ·refine av Y ?_;refine av (aL rfl) ?_;refine kr ?_;refine kr ?_;exact fin ((if_neg (by exact (λV=>(Or.elim (kC e2) (λJ=>(Lin.no (.c _ .z) .z (.c 1 (.aM (.o (.v 0)) (.n 0)) .z) rfl J)) λJ=>(Lin.no (.c _ .z) .z (.c 1 (.aw (.v 0) (.n 0)) (.c 1 (.aM (.n 0) (.o (.v 0))) .z)) rfl V J))))).trans (if_neg (by exact (λV=>(Or.elim (kC e2) (λJ=>(Lin.no (.c _ .z) .z (.c 1 (.aM (.o (.v 0)) (.n 0)) .z) rfl J)) λJ=>(Or.elim (kC e3) (λW=>(Lin.no (.c _ (.c _ .z)) .z (.c 1 (.aM (.a (.o (.v 0)) (.o (.v 1))) (.n 0)) .z) rfl W)) λW=>(Lin.no (.c _ (.c _ .z)) .z (.c 1 (.aw (.a (.v 0) (.v 1)) (.n 0)) (.c 1 (.aM (.n 0) (.a (.o (.v 0)) (.o (.v 1)))) .z)) rfl V W)))))))
  ·have e1:¬g0+(c0+a.length) > 0:=by exact (λV=>(Lin.no (.c _ (.c _ (.c _ .z))) .z (.c 1 (.aA (.a (.o (.v 0)) (.a (.o (.v 1)) (.o (.v 2)))) (.n 0)) (.c 1 (.ak (.n 0) (.a (.v 0) (.a (.v 1) (.v 2)))) .z)) rfl (gn.mp e) V))
   have es:Pure.cN true a.length (W0,g0,c0)=(W0,g0,c0+a.length):=by unfold Pure.cN;exact ae (if_neg (by simp) ..) (ae (if_neg e1 ..) rfl)
   rw [es] at h;exact h
end
theorem Ve (l:List ag) (x:ag):fS (l++[x]) (some (-1)) none=[x]:=by
 refine ae (qi ..) ?_;refine (?_:o7 ((l++[x]).length-d5 (l++[x]).length (-1)) (qL (d5 (l++[x]).length (-1)) (l++[x]))=_);have e:d5 (l++[x]).length (-1)=l.length:=by
  unfold d5;refine ae (aJ ..) (ae (oZ ..) ?_);lia
 refine ae (e ..) (ae (Xq ..) (ae (aJ ..) (ae (oZ ..) (ae (qv ..) ?_))));rfl
theorem wi (l:List ag) (x:ag):fS (l++[x]) none (some (-1))=l:=by
 refine ae (qi ..) ?_;refine (?_:o7 (d5 (l++[x]).length (-1)-0) (qL 0 (l++[x]))=_);have e:d5 (l++[x]).length (-1)=l.length:=by
  unfold d5;refine ae (aJ ..) (ae (oZ ..) ?_);lia
 exact ae (e ..) (ae (Ke ..) (ae (Xp ..) (ae (Xr ..) rfl)))
structure mZ (x:ag) (a:List Int) (k:Bool):Prop where
 l:a.length<900
 e:ag.eqv (.list (fS (intD a++kx k x) (some (-1)) none)) (.list [x])=k
 s:dX (.list (fS (intD a++kx k x) (some (-1)) none))∧dX (.list [x])
theorem wj {x:ag}{a:List Int}{k:Bool}(h:a.length<900):small (intD a++kx k x).length:=by
 unfold small cE;cases k <;> simp [kx,intD] <;> omega
section
variable {t0 t1 t2 t3 t4 t5 t6 bE aV bg:Tr}{W0 W1:List String}{g0 g1 c0 c1:Nat}{x:ag}{a0 a1:List Int}{k0 k1:Bool}{K:KS}{fs:da}
noncomputable abbrev gk (x:ag) (a0 a1:List Int) (k0 k1:Bool):ag:=.tuple [x,.list (intD a0++kx k0 x),.list (intD a1++kx k1 x)]
theorem Vf {l:List ag}(hl:l=[.int 0,.int 1]) (h0:a0.length<900) (J:a1.length<900) (w0:W0.length<1000) (w1:W1.length<1000)
  (h:K .nx [t0,t1,t2,t3,t4,t5,t6,.ol [.dl (bY (Pure.cN k0 a0.length (W0,g0,c0)).1),.dl (bY (Pure.cN k1 a1.length (W1,g1,c1)).1)],.dl [.int ((Pure.cN k0 a0.length (W0,g0,c0)).2.1:Nat),.int ((Pure.cN k1 a1.length (W1,g1,c1)).2.1:Nat)],.dl [.int ((Pure.cN k0 a0.length (W0,g0,c0)).2.2:Nat),.int ((Pure.cN k1 a1.length (W1,g1,c1)).2.2:Nat)],.dat (gk x a0 a1 k0 k1),.dat (.list [.bool k0,.bool k1]),.dat (.int 1),bg]) :
  dc (ed fs [(12,.fr)] false wg) K l [t0,t1,t2,t3,t4,t5,t6,.ol [.dl (bY W0),.dl (bY W1)],.dl [.int g0,.int g1],.dl [.int c0,.int c1],.dat (gk x a0 a1 k0 k1),.dat (.list [.bool k0,.bool k1]),aV,bg]:=by
 subst hl;exact gL (side_0 (by exact (Lin.ak (.c _ .z) .z 1 (.c 1 (.ak (.v 0) (.n 900)) .z) (.v 0) (.n 1000) rfl h0)) w0 (gL (side_1 (by exact (Lin.ak (.c _ .z) .z 1 (.c 1 (.ak (.v 0) (.n 900)) .z) (.v 0) (.n 1000) rfl J)) w1 h)))
noncomputable abbrev I2:SS:=.asg 11 .fr (.lst (.cons (.cmp .Eq (.slc (.sub (.var 10) (.lit (.int (1)))) (.neg (.lit (.int (1)))) .nil) (.lst (.cons (.sub (.var 10) (.lit (.int (0)))) .nil))) (.cons (.cmp .Eq (.slc (.sub (.var 10) (.lit (.int (2)))) (.neg (.lit (.int (1)))) .nil) (.lst (.cons (.sub (.var 10) (.lit (.int (0)))) .nil))) .nil)))
noncomputable abbrev I3:SS:=.dY [(12,.fr)] false (.seq (.tup (.cons (.lit (.int (0))) (.cons (.lit (.int (1))) .nil)))) wg
theorem I4 {R:SS}(h0:mZ x a0 k0) (J:mZ x a1 k1) (w0:W0.length<1000) (w1:W1.length<1000)
  (h:bq fs R [t0,t1,t2,t3,t4,t5,t6,.ol [.dl (bY (Pure.cN k0 a0.length (W0,g0,c0)).1),.dl (bY (Pure.cN k1 a1.length (W1,g1,c1)).1)],.dl [.int ((Pure.cN k0 a0.length (W0,g0,c0)).2.1:Nat),.int ((Pure.cN k1 a1.length (W1,g1,c1)).2.1:Nat)],.dl [.int ((Pure.cN k0 a0.length (W0,g0,c0)).2.2:Nat),.int ((Pure.cN k1 a1.length (W1,g1,c1)).2.2:Nat)],.dat (gk x a0 a1 k0 k1),.dat (.list [.bool k0,.bool k1]),.dat (.int 1),bg] K) :
  bq fs (.seq I2 (.seq I3 R)) [t0,t1,t2,t3,t4,t5,t6,.ol [.dl (bY W0),.dl (bY W1)],.dl [.int g0,.int g1],.dl [.int c0,.int c1],.dat (gk x a0 a1 k0 k1),bE,aV,bg] K:=by
 refine c8 ?_;refine av (wj h0.l) (lG ?_);refine cG ?_;refine av (aL rfl) ?_;refine cq h0.e h0.s ?_;refine kn ?_;refine av (wj J.l) (lG ?_);refine cG ?_;refine av (aL rfl) ?_;refine cq J.e J.s ?_;refine av (aL rfl) ?_;refine av (aL rfl) ?_;exact Vf rfl h0.l J.l w0 w1 h
end
theorem aq {k:List ag→Prop}(a b:List Int) (J:a.length<1000) (V:b.length<1000) (h:k (intD (a++b))):small ((intD a).length+(intD b).length)∧fA (intD a++intD b) k:=by
 refine ⟨?_,.mk ?_ h⟩
 ·unfold small cE intD;refine ae (bK ..) (ae (bK ..) ?_);exact (Lin.ah (.c _ (.c _ .z)) .z 1 (.c 1 (.ak (.v 0) (.n 1000)) (.c 1 (.ak (.v 1) (.n 1000)) .z)) (.a (.v 0) (.v 1)) (.n 16777216) rfl J V)
 ·unfold intD;exact ae (bG ..) rfl
theorem I5 (a b:Bool):ag.eqv (.list [.bool a,.bool b]) (.list [.bool true,.bool true])=(a && b):=by cases a <;> cases b <;> rfl
theorem Vg:∀(a b:List String),ag.eqv (.list [.list (bY a),.list (bY b)]) (.list [.list [],.list []])=decide (a=[]∧b=[]):=@λA B=>match A,B with
 |[],[]=>rfl
 |[],zz::J=>rfl
 |zz::J,V=>rfl
noncomputable abbrev Vh:SE:=.lc (.var 13) (.var 0) (.tv (.nY (.var 0)))
theorem BR {fs:da}{k:List ag→Prop}(h:k []):∀sw:List Int,j6 (λd k=>den fs (.var 0) [.dat d] (one k)) (λd k=>den fs (.tv (.nY (.var 0))) [.dat d] (one k)) (intD sw) k:=@λA=>match A with
 |[]=>h
 |zz::sw=>BR h sw
noncomputable abbrev Vi:SS:=(.seq (.asg 13 .fr (.fn 0 (.cons (.var 4) (.cons (.bin .Add (.sub (.var 5) (.lit (.int (0)))) (.slc (.sub (.var 10) (.lit (.int (1)))) .nil (.neg (.lit (.int (1)))))) (.cons (.bin .Add (.sub (.var 5) (.lit (.int (1)))) (.slc (.sub (.var 10) (.lit (.int (2)))) .nil (.neg (.lit (.int (1)))))) .nil))))) (.seq (.cO (.cmp .NotEq Vh (.lst .nil)) (.seq (.app (.var 2) (.var 7)) .nil) (.seq (.cO (.cmp .NotEq (.var 7) (.lst (.cons (.lst .nil) (.cons (.lst .nil) .nil)))) (.seq (.seq (.fz 7) (.app (.var 1) (.tup (.cons (.bin .Sub (.var 6) (.bi .len (.cons (.var 4) .nil))) (.cons (.var 7) .nil))))) .nil) .nil) .nil)) (.seq (.ext (.var 3) (.bin .Add (.var 13) (.lst (.cons (.sub (.var 10) (.lit (.int (0)))) .nil)))) (.seq (.eQ [(4,.fr),(5,.fr),(7,.own)] (.cons (.lst .nil) (.cons (.lst (.cons (.lst .nil) (.cons (.lst .nil) .nil))) (.cons (.lst (.cons (.lst .nil) (.cons (.lst .nil) .nil))) .nil)))) .nil))))
noncomputable abbrev Vj:SS:=(.seq (.eQ [(4,.fr),(5,.fr)] (.cons (.bin .Add (.var 4) (.lst (.cons (.sub (.var 10) (.lit (.int (0)))) .nil))) (.cons (.lst (.cons (.bin .Add (.sub (.var 5) (.lit (.int (0)))) (.sub (.var 10) (.lit (.int (1))))) (.cons (.bin .Add (.sub (.var 5) (.lit (.int (1)))) (.sub (.var 10) (.lit (.int (2))))) .nil))) .nil))) .nil)
noncomputable abbrev BS:SS:=.cO (.cmp .Eq (.var 11) (.lst (.cons (.lit (.bool true)) (.cons (.lit (.bool true)) .nil)))) Vi Vj
noncomputable abbrev BU:SS:=.aug 6 .Add (.lit (.int (1)))
section
variable {t0 t1 t2 t3 t8 t9 aV bg t7:Tr}{old y0 y1 v0 v1 a0 a1:List Int}{i:Int}{x:ag}{pl:Nat}{k0 k1:Bool}{K:KS}{fs:da}
theorem Vk (hk:(k0 && k1)=false) (e0:intD a0++kx k0 (.int i)=intD v0) (e1:intD a1++kx k1 (.int i)=intD v1) (ho:old.length<900) (h0:y0.length<900) (W:y1.length<900) (J:v0.length<900) (V:v1.length<900)
  (h:K .nx [t0,t1,t2,t3,.dat (.list (intD (old++[i]))),.dat (.list [.list (intD (y0++v0)),.list (intD (y1++v1))]),.dat (.int ((pl+1:Nat):Int)),t7,t8,t9,.dat (gk (.int i) a0 a1 k0 k1),.dat (.list [.bool k0,.bool k1]),aV,bg]) :
  bq fs (.seq BS (.seq BU .nil)) [t0,t1,t2,t3,.dat (.list (intD old)),.dat (.list [.list (intD y0),.list (intD y1)]),.dat (.int pl),t7,t8,t9,.dat (gk (.int i) a0 a1 k0 k1),.dat (.list [.bool k0,.bool k1]),aV,bg] K:=by
 refine av (aL rfl) ?_;refine cq (I5 k0 k1) ⟨by clear hk e0 h;cases k0 <;> cases k1 <;> rfl,rfl⟩ ?_
 refine aZ.no hk ?_;refine cG ?_;refine av (aL rfl) ?_;refine aq old [i] (by exact (Lin.ak (.c _ .z) .z 1 (.c 1 (.ak (.v 0) (.n 900)) .z) (.v 0) (.n 1000) rfl ho)) (by simp) ?_
 refine cG ?_;refine c8 ?_;unfold gk at h ⊢;rw [e0,e1] at h;refine ae (e0 ..) (ae (e1 ..) ?_);refine aq y0 v0 (by exact (Lin.ak (.c _ .z) .z 1 (.c 1 (.ak (.v 0) (.n 900)) .z) (.v 0) (.n 1000) rfl h0)) (by exact (Lin.ak (.c _ .z) .z 1 (.c 1 (.ak (.v 0) (.n 900)) .z) (.v 0) (.n 1000) rfl J)) ?_
 refine c8 ?_;refine kn ?_;refine aq y1 v1 (by exact (Lin.ak (.c _ .z) .z 1 (.c 1 (.ak (.v 0) (.n 900)) .z) (.v 0) (.n 1000) rfl W)) (by exact (Lin.ak (.c _ .z) .z 1 (.c 1 (.ak (.v 0) (.n 900)) .z) (.v 0) (.n 1000) rfl V)) ?_
 refine av (aL rfl) ?_;refine av (aL rfl) ?_;exact h
theorem I6 (o l r:List Int):vV o l r=match Pure.settle o l r with
  |some sw=>.list (intD sw)
  |none=>.list [.list [.list (intD o),.list (intD l),.list (intD r)]]:=by
 unfold vV Pure.settle;by_cases e1:l=r∨r=o
 ·exact ae (if_pos e1 ..) (ae (if_pos e1 ..) rfl)
 ·refine ae (if_neg e1 ..) (ae (if_neg e1 ..) ?_);by_cases e2:l=o
  ·exact ae (if_pos e2 ..) (ae (if_pos e2 ..) rfl)
  ·exact ae (if_neg e2 ..) (ae (if_neg e2 ..) rfl)
theorem uj {o l r sw:List Int}(h:Pure.settle o l r=some sw) (hl:l.length<1800) (J:r.length<1800):sw.length<1800:=by
 unfold Pure.settle at h;by_cases e1:l=r∨r=o
 ·rw [if_pos e1] at h;cases h;exact hl
 ·rw [if_neg e1] at h;by_cases e2:l=o
  ·rw [if_pos e2] at h;cases h;exact J
  ·rw [if_neg e2] at h;exact El.ns h
theorem I7 (o l r:List Int):dX (.list [.list [.list (intD o),.list (intD l),.list (intD r)]]):=by
 refine El.aa (sv o) λa1 a2=>?_;refine El.aa (sv l) λJ V=>?_;refine El.aa (sv r) λc1 W=>?_;unfold dX SeqAt.shaped;simp only [ag.canLay0,ag.canLayAll0,ag.depth,ag.depthAll,a1,J,c1,YF,YG];exact decide_eq_true (by lia)
theorem I8 {sw:List Int}{x:ag}(h:sw.length<1800):small ((intD sw).length+[x].length):=by
 unfold small cE intD;refine ae (bK ..) ?_;refine (?_:sw.length+1≤_);exact (Lin.ah (.c _ .z) .z 1 (.c 1 (.ak (.v 0) (.n 1800)) .z) (.a (.v 0) (.n 1)) (.n 16777216) rfl h)
theorem aZ.Vl {p:Prop} [Decidable p] {P R:Prop}(h:¬p→P) (g:p→R):aZ (!decide p) P R:=.by (λe=>h λq=>by rw [decide_eq_true q] at e;exact El.ft e) λe=>g (Co λq=>by rw [decide_eq_false q] at e;exact El.tf e)
theorem Vm {cl:List Pure.Clean}{ch:List Pure.jr}{mg:List ag}{W0 W1:List String}(Z:dX (.list [.list (bY W0),.list (bY W1)])) (hp:old.length≤pl) (ho:old.length<900) (h0:y0.length<900) (h1:y1.length<900) (V:a0.length<900) (W:a1.length<900) (lE:cl.length<2000) (Zb:ch.length<2000) (Zc:mg.length<100000)
  (hs:∀sw bg,Pure.settle old (y0++a0) (y1++a1)=some sw→K .nx [t0,.dl ((if W0=[]∧W1=[] then cl else cl++[(pl-old.length,W0,W1)]).map fF),.dl (ch.map gj),.dl (mg++(intD sw++[x])),.dat (.list (intD [])),.dat (.list [.list (intD []),.list (intD [])]),.dat (.int ((pl+1:Nat):Int)),.ol [.dl (bY []),.dl (bY [])],t8,t9,.dat (gk x a0 a1 true true),.dat (.list [.bool true,.bool true]),aV,bg])
  (hn:∀bg,Pure.settle old (y0++a0) (y1++a1)=none→K .nx [t0,.dl (cl.map fF),.dl ((ch++[(W0,W1)]).map gj),.dl (mg++([.list [.list (intD old),.list (intD (y0++a0)),.list (intD (y1++a1))]]++[x])),.dat (.list (intD [])),.dat (.list [.list (intD []),.list (intD [])]),.dat (.int ((pl+1:Nat):Int)),.ol [.dl (bY []),.dl (bY [])],t8,t9,.dat (gk x a0 a1 true true),.dat (.list [.bool true,.bool true]),aV,bg]) :
  bq ⟨[iO],[]⟩ (.seq BS (.seq BU .nil)) [t0,.dl (cl.map fF),.dl (ch.map gj),.dl mg,.dat (.list (intD old)),.dat (.list [.list (intD y0),.list (intD y1)]),.dat (.int pl),.ol [.dl (bY W0),.dl (bY W1)],t8,t9,.dat (gk x a0 a1 true true),.dat (.list [.bool true,.bool true]),aV,bg] K:=by
 repeat refine vg rfl ?_
 refine cq (I5 true true) ⟨rfl,rfl⟩ ?_;refine cG ?_;refine c8 ?_;refine av (wj V) (.mk (wi _ x) ?_);refine aq y0 a0 (by exact (Lin.ak (.c _ .z) .z 1 (.c 1 (.ak (.v 0) (.n 900)) .z) (.v 0) (.n 1000) rfl h0)) (by exact (Lin.ak (.c _ .z) .z 1 (.c 1 (.ak (.v 0) (.n 900)) .z) (.v 0) (.n 1000) rfl V)) ?_
 refine c8 ?_;refine kn ?_;refine av (wj W) (.mk (wi _ x) ?_);refine aq y1 a1 (by exact (Lin.ak (.c _ .z) .z 1 (.c 1 (.ak (.v 0) (.n 900)) .z) (.v 0) (.n 1000) rfl h1)) (by exact (Lin.ak (.c _ .z) .z 1 (.c 1 (.ak (.v 0) (.n 900)) .z) (.v 0) (.n 1000) rfl W)) ?_
 refine gB old (gB (y0++a0) (gB (y1++a1) (av rfl ?_)));refine ae (I6 ..) ?_;have l0:(y0++a0).length<1800:=by refine ae (aJ ..) ?_;omega
 have l1:(y1++a1).length<1800:=by refine ae (aJ ..) ?_;omega
 cases e:Pure.settle old (y0++a0) (y1++a1) with
 |some sw=>
  have ls:=uj e l0 l1;have lz:(intD sw).length=sw.length:=bK ..;dsimp only;refine av (qj (by exact (Lin.ak (.c _ .z) .z 1 (.c 1 (.ak (.v 0) (.n 1800)) .z) (.v 0) (.n 2000) rfl ls))) ?_
  refine BR ?_ sw;repeat refine vg rfl ?_
  refine cq (x:=.list []) (y:=.list []) (c:=true) rfl ⟨rfl,rfl⟩ ?_;repeat refine vg rfl ?_
  refine cq (Vg W0 W1) ⟨Z,rfl⟩ ?_;have J:=hs sw (.dat (.list (intD sw))) e;refine aZ.Vl (λe2=>?_) λe2=>?_
  ·have hc:fF (pl-old.length,W0,W1)=.tuple [.int ((pl:Int)-(old.length:Nat)),.list [.list (bY W0),.list (bY W1)]]:=by
    unfold fF;exact ae (show ((pl:Int)-(old.length:Nat))=((pl-old.length:Nat):Int) by exact (eK (Lin.aA (.c _ (.c _ (.c _ .z))) .z 1 (.c 1 (.aw (.v 0) (.a (.v 2) (.v 1))) .z) (.s (.o (.v 0)) (.o (.v 1))) (.o (.v 2)) rfl (aT (Lin.ah (.c _ (.c _ .z)) .z 1 (.c 1 (.ah (.v 0) (.v 1)) .z) (.v 0) (.v 1) rfl hp)).symm) (Lin.aA (.c _ (.c _ (.c _ .z))) .z 1 (.c 1 (.aw (.a (.v 0) (.v 2)) (.v 1)) .z) (.o (.v 0)) (.s (.o (.v 1)) (.o (.v 2))) rfl (aT (Lin.ah (.c _ (.c _ .z)) .z 1 (.c 1 (.ah (.v 0) (.v 1)) .z) (.v 0) (.v 1) rfl hp))))) rfl
   rw [if_neg e2,bG,List.map_singleton,hc] at J;refine ql (ns:=old) (by exact (Lin.ak (.c _ .z) .z 1 (.c 1 (.ak (.v 0) (.n 900)) .z) (.v 0) (.n 2000) rfl ho)) ?_
   repeat refine vg rfl ?_
   refine av (by refine (?_:(cl.map fF).length<_);refine ae (bK ..) ?_;omega) ?_
   refine cG ?_;repeat refine vg rfl ?_
   refine av (I8 ls) (lG ?_);refine av (by refine (?_:mg.length+(intD sw++[x]).length<_);refine ae (aJ ..) (ae (lz ..) (ae (oZ ..) ?_));omega) ?_
   repeat refine vg rfl ?_
   exact J
  ·rw [if_pos e2] at J;refine cG ?_;repeat refine vg rfl ?_
   refine av (I8 ls) (lG ?_);refine av (by refine (?_:mg.length+(intD sw++[x]).length<_);refine ae (aJ ..) (ae (lz ..) (ae (oZ ..) ?_));omega) ?_
   repeat refine vg rfl ?_
   exact J
 |none=>
  have Y:=hn (.dat (.list [.list [.list (intD old),.list (intD (y0++a0)),.list (intD (y1++a1))]])) e;rw [bG] at Y;dsimp only;repeat refine vg rfl ?_
  refine cq (x:=.list [.list [.list (intD old),.list (intD (y0++a0)),.list (intD (y1++a1))]]) (y:=.list []) (c:=false) rfl ⟨I7 _ _ _,rfl⟩ ?_;repeat refine vg rfl ?_
  refine av (by refine (?_:(ch.map gj).length<_);refine ae (bK ..) ?_;omega) ?_
  refine cG ?_;repeat refine vg rfl ?_
  refine lG ?_;refine av (by refine (?_:mg.length+2<_);omega) ?_
  repeat refine vg rfl ?_
  exact Y
end
theorem BV {g:String}(h:Pure.gJ g):ag.strOk (ai.ofString g)=true:=by rcases h with rfl | rfl | rfl <;> kernel_rfl
noncomputable def Lay (n:Nat) (d:ag):Prop:=d.canLay0=true∧d.depth≤n
theorem sH {n:Nat}:∀{ds:List ag},(∀d∈ds,Lay n d)→ag.canLayAll0 ds=true∧ag.depthAll ds≤n:=@λA B=>match A,B with
 |[],zz=>⟨by unfold ag.canLayAll0;rfl,by unfold ag.depthAll;exact bh _⟩
 |d::ds,h=>by
  refine El.aa (sH λd hd=>h d (.tail _ hd)) λa b=>?_;refine El.aa (h d (.head _)) λc e=>?_;unfold ag.canLayAll0 ag.depthAll;exact ⟨oV.mpr ⟨c,a⟩,jL.mpr ⟨e,b⟩⟩
theorem Lay.int (i:Int):Lay 0 (.int i):=⟨by unfold ag.canLay0;rfl,by unfold ag.depth;exact aI _⟩
theorem Lay.str {s:ai}(h:ag.strOk s=true):Lay 0 (.str s):=⟨by unfold ag.canLay0;exact h,by unfold ag.depth;exact aI _⟩
theorem Lay.list {n:Nat}{ds:List ag}(h:∀d∈ds,Lay n d):Lay (n+1) (.list ds):=⟨by unfold ag.canLay0;exact (sH h).1,by unfold ag.depth;exact cY (sH h).2⟩
theorem Lay.tup {n:Nat}{ds:List ag}(h:∀d∈ds,Lay n d):Lay (n+1) (.tuple ds):=⟨by unfold ag.canLay0;exact (sH h).1,by unfold ag.depth;exact cY (sH h).2⟩
theorem Lay.mono {n k:Nat}{d:ag}(h:Lay n d) (e:n≤k):Lay k d:=⟨h.1,az h.2 e⟩
theorem Lay.shaped {n:Nat}{d:ag}(h:Lay n d) (e:n≤64):SeqAt.shaped d=true:=oV.mpr ⟨h.1,decide_eq_true (az h.2 e)⟩
theorem I9 {W:List String}(h:∀g∈W,Pure.gJ g):Lay 1 (.list (bY W)):=.list λd hd=>by
 refine El.au (bL.mp hd) λg hg J=>?_;clear hd;subst J;exact .str (BV (h g hg))
theorem lay_ints (l:List Int):Lay 1 (.list (intD l)):=.list λd hd=>by
 refine El.au (bL.mp hd) λg hg J=>?_;clear hd;subst J;exact .int _
theorem BW {a b:List String}(h0:∀g∈a,Pure.gJ g) (J:∀g∈b,Pure.gJ g):Lay 2 (.list [.list (bY a),.list (bY b)]):=.list (bH.mpr ⟨I9 h0,cR.mpr (I9 J)⟩)
theorem Vn:∀e:Pure.Ent,Lay 2 (dF e):=@λA=>match A with
 |.it n=>(Lay.int n).mono (bh _)
 |.cf o l r=>.list (bH.mpr ⟨lay_ints o,bH.mpr ⟨lay_ints l,cR.mpr (lay_ints r)⟩⟩)
noncomputable def ks (t:Pure.Res):ag:=.tuple [.list (t.1.map fF),.list (t.2.1.map gj),.list (t.2.2.map dF)]
theorem sI {t:Pure.Res}(h:Pure.i6 t):Lay 5 (ks t):=by
 refine .tup (bH.mpr ⟨.list λd hd=>?_,bH.mpr ⟨.list λd hd=>?_,cR.mpr (.list λd hd=>?_)⟩⟩)
 ·refine El.au (bL.mp hd) λc hc J=>?_;clear hd;subst J;exact .tup (bH.mpr ⟨(Lay.int _).mono (bh _),cR.mpr (BW (h.1 c hc).1 (h.1 c hc).2)⟩)
 ·refine El.au (bL.mp hd) λc hc J=>?_;clear hd;subst J;exact (BW (h.2 c hc).1 (h.2 c hc).2).mono (by decide)
 ·refine El.au (bL.mp hd) λc hc J=>?_;clear hd;subst J;exact (Vn c).mono (by decide)
theorem sJ (l:List Int):(l.map Pure.Ent.it).map dF=intD l:=by unfold intD;refine ae (sX ..) ?_;rfl
noncomputable def eS (c:Pure.Cl):ag:=.tuple [.int c.1,.list (intD (Pure.wy (c.1,c.2.1))),.list (intD (Pure.wy (c.1,c.2.2)))]
noncomputable def fG:ag:=.str (ai.ofString "end")
noncomputable def oS (e0 e1:List Int):ag:=.tuple [fG,.list (intD e0++[fG]),.list (intD e1++[fG])]
theorem Ja {x:ag}{a:List Int}(h:a.length<900) (hx:dX (.list [x])) (J:ag.eqv (.list [x]) (.list [x])=true):mZ x a true:=by
 have e:fS (intD a++kx true x) (some (-1)) none=[x]:=Ve _ x;exact ⟨h,by refine ae (e ..) ?_;exact J,by refine ae (e ..) ?_;exact ⟨hx,hx⟩⟩
theorem Vo {k:Int}{w:List Int}(h:Pure.Lw k (some w)):mZ (.int k) w false:=by
 refine El.cH (h w rfl) λJ V W=>?_;have e:fS (intD w++kx false (.int k)) (some (-1)) none=intD (w.drop (w.length-1)):=by
  refine (?_:fS (intD w++[]) _ _=_);refine ae (bt ..) (ae (qi ..) ?_);unfold intD;refine (?_:o7 ((w.map ag.int).length-d5 (w.map ag.int).length (-1)) (qL (d5 (w.map ag.int).length (-1)) _)=_);have:0<w.length:=qy.mpr J;have e:d5 (w.map ag.int).length (-1)=w.length-1:=by
   unfold d5;refine ae (bK ..) ?_;lia
  refine ae (e ..) (ae (C2 ..) (ae (bK ..) ?_));exact w4 (by refine ae (kD ..) (ae (bK ..) ?_);omega)
 refine ⟨by exact (Lin.ak (.c _ .z) .z 1 (.c 1 (.ah (.v 0) (.n 3)) .z) (.v 0) (.n 900) rfl V),?_,?_⟩
 ·refine ae (e ..) ?_;exact Bx (b:=[k]) W
 ·refine ae (e ..) ?_;exact ⟨gY _,gY [k]⟩
theorem wm {k:Int}{o:Option (List Int)}(h:Pure.Lw k o):mZ (.int k) (o.getD []) o.isNone∧intD (o.getD [])++kx o.isNone (.int k)=intD (Pure.wy (k,o)):=by
 cases o with
 |none=>exact ⟨Ja (by simp) (gY [k]) (Bw (a:=[k]) (b:=[k]) rfl),rfl⟩
 |some w=>exact ⟨Vo h,bt _⟩
theorem Jb {e:List Int}(h:e.length<900):mZ fG e true:=Ja h (by kernel_rfl) (by kernel_rfl)
noncomputable abbrev oT:SS:=.seq I2 (.seq I3 (.seq BS (.seq BU .nil)))
noncomputable abbrev lI (cd:ag) (mg:List ag) (s:Pure.WS) (bN bE aV bg:Tr):List Tr:=[.dat cd,.dl (s.acc.1.map fF),.dl (s.acc.2.1.map gj),.dl mg,.dat (.list (intD s.old)),.dat (.list [.list (intD s.y0),.list (intD s.y1)]),.dat (.int s.pl),.ol [.dl (bY s.x0.1),.dl (bY s.x1.1)],.dl [.int s.x0.2.1,.int s.x1.2.1],.dl [.int s.x0.2.2,.int s.x1.2.2],bN,bE,aV,bg]
section
variable {cd:ag}{K:KS}{ds:List ag}
theorem Jc {s:Pure.WS}{bN bE aV bg:Tr}{x:ag}{a0 a1:List Int}(h0:mZ x a0 true) (Y:mZ x a1 true) (ok:Pure.gc s) (J:s.pl≤62)
  (h:∀bN bE aV bg,dc (ed ⟨[iO],[]⟩ [(10,.fr)] false oT) K ds (lI cd ((((s.fb true true a0.length a1.length).dU a0 a1).acc.2.2.map dF)++[x]) ((s.fb true true a0.length a1.length).dU a0 a1) bN bE aV bg)) :
  dc (ed ⟨[iO],[]⟩ [(10,.fr)] false oT) K (gk x a0 a1 true true::ds) (lI cd (s.acc.2.2.map dF) s bN bE aV bg):=by
 have l0:=ok.l0;have l1:=ok.l1;have lo:=ok.lo;have y0:=ok.y0;have y1:=ok.y1;have Z:=ok.a0;have b1:=ok.a1;have b2:=ok.a2;have V:=Pure.me (k:=true) (n:=a0.length) ok.t0;have W:=Pure.me (k:=true) (n:=a1.length) ok.t1;refine gL (I4 h0 Y (by exact (Lin.ak (.c _ (.c _ .z)) .z 1 (.c 1 (.ah (.v 1) (.n 62)) (.c 1 (.ah (.v 0) (.v 1)) .z)) (.v 0) (.n 1000) rfl J l0)) (by exact (Lin.ak (.c _ (.c _ .z)) .z 1 (.c 1 (.ah (.v 1) (.n 62)) (.c 1 (.ah (.v 0) (.v 1)) .z)) (.v 0) (.n 1000) rfl J l1)) ?_)
 refine Vm (cl:=s.acc.1) (ch:=s.acc.2.1) ((BW V W).shaped (by decide)) lo (by exact (Lin.ak (.c _ (.c _ .z)) .z 1 (.c 1 (.ah (.v 1) (.n 62)) (.c 1 (.ah (.v 0) (.v 1)) .z)) (.v 0) (.n 900) rfl J lo)) (by exact (Lin.ak (.c _ (.c _ .z)) .z 1 (.c 3 (.ah (.v 1) (.n 62)) (.c 1 (.ah (.v 0) (.m 3 (.v 1))) .z)) (.v 0) (.n 900) rfl J y0)) (by exact (Lin.ak (.c _ (.c _ .z)) .z 1 (.c 3 (.ah (.v 1) (.n 62)) (.c 1 (.ah (.v 0) (.m 3 (.v 1))) .z)) (.v 0) (.n 900) rfl J y1)) h0.l Y.l (by exact (Lin.ak (.c _ (.c _ .z)) .z 1 (.c 1 (.ah (.v 1) (.n 62)) (.c 1 (.ah (.v 0) (.v 1)) .z)) (.v 0) (.n 2000) rfl J Z)) (by exact (Lin.ak (.c _ (.c _ .z)) .z 1 (.c 1 (.ah (.v 1) (.n 62)) (.c 1 (.ah (.v 0) (.v 1)) .z)) (.v 0) (.n 2000) rfl J b1)) (by refine ae (bK ..) ?_;omega) (λsw t e=>?_) λt e=>?_
 ·have:=h (.dat (gk x a0 a1 true true)) (.dat (.list [.bool true,.bool true])) (.dat (.int 1)) t;unfold Pure.WS.dU Pure.WS.fb at this;dsimp only [lI] at this;rw [e] at this;dsimp only at this;rw [bG,sJ,aH] at this;exact this
 ·have:=h (.dat (gk x a0 a1 true true)) (.dat (.list [.bool true,.bool true])) (.dat (.int 1)) t;unfold Pure.WS.dU Pure.WS.fb at this;dsimp only [lI] at this;rw [e] at this;dsimp only at this;rw [bG (f:=dF),aH] at this;exact this
theorem Vp {s:Pure.WS}{bN bE aV bg:Tr}{c:Pure.Cl}(h0:Pure.Lw c.1 c.2.1) (W:Pure.Lw c.1 c.2.2) (hk:¬(c.2.1.isNone=true∧c.2.2.isNone=true)) (ok:Pure.gc s) (J:s.pl≤62)
  (h:∀bN bE aV bg,dc (ed ⟨[iO],[]⟩ [(10,.fr)] false oT) K ds (lI cd ((Pure.cK s c).acc.2.2.map dF) (Pure.cK s c) bN bE aV bg)) :
  dc (ed ⟨[iO],[]⟩ [(10,.fr)] false oT) K (eS c::ds) (lI cd (s.acc.2.2.map dF) s bN bE aV bg):=by
 have l0:=ok.l0;have l1:=ok.l1;have lo:=ok.lo;have y0:=ok.y0;have y1:=ok.y1;refine El.aa (wm h0) λY e0=>?_;refine El.aa (wm W) λZ e1=>?_;have w0:=h0.pI;have w1:=W.pI;have hc:eS c=gk (.int c.1) (c.2.1.getD []) (c.2.2.getD []) c.2.1.isNone c.2.2.isNone:=by
  unfold eS gk;exact ae (e0 ..) (ae (e1 ..) rfl)
 have V:(c.2.1.isNone && c.2.2.isNone)=false:=by
  cases a:c.2.1.isNone <;> cases b:c.2.2.isNone <;> first | rfl | exact (hk ⟨a,b⟩).elim
 refine ae (hc ..) ?_;refine gL (I4 Y Z (by exact (Lin.ak (.c _ (.c _ .z)) .z 1 (.c 1 (.ah (.v 1) (.n 62)) (.c 1 (.ah (.v 0) (.v 1)) .z)) (.v 0) (.n 1000) rfl J l0)) (by exact (Lin.ak (.c _ (.c _ .z)) .z 1 (.c 1 (.ah (.v 1) (.n 62)) (.c 1 (.ah (.v 0) (.v 1)) .z)) (.v 0) (.n 1000) rfl J l1)) ?_)
 refine Vk V e0 e1 (by exact (Lin.ak (.c _ (.c _ .z)) .z 1 (.c 1 (.ah (.v 1) (.n 62)) (.c 1 (.ah (.v 0) (.v 1)) .z)) (.v 0) (.n 900) rfl J lo)) (by exact (Lin.ak (.c _ (.c _ .z)) .z 1 (.c 3 (.ah (.v 1) (.n 62)) (.c 1 (.ah (.v 0) (.m 3 (.v 1))) .z)) (.v 0) (.n 900) rfl J y0)) (by exact (Lin.ak (.c _ (.c _ .z)) .z 1 (.c 3 (.ah (.v 1) (.n 62)) (.c 1 (.ah (.v 0) (.m 3 (.v 1))) .z)) (.v 0) (.n 900) rfl J y1)) (by exact (Lin.ak (.c _ .z) .z 1 (.c 1 (.ah (.v 0) (.n 3)) .z) (.v 0) (.n 900) rfl w0.1)) (by exact (Lin.ak (.c _ .z) .z 1 (.c 1 (.ah (.v 0) (.n 3)) .z) (.v 0) (.n 900) rfl w1.1)) ?_
 have:=h (.dat (gk (.int c.1) (c.2.1.getD []) (c.2.2.getD []) c.2.1.isNone c.2.2.isNone)) (.dat (.list [.bool c.2.1.isNone,.bool c.2.2.isNone])) (.dat (.int 1)) bg;unfold Pure.cK at this;rw [if_neg hk] at this;exact this
theorem Jd {e0 e1:List Int}(h0:e0.length<900) (h1:e1.length<900):∀(cs:List Pure.Cl) {s:Pure.WS}{bN bE aV bg:Tr},(∀c∈cs,Pure.Lw c.1 c.2.1∧Pure.Lw c.1 c.2.2)→Pure.gc s→s.pl+cs.length≤62→
  (∀r,K .nx (.dat cd::.dl ((Pure.jW e0 e1 (cs.foldl Pure.cK s)).acc.1.map fF)::.dl ((Pure.jW e0 e1 (cs.foldl Pure.cK s)).acc.2.1.map gj)::.dl ((Pure.jW e0 e1 (cs.foldl Pure.cK s)).acc.2.2.map dF++[fG])::r))→
  dc (ed ⟨[iO],[]⟩ [(10,.fr)] false oT) K (cs.map eS++[oS e0 e1]) (lI cd (s.acc.2.2.map dF) s bN bE aV bg):=@λA B C D F G H J L M=>match A,B,C,D,F,G,H,J,L,M with
 |[],s,bN,bE,aV,bg,hc,ok,V,Z=>Jc (x:=fG) (a0:=e0) (a1:=e1) (ds:=[]) (Jb h0) (Jb h1) ok V λa b c d=>Z _
 |c::cs,s,bN,bE,aV,bg,hc,ok,V,Z=>by
  have W:(Pure.cK s c).pl+cs.length≤62:=by refine ae (Pure.MF ..) ?_;rw [dA] at V;omega
  refine El.aa (hc c (.head _)) λl0 l1=>?_;have Y:=Pure.EY ok l0 l1;have ih:∀a b d e,dc (ed ⟨[iO],[]⟩ [(10,.fr)] false oT) K (cs.map eS++[oS e0 e1]) (lI cd ((Pure.cK s c).acc.2.2.map dF) (Pure.cK s c) a b d e):=λa b d e=>Jd h0 h1 cs (λc h=>hc c (.tail _ h)) Y W Z;have hq:s.pl≤62:=by rw [dA] at V;omega
  by_cases hk:c.2.1.isNone=true∧c.2.2.isNone=true
  ·clear hc V Z W Y;obtain ⟨k,o0,o1⟩:=c;refine El.aa hk λk0 k1=>?_;clear hk;cases o0 with
   |some _=>exact El.ft k0
   |none=>cases o1 with
    |some _=>exact El.ft k1
    |none=>
     refine Jc (x:=.int k) (a0:=[]) (a1:=[]) (wm l0).1 (wm l1).1 ok hq λa b d e=>?_;have:=ih a b d e;unfold Pure.cK at this;rw [if_pos ⟨rfl,rfl⟩] at this;unfold Pure.WS.it at this;dsimp only [lI] at this;rw [bG (f:=dF)] at this;exact this
  ·exact Vp l0 l1 hk ok hq ih
end
noncomputable def Je:SS:=(.seq (.kZ [(1,.own),(2,.own),(3,.own),(4,.fr),(5,.fr),(6,.fr)] (.tup (.cons (.lst .nil) (.cons (.lst .nil) (.cons (.lst .nil) (.cons (.lst .nil) (.cons (.lst (.cons (.lst .nil) (.cons (.lst .nil) .nil))) (.cons (.lit (.int (0))) .nil)))))))) (.seq (.eQ [(7,.own),(8,.own),(9,.own)] (.cons (.lst (.cons (.lst .nil) (.cons (.lst .nil) .nil))) (.cons (.lst (.cons (.lit (.int (0))) (.cons (.lit (.int (0))) .nil))) (.cons (.lst (.cons (.lit (.int (0))) (.cons (.lit (.int (0))) .nil))) .nil)))) (.seq (.dY [(10,.fr)] false (.seq (.var 0)) oT) (.seq (.seq (.fz 1) (.seq (.fz 2) (.ret (.tup (.cons (.var 1) (.cons (.var 2) (.cons (.slc (.var 3) .nil (.neg (.lit (.int (1))))) .nil))))))) .nil))))
noncomputable def sL:iK:=(false,λds k=>∃(cs:List Pure.Cl) (e0 e1:List Int),ds=[.list (cs.map eS++[oS e0 e1])]∧((∀c∈cs,Pure.Lw c.1 c.2.1∧Pure.Lw c.1 c.2.2)∧cs.length≤60∧e0.length≤300∧e1.length≤300∧(Pure.jW e0 e1 (cs.foldl Pure.cK (Pure.fQ ([],[],[]) 0))).acc.2.2.length≤9999)∧k (ks (Pure.jW e0 e1 (cs.foldl Pure.cK (Pure.fQ ([],[],[]) 0))).acc))
theorem Vq {ds:List ag}{k:ag→Prop}(h:sL.2 ds k):ds.length=1∧bq ⟨[iO],[]⟩ Je (init ds 13) (lB k):=by
 refine El.dh h ?_;clear h;intro cs e0 e1 J V h;subst J;obtain ⟨W,h2,Y,Z,h5⟩:=V;refine ⟨rfl,?_⟩;repeat refine vg rfl ?_
 refine Jd (s:=Pure.fQ ([],[],[]) 0) (by exact (Lin.ak (.c _ .z) .z 1 (.c 1 (.ah (.v 0) (.n 300)) .z) (.v 0) (.n 900) rfl Y)) (by exact (Lin.ak (.c _ .z) .z 1 (.c 1 (.ah (.v 0) (.n 300)) .z) (.v 0) (.n 900) rfl Z)) cs W (Pure.EV 0) (by refine (?_:0+cs.length≤62);omega) λr=>?_
 refine av (by refine (?_:(lX dF _++[fG]).length≤_);refine ae (aJ ..) (ae (bK ..) (ae (oZ ..) ?_));unfold cE;omega) (.mk (wi _ _) ?_)
 repeat refine vg rfl ?_
 exact h
section
variable {w:aR}{D:Nat}
theorem Vr (P:aG):(K P).lookup 265=some ⟨.type "function",none,.func (jg 9 "_law_walk" (.ref 264)),#[]⟩:=by kernel_rfl!
theorem Vs (P:aG):fW (K P) (.ref 264) "_law_walk"=true:=by kernel_rfl!
theorem Vt (x:af):gP (jg 9 "_law_walk" (.ref 264)) ⟨[x],[]⟩=pure [(ai.ofString "cells",x)]:=by kernel_rfl!
noncomputable abbrev Vu:Hn:=⟨λi=>if i=1∨i=2∨i=3∨i=7∨i=8∨i=9 then .own else .fr,[(498,7),(504,1),(504,2)]⟩
noncomputable abbrev BX:Fn:=⟨ai.ofString "_law_settle",.ref 260,iO⟩
theorem Jf:sj (K w.params) BX∧qk w (D+1) 260 iO:=⟨.inl ⟨by kernel_rfl!,by kernel_rfl!⟩,Up⟩
theorem Vv:qk w (D+2) 265 sL:=
 sq (fs:=⟨[BX],[]⟩) (H:=Vu) (dd:=14) (nn:=14) (ps:=["cells"]) (ls':=["clean","clash","merged","old","ways","place","words","gone","come","cell","keep","side","way"]) ⟨(Vr w.params),(Vs w.params),rfl,by decide +kernel,by decide +kernel,by decide +kernel,by kernel_rfl!,by kernel_rfl!,by kernel_rfl!,by decide +kernel⟩ (bind1 λx=>Vt x) (hH w.params) (hW w) (cR.mpr Jf) (λzz h=>El.nm h) (ir:=Je) (by kernel_rfl!) λds k h=>Vq h
end
noncomputable abbrev Jg:SS:=(.seq (.uW [(13,.fr),(14,.fr),(15,.fr),(16,.fr),(17,.fr)] 3) (.seq (.app (.sub (.var 10) (.var 15)) (.var 16)) (.seq (.ext (.sub (.var 11) (.var 15)) (.bin .Add (.slc (.var 0) (.sub (.var 12) (.var 15)) (.var 13)) (.ite (.cmp .Eq (.var 16) (.lit (.str (ai.ofString "delete")))) (.lst .nil) (.var 17)))) (.seq (.set (.var 12) (.var 15) (.ite (.cmp .Eq (.var 16) (.lit (.str (ai.ofString "insert")))) (.var 13) (.var 14))) (.seq (.asg 9 .fr (.bi .max (.cons (.var 9) (.cons (.var 14) .nil)))) .nil)))))
noncomputable abbrev Jh:SS:=.k6 (.an (.cmp .NotEq (.var 3) (.lst .nil)) (.cmp .LtE (.sub (.sub (.var 3) (.lit (.int (0)))) (.lit (.int (0)))) (.var 9))) Jg
theorem wo {g x:String}(hg:g="replace"∨g="delete"∨g="insert") (hx:x="delete"∨x="insert"):ag.eqv (.str (ai.ofString g)) (.str (ai.ofString x))=decide (g=x):=by
 rcases hg with rfl | rfl | rfl <;> rcases hx with rfl | rfl <;> kernel_rfl
theorem fi (ns:List Int):(intD ns).length=ns.length:=bK ..
theorem ku (a b:List Int):intD a++intD b=intD (a++b):=bG.symm
theorem Vx (ns:List String):(bY ns).length=ns.length:=bK ..
theorem sM {k:List ag→Prop}(a b:List Int) (J:a.length+b.length≤2 ^ 24) (h:k (intD (a++b))):small ((intD a).length+(intD b).length)∧fA (intD a++intD b) k:=
 ⟨by refine ae (fi ..) (ae (fi ..) ?_);exact J,.mk (ku a b) h⟩
theorem BY {fs:da}{σ:List Tr}{j:Nat}{d:ag}{k:List Ev→Prop}(J:σ[j]? = some (.dat d)) (h:k [bw d]):den fs (.var j) σ k:=by
 refine (?_:(match σ[j]? with | none=>False | some t=>_))
 refine ae (J ..) ?_;exact h
theorem Ji {p:Prop} [Decidable p] {fs:da}{σ:List Tr}{j:Nat}{xs J:List Int}{k:Ev→Prop}(V:σ[j]? = some (.dat (.list (intD J)))) (l:xs.length+J.length≤2 ^ 24) (h:k (.ow (.dl (intD (xs++if p then [] else J))))) :
  aZ (decide p) (den fs (.lst .nil) σ (one λvb=>uK σ .Add (.ow (.dl (intD xs))) vb k)) (den fs (.var j) σ (one λvb=>uK σ .Add (.ow (.dl (intD xs))) vb k)):=by
 refine aZ.dec (λe=>?_) λe=>?_
 ·rw [if_pos e] at h;exact av (bh _) (sM xs [] (az (iV (bh _) _) l) h)
 ·rw [if_neg e] at h;exact BY V (sM xs J l h)
theorem Jj {p:Prop} [Decidable p] {fs:da}{σ:List Tr}{i j:Nat}{a b:Int}{k:List Ev→Prop}(hi:σ[i]? = some (.dat (.int a))) (J:σ[j]? = some (.dat (.int b))) (h:k [bw (.int (if p then a else b))]):aZ (decide p) (den fs (.var i) σ k) (den fs (.var j) σ k):=by
 refine aZ.dec (λe=>?_) λe=>?_
 ·rw [if_pos e] at h;exact BY hi h
 ·rw [if_neg e] at h;exact BY J h
theorem Vy {bs:List Int}{c:Pure.bj}(h:Pure.gF bs c):Lay 2 (mV c):=
 have i:∀n:Int,Lay 1 (.int n):=λn=>(Lay.int n).mono (bh _)
 .tup (bH.mpr ⟨i _,bH.mpr ⟨i _,bH.mpr ⟨i _,bH.mpr ⟨(Lay.str (BV h.2.1)).mono (bh _),cR.mpr (lay_ints _)⟩⟩⟩⟩)
theorem Jk {bs:List Int}{cs:List Pure.bj}(h:∀c∈cs,Pure.gF bs c):dX (.list (fE cs)):=(Lay.list (n:=2) λd hd=>by
 refine El.au (bL.mp hd) λc hc J=>?_;clear hd;subst J;exact Vy (h c hc)).shaped (by decide)
theorem Jl (cs:List Pure.bj):ag.eqv (.list (fE cs)) (.list [])=cs.isEmpty:=by cases cs <;> rfl
structure lJ (n:Nat) (st:Pure.bf):Prop where
 y0:st.y0.length≤n
 y1:st.y1.length≤n
 w0:st.w0.length≤n
 w1:st.w1.length≤n
theorem Jm {bs:List Int}{c:Pure.bj}{r:Nat}(h:Pure.gF bs c) (J:bs.length<1000):(Pure.bf.way bs r c).length≤2000:=by
 have V:(Pure.slc bs r c.1).length≤bs.length:=by unfold Pure.slc;refine ae (oX ..) (ae (kD ..) ?_);omega
 have W:=h.2.2.2.2;unfold Pure.bf.way;refine ae (aJ ..) ?_;split
 ·refine (?_:_+0≤_);omega
 ·exact (Lin.ah (.c _ (.c _ (.c _ .z))) .z 1 (.c 1 (.ak (.v 2) (.n 1000)) (.c 1 (.ah (.v 0) (.v 2)) (.c 1 (.ak (.v 1) (.n 1000)) .z))) (.a (.v 0) (.v 1)) (.n 2000) rfl J V W)
theorem lJ.step {bs:List Int}{c:Pure.bj}{st:Pure.bf}{n:Nat}(b:lJ n st) (h:Pure.gF bs c) (V:bs.length<1000):lJ (n+2000) (st.step bs c):=by
 have h0:=Jm (r:=st.r0) h V;have W:=Jm (r:=st.r1) h V;have J:∀{m:Nat},m≤n→m≤n+2000:=λh=>az h (bc _ _);have one:∀{l:List String}{x:String},l.length≤n→(l++[x]).length≤n+2000:=λh=>by refine ae (aJ ..) ?_;exact gy h (show 1≤2000 by decide)
 have two:∀{l y:List Int},l.length≤n→y.length≤2000→(l++y).length≤n+2000:=λh g=>by refine ae (aJ ..) ?_;exact gy h g
 unfold Pure.bf.step;split
 ·exact ⟨two b.y0 h0,J b.y1,one b.w0,J b.w1⟩
 ·exact ⟨J b.y0,two b.y1 W,J b.w0,one b.w1⟩
section
variable {t1 t2 t4 t5 t6 t7 t8:Tr}{tl:List Tr}{bs:List Int}{K:KS}{fs:da}
noncomputable abbrev m5 (bs:List Int) (t1 t2 t4 t5 t6 t7 t8:Tr) (cs:List Pure.bj) (st:Pure.bf) (a b c d e:Tr) (tl:List Tr):List Tr:=.dat (.list (intD bs))::t1::t2::.dl (fE cs)::t4::t5::t6::t7::t8::.dat (.int st.hi)::.ol [.dl (bY st.w0),.dl (bY st.w1)]::.ol [.dl (intD st.y0),.dl (intD st.y1)]::.dl [.int st.r0,.int st.r1]::a::b::c::d::e::tl
theorem Vz {st:Pure.bf}{c:Pure.bj}{cs:List Pure.bj}{ly jC jD jE wb:Tr}(hc:Pure.gF bs c) (Z:bs.length<1000) (bd:lJ 200000 st) (hl:cs.length<1000)
  (h:∀a b c' d e,K .nx (m5 bs t1 t2 t4 t5 t6 t7 t8 cs (st.step bs c) a b c' d e tl)):bq fs Jg (m5 bs t1 t2 t4 t5 t6 t7 t8 (c::cs) st ly jC jD jE wb tl) K:=by
 obtain ⟨x,y,s,g,J⟩:=c;refine El.nJ hc λhs hg hx hy Y=>?_;clear hc;have tg:g="equal"∨g="replace"∨g="delete"∨g="insert":=.inr hg;have V:∀{l:List String},l.length≤200000→fw (bY l).length:=λh=>by show _<_;refine ae (Vx ..) ?_;omega
 have ls:∀r,(Pure.slc bs r x).length≤bs.length:=λr=>by unfold Pure.slc;refine ae (oX ..) (ae (kD ..) ?_);omega
 have VA:s=0∨s=1:=hs;have la:∀r,(Pure.slc bs r x).length+J.length≤2 ^ 24:=λr=>by
  have:=ls r;have Y:J.length<1000:=Y;exact (Lin.ah (.c _ (.c _ (.c _ .z))) .z 1 (.c 1 (.ak (.v 2) (.n 1000)) (.c 1 (.ah (.v 0) (.v 2)) (.c 1 (.ak (.v 1) (.n 1000)) .z))) (.a (.v 0) (.v 1)) (.n 16777216) rfl Z this Y)
 have W:∀{l:List Int}{r:Nat},l.length≤200000→fw ((intD l).length+(intD (Pure.slc bs r x++if g="delete" then [] else J)).length):=λ{l r} h=>by
  have h2:(if g="delete" then [] else J).length≤1000:=by
   split
   ·exact bh _
   ·exact et Y
  have:=ls r;show _<_
  refine ae (fi ..) (ae (fi ..) (ae (aJ ..) ?_));omega
 have mx:∀a b:Nat,max (a:Int) ((b:Nat):Int)=((max a b:Nat):Int):=λa b=>by (clear Y hy hx hl Z;omega)
 have ri:((if g="insert" then (x:Int) else (y:Int)):Int)=((if g="insert" then x else y:Nat):Int):=by split <;> rfl
 refine av (by refine (?_:(fE cs).length<_);unfold fE;refine ae (bK ..) ?_;omega) ?_
 clear hs hy Y;rcases VA with rfl | rfl
 ·refine cG ?_;refine av (V bd.w0) ?_;refine cG ?_;refine cG ?_;refine qs (ns:=bs) (by exact (Lin.ak (.c _ .z) .z 1 (.c 1 (.ak (.v 0) (.n 1000)) .z) (.v 0) (.n 2000) rfl Z)) hx ?_
  refine cq (wo hg (.inl rfl)) ⟨gZ tg,gZ (.inr (.inr (.inl rfl)))⟩ ?_;refine Ji rfl (la _) ?_;refine av (W bd.y0) ?_;refine cq (wo hg (.inr rfl)) ⟨gZ tg,gZ (.inr (.inr (.inr rfl)))⟩ ?_;refine Jj rfl rfl ?_;refine ko ?_;have:=h (.dat (.int x)) (.dat (.int y)) (.dat (.int 0)) (.dat (.str (ai.ofString g))) (.dat (.list (intD J)));unfold Pure.bf.step at this;rw [if_pos rfl] at this;unfold m5 bY at this;dsimp only at this;rw [bG,←mx,←ku,show ((Pure.bf.rn (x,y,0,g,J):Nat):Int)=_ from ri.symm] at this;exact this
 ·refine c8 ?_;refine av (V bd.w1) ?_;refine c8 ?_;refine c8 ?_;refine qs (ns:=bs) (by exact (Lin.ak (.c _ .z) .z 1 (.c 1 (.ak (.v 0) (.n 1000)) .z) (.v 0) (.n 2000) rfl Z)) hx ?_
  refine cq (wo hg (.inl rfl)) ⟨gZ tg,gZ (.inr (.inr (.inl rfl)))⟩ ?_;refine Ji rfl (la _) ?_;refine av (W bd.y1) ?_;refine cq (wo hg (.inr rfl)) ⟨gZ tg,gZ (.inr (.inr (.inr rfl)))⟩ ?_;refine Jj rfl rfl ?_;refine kr ?_;have:=h (.dat (.int x)) (.dat (.int y)) (.dat (.int 1)) (.dat (.str (ai.ofString g))) (.dat (.list (intD J)));unfold Pure.bf.step at this;rw [if_neg (by exact Nat.one_ne_zero)] at this
  unfold m5 bY at this;dsimp only at this;rw [bG,←mx,←ku,show ((Pure.bf.rn (x,y,1,g,J):Nat):Int)=_ from ri.symm] at this;exact this
inductive Jn (bs:List Int) (t1 t2 t4 t5 t6 t7 t8:Tr) (tl:List Tr) (st:Pure.bf) (cs:List Pure.bj) (n:Nat):List Tr→Prop
 |mk {oU:Pure.bf}{fO:List Pure.bj}{m:Nat}{a b c d e:Tr}:fO.length=n→n≤cs.length→Pure.bf.run bs st cs=Pure.bf.run bs oU fO→lJ m oU→m+2000*n≤150000→(∀c∈fO,Pure.gF bs c)→Jn bs t1 t2 t4 t5 t6 t7 t8 tl st cs n (m5 bs t1 t2 t4 t5 t6 t7 t8 fO oU a b c d e tl)
structure VB (bs:List Int) (st:Pure.bf) (cs:List Pure.bj) (oU:Pure.bf) (fO:List Pure.bj):Prop where
 r:Pure.bf.run bs st cs=(oU,fO)
 b:lJ 200000 oU
 k:∀c∈fO,Pure.gF bs c
 l:fO.length≤cs.length
theorem VC {st:Pure.bf}{cs:List Pure.bj}{ly jC jD jE wb:Tr}(hc:∀c∈cs,Pure.gF bs c) (hb:bs.length<1000) (bd:lJ 0 st) (hl:cs.length≤64)
  (h:∀V W a b c d e,VB bs st cs V W→K .nx (m5 bs t1 t2 t4 t5 t6 t7 t8 W V a b c d e tl)):bq fs Jh (m5 bs t1 t2 t4 t5 t6 t7 t8 cs st ly jC jD jE wb tl) K:=by
 refine mE.mk (Jn bs t1 t2 t4 t5 t6 t7 t8 tl st cs) cs.length (.mk rfl (aI _) rfl bd (by exact (Lin.ah (.c _ .z) .z 1 (.c 2000 (.ah (.v 0) (.n 64)) .z) (.a (.n 0) (.m 2000 (.v 0))) (.n 150000) rfl hl)) hc) λn σ J=>?_
 cases J with
 |@mk V W m a b c d e hn le hr hm Y hk=>
  have Z:lJ 200000 V:=⟨az hm.y0 (by exact (Lin.ah (.c _ (.c _ .z)) .z 1 (.c 1 (.ah (.a (.v 0) (.m 2000 (.v 1))) (.n 150000)) .z) (.v 0) (.n 200000) rfl Y)),az hm.y1 (by exact (Lin.ah (.c _ (.c _ .z)) .z 1 (.c 1 (.ah (.a (.v 0) (.m 2000 (.v 1))) (.n 150000)) .z) (.v 0) (.n 200000) rfl Y)),az hm.w0 (by exact (Lin.ah (.c _ (.c _ .z)) .z 1 (.c 1 (.ah (.a (.v 0) (.m 2000 (.v 1))) (.n 150000)) .z) (.v 0) (.n 200000) rfl Y)),az hm.w1 (by exact (Lin.ah (.c _ (.c _ .z)) .z 1 (.c 1 (.ah (.a (.v 0) (.m 2000 (.v 1))) (.n 150000)) .z) (.v 0) (.n 200000) rfl Y))⟩
  subst hn;refine av (aL rfl) ?_;refine cq (Jl W) ⟨Jk hk,rfl⟩ ?_;cases W with
  |nil=>exact h V [] a b c d e ⟨hr,Z,(λzz h=>El.nm h),bh _⟩
  |cons q r=>
   refine cG ?_;refine cG ?_;refine aZ.dec (λe1=>?_) λe1=>?_
   ·refine Vz (hk q (.head _)) hb Z (by rw [dA] at le;omega) λa b c d e=>?_
    exact El.aD r.length (lP _) (.mk rfl (Cr le) (hr.trans (if_pos (m9.mp e1))) (hm.step (hk q (.head _)) hb) (by rw [dA] at Y;omega) λc h=>hk c (.tail _ h))
   ·exact h V (q::r) a b c d e ⟨hr.trans (if_neg λe=>e1 (m9.mpr e)),Z,hk,le⟩
end
noncomputable abbrev VD:SE:=.lc (.var 18) (.var 0) (.tv (.nY (.var 0)))
noncomputable abbrev Jo:SS:=(.seq (.asg 18 .fr (.fn 2 (.cons (.slc (.var 0) (.var 8) (.var 9)) (.cons (.bin .Add (.sub (.var 11) (.lit (.int (0)))) (.slc (.var 0) (.sub (.var 12) (.lit (.int (0)))) (.var 9))) (.cons (.bin .Add (.sub (.var 11) (.lit (.int (1)))) (.slc (.var 0) (.sub (.var 12) (.lit (.int (1)))) (.var 9))) .nil))))) (.seq (.cO (.cmp .NotEq VD (.lst .nil)) (.seq (.app (.var 5) (.var 10)) .nil) (.seq (.seq (.fz 10) (.app (.var 4) (.tup (.cons (.var 8) (.cons (.var 10) .nil))))) .nil)) (.seq (.ext (.var 6) (.bin .Add (.slc (.var 0) (.var 7) (.var 8)) (.var 18))) (.seq (.asg 7 .fr (.var 9)) .nil))))
noncomputable abbrev Jp:SS:=(.seq (.eQ [(8,.fr),(9,.fr)] (.cons (.sub (.sub (.var 3) (.lit (.int (0)))) (.lit (.int (0)))) (.cons (.sub (.sub (.var 3) (.lit (.int (0)))) (.lit (.int (1)))) .nil))) (.seq (.eQ [(10,.own),(11,.own),(12,.own)] (.cons (.lst (.cons (.lst .nil) (.cons (.lst .nil) .nil))) (.cons (.lst (.cons (.lst .nil) (.cons (.lst .nil) .nil))) (.cons (.lst (.cons (.var 8) (.cons (.var 8) .nil))) .nil)))) (.seq Jh Jo)))
noncomputable abbrev Jq:SS:=.k6 (.cmp .NotEq (.var 3) (.lst .nil)) Jp
noncomputable abbrev sN:da:=⟨[sy,Bp,iO],[qm,mX (kj km)]⟩
section
variable {t1 t2:Tr}{bs:List Int}{K:KS}
inductive lL:List Tr→Prop
 |mk {a b c d e f g h i j k:Tr}:lL [a,b,c,d,e,f,g,h,i,j,k]
noncomputable abbrev m6 (bs:List Int) (t1 t2:Tr) (cs:List Pure.bj) (C J M:List ag) (d:Nat) (tl:List Tr):List Tr:=.dat (.list (intD bs))::t1::t2::.dl (fE cs)::.dl C::.dl J::.dl M::.dat (.int d)::tl
theorem VE {o l r sw:List Int}{n:Nat}(h:Pure.settle o l r=some sw) (hl:l.length≤n) (J:r.length≤n):sw.length≤n:=by
 unfold Pure.settle at h;by_cases e1:l=r∨r=o
 ·rw [if_pos e1] at h;cases h;exact hl
 ·rw [if_neg e1] at h;by_cases e2:l=o
  ·rw [if_pos e2] at h;cases h;exact J
  ·rw [if_neg e2] at h;exact El.ns h
theorem VF {cs:List Pure.bj}{C:List Pure.Clean}{W:List Pure.jr}{M:List Pure.Ent}{d x:Nat}{st:Pure.bf}{a b c e f IU:Tr}(hb:bs.length<1000) (hx:x≤bs.length) (hi:st.hi≤bs.length) (bd:lJ 200000 st) (lC:C.length≤900) (lK:W.length≤900) (lM:M.length≤900)
  (hs:∀sw tl Cd Y,lL tl→Pure.settle (Pure.slc bs x st.hi) (st.y0++Pure.slc bs st.r0 st.hi) (st.y1++Pure.slc bs st.r1 st.hi)=some sw→Cd=(C++[(x,st.w0,st.w1)]).map fF→Y=(M++((Pure.slc bs d x).map Pure.Ent.it++sw.map Pure.Ent.it)).map dF→K .nx (m6 bs t1 t2 cs Cd (W.map gj) Y st.hi tl))
  (hn:∀tl Kd Y,lL tl→Pure.settle (Pure.slc bs x st.hi) (st.y0++Pure.slc bs st.r0 st.hi) (st.y1++Pure.slc bs st.r1 st.hi)=none→Kd=(W++[(st.w0,st.w1)]).map gj→Y=(M++((Pure.slc bs d x).map Pure.Ent.it++[Pure.Ent.cf (Pure.slc bs x st.hi) (st.y0++Pure.slc bs st.r0 st.hi) (st.y1++Pure.slc bs st.r1 st.hi)])).map dF→K .nx (m6 bs t1 t2 cs (C.map fF) Kd Y st.hi tl)) :
  bq sN Jo (m5 bs t1 t2 (.dl (C.map fF)) (.dl (W.map gj)) (.dl (M.map dF)) (.dat (.int d)) (.dat (.int x)) cs st a b c e f [IU]) K:=by
 have sl:∀i j,(Pure.slc bs i j).length≤1000:=λi j=>by unfold Pure.slc;refine ae (oX ..) (ae (kD ..) ?_);omega
 have sm:∀{l:List Int}{i j:Nat},l.length≤200000→l.length+(Pure.slc bs i j).length≤201000:=λh=>gy h (sl _ _);have Z:∀{l:List Int}{i j:Nat},l.length≤200000→l.length+(Pure.slc bs i j).length≤2 ^ 24:=λh=>az (sm h) (by decide)
 have J:bs.length<2000:=eY hb (by decide)
 refine qs (ns:=bs) J hi ?_;refine cG ?_;refine cG ?_;refine qs (ns:=bs) J hi ?_;refine sM st.y0 _ (Z bd.y0) ?_;refine c8 ?_;refine c8 ?_;refine qs (ns:=bs) J hi ?_;refine sM st.y1 _ (Z bd.y1) ?_;refine gB (Pure.slc bs x st.hi) (gB (st.y0++Pure.slc bs st.r0 st.hi) (gB (st.y1++Pure.slc bs st.r1 st.hi) (av rfl ?_)));refine ae (I6 ..) ?_;revert hs hn;have ly0:(st.y0++Pure.slc bs st.r0 st.hi).length≤201000:=by refine ae (aJ ..) ?_;exact sm bd.y0
 have ly1:(st.y1++Pure.slc bs st.r1 st.hi).length≤201000:=by refine ae (aJ ..) ?_;exact sm bd.y1
 generalize st.y0++Pure.slc bs st.r0 st.hi=y0 at *;generalize st.y1++Pure.slc bs st.r1 st.hi=y1 at *;generalize Pure.slc bs x st.hi=o at *;intro hs hn;have V:∀{l:List ag}{n:Nat},l.length≤n→n≤1000000→(M.map dF).length+l.length<2 ^ 24:=λ{l n} h g=>by refine ae (bK ..) ?_;omega
 cases es:Pure.settle o y0 y1 with
 |some sw=>
  have lw:=VE es ly0 ly1;dsimp only;refine av (by refine (?_:(intD sw).length≤_);refine ae (fi ..) ?_;exact az lw (by decide)) ?_
  refine BR ?_ sw;repeat refine vg rfl ?_
  refine cq (x:=.list []) (y:=.list []) (c:=true) rfl ⟨rfl,rfl⟩ ?_;repeat refine vg rfl ?_
  refine av (by refine (?_:(C.map fF).length<_);refine ae (bK ..) ?_;exact cb lC (by decide)) ?_
  refine qs (ns:=bs) J hx ?_;have l2:(Pure.slc bs d x).length+sw.length≤202000:=gy (sl d x) lw;refine sM (Pure.slc bs d x) sw (az l2 (by decide)) ?_
  refine av (V (n:=202000) (by refine ae (fi ..) (ae (aJ ..) ?_);exact l2) (by decide)) ?_
  exact hs sw _ _ _ .mk es (by refine ae (bG ..) ?_;rfl) (by exact ae (bG ..) (ae (bG ..) (ae (sJ ..) (ae (sJ ..) (ae (ku ..) rfl)))))
 |none=>
  dsimp only;repeat refine vg rfl ?_
  refine cq (x:=.list [.list [.list (intD o),.list (intD y0),.list (intD y1)]]) (y:=.list []) (c:=false) rfl ⟨I7 _ _ _,rfl⟩ ?_;refine av (by refine (?_:(W.map gj).length<_);refine ae (bK ..) ?_;exact cb lK (by decide)) ?_
  refine qs (ns:=bs) J hx ?_;have l2:(intD (Pure.slc bs d x)).length+1≤1001:=by refine ae (fi ..) ?_;exact cY (sl d x)
  refine av (az l2 (by decide)) (lG ?_)
  refine av (V (n:=1001) (by refine ae (aJ ..) ?_;exact l2) (by decide)) ?_
  exact hn _ _ _ .mk es (by refine ae (bG ..) ?_;rfl) (by refine ae (bG ..) (ae (bG ..) (ae (sJ ..) ?_));rfl)
theorem VG {c:Pure.bj}{cs r:List Pure.bj}{C:List Pure.Clean}{W:List Pure.jr}{M:List Pure.Ent}{d:Nat}{st:Pure.bf}{tl:List Tr}(ht:lL tl) (Y:bs.length<1000) (hc:∀q∈c::cs,Pure.gF bs q) (hl:(c::cs).length≤64) (lC:C.length≤900) (lK:W.length≤900) (lM:M.length≤900) (Z:Pure.bf.run bs ⟨[],[],[],[],c.1,c.1,c.2.1⟩ (c::cs)=(st,r))
  (hs:(∀q∈r,Pure.gF bs q)→r.length≤64→∀sw tl Cd J,lL tl→Pure.settle (Pure.slc bs c.1 st.hi) (st.y0++Pure.slc bs st.r0 st.hi) (st.y1++Pure.slc bs st.r1 st.hi)=some sw→Cd=(C++[(c.1,st.w0,st.w1)]).map fF→J=(M++((Pure.slc bs d c.1).map Pure.Ent.it++sw.map Pure.Ent.it)).map dF→K .nx (m6 bs t1 t2 r Cd (W.map gj) J st.hi tl))
  (hn:(∀q∈r,Pure.gF bs q)→r.length≤64→∀tl Kd J,lL tl→Pure.settle (Pure.slc bs c.1 st.hi) (st.y0++Pure.slc bs st.r0 st.hi) (st.y1++Pure.slc bs st.r1 st.hi)=none→Kd=(W++[(st.w0,st.w1)]).map gj→J=(M++((Pure.slc bs d c.1).map Pure.Ent.it++[Pure.Ent.cf (Pure.slc bs c.1 st.hi) (st.y0++Pure.slc bs st.r0 st.hi) (st.y1++Pure.slc bs st.r1 st.hi)])).map dF→K .nx (m6 bs t1 t2 r (C.map fF) Kd J st.hi tl)) :
  bq sN Jp (m6 bs t1 t2 (c::cs) (C.map fF) (W.map gj) (M.map dF) d tl) K:=by
 have V:=hc c (.head _);have hi:st.hi≤bs.length:=by
  have:=Pure.bf.D0 (bs:=bs) (n:=bs.length) (c::cs) ⟨[],[],[],[],c.1,c.1,c.2.1⟩ V.2.2.2.1 λq hq=>(hc q hq).2.2.2.1;rw [Z] at this;exact this
 cases ht with
 |mk=>
  refine cG ?_;refine cG ?_;refine cG ?_;refine c8 ?_;repeat refine vg rfl ?_
  refine VC (st:=⟨[],[],[],[],c.1,c.1,c.2.1⟩) hc Y ⟨bh _,bh _,bh _,bh _⟩ hl λoU fO a b c' d' e E=>?_;cases Z.symm.trans E.r
  exact VF Y V.2.2.1 hi E.b lC lK lM (hs E.k (az E.l hl)) (hn E.k (az E.l hl))
inductive Jr (bs:List Int) (t1 t2:Tr) (C:List Pure.Clean) (Kl:List Pure.jr) (M:List Pure.Ent) (n:Nat):List Tr→Prop
 |mk {cs:List Pure.bj}{d:Nat}{C0 C1:List Pure.Clean}{K0 K1:List Pure.jr}{M0 M1:List Pure.Ent}{tl:List Tr}:Pure.fv bs n cs d C1 K1 M1→C=C0++C1→Kl=K0++K1→M=M0++M1→(∀c∈cs,Pure.gF bs c)→cs.length≤64→lL tl→Jr bs t1 t2 C Kl M n (m6 bs t1 t2 cs (C0.map fF) (K0.map gj) (M0.map dF) d tl)
theorem VH {cs:List Pure.bj}{C:List Pure.Clean}{Y:List Pure.jr}{M:List Pure.Ent}{n:Nat}{tl:List Tr}(V:lL tl) (hb:bs.length<1000) (hc:∀c∈cs,Pure.gF bs c) (hl:cs.length≤64) (hM:Pure.fv bs n cs 0 C Y M) (nC:C.length≤900) (nK:Y.length≤900) (nM:M.length≤900)
  (h:∀d Z tl,lL tl→M=Z++(bs.drop d).map .it→K .nx (m6 bs t1 t2 [] (C.map fF) (Y.map gj) (Z.map dF) d tl)):bq sN Jq (m6 bs t1 t2 cs [] [] [] 0 tl) K:=by
 refine mE.mk (Jr bs t1 t2 C Y M) n (.mk (C0:=[]) (K0:=[]) (M0:=[]) hM rfl rfl rfl hc hl V) λn σ J=>?_;have le:∀{α:Type}{a b c:List α},c=a++b→c.length≤900→a.length≤900:=λe h=>by
  rw [e,aJ] at h;exact az (bc _ _) h
 have ap:∀{α:Type}{a b c d:List α},c=a++(b++d)→c=(a++b)++d:=λe=>e.trans (aH ..).symm;cases J with
 |@mk fO d C0 C1 K0 K1 M0 M1 tl hm e1 e2 e3 hk W V=>
  refine av (aL rfl) ?_;refine cq (Jl fO) ⟨Jk hk,rfl⟩ ?_;have turn:=λ{K':KS}{c cs r st}=>VG (K:=K') (t1:=t1) (t2:=t2) (c:=c) (cs:=cs) (r:=r) (st:=st) (d:=d) V hb (lC:=le e1 nC) (lK:=le e2 nK) (lM:=le e3 nM);cases hm with
  |done=>
   rw [bt] at e1 e2;clear turn;subst e1 e2;exact h d M0 tl V e3
  |@clean n _ c cs r st sw C' _ Z hr hs hm=>
   refine turn hk W hr (λhk hl Zd tl Cd Md V e q1 q2=>?_) λzz zz zz zz zz zz e=>El.sn (hs.symm.trans e);cases hs.symm.trans e
   subst q1 q2;exact El.aD n (lP _) (.mk hm (ap (b:=[_]) e1) e2 (ap (e3.trans (congrArg _ (aH ..).symm))) hk hl V)
  |@D3 n _ c cs r st _ K' Z hr hs hm=>
   refine turn hk W hr (λzz zz zz zz zz zz zz e=>El.ns (hs.symm.trans e)) λhk hl tl Kd Md V e q1 q2=>?_;subst q1 q2;exact El.aD n (lP _) (.mk hm e1 (ap (b:=[_]) e2) (ap (e3.trans (congrArg _ (aH (bs:=[_]) ..).symm))) hk hl V)
end
theorem Js {as bs:List Int}{L:List Pure.aX}(h:Pure.pH as bs L):(Pure.gS (Pure.joined L as.length bs.length)).2.length<1000∧(Pure.joined L as.length bs.length).length<400:=by
 have:=h.len;have e:(Pure.joined L as.length bs.length).length=L.length+1:=by refine ae (h.join ..) (ae (aJ ..) ?_);rfl
 exact ⟨cb (Pure.LV _) (by refine ae (e ..) ?_;omega),by exact (Lin.ak (.c _ (.c _ .z)) .z 1 (.c 1 (.ak (.v 1) (.n 63)) (.c 1 (.aw (.v 0) (.a (.v 1) (.n 1))) .z)) (.v 0) (.n 400) rfl this e)⟩
theorem Jt {as bs:List Int}{L:List Pure.aX}{x:ao×ao}{bd:Int→Option ag}{k:ag→List aY→Prop}(J:Pure.pH as bs L) (na:as.length<200) (nb:bs.length<200) (W:vZ bs bd) (h:∀V,k (.list ((Pure.gS (Pure.joined L as.length bs.length)).2.map fD)) V):mX (kj km) x (vY as bs true bd) [] k:=by
 have e:Pure.dJ (Pure.iC (λi=>as.getD i 0) (λi=>bs.getD i 0) (Pure.places (λi=>bs.getD i 0) bs.length) λzz=>false) (0,as.length,0,bs.length)=L:=J.blocks.ro (bh _) (bh _) (aI _);have Y:∀c,(Pure.places (λi=>bs.getD i 0) bs.length c).length<2 ^ 24:=λc=>cb (Pure.places_len _ _ c) (eY nb (by decide))
 refine ⟨rfl,rfl,rfl,(Pure.iC (λi=>as.getD i 0) (λi=>bs.getD i 0) (Pure.places (λi=>bs.getD i 0) bs.length) λzz=>false),as,bs,rfl,rfl,rfl,⟨eY na (by decide),eY nb (by decide)⟩,(λalo ahi blo bhi k Z h2 h3 h4 hk=>⟨alo,ahi,blo,bhi,as,bs,_,bd,_,rfl,rfl,rfl,rfl,rfl,W,Y,(El.aK Z h2 (eY na (by decide))),(El.aK h3 h4 (eY nb (by decide))),hk⟩),Pure.DH _ _ _ _,?_⟩
 refine ae (e ..) ?_;exact ⟨J.len,J.pw,_,rfl,(Js J).2,h _⟩
noncomputable abbrev BZ (i:Nat):SE:=.uE 1 (.new 0 (.cons (.lit .none) (.cons (.var 0) (.cons (.var i) .nil)))) .nil
noncomputable def Ju:SS:=(.seq (.asg 3 .own (.fn 0 (.cons (BZ 1) (.cons (.var 0) (.cons (.var 1) (.cons (.lit (.int (0))) .nil)))))) (.seq (.asg 3 .own (.fn 1 (.cons (.bin .Add (.var 3) (.fn 0 (.cons (BZ 2) (.cons (.var 0) (.cons (.var 2) (.cons (.lit (.int (1))) .nil)))))) .nil))) (.seq (.kZ [(4,.own),(5,.own),(6,.own),(7,.fr)] (.tup (.cons (.lst .nil) (.cons (.lst .nil) (.cons (.lst .nil) (.cons (.lit (.int (0))) .nil)))))) (.seq Jq (.seq (.seq (.fz 4) (.seq (.fz 5) (.ret (.tup (.cons (.var 4) (.cons (.var 5) (.cons (.bin .Add (.var 6) (.slc (.var 0) (.var 7) .nil)) .nil))))))) .nil)))))
structure B0 (bs o1 o2:List Int) (t:Pure.Res):Prop where
 m:∃L1 L2 cs n,Pure.Mg bs o1 o2 L1 L2 cs n t
 nb:bs.length<200
 n1:o1.length<200
 n2:o2.length<200
 c:t.1.length≤900
 k:t.2.1.length≤900
 e:t.2.2.length≤900
noncomputable def mergeF:iK:=(false,λds k=>∃bs o1 o2 t,ds=[.list (intD bs),.list (intD o1),.list (intD o2)]∧B0 bs o1 o2 t∧k (ks t))
theorem VI (ns:List Int) (d:Nat):fS (intD ns) (some (d:Int)) none=intD (ns.drop d):=by
 refine ae (qi ..) ?_;unfold intD;refine (?_:o7 (_-d5 _ (d:Int)) (qL (d5 _ (d:Int)) _)=_);refine ae (sx ..) (ae (bK ..) (ae (C2 ..) ?_));by_cases h:d≤ns.length
 ·refine ae (oY h ..) ?_;exact w4 (by refine ae (kD ..) (ae (bK ..) ?_);exact aI _)
 ·refine ae (KP (by exact (et (ee.mp h))) ..) ?_
  refine (?_:o7 (ns.length-ns.length) _=_);rw [wA,List.take_zero,Yo (by rw [bK];omega)]
section
variable {bs ts:List Int}{σ:List Tr}{L:List Pure.aX}
theorem Jv {i:Nat}{sd:Nat}{t1 t2:Tr}{tl:List Tr}{k:List Ev→Prop}(J:Pure.pH bs ts L) (hi:i=1∧t1=.dat (.list (intD ts))∨i=2∧t2=.dat (.list (intD ts))) (nb:bs.length<200) (nt:ts.length<200) (h:k [bw (.list (fE (Pure.dj sd ts (Pure.gS (Pure.joined L bs.length ts.length)).2)))]) :
  den sN (.fn 0 (.cons (BZ i) (.cons (.var 0) (.cons (.var i) (.cons (.lit (.int sd)) .nil))))) (.dat (.list (intD bs))::t1::t2::tl) k:=by
 have fin:sy.2 [.list ((Pure.gS (Pure.joined L bs.length ts.length)).2.map fD),.list (intD bs),.list (intD ts),.int sd] λd=>k [bw d]:=(El.jS _ bs ts sd rfl (El.cy J.alt (eY nb (by decide)) (eY nt (by decide)) (Js J).1) h)
 rcases hi with ⟨rfl,rfl⟩ | ⟨rfl,rfl⟩
 ·refine λx=>.mk (sp:=qm) rfl rfl rfl (El.iB bs ts rfl rfl nt (λbd V=>⟨rfl,?_⟩));exact .mk (.mk (sp:=mX (kj km)) rfl rfl rfl (Jt J nb nt V λzz=>fin))
 ·refine λx=>.mk (sp:=qm) rfl rfl rfl (El.iB bs ts rfl rfl nt (λbd V=>⟨rfl,?_⟩));exact .mk (.mk (sp:=mX (kj km)) rfl rfl rfl (Jt J nb nt V λzz=>fin))
end
theorem VJ {c d:Pure.bj}(hc:c.2.1<2048∧c.2.2.1<2) (hd:d.2.1<2048∧d.2.2.1<2) (h:Pure.f9 c<Pure.f9 d):Bo (mV c) (mV d)=some true:=by
 have step:∀{a b:Nat}{xs ys:List ag}{p:Prop},(a<b∨a=b∧p)→(p→jF xs ys=some true)→jF (.int a::xs) (.int b::ys)=some true:=λ{a b xs ys p} h g=>by
  refine (?_:(if (a:Int)=b then jF xs ys else some (decide ((a:Int)<b)))=_);rcases h with h | ⟨rfl,h⟩
  ·exact ae (if_neg (by exact (λV=>(Lin.no (.c _ (.c _ .z)) .z (.c 1 (.ak (.v 0) (.v 1)) (.c 1 (.bW (.o (.v 1)) (.o (.v 0))) .z)) rfl h (cB V)))) ..) (ae (decide_eq_true (de.mpr h) ..) rfl)
  ·refine ae (if_pos rfl ..) ?_;exact g h
 have h:=(Pure.L3 hc hd).mpr h;exact step (p:=c.2.1<d.2.1∨c.2.1=d.2.1∧(c.2.2.1<d.2.2.1∨c.2.2.1=d.2.2.1∧False)) (by exact (Or.elim h (λJ=>(.inl (Lin.ak (.c _ (.c _ .z)) .z 1 (.c 1 (.aM (.o (.v 0)) (.o (.v 1))) .z) (.v 0) (.v 1) rfl J))) λJ=>(.inr ⟨(bJ (Lin.ah (.c _ (.c _ .z)) .z 1 (.c 1 (.bW (.o (.v 0)) (.o (.v 1))) .z) (.v 0) (.v 1) rfl J.1) (Lin.ah (.c _ (.c _ .z)) .z 1 (.c 1 (.bW (.o (.v 0)) (.o (.v 1))) .z) (.v 0) (.v 1) rfl (cB J.1))),(by lia)⟩))) λh=>step h λh=>step h λh=>h.elim
theorem VK {bs:List Int}{c:Pure.bj}(h:Pure.gF bs c):vT (mV c):=
 have i:∀n:Int,dX (.int n):=λn=>(Lay.int n).shaped (by decide)
 .mk (bH.mpr ⟨i _,bH.mpr ⟨i _,bH.mpr ⟨i _,bH.mpr ⟨(Lay.str (BV h.2.1)).shaped (by decide),cR.mpr (gY _)⟩⟩⟩⟩)
theorem VL {ds:List ag}{k:ag→Prop}(h:mergeF.2 ds k):ds.length=3∧bq sN Ju (init ds 16) (lB k):=by
 refine El.fL h ?_;clear h;intro bs o1 o2 t V Y h;subst V;obtain ⟨⟨L1,L2,cs,n,hm⟩,nb,n1,n2,nC,nK,nM⟩:=Y;have Z:=hm.perm;have hf:=hm.fw;have bd:∀c∈cs,c.2.1<2048∧c.2.2.1<2:=λc hc=>by
  refine El.nJ (hm.ok c hc) λa zz zz b zz=>?_;exact ⟨by exact (Lin.ak (.c _ (.c _ .z)) .z 1 (.c 1 (.ak (.v 1) (.n 200)) (.c 1 (.ah (.v 0) (.v 1)) .z)) (.v 0) (.n 2048) rfl nb b),by exact (Or.elim a (λJ=>(Lin.ak (.c _ .z) .z 1 (.c 1 (.aw (.v 0) (.n 0)) .z) (.v 0) (.n 2) rfl J)) λJ=>(Lin.ak (.c _ .z) .z 1 (.c 1 (.aw (.v 0) (.n 1)) .z) (.v 0) (.n 2) rfl J))⟩
 refine ⟨rfl,?_⟩;refine Jv (sd:=0) hm.one (.inl ⟨rfl,rfl⟩) nb n1 ?_;refine Jv (sd:=1) hm.other (.inr ⟨rfl,rfl⟩) nb n2 ?_;have lp:=Z.length_eq;rw [aJ] at lp;refine av (by refine (?_:(fE _).length+(fE _).length≤_);unfold fE cE;refine ae (bK ..) (ae (bK ..) ?_);omega) (lG ?_)
 refine gB _ (gB (fE cs) (av rfl (av (El.cy ?_ ?_ ?_ (λr W=>?_)) ?_)))
 ·unfold fE;refine ae (bG ..).symm ?_;exact (Z.map mV).symm
 ·unfold fE;rw [Kr];exact hm.sort.imp_of_mem λha hb h=>VJ (bd _ ha) (bd _ hb) h
 ·unfold fE;rw [aJ,bK,bK];exact (Lin.ak (.c _ (.c _ (.c _ .z))) .z 1 (.c 1 (.ak (.v 2) (.n 64)) (.c 1 (.aw (.a (.v 0) (.v 1)) (.v 2)) .z)) (.a (.v 0) (.v 1)) (.n 64) rfl hf (cB lp))
 ·unfold fE at W;rw [←bG] at W;refine El.au (bL.mp W) λc hc V=>?_;clear W;subst V;exact VK (hm.ok c (Z.mem_iff.mpr hc))
 repeat refine vg rfl ?_
 refine VH .mk (eY nb (by decide)) hm.ok (et hf) hm.Mq nC nK nM λd M' tl ht e=>?_
 refine av (qj (ns:=bs) (by exact (Lin.ak (.c _ .z) .z 1 (.c 1 (.ak (.v 0) (.n 200)) .z) (.v 0) (.n 2000) rfl nb))) (.mk (VI bs d) ?_)
 have lM:=congrArg JX e;rw [aJ] at lM;refine av (by refine (?_:(M'.map dF).length+(intD _).length≤_);refine ae (bK ..) (ae (fi ..) (ae (kD ..) ?_));unfold cE;omega) (.mk (w:=t.2.2.map dF) ?_ ?_)
 ·exact ae (e ..) (ae (bG ..) (ae (sJ ..) rfl))
 repeat refine vg rfl ?_
 exact h
section
variable {w:aR}{D:Nat}
theorem VM (P:aG):(K P).lookup 277=some ⟨.type "function",none,.func (jg 11 "_law_merge" (.ref 276)),#[]⟩:=by kernel_rfl!
theorem VN (P:aG):fW (K P) (.ref 276) "_law_merge"=true:=by kernel_rfl!
theorem VO (x y z:af):gP (jg 11 "_law_merge" (.ref 276)) ⟨[x,y,z],[]⟩=pure [(ai.ofString "base",x),(ai.ofString "one",y),(ai.ofString "other",z)]:=by kernel_rfl!
theorem VP (P:aG):makesIn (K P) 242=true:=by kernel_rfl!
theorem VQ (P:aG):qT (K P) (.ref 242) "__init__"=some (some (.ref 160)):=by kernel_rfl!
theorem VR (P:aG):isFn (K P) (.ref 160)=true:=by kernel_rfl!
noncomputable abbrev VS:Hn:=⟨λi=>if ([3,4,5,6,10,11,12]:List Nat).contains i then .own else .fr,[(532,10),(535,4),(535,5)]⟩
noncomputable abbrev VT:Mn:=⟨ai.ofString "__init__",.ref 160,qm⟩
noncomputable abbrev VU:Mn:=⟨ai.ofString "get_opcodes",.ref 210,mX (kj km)⟩
noncomputable abbrev VV:Fn:=⟨ai.ofString "_law_changes",.ref 272,sy⟩
noncomputable abbrev VW:Fn:=⟨ai.ofString "sorted",.builtin "sorted",Bp⟩
theorem VX:qk w (D+7) 277 mergeF:=
 sq (fs:=⟨[VV,VW,BX],[VT,VU]⟩) (H:=VS) (dd:=14) (nn:=14) (ps:=["base","one","other"]) (ls':=["rows","clean","clash","merged","done","low","high","words","ways","reach","i1","i2","side","tag","text","way"]) ⟨(VM w.params),(VN w.params),rfl,by decide +kernel,by decide +kernel,by decide +kernel,by kernel_rfl!,by kernel_rfl!,by kernel_rfl!,by decide +kernel⟩ (Iu λx y z=>VO x y z) (hH w.params) (hW w)
  (bH.mpr ⟨⟨.inl ⟨by kernel_rfl!,by kernel_rfl!⟩,Uu⟩,bH.mpr ⟨⟨.inr ⟨by kernel_rfl!,rfl,by decide +kernel,_,rfl⟩,λC e1 e2 W=>SD (by have:=W.hu;omega)⟩,cR.mpr Jf⟩⟩)
  (bH.mpr ⟨(El.aK (El.aD 160 rfl (by kernel_rfl!)) I1 (Sz (VP _) (VQ _) (VR _) I1 (by kernel_rfl!) (by kernel_rfl!))),cR.mpr (El.aK (El.aD 210 rfl (by kernel_rfl!)) Vd (oN (show ai.ofString "get_opcodes"≠ai.ofString "__init__" from by decide +kernel)))⟩) (ir:=Ju) (by kernel_rfl!) λds k h=>VL h
end
noncomputable abbrev B1:SS:=(.seq (.asg 14 .fr (.bin .FloorDiv (.bin .FloorDiv (.var 8) (.lit (.int (3)))) (.bin .Add (.lit (.int (1))) (.var 13)))) (.seq (.asg 15 .fr (.bin .Mult (.lit (.int (4))) (.bin .Mod (.bin .FloorDiv (.var 14) (.lit (.int (4)))) (.var 2)))) (.seq (.app (.var 12) (.ite (.cmp .Eq (.bin .Mod (.bin .FloorDiv (.var 7) (.bin .Add (.lit (.int (1))) (.var 13))) (.lit (.int (2)))) (.lit (.int (1)))) (.sub (.tup (.cons (.lst (.cons (.var 10) (.cons (.var 15) (.cons (.var 11) .nil)))) (.cons (.lst (.cons (.var 10) .nil)) (.cons (.lst (.cons (.var 11) (.cons (.var 15) (.cons (.var 10) .nil)))) (.cons (.lst (.cons (.var 10) (.cons (.var 11) .nil))) .nil))))) (.bin .Mod (.var 14) (.lit (.int (4))))) (.lst (.cons (.var 9) .nil)))) .nil)))
noncomputable abbrev B2:SS:=(.seq (.eQ [(7,.fr),(8,.fr)] (.cons (.bi .max (.cons (.lit (.int (0))) (.cons (.bin .Sub (.bin .Mod (.var 6) (.lit (.int (6)))) (.lit (.int (2)))) .nil))) (.cons (.bin .FloorDiv (.var 6) (.lit (.int (6)))) .nil))) (.seq (.kZ [(9,.fr),(10,.fr),(11,.fr),(12,.own)] (.tup (.cons (.bin .Add (.bin .Mult (.lit (.int (4))) (.bin .Mod (.var 8) (.var 2))) (.var 7)) (.cons (.bin .Sub (.neg (.lit (.int (2)))) (.bin .Mult (.lit (.int (2))) (.var 5))) (.cons (.bin .Sub (.neg (.lit (.int (3)))) (.bin .Mult (.lit (.int (2))) (.var 5))) (.cons (.lst .nil) .nil)))))) (.seq (.dY [(13,.fr)] false (.seq (.tup (.cons (.lit (.int (0))) (.cons (.lit (.int (1))) .nil)))) B1) (.seq (.seq (.fz 12) (.ext (.var 3) (.bin .Mult (.lst (.cons (.tup (.cons (.var 9) (.cons (.sub (.var 12) (.lit (.int (0)))) (.cons (.sub (.var 12) (.lit (.int (1)))) .nil)))) .nil)) (.ite (.cmp .Eq (.var 7) (.lit (.int (0)))) (.lit (.int (2))) (.lit (.int (1))))))) (.seq (.ext (.var 4) (.ite (.cmp .Eq (.var 7) (.lit (.int (0)))) (.lst (.cons (.var 9) (.cons (.var 9) .nil))) (.lst .nil))) .nil)))))
noncomputable def Jw:SS:=(.seq (.asg 1 .fr (.ite (.tv (.var 0)) (.sub (.var 0) (.lit (.int (0)))) (.lit (.int (0))))) (.seq (.eQ [(2,.fr),(3,.own),(4,.own)] (.cons (.bin .Add (.lit (.int (1))) (.bin .Mod (.var 1) (.lit (.int (3))))) (.cons (.lst .nil) (.cons (.lst (.cons (.neg (.lit (.int (1)))) .nil)) .nil)))) (.seq (.dY [(5,.fr),(6,.fr)] true (.rN (.bin .Add (.slc (.var 0) (.lit (.int (1))) (.lit (.int (17)))) (.lst (.cons (.lit (.int (0))) (.cons (.lit (.int (3))) (.cons (.lit (.int (0))) (.cons (.lit (.int (0))) (.cons (.lit (.int (5))) (.cons (.lit (.int (0))) (.cons (.lit (.int (3))) (.cons (.lit (.int (4))) (.cons (.lit (.int (0))) .nil)))))))))))) B2) (.seq (.seq (.fz 4) (.asg 16 .fr (.sub (.tup (.cons (.tup (.cons (.var 4) (.cons (.lst .nil) .nil))) (.cons (.tup (.cons (.lst .nil) (.cons (.var 4) .nil))) (.cons (.tup (.cons (.var 4) (.cons (.var 4) .nil))) (.cons (.tup (.cons (.lst .nil) (.cons (.lst .nil) .nil))) .nil))))) (.bin .Mod (.bin .FloorDiv (.var 1) (.lit (.int (3)))) (.lit (.int (4))))))) (.seq (.ret (.bin .Add (.var 3) (.lst (.cons (.tup (.cons (.lit (.str (ai.ofString "end"))) (.cons (.bin .Add (.sub (.var 16) (.lit (.int (0)))) (.lst (.cons (.lit (.str (ai.ofString "end"))) .nil))) (.cons (.bin .Add (.sub (.var 16) (.lit (.int (1)))) (.lst (.cons (.lit (.str (ai.ofString "end"))) .nil))) .nil)))) .nil)))) .nil)))))
theorem Jx {α:Type}{l:List α}{n:Int}{y:α}{k:Nat→α→Prop}(hl:l.length=4) (h:0≤n∧n<4) (hx:l[n.toNat]? = some y) (hk:∀j,k j y):iL l n k:=
 .mk (by
  have e:(decide (0≤n) && decide (n<(l.length:Int)))=true:=by refine ae (hl ..) (ae (decide_eq_true h.1 ..) ?_);exact decide_eq_true h.2
  have q:(if n<0 then n+(l.length:Int) else n)=n:=if_neg (by exact (λJ=>(Lin.no .z (.c _ .z) (.c 1 (.aA (.n 0) (.v 0)) (.c 1 (.aM (.v 0) (.n 0)) .z)) rfl h.1 J)))
  unfold kN;simp only [q,e,if_true]) hx ⟨by exact (Lin.aA .z (.c _ .z) 1 (.c 1 (.aA (.n 0) (.v 0)) .z) (.g (.n 9223372036854775808)) (.v 0) rfl h.1),by exact (Lin.aM .z (.c _ .z) 1 (.c 1 (.aM (.v 0) (.n 4)) .z) (.v 0) (.n 9223372036854775808) rfl h.2)⟩ (hk _)
noncomputable def ky (code left so item:Int) (t:Nat) (d:Int):List Int:=if code / d % 2=1 then Pure.jV so t (left / 3 / d) else [item]
section
variable {t0 t1 t3 t4 t5 t6 cz cA cv:Tr}{so code left item s:Int}{t:Nat}{ws:List ag}{K:KS}{fs:da}
theorem VY {m:Int}:[Tr.dl [.int (Pure.f1 t),.int (Pure.pJ so m),.int (Pure.f2 t)],.dl [.int (Pure.f1 t)],.dl [.int (Pure.f2 t),.int (Pure.pJ so m),.int (Pure.f1 t)],.dl [.int (Pure.f1 t),.int (Pure.f2 t)]][(m % 4).toNat]? = some (.dl (intD (Pure.jV so t m))):=by
 unfold Pure.jV;by_cases h0:m % 4=0
 ·refine ae (if_pos h0 ..) (ae (h0 ..) ?_);rfl
 ·refine ae (if_neg h0 ..) ?_;by_cases W:m % 4=1
  ·refine ae (if_pos W ..) (ae (W ..) ?_);rfl
  ·refine ae (if_neg W ..) ?_;by_cases Y:m % 4=2
   ·refine ae (if_pos Y ..) (ae (Y ..) ?_);rfl
   ·refine ae (if_neg Y ..) (ae (show m % 4=3 by exact (Or.elim (kC W) (λV=>(Or.elim (kC h0) (λJ=>(eK (Lin.aA .z (.c _ .z) 1 (.c 1 (.aM (.v 0) (.n 0)) .z) (.v 0) (.n 3) rfl J) (Lin.aA .z (.c _ .z) 0 (.c 1 (.aA (.n 0) (.v 0)) (.c 1 (.aM (.v 0) (.n 0)) .z)) (.n 3) (.v 0) rfl (Lin.tG _ _ (by decide)) J))) λJ=>(eK (Lin.aA .z (.c _ .z) 1 (.c 1 (.aM (.v 0) (.n 1)) .z) (.v 0) (.n 3) rfl V) (Lin.aA .z (.c _ .z) 0 (.c 1 (.aM (.v 0) (.n 1)) (.c 1 (.aM (.n 0) (.v 0)) .z)) (.n 3) (.v 0) rfl V J)))) λV=>(Or.elim (kC Y) (λJ=>(eK (Lin.aA .z (.c _ .z) 1 (.c 1 (.aM (.v 0) (.n 2)) .z) (.v 0) (.n 3) rfl J) (Lin.aA .z (.c _ .z) 0 (.c 1 (.aM (.n 1) (.v 0)) (.c 1 (.aM (.v 0) (.n 2)) .z)) (.n 3) (.v 0) rfl V J))) λJ=>(eK (Lin.aA .z (.c _ .z) 1 (.c 1 (.aM (.v 0) (.n 4)) .z) (.v 0) (.n 3) rfl (C4 _ (by decide))) (Lin.aA .z (.c _ .z) 1 (.c 1 (.aM (.n 2) (.v 0)) .z) (.n 3) (.v 0) rfl J))))) ?_);rfl
theorem Jy (hs:0≤s∧s≤1) (J:0<so) (hw:ws.length<100)
  (h:∀a b,K .nx [t0,t1,.dat (.int so),t3,t4,t5,t6,.dat (.int code),.dat (.int left),.dat (.int item),.dat (.int (Pure.f1 t)),.dat (.int (Pure.f2 t)),.dl (ws++[.list (intD (ky code left so item t (1+s)))]),.dat (.int s),a,b,cv]) :
  bq fs B1 [t0,t1,.dat (.int so),t3,t4,t5,t6,.dat (.int code),.dat (.int left),.dat (.int item),.dat (.int (Pure.f1 t)),.dat (.int (Pure.f2 t)),.dl ws,.dat (.int s),cz,cA,cv] K:=by
 refine av (by decide) ?_
 refine av (by exact ⟨(Lin.aM .z (.c _ .z) 1 (.c 1 (.aA (.n 0) (.v 0)) .z) (.n 0) (.a (.n 1) (.v 0)) rfl hs.1),(by exact (Lin.aM .z (.c _ .z) 1 (.c 1 (.aA (.v 0) (.n 1)) .z) (.a (.n 1) (.v 0)) (.n 1073741824) rfl hs.2))⟩) ?_
 refine av (by decide) ?_
 refine av J ?_;refine av (by decide) ?_
 refine av (by exact ⟨(Lin.aM .z (.c _ .z) 1 (.c 1 (.aA (.n 0) (.v 0)) .z) (.n 0) (.a (.n 1) (.v 0)) rfl hs.1),(by exact (Lin.aM .z (.c _ .z) 1 (.c 1 (.aA (.v 0) (.n 1)) .z) (.a (.n 1) (.v 0)) (.n 1073741824) rfl hs.2))⟩) ?_
 refine av (by decide) ?_
 refine cq (lH _ _) ⟨rfl,rfl⟩ ?_;unfold ky at h;refine aZ.dec (λe=>?_) λe=>?_
 ·rw [if_pos e] at h;repeat refine vg rfl ?_
  refine av (by decide) ?_
  refine Jx rfl (by exact ⟨(Lin.aA .z (.c _ .z) 1 (.c 1 (.aA (.n 0) (.v 0)) .z) (.n 0) (.v 0) rfl (Lin.tG _ _ (by decide))),(Lin.aM .z (.c _ .z) 1 (.c 1 (.aM (.v 0) (.n 4)) .z) (.v 0) (.n 4) rfl (C4 _ (by decide)))⟩) VY λj=>?_
  refine av (by simp only [fw];omega) ?_
  exact h _ _
 ·rw [if_neg e] at h;repeat refine vg rfl ?_
  refine av (by simp only [fw];omega) ?_
  exact h _ _
end
theorem VZ {fs:da}{i j:Nat}{b:SS}{k:KS}{V W:ag}{ds:List ag}{σ:List Tr}(h:bq fs b ((σ.set i (.dat V)).set j (.dat W)) (λf J=>match f with | .nx=>dc (ed fs [(i,.fr),(j,.fr)] true b) k ds J | .cnt=>dc (ed fs [(i,.fr),(j,.fr)] true b) k ds J | .brk=>k .nx J | .ret e=>k (.ret e) J)):dc (ed fs [(i,.fr),(j,.fr)] true b) k (.tuple [V,W]::ds) σ:=h
noncomputable def sO (so:Int) (t:Nat) (x:Int):List Pure.Cl:=if Pure.bX x=0 then [Pure.cW so t x,Pure.cW so t x] else [Pure.cW so t x]
theorem Jz (so:Int) (t:Nat) (x:Int):eS (Pure.cW so t x)=.tuple [.int (Pure.c5 so x),.list (intD (ky (Pure.bX x) (x / 6) so (Pure.c5 so x) t (1+0))),.list (intD (ky (Pure.bX x) (x / 6) so (Pure.c5 so x) t (1+1)))]:=by
 have a:Pure.wy ((Pure.cW so t x).1,(Pure.cW so t x).2.1)=ky (Pure.bX x) (x / 6) so (Pure.c5 so x) t (1+0):=by
  refine ae (show (1+0:Int)=1 from rfl) ?_;unfold ky Pure.wy Pure.cW;dsimp only;by_cases e:Pure.bX x / 1 % 2=1
  ·refine ae (if_pos e ..) (ae (if_pos e ..) ?_);rfl
  ·refine ae (if_neg e ..) (ae (if_neg e ..) ?_);rfl
 have b:Pure.wy ((Pure.cW so t x).1,(Pure.cW so t x).2.2)=ky (Pure.bX x) (x / 6) so (Pure.c5 so x) t (1+1):=by
  refine ae (show (1+1:Int)=2 from rfl) ?_;unfold ky Pure.wy Pure.cW;dsimp only;by_cases e:Pure.bX x / 2 % 2=1
  ·refine ae (if_pos e ..) (ae (if_pos e ..) ?_);rfl
  ·refine ae (if_neg e ..) (ae (if_neg e ..) ?_);rfl
 unfold eS;refine ae (a ..) (ae (b ..) ?_);rfl
section
variable {t0 t1 t3 t4 t5 t6 t7 t8 t9 bN bE aV bg cz cA cv:Tr}{so code left item x:Int}{t:Nat}{K:KS}{fs:da}
theorem V0 {l:List ag}(hl:l=[.int 0,.int 1]) (J:0<so)
  (h:∀a b,K .nx [t0,t1,.dat (.int so),t3,t4,t5,t6,.dat (.int code),.dat (.int left),.dat (.int item),.dat (.int (Pure.f1 t)),.dat (.int (Pure.f2 t)),.dl [.list (intD (ky code left so item t (1+0))),.list (intD (ky code left so item t (1+1)))],.dat (.int 1),a,b,cv]) :
  dc (ed fs [(13,.fr)] false B1) K l [t0,t1,.dat (.int so),t3,t4,t5,t6,.dat (.int code),.dat (.int left),.dat (.int item),.dat (.int (Pure.f1 t)),.dat (.int (Pure.f2 t)),.dl [],bg,cz,cA,cv]:=by
 subst hl;exact gL (Jy (s:=0) ⟨by decide,by decide⟩ J (by decide) λa b=>gL (Jy (s:=1) ⟨by decide,by decide⟩ J (by refine (?_:1<100);decide) h))
theorem V1 {cl:List ag}{cp:List Int}(J:0<so) (hl:cl.length<1000) (hc:cp.length<1000)
  (h:∀a5 a6 a7 a8 a9 V W Y Z jC jD jE,K .nx [t0,t1,.dat (.int so),.dl (cl++(sO so t x).map eS),.dl (intD (cp++if Pure.bX x=0 then [Pure.c5 so x,Pure.c5 so x] else [])),a5,a6,a7,a8,a9,V,W,Y,Z,jC,jD,jE]) :
  bq fs B2 [t0,t1,.dat (.int so),.dl cl,.dl (intD cp),.dat (.int t),.dat (.int x),t7,t8,t9,bN,bE,aV,bg,cz,cA,cv] K:=by
 refine av (by decide) ?_
 refine av (by decide) ?_
 refine av (aL rfl) ?_;refine av J ?_;refine av (by decide) ?_
 refine av (by decide) ?_
 refine av (by decide) ?_
 repeat refine vg rfl ?_
 refine V0 (code:=Pure.bX x) (left:=x / 6) (item:=Pure.c5 so x) (t:=t) rfl J λa b=>?_;have lc:(intD cp).length=cp.length:=bK ..;unfold sO at h;by_cases c:Pure.bX x=0
 ·rw [if_pos c,if_pos c] at h;refine cG ?_;refine c8 ?_;repeat refine vg rfl ?_
  refine cq (lH _ _) ⟨rfl,rfl⟩ (aZ.yes (decide_eq_true c) ?_);refine av (El.aK (by decide) (by decide) (aL rfl)) (.mk (w:=[eS (Pure.cW so t x),eS (Pure.cW so t x)]) (by refine ae (Jz ..) ?_;rfl) ?_)
  refine av (by refine (?_:cl.length+2<_);omega) ?_
  refine cq (lH _ _) ⟨rfl,rfl⟩ (aZ.yes (decide_eq_true c) ?_);repeat refine vg rfl ?_
  refine av (by refine (?_:(intD cp).length+2<_);omega) ?_
  unfold intD at h;rw [bG] at h;exact h _ _ _ _ _ _ _ _ _ _ _ _
 ·rw [if_neg c,if_neg c] at h;refine cG ?_;refine c8 ?_;repeat refine vg rfl ?_
  refine cq (lH _ _) ⟨rfl,rfl⟩ (aZ.no (decide_eq_false c) ?_);refine av (El.aK (by decide) (by decide) (aL rfl)) (.mk (w:=[eS (Pure.cW so t x)]) (by refine ae (Jz ..) ?_;rfl) ?_)
  refine av (by refine (?_:cl.length+1<_);omega) ?_
  refine cq (lH _ _) ⟨rfl,rfl⟩ (aZ.no (decide_eq_false c) ?_);repeat refine vg rfl ?_
  refine av (by refine (?_:(intD cp).length+0<_);omega) ?_
  unfold intD at h;rw [bG] at h;exact h _ _ _ _ _ _ _ _ _ _ _ _
theorem JA {K:KS}(W:0<so):∀(xs:List Int) {t:Nat}{cl:List ag}{cp:List Int}{t5 t6 t7 t8 t9 bN bE aV bg cz cA cv:Tr},cl.length+2*xs.length<900→cp.length+2*xs.length<900→
  (∀a5 a6 a7 a8 a9 Y Z mJ ly jC jD jE,K .nx [t0,t1,.dat (.int so),.dl (cl++(Pure.cls so t xs).map eS),.dl (intD (cp++Pure.cM so xs)),a5,a6,a7,a8,a9,Y,Z,mJ,ly,jC,jD,jE])→
  dc (ed fs [(5,.fr),(6,.fr)] true B2) K (mD t (intD xs)) [t0,t1,.dat (.int so),.dl cl,.dl (intD cp),t5,t6,t7,t8,t9,bN,bE,aV,bg,cz,cA,cv]:=@λA B C D F G H J L M N O P Q R S T U V=>match A,B,C,D,F,G,H,J,L,M,N,O,P,Q,R,S,T,U,V with
 |[],t,cl,cp,t5,t6,t7,t8,t9,bN,bE,aV,bg,cz,cA,cv,h1,h2,h=>by
  have:=h t5 t6 t7 t8 t9 bN bE aV bg cz cA cv;rw [show (Pure.cls so t []).map eS=[] from rfl,show Pure.cM so []=[] from rfl,bt,bt] at this;exact this
 |x::xs,t,cl,cp,t5,t6,t7,t8,t9,bN,bE,aV,bg,cz,cA,cv,h1,h2,h=>by
  rw [dA] at h1 h2;have lx:(sO so t x).length≤2:=by
   unfold sO;split
   ·exact aI _
   ·exact gq _
  have lp:(if Pure.bX x=0 then [Pure.c5 so x,Pure.c5 so x] else []).length≤2:=by
   split
   ·exact aI _
   ·exact bh _
  refine VZ (V1 W (by exact (Lin.ak (.c _ (.c _ .z)) .z 1 (.c 1 (.ak (.a (.v 0) (.m 2 (.a (.v 1) (.n 1)))) (.n 900)) .z) (.v 0) (.n 1000) rfl h1)) (by exact (Lin.ak (.c _ (.c _ .z)) .z 1 (.c 1 (.ak (.a (.v 0) (.m 2 (.a (.v 1) (.n 1)))) (.n 900)) .z) (.v 0) (.n 1000) rfl h2)) λa5 a6 a7 a8 a9 Y Z mJ ly jC jD jE=>?_)
  refine JA W xs (by refine ae (aJ ..) (ae (bK ..) ?_);omega) (by refine ae (aJ ..) ?_;omega) λb5 b6 b7 b8 b9 V2 V3 V4 V5 V6 V7 V8=>?_
  have:=h b5 b6 b7 b8 b9 V2 V3 V4 V5 V6 V7 V8;rw [show Pure.cls so t (x::xs)=sO so t x++Pure.cls so (t+1) xs from rfl,bG,show Pure.cM so (x::xs)=(if Pure.bX x=0 then [Pure.c5 so x,Pure.c5 so x] else [])++Pure.cM so xs from rfl] at this;refine ae (aH ..) (ae (aH ..) ?_);exact this
end
noncomputable def eA (i:Int) (cp:List Int):List Int:=if i=0∨i=2 then cp else []
noncomputable def eB (i:Int) (cp:List Int):List Int:=if i=1∨i=2 then cp else []
noncomputable def iQ (ns:List Int):List Int:=(ns.drop 1).take 16++[0,3,0,0,5,0,3,4,0]
theorem wq (ns:List Int):(iQ ns).length≤25:=by
 unfold iQ;refine ae (aJ ..) (ae (oX ..) ?_);exact qw (Nat.min_le_left _ _) 9
noncomputable def gM (ns:List Int):Int:=1+ns.getD 0 0 % 3
noncomputable def iR (ns:List Int):List Int:=-1::Pure.cM (gM ns) (iQ ns)
noncomputable def JB (ns:List Int):List ag:=(Pure.cls (gM ns) 0 (iQ ns)).map eS++[oS (eA (ns.getD 0 0 / 3 % 4) (iR ns)) (eB (ns.getD 0 0 / 3 % 4) (iR ns))]
theorem slc_117 (ns:List Int):fS (intD ns) (some 1) (some 17)=intD ((ns.drop 1).take 16):=by
 refine ae (qi ..) ?_;unfold intD;refine (?_:o7 (d5 _ 17-d5 _ 1) (qL (d5 _ 1) _)=_);refine ae (bK ..) (ae (YI ..) (ae (C2 ..) ?_));have a:d5 ns.length 17=min 17 ns.length:=sx ns.length 17;have b:d5 ns.length 1=min 1 ns.length:=sx ns.length 1;refine ae (a ..) (ae (b ..) ?_);by_cases h:1≤ns.length
 ·refine ae (oY h ..) ?_;by_cases g:17≤ns.length
  ·exact ae (oY g ..) rfl
  ·rw [w4 (by rw [kD,bK];omega),w4 (by rw [kD,bK];omega)]
 ·have:ns=[]:=KI.mp (by exact (bJ (Lin.ah (.c _ .z) .z 1 (.c 1 (.ak (.v 0) (.n 1)) .z) (.v 0) (.n 0) rfl (ee.mp h)) (Lin.ah (.c _ .z) .z 1 .z (.n 0) (.v 0) rfl)))
  clear a b h;subst this;rfl
theorem JC (so:Int):∀xs:List Int,(Pure.cM so xs).length≤2*xs.length:=@λA=>match A with
 |[]=>aI _
 |x::xs=>by
  refine (?_:((if Pure.bX x=0 then [Pure.c5 so x,Pure.c5 so x] else [])++Pure.cM so xs).length≤_);have:=JC so xs;refine ae (aJ ..) (ae (dA ..) ?_);split <;> simp only [dA,wB] <;> omega
theorem V9 {i:Int}{cp:List Int}:(eA i cp).length≤cp.length∧(eB i cp).length≤cp.length:=by
 unfold eA eB;constructor
 ·split
  ·exact aI _
  ·exact bh _
 ·split
  ·exact aI _
  ·exact bh _
theorem Wa {i:Int}{cp:List Int}(h:0≤i∧i<4):∃y,[Tr.ot [.dat (.list (intD cp)),.dl []],.ot [.dl [],.dat (.list (intD cp))],.dat (.tuple [.list (intD cp),.list (intD cp)]),.ot [.dl [],.dl []]][i.toNat]? = some y∧y.data=some (.tuple [.list (intD (eA i cp)),.list (intD (eB i cp))]):=by
 unfold eA eB;have:i=0∨i=1∨i=2∨i=3:=by lia
 clear h;rcases this with rfl | rfl | rfl | rfl
 ·exact El.aD _ rfl rfl
 ·exact El.aD _ rfl rfl
 ·exact El.aD _ rfl rfl
 ·exact El.aD _ rfl rfl
noncomputable def wt:iK:=(false,λds k=>∃ns:List Int,ds=[.list (intD ns)]∧ns.length≤63∧k (.list (JB ns)))
theorem Wb {ns:List Int}{σ:List Tr}{k:List Ev→Prop}(h:k [bw (.int (ns.getD 0 0))]):aZ (!(intD ns).isEmpty) (den ⟨[],[]⟩ (.sub (.var 0) (.lit (.int (0)))) (.dat (.list (intD ns))::σ) k) (den ⟨[],[]⟩ (.lit (.int (0))) (.dat (.list (intD ns))::σ) k):=by
 cases ns with
 |nil=>exact h
 |cons n ns=>exact cG h
theorem Wc {ds:List ag}{k:ag→Prop}(h:wt.2 ds k):ds.length=1∧bq ⟨[],[]⟩ Jw (init ds 16) (lB k):=by
 refine El.dI h ?_;clear h;intro ns V hl h;subst V;have W:0<gM ns:=by unfold gM;omega
 have hx:=wq ns;have Y:=JC (gM ns) (iQ ns);refine ⟨rfl,?_⟩;refine av (qj (ns:=ns) (by exact (Lin.ak (.c _ .z) .z 1 (.c 1 (.ah (.v 0) (.n 63)) .z) (.v 0) (.n 2000) rfl hl))) ?_
 refine Wb ?_;refine av (by decide) ?_
 repeat refine vg rfl ?_
 refine av (qj (by exact (Lin.ak (.c _ .z) .z 1 (.c 1 (.ah (.v 0) (.n 63)) .z) (.v 0) (.n 2000) rfl hl))) (.mk (slc_117 ns) ?_)
 repeat refine vg rfl ?_
 refine aq ((ns.drop 1).take 16) [0,3,0,0,5,0,3,4,0] (by refine ae (oX ..) ?_;omega) (by decide) ?_
 refine av rfl ?_;refine JA (cl:=[]) (cp:=[-1]) W (iQ ns) (by show 0+_<_;omega) (by show 1+_<_;omega) λa5 a6 a7 a8 a9 Ze vC mJ ly jC jD jE=>?_
 have hc:(iR ns).length<900:=by
  refine (?_:(Pure.cM (gM ns) (iQ ns)).length+1<_);exact (Lin.ak (.c _ (.c _ .z)) .z 1 (.c 2 (.ah (.v 1) (.n 25)) (.c 1 (.ah (.v 0) (.m 2 (.v 1))) .z)) (.a (.v 0) (.n 1)) (.n 900) rfl hx Y)
 have J:=V9 (i:=ns.getD 0 0 / 3 % 4) (cp:=iR ns);refine El.au (Wa (i:=ns.getD 0 0 / 3 % 4) (cp:=iR ns) (by exact ⟨(Lin.aA .z (.c _ .z) 1 (.c 1 (.aA (.n 0) (.v 0)) .z) (.n 0) (.v 0) rfl (Lin.tG _ _ (by decide))),(Lin.aM .z (.c _ .z) 1 (.c 1 (.aM (.v 0) (.n 4)) .z) (.v 0) (.n 4) rfl (C4 _ (by decide)))⟩)) λy Z BE=>?_
 repeat refine vg rfl ?_
 refine av (by decide) ?_
 refine av (by decide) ?_
 refine Jx rfl (by exact ⟨(Lin.aA .z (.c _ .z) 1 (.c 1 (.aA (.n 0) (.v 0)) .z) (.n 0) (.v 0) rfl (Lin.tG _ _ (by decide))),(Lin.aM .z (.c _ .z) 1 (.c 1 (.aM (.v 0) (.n 4)) .z) (.v 0) (.n 4) rfl (C4 _ (by decide)))⟩) Z λj=>?_
 refine (?_:wD y.data _);refine ae (BE ..) ?_;have la:∀{l:List Int}{k:List ag→Prop},l.length<900→k (intD l++[fG])→small ((intD l).length+1)∧fA (intD l++[fG]) k:=λ{l k} h1 h2=>⟨by unfold small cE intD;refine ae (bK ..) ?_;omega,lG h2⟩
 refine cG ?_;repeat refine vg rfl ?_
 refine la (by exact (Lin.ak (.c _ (.c _ .z)) .z 1 (.c 1 (.ak (.v 1) (.n 900)) (.c 1 (.ah (.v 0) (.v 1)) .z)) (.v 0) (.n 900) rfl hc J.1)) ?_
 refine c8 ?_;repeat refine vg rfl ?_
 refine la (by exact (Lin.ak (.c _ (.c _ .z)) .z 1 (.c 1 (.ak (.v 1) (.n 900)) (.c 1 (.ah (.v 0) (.v 1)) .z)) (.v 0) (.n 900) rfl hc J.2)) ?_
 repeat refine vg rfl ?_
 have hq:=Pure.zb (gM ns) (iQ ns) 0;refine av (by refine (?_:(lX eS (Pure.cls (gM ns) 0 (iQ ns))).length+1≤_);refine ae (bK ..) ?_;unfold cE;omega) (lG ?_)
 exact h
section
variable {w:aR}{D:Nat}
theorem Wd (P:aG):(K P).lookup 253=some ⟨.type "function",none,.func (jg 7 "_law_cells" (.ref 252)),#[]⟩:=by kernel_rfl!
theorem We (P:aG):fW (K P) (.ref 252) "_law_cells"=true:=by kernel_rfl!
theorem Wf (x:af):gP (jg 7 "_law_cells" (.ref 252)) ⟨[x],[]⟩=pure [(ai.ofString "script",x)]:=by kernel_rfl!
noncomputable abbrev Wg:Hn:=⟨λi=>if i=3∨i=4∨i=12 then .own else .fr,[(473,12),(475,4)]⟩
theorem Wh:qk w (D+1) 253 wt:=
 sq (fs:=⟨[],[]⟩) (H:=Wg) (dd:=16) (nn:=16) (ps:=["script"]) (ls':=["first","sorts","cells","copy","t","x","code","left","item","f","g","ways","side","more","z","ends"]) ⟨(Wd w.params),(We w.params),rfl,by decide +kernel,by decide +kernel,by decide +kernel,by kernel_rfl!,by kernel_rfl!,by kernel_rfl!,by decide +kernel⟩ (bind1 λx=>Wf x) (hH w.params) (hW w) (λzz h=>El.nm h) (λzz h=>El.nm h) (ir:=Jw) (by kernel_rfl!) λds k h=>Wc h
end
noncomputable abbrev Wi:da:=⟨[wt,mergeF,sL],[]⟩
noncomputable abbrev JD:SS:=(.seq (.ext (.var 3) (.sub (.var 5) (.lit (.int (1))))) (.seq (.ext (.var 4) (.sub (.var 5) (.lit (.int (2))))) .nil))
noncomputable abbrev B3:SS:=(.seq (.ext (.sub (.var 9) (.var 11)) (.ite (.tv (.nY (.var 10))) (.sub (.var 10) (.var 11)) (.lst (.cons (.var 10) .nil)))) .nil)
noncomputable def JE:SS:=(.seq (.asg 1 .fr (.fn 0 (.cons (.var 0) .nil))) (.seq (.eQ [(2,.fr),(3,.own),(4,.own)] (.cons (.lc (.var 1) (.sub (.var 0) (.lit (.int (0)))) (.lit (.bool true))) (.cons (.lst .nil) (.cons (.lst .nil) .nil)))) (.seq (.dY [(5,.fr)] false (.seq (.var 1)) JD) (.seq (.kZ [(6,.fr),(7,.fr),(8,.fr)] (.fn 1 (.cons (.slc (.var 2) .nil (.neg (.lit (.int (1))))) (.cons (.slc (.var 3) .nil (.neg (.lit (.int (1))))) (.cons (.slc (.var 4) .nil (.neg (.lit (.int (1))))) .nil))))) (.seq (.cO (.cmp .NotEq (.tup (.cons (.var 6) (.cons (.var 7) (.cons (.var 8) .nil)))) (.fn 2 (.cons (.var 1) .nil))) (.seq (.ret (.lit (.bool false))) .nil) .nil) (.seq (.asg 9 .own (.tup (.cons (.lst .nil) (.cons (.lst .nil) (.cons (.lst .nil) .nil))))) (.seq (.dY [(10,.fr)] false (.seq (.var 8)) (.seq (.dY [(11,.fr)] false (.mB (.lit (.int (0))) (.lit (.int (3)))) B3) .nil)) (.seq (.seq (.fz 9) (.ret (.cmp .Eq (.fn 1 (.cons (.sub (.var 9) (.lit (.int (0)))) (.cons (.sub (.var 9) (.lit (.int (1)))) (.cons (.sub (.var 9) (.lit (.int (2)))) .nil)))) (.tup (.cons (.lst .nil) (.cons (.var 7) (.cons (.var 8) .nil))))))) .nil))))))))
theorem JF (a e:List Int):intD a++(intD e++[fG])=intD (a++e)++[fG]:=by exact ae (aH ..).symm (ae (ku ..) rfl)
theorem JG {fs:da}{e0 e1:List Int}:∀(cs:List Pure.Cl) {k:List ag→Prop},k (intD (Pure.aN (Pure.aB cs))++[fG])→j6 (λd k=>den fs (.sub (.var 0) (.lit (.int 0))) [.dat d] (one k)) (λd k=>den fs (.lit (.bool true)) [.dat d] (one k)) (cs.map eS++[oS e0 e1]) k:=@λA B C=>match A,B,C with
 |[],k,h=>cG h
 |c::cs,k,h=>cG (JG cs h)
section
variable {K:KS}{t0 t1 t2 t6 t7 t8 t9 bN bE:Tr}{fs:da}{e0 e1:List Int}
theorem JH:∀(cs:List Pure.Cl) {a b:List Int}{t5:Tr},a.length+((Pure.txt (Pure.aB cs)).length+e0.length)≤9000→b.length+((Pure.txt (Pure.aQ cs)).length+e1.length)≤9000→
  (∀t5,K .nx [t0,t1,t2,.dl (intD (a++(Pure.txt (Pure.aB cs)++e0))++[fG]),.dl (intD (b++(Pure.txt (Pure.aQ cs)++e1))++[fG]),t5,t6,t7,t8,t9,bN,bE])→
  dc (ed fs [(5,.fr)] false JD) K (cs.map eS++[oS e0 e1]) [t0,t1,t2,.dl (intD a),.dl (intD b),t5,t6,t7,t8,t9,bN,bE]:=@λA B C D F G H=>match A,B,C,D,F,G,H with
 |[],a,b,t5,W,Y,h=>by
  have W:a.length+(0+e0.length)≤9000:=W;have Y:b.length+(0+e1.length)≤9000:=Y;refine gL ?_;refine c8 ?_;refine av (by refine (?_:(intD a).length+(intD e0++[fG]).length<_);refine ae (aJ ..) (ae (fi ..) (ae (fi ..) ?_));refine (?_:_+(_+1)<_);omega) ?_
  refine kn ?_;refine av (by refine (?_:(intD b).length+(intD e1++[fG]).length<_);refine ae (aJ ..) (ae (fi ..) (ae (fi ..) ?_));refine (?_:_+(_+1)<_);omega) ?_
  have:=h (.dat (oS e0 e1));rw [show Pure.txt (Pure.aB [])++e0=e0 from rfl,show Pure.txt (Pure.aQ [])++e1=e1 from rfl,←JF,←JF] at this;exact this
 |c::cs,a,b,t5,W,Y,h=>by
  have J:Pure.txt (Pure.aB (c::cs))=Pure.wy (c.1,c.2.1)++Pure.txt (Pure.aB cs):=rfl;have V:Pure.txt (Pure.aQ (c::cs))=Pure.wy (c.1,c.2.2)++Pure.txt (Pure.aQ cs):=rfl;rw [J,aJ] at W;rw [V,aJ] at Y;refine gL ?_;refine c8 ?_;refine av (by refine (?_:(intD a).length+(intD _).length<_);refine ae (fi ..) (ae (fi ..) ?_);omega) ?_
  refine kn ?_;refine av (by refine (?_:(intD b).length+(intD _).length<_);refine ae (fi ..) (ae (fi ..) ?_);omega) ?_
  have:=JH cs (a:=a++Pure.wy (c.1,c.2.1)) (b:=b++Pure.wy (c.1,c.2.2)) (t5:=.dat (eS c)) (by refine ae (aJ ..) ?_;omega) (by refine ae (aJ ..) ?_;omega) λt5=>by
   have:=h t5;rw [J,V,aH,aH] at this;refine ae (aH ..) (ae (aH ..) ?_);exact this
  rw [←ku,←ku] at this;exact this
end
section
variable {K:KS}{t0 t1 t2 t3 t4 t5 t6 t7 t8:Tr}{fs:da}
noncomputable abbrev JI:SS:=.seq (.dY [(11,.fr)] false (.mB (.lit (.int (0))) (.lit (.int (3)))) B3) .nil
theorem Wj (e:Pure.Ent) {a b c:List Int}{bE:Tr}(W:a.length+(Pure.eO e).length≤9000) (Y:b.length+(Pure.eL e).length≤9000) (lc:c.length+(Pure.eR e).length≤9000)
  (h:∀bE,K .nx [t0,t1,t2,t3,t4,t5,t6,t7,t8,.ot [.dl (intD (a++Pure.eO e)),.dl (intD (b++Pure.eL e)),.dl (intD (c++Pure.eR e))],.dat (dF e),bE]) :
  bq fs JI [t0,t1,t2,t3,t4,t5,t6,t7,t8,.ot [.dl (intD a),.dl (intD b),.dl (intD c)],.dat (dF e),bE] K:=by
 have J:∀{x y:List Int},x.length+y.length≤9000→fw ((intD x).length+(intD y).length):=λh=>by show _<_;refine ae (fi ..) (ae (fi ..) ?_);omega
 have h:=h (.dat (.int 2));rw [←ku,←ku,←ku] at h;have V:∀{l:List ag},l=[.int 0,.int 1,.int 2]→dc (ed fs [(11,.fr)] false B3) K l [t0,t1,t2,t3,t4,t5,t6,t7,t8,.ot [.dl (intD a),.dl (intD b),.dl (intD c)],.dat (dF e),bE]:=λe0=>by
  subst e0;cases e with
  |it n=>
   refine gL (cG (av (aL rfl) (av (J (y:=[n]) W) ?_)));refine gL (c8 (av (aL rfl) (av (J (y:=[n]) Y) ?_)));exact gL (kn (av (aL rfl) (av (J (y:=[n]) lc) h)))
  |cf o l r=>
   refine gL (cG (cG (av (J W) ?_)));refine gL (c8 (c8 (av (J Y) ?_)));exact gL (kn (kn (av (J lc) h)))
 exact av (El.cy (by decide) (by decide) (by decide) (by decide)) (V rfl)
theorem JJ:∀(es:List Pure.Ent) {a b c:List Int}{bN bE:Tr},a.length+(es.flatMap Pure.eO).length≤9000→b.length+(es.flatMap Pure.eL).length≤9000→c.length+(es.flatMap Pure.eR).length≤9000→
  (∀bN bE,K .nx [t0,t1,t2,t3,t4,t5,t6,t7,t8,.ot [.dl (intD (a++es.flatMap Pure.eO)),.dl (intD (b++es.flatMap Pure.eL)),.dl (intD (c++es.flatMap Pure.eR))],bN,bE])→
  dc (ed fs [(10,.fr)] false JI) K (es.map dF) [t0,t1,t2,t3,t4,t5,t6,t7,t8,.ot [.dl (intD a),.dl (intD b),.dl (intD c)],bN,bE]:=@λA B C D F G H J L M=>match A,B,C,D,F,G,H,J,L,M with
 |[],a,b,c,bN,bE,zz,Y,Z,h=>by
  have:=h bN bE;rw [C3,C3,C3,bt,bt,bt] at this;exact this
 |e::es,a,b,c,bN,bE,V,W,lc,h=>by
  rw [ny,aJ] at V W lc;refine gL (Wj e (by exact (Lin.ah (.c _ (.c _ (.c _ .z))) .z 1 (.c 1 (.ah (.a (.v 0) (.a (.v 1) (.v 2))) (.n 9000)) .z) (.a (.v 0) (.v 1)) (.n 9000) rfl V)) (by exact (Lin.ah (.c _ (.c _ (.c _ .z))) .z 1 (.c 1 (.ah (.a (.v 0) (.a (.v 1) (.v 2))) (.n 9000)) .z) (.a (.v 0) (.v 1)) (.n 9000) rfl W)) (by exact (Lin.ah (.c _ (.c _ (.c _ .z))) .z 1 (.c 1 (.ah (.a (.v 0) (.a (.v 1) (.v 2))) (.n 9000)) .z) (.a (.v 0) (.v 1)) (.n 9000) rfl lc)) λbE=>?_)
  refine JJ es (by refine ae (aJ ..) ?_;omega) (by refine ae (aJ ..) ?_;omega) (by refine ae (aJ ..) ?_;omega) λbN bE=>?_
  have:=h bN bE;rw [ny,ny,ny] at this;refine ae (aH ..) (ae (aH ..) (ae (aH ..) ?_));exact this
end
theorem Wk (ns:List Int):Pure.En (iR ns)∧(iR ns).length≤51:=by
 refine El.aa (Pure.EJ (so:=gM ns) (by unfold gM;omega) (iQ ns)) λJ V=>?_
 exact ⟨.cons J,cY (az V (qC 2 (wq ns)))⟩
theorem Wl (i:Int) (ns:List Int):(Pure.En (eA i (iR ns))∧(eA i (iR ns)).length≤51)∧Pure.En (eB i (iR ns))∧(eB i (iR ns)).length≤51:=by
 have h:=Wk ns;have n:Pure.En []∧([]:List Int).length≤51:=⟨.nil,bh _⟩;unfold eA eB;constructor
 ·split
  ·exact h
  ·exact n
 ·split
  ·exact h
  ·exact n
noncomputable def Wm:iK:=(false,λds k=>∃ns:List Int,ds=[.list (intD ns)]∧ns.length≤63∧k (.bool true))
theorem JK {t:Pure.Res}(h:Pure.i6 t):ag.eqv (ks t) (ks t)=true:=SeqAt.eqv_refl _ (sI h).1
theorem Wn {ds:List ag}{k:ag→Prop}(h:Wm.2 ds k):ds.length=1∧bq Wi JE (init ds 11) (lB k):=by
 refine El.dI h ?_;clear h;intro ns V hl h;subst V;refine El.cH (Wl (ns.getD 0 0 / 3 % 4) ns) λV Y J=>?_;obtain ⟨Z,l0⟩:=V;refine El.ea (Pure.MK (so:=gM ns) (by unfold gM;omega) (wq ns) Z Y l0 J) λt L=>?_
 have lE:(Pure.cls (gM ns) 0 (iQ ns)).length≤50:=az (Pure.zb _ _ _) (qC 2 (wq ns));have n1:=L.n1;have n2:=L.n2;have nb:=L.nb;have ll:=L.l3;have zG:B0 _ _ _ t:=⟨L.one,cb nb (by decide),cb n1 (by decide),cb n2 (by decide),az L.l1 (by decide),az L.l2 (by decide),az ll (by decide)⟩
 have Wq:B0 _ _ _ ([],t.2.1,t.2.2):=⟨L.two,cb L.mO (by decide),cb L.mL (by decide),cb L.mR (by decide),bh _,az L.l2 (by decide),az ll (by decide)⟩
 have wk:∀{k:ag→Prop},k (ks t)→sL.2 [.list (JB ns)] k:=λ{k} h=>(El.gC (Pure.cls (gM ns) 0 (iQ ns)) (eA (ns.getD 0 0 / 3 % 4) (iR ns)) (eB (ns.getD 0 0 / 3 % 4) (iR ns)) rfl (El.l8 L.lw (az lE (by decide)) (az l0 (by decide)) (az J (by decide)) (by refine ae (L.walk ..) ?_;omega)) (by refine ae (L.walk ..) ?_;exact h))
 have tl:∀{l:List Int}{k:List ag→Prop},l.length≤126→k (intD l)→small (intD l++[fG]).length∧fA (fS (intD l++[fG]) none (some (-1))) k:=λ{l k} h1 h2=>⟨by refine ae (aJ ..) (ae (fi ..) ?_);refine (?_:_+1≤_);unfold cE;omega,.mk (wi _ _) h2⟩
 rw [aJ] at n1 n2;refine ⟨rfl,gB ns (av rfl (av hl ?_))⟩;refine av (by refine (?_:(lX eS _++[_]).length≤_);refine ae (aJ ..) (ae (bK ..) ?_);refine (?_:_+1≤_);unfold cE;omega) ?_
 refine JG _ ?_;repeat refine vg rfl ?_
 refine JH (a:=[]) (b:=[]) (Pure.cls (gM ns) 0 (iQ ns)) (by show 0+_≤_;omega) (by show 0+_≤_;omega) λt5=>?_
 refine tl (az nb (by decide)) ?_
 refine tl L.n1 ?_;refine tl L.n2 ?_;refine gB _ (gB _ (gB _ (gB t (av rfl (av zG ?_)))));repeat refine vg rfl ?_
 refine wk ?_;refine cq (x:=ks t) (y:=ks t) (JK L.ok) ⟨(sI L.ok).shaped (by decide),(sI L.ok).shaped (by decide)⟩ ?_
 repeat refine vg rfl ?_
 refine JJ (a:=[]) (b:=[]) (c:=[]) t.2.2 (by have:=L.mO;show 0+_≤_;omega) (by have:=L.mL;show 0+_≤_;omega) (by have:=L.mR;show 0+_≤_;omega) λbN bE=>?_
 refine cG ?_;refine c8 ?_;refine kn ?_;refine gB _ (gB _ (gB _ (gB ([],t.2.1,t.2.2) (av rfl (av Wq ?_)))));repeat refine vg rfl ?_
 have W:Pure.i6 ([],t.2.1,t.2.2):=⟨(λzz h=>El.nm h),L.ok.2⟩;exact cq (x:=ks ([],t.2.1,t.2.2)) (y:=ks ([],t.2.1,t.2.2)) (JK W) ⟨(sI W).shaped (by decide),(sI W).shaped (by decide)⟩ h
end Internal.Mine
end
section
open Internal.Mine
open PySem PySem.W PyProof.Rows
namespace Mine
noncomputable section
noncomputable def S0 (w:aR) (os:dG):aj:=⟨m7 w.params,#[],JO,boot_toks,os⟩
noncomputable def evP (p:bT) (w:aR) (os:dG):=topGo tb p w 11 (some (.ref 6)) 12 (S0 w os) (xh p)
noncomputable def goodP (J:eT) (w:aR) (os:dG):Option (aj×Thread):=some ((qV w os).abs,⟨denote tb J,J,gQ,[wu gQ]⟩)
theorem evP_self:@evP=@evP:=rfl
theorem goodP_self:@goodP=@goodP:=rfl
name_quick mineEvP for Mine.evP by Mine.evP_self
name_quick mineGoodP for Mine.goodP by Mine.goodP_self
theorem Ws (w:aR) (os:dG):evP pw w os=goodP fk w os:=
 (congrFun (congrFun (congrFun PySem.W.Fast.mineEvP_eq pw) w) os).trans ((by kernel_rfl! : PySem.W.Fast.mineEvP pw w os=PySem.W.Fast.mineGoodP fk w os).trans (congrFun (congrFun (congrFun PySem.W.Fast.mineGoodP_eq fk) w) os).symm)
noncomputable def evQ (p:bT) (J:cL) (V:eT) (w:aR) (os:dG):=segRun tb p w 11 (some (.ref 6)) 1 1 (qV w os).abs (blockOf p.main.body J V gQ [wu gQ])
noncomputable def goodQ (J:eT) (w:aR) (os:dG):Option (eE×aj×eT×aE):=some (.next,(qV w os).abs,J,gQ)
theorem evQ_self:@evQ=@evQ:=rfl
theorem goodQ_self:@goodQ=@goodQ:=rfl
name_quick mineEvQ for Mine.evQ by Mine.evQ_self
name_quick mineGoodQ for Mine.goodQ by Mine.goodQ_self
theorem Wt (w:aR) (os:dG):evQ pw i4 fk w os=goodQ fk w os:=
 (congrFun (congrFun (congrFun (congrFun (congrFun PySem.W.Fast.mineEvQ_eq pw) i4) fk) w) os).trans ((by kernel_rfl! : PySem.W.Fast.mineEvQ pw i4 fk w os=PySem.W.Fast.mineGoodQ fk w os).trans (congrFun (congrFun (congrFun PySem.W.Fast.mineGoodQ_eq fk) w) os).symm)
theorem Wu (w:aR) (s:aj) (J:aE) (c:eT):xi tb pw w 11 (some (.ref 6)) 2 s ⟨doneF .next,c,J,[wu gQ]⟩=some s:=by
 obtain ⟨h,g,d,t,o⟩:=s;rfl
theorem Wv (w:aR) (os:dG):∃s,xi tb pw w 11 (some (.ref 6)) 2615 (S0 w os) (xh pw)=some s∧tD w.params s=true∧
  JP q loose [] xt true s=JQ q loose∧tC s.heap=qW w.params:=by
 obtain ⟨⟨f,J,c,Z⟩,e,eA⟩:=YM.mp (Lg w os);have V:=Lh w os;have W:=Li w os;have Y:=Lj w os;unfold Df Dg at V;unfold Dh Di at W;unfold Dj Dk at Y;rw [e] at V W Y;obtain ⟨rfl,rfl⟩:f=.next∧c=fk:=by simpa using eA
 have h1:segRun tb pw w 11 (some (.ref 6)) 1 2600 (qV w os).abs (piecesOf pw.main.body i4 fk gQ [wu gQ])=some (.next,J.abs,fk,Z):=segRun_of e;refine ⟨J.abs,?_,dC V,dC W,dC Y⟩;have h2:=piece_nil (env:=i4) (Wu w J.abs Z fk);have h3:=piece_app (rest:=[]) h1 h2;rw [bt] at h3;have h4:=piece_block (Wt w os) h3;exact go_top (Ws w os) h4
theorem opens:opening pw=plainProg pw.main.scope.names:=by kernel_rfl!
theorem fence (s:aj):fenceModules? pw s=some s:=by kernel_rfl!
theorem JL:importedModules pw.main.body=[]:=by kernel_rfl!
theorem Ww (w:aR):((m7 w.params).isNs iZ && (#[]:Array wM).size == 0,(m7 w.params).objs.size,(m7 w.params).nsMap iZ "__annotations__")=(true,11,some (af.ref 6)):=by kernel_rfl!
theorem lN (P:aG):jm=(K P).map (·.1):=rfl
theorem Wz (h:ar):tC h=jm.map h.get?:=rfl
theorem WA (P:aG):qW P=(K P).map λp=>some p.2:=rfl
theorem WB (w:aR) (os:dG) {s:aj}(r:xi tb pw w 11 (some (.ref 6)) 2615 (S0 w os) (xh pw)=some s) :
  xi B6 pw w 11 (some (.ref 6)) 4470 (S0 w os) (xh pw)=some s:=by
 rw [KU];exact topRun_mono 1855 _ _ _ _ r
theorem WC (w:aR) (s:aj):tD w.params s=(staticsOk [] (m7 w.params) s.heap && namesBound pw s.heap && gensDone s && laidKept (m7 w.params) s.heap):=rfl
theorem WD (w:aR) (os:dG) {s:aj}(r:xi tb pw w 11 (some (.ref 6)) 2615 (S0 w os) (xh pw)=some s) (l1:tD w.params s=true) :
  topFrom B6 pw w 4470 (S0 w os)=some s:=by
 obtain ⟨J,V,z3⟩:_∧_∧_:=by simpa only [Prod.mk.injEq] using Ww w
 rw [WC] at l1;have r:=WB w os r;unfold S0 at r ⊢;unfold topFrom;dsimp only;rw [J,V,z3,r,JL,YN];dsimp only;rw [l1]
theorem left:LeftO pw q loose xt (nG K jm lN).obs (nG K jm lN).val 4470:=λw=>by
 obtain ⟨⟨h,J,d,k,os⟩,e,V⟩:=YM.mp (boot_open (p:=pw) (N:=4470) opens (by decide) fence w)
 obtain ⟨rfl,rfl,rfl,rfl⟩:h=m7 w.params∧J=⟨[]⟩∧d=JO∧k=boot_toks:=by simpa using V
 obtain ⟨s,r,l1,l2,l3⟩:=Wv w os;have t:=WD w os r l1;unfold S0 at t;unfold openEnds;rw [e,YN,t,XI,JL,l2];rw [Wz,WA] at l3;have W:(nG K jm lN).obs s=(nG K jm lN).val w:=l3;rw [W]
end
noncomputable def B4:DefRec:=((defOf q "law").map (·.1)).getD ⟨"",default,[],default,gQ⟩
theorem WE:defOf q "law"=some (B4,[]):=by kernel_rfl!
noncomputable def sP:ao:=282
theorem WG:B4.name=("law":ai):=by kernel_rfl!
theorem WH (P:aG):nsFind (match (k3 P).data with | .dict es _=>es | _=>#[]) "law"=some (.ref sP):=by kernel_rfl!
theorem WI (P:aG):∃es n,(k3 P).data=.dict es n∧nsFind es "law"=some (.ref sP):=(El.fM _ _ rfl (WH P))
theorem WJ (P:aG):(K P).lookup 3=some (k3 P):=by kernel_rfl!
noncomputable def said (l:OpenLaw):Bool:=l.wellSaid
theorem said_self:@said=@said:=rfl
name_quick mineSaid for Mine.said by Mine.said_self
theorem WK:qH.wellSaid=true:=(congrFun PySem.W.Fast.mineSaid_eq qH).trans (by kernel_rfl! : PySem.W.Fast.mineSaid qH=true)
noncomputable def Done (s:aj) (v:af) (J:aj):Prop:=
 v=.bool true∧(∀b o,s.heap.get? b=some o→J.heap.get? b=some o)∧J.os=s.os∧J.gens=#[]
set_option tactic.hygienic true in
theorem hd (walk:∀(w:aR) (s:aj) (l:ao) (vs:List af) (ns:List Int) (mg mb:ai→Option af) (means:o5→Option af),
   (K w.params).In s.heap→Top q (jP q loose) means mg mb s.heap→s.gens=#[]→s.heap.IsList l vs.toArray→IntsAre vs ns→ns.length≤63→
   aF (aO pw w) callerA (call (.ref sP) [.ref l]) (Done s) (λzz zz=>False) s):qH.Holds:=by
 w_on
 refine holds_law WK λsaid=>?_;refine holds_open (d:=B4) (kwd:=[]) (q:=q) (loose:=loose) (Xt:=λs=>xlAt q [] s && recOk (RowW.records (OpenRow.toRowW (OpenLaw.row qH))) s) (XP:=XL q []) (Yf:=(nG K jm lN).obs) (Ya:=(nG K jm lN).val) (YP:=(nG K jm lN).says) (N:=4470) left ((nG K jm lN).of) ((nG K jm lN).keeps) (λs e=>xl_of s (oV.mp e).1) XL.keeps WE (by kernel_rfl!) (by kernel_rfl!) (λs e=>recFacts_of (oV.mp e).2) (by rfl) (by first | assumption | decide +kernel) (by decide +kernel) (El.pn rfl rfl rfl rfl rfl (by decide +kernel)) ?hw ?hc
 case hw=>w_witness2
 intro w Zf J mg mb G Y fa o pm cd doc dV kV ho hd ry hD V hg args vals as W Z HP WL jo;have KX:=kIn_of Y;have T:=G.T;have WM:fa=sP:=by
  refine El.fo T.g λo3 Zg n3 h1 h2 zz h4=>?_;refine El.dP (WI w.params) λes n e1 e2=>?_;have h5:=KX 3 _ (WJ w.params);have Hw:J.heap.get? 3=some o3:=h1;rw [Hw] at h5;obtain rfl:=dC h5;rw [e1] at h2;refine El.aa (Data.dict.inj h2) λcS zz=>?_;subst cS;rw [WG,←h4,e2] at V;exact (af.ref.inj (dC V)).symm
 subst WM;clear G ry hD ho hd
 wrow_args W Z HP WL jo
 rename_i ns _ _ _ _ _ _ _ l vs _ hL _ _ _ hI _ hlen _;refine fX (walk w J l vs ns mg mb _ KX T hg hL hI (by omega)) ?_ (λzz zz h=>h.elim)
 rintro v s' ⟨rfl,hk,WN,WO⟩
 exact GoodW.toG (El.cy (.inl (El.rj _ (.bool true) [] rfl (λzz=>rfl) (.bool true) (by first | kernel_rfl! | with_unfolding_all rfl | exact postW_of rfl (by simp) rfl) (λzz=>⟨.nil,λzz h=>El.nm h⟩))) hk WN WO)
end Mine
end
section
open Internal.Mine
open PySem PySem.W PySem.Calls PyProof.Rows
namespace Mine
theorem WQ (P:aG):(K P).lookup 282=some ⟨.type "function",none,.func (jg 12 "law" (.ref 281)),#[]⟩:=by kernel_rfl!
theorem law_code (P:aG):fW (K P) (.ref 281) "law"=true:=by kernel_rfl!
theorem WR (x:af):gP (jg 12 "law" (.ref 281)) ⟨[x],[]⟩=pure [(ai.ofString "script",x)]:=by kernel_rfl!
noncomputable abbrev WT:Hn:=⟨λi=>if ([3,4,9]:List Nat).contains i then .own else .fr,[(549,9)]⟩
noncomputable abbrev WU:Fn:=⟨ai.ofString "_law_cells",.ref 253,wt⟩
noncomputable abbrev WV:Fn:=⟨ai.ofString "_law_merge",.ref 277,mergeF⟩
noncomputable abbrev WW:Fn:=⟨ai.ofString "_law_walk",.ref 265,sL⟩
theorem JM {P:Fz}{vs:List af}{ns:List Int}(hI:IntsAre vs ns):bu P vs (intD ns):=by
 induction hI with
 |nil=>exact rfl
 |cons _ _ _ J=>exact ⟨.int _ _,J⟩
theorem walk {w:aR}{s:aj}{l:ao}{vs:List af}{ns:List Int}{mg mb:ai→Option af}{means:o5→Option af}
  (X:(K w.params).In s.heap) (T:Top q (jP q loose) means mg mb s.heap) (hg:s.gens=#[]) (hl:s.heap.IsList l vs.toArray) (hI:IntsAre vs ns) (hlen:ns.length≤63) :
  aF (aO pw w) callerA (call (.ref sP) [.ref l]) (Done s) (λzz zz=>False) s:=
 Ss (D:=7) (b:=true) (P:=λa o=>s.heap.get? a=some o) (fs:=⟨[WU,WV,WW],[]⟩) (H:=WT) (dd:=14) (nn:=14) (ps:=["script"]) (ls':=["cells","base","one","other","cell","clean","clash","merged","rows","entry","way"]) ⟨(WQ w.params),(law_code w.params),rfl,by decide +kernel,by decide +kernel,by decide +kernel,by kernel_rfl!,by kernel_rfl!,by kernel_rfl!,by decide +kernel⟩ (bind1 λx=>WR x) (hH w.params) (hW w)
  (bH.mpr ⟨⟨.inl ⟨by kernel_rfl!,by kernel_rfl!⟩,Wh⟩,bH.mpr ⟨⟨.inl ⟨by kernel_rfl!,by kernel_rfl!⟩,VX⟩,cR.mpr ⟨.inl ⟨by kernel_rfl!,by kernel_rfl!⟩,Vv⟩⟩⟩)
  (λzz h=>El.nm h) (ir:=JE) (by kernel_rfl!) X T rfl (by decide +kernel) (by decide +kernel) (λzz zz h=>h) (ds:=[.list (intD ns)]) (by refine El.dI hl λo e c d=>?_;clear hl;exact ⟨.list (ws:=vs) (o:=o) e ⟨c,d⟩ (JM (P:=λzz zz=>True) hI).len (rH (JM hI)),rfl⟩) rfl (Wn (ds:=[.list (intD ns)]) (k:=λd=>d=.bool true) (El.ey ns rfl hlen rfl)).2 λh' tk hk=>(El.cy rfl hk rfl hg)
end Mine
end
end
theorem PySem.Challenge.cw_dm0054_04_holds : PySem.Challenge.rw_dm0054_04.Holds := by
 exact Mine.hd λw s l vs ns mg mb means X T hg hl hI hlen=>Mine.walk X T hg hl hI hlen
